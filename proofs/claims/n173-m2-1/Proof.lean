import JvmDerived
import JvmDerived.Pilot.@@N@@Statement
import JvmDerived.Pilot.@@N@@Code
set_option linter.unusedVariables false
set_option linter.unusedSimpArgs false
@@BLOCK:NumsL.lean.txt@@
namespace Jvm.RoadKit
open Sem ClassFile Op Lib Jvm.Stand Jvm.Free Jvm.LawKit
/-- from the state S the run comes to an end that P holds of -/
def own_Out (p : Program) (e : Env) (below : List Frame) (P : Outcome → State → Prop) (S : State) : Prop := ∃ s₂ o, Steps p.tables e below S s₂ ∧ s₂.status = .running ∧ Ended s₂ below o ∧ P o s₂
theorem own_of {p : Program} {e : Env} {below : List Frame} {P : Outcome → State → Prop} {S S' : State} (h : ∀ t, Steps p.tables e below S' t → Steps p.tables e below S t) (k : own_Out p e below P S') : own_Out p e below P S := by
  obtain ⟨a, b, c, d⟩ := k
  exact ⟨a, b, h a c, d⟩
section New
variable {p : Program} {l : Launch} {e : Env} {R : Room} {s : State} {m : MethodId} {args : Array Value} {below : List Frame} {meth : Method} {c : Code} {T : State} {locs : List Loc} {cells slots : Nat}
theorem own_retI (X : Stand p l e R s m args below meth c T locs cells slots) (hx : p.tables.exec = Jvm.exec) {pc : Nat} {Ls : Array Slot} {z : Int32} {rest : List Value} (hret : meth.sig.returnType = some .int) (hd : decode c.code pc = .ok (.ireturn, 1)) {fs : List Frame}
    (hl : ∀ (f : JFrame) (acts : List Action), f.method = m → f.locked = none → f.entered = [] → (doReturn e (T.setTop f) acts (some (.int z))).1 = T.setFrames fs) : Steps p.tables e below (T.setTop (mkF m pc Ls (.int z :: rest))) (T.setFrames fs) := retOut X hx hret rfl (Or.inl ⟨rfl, Or.inl rfl, z, rfl⟩) hd hl
theorem own_end (X : Stand p l e R s m args below meth c T locs cells slots) (hlk : meth.locks = false) {v : Option Value} (hv : meth.sig.returnType = none → v = none) {g : JFrame}
    (hs : ∀ fs, (∀ (f : JFrame) (acts : List Action), f.method = m → f.locked = none → f.entered = [] → (doReturn e (T.setTop f) acts v).1 = T.setFrames fs) → Steps p.tables e below (T.setTop g) (T.setFrames fs))
    {Q : Option Value → Heap → List Loc → Prop} (hQ : Q v T.heap locs) {C N : Nat} (hC : cells ≤ C) (hN : slots ≤ N) :
    own_Out p e below (fun o U' => ∃ v L, o = .returned v ∧ Q v U'.heap L ∧ FrameEnd s o U' L C N) (T.setTop g) := by
  obtain ⟨fs, hr, hrun, hended, hW, hsame⟩ := X.leave (v := v) hv hlk
  exact ⟨_, _, hs fs hr, hrun, hended, _, _, rfl, hQ, ⟨_, rfl⟩, hW, hsame.mono hC hN⟩
theorem own_outI (X : Stand p l e R s m args below meth c T locs cells slots) (hx : p.tables.exec = Jvm.exec) (hlk : meth.locks = false) {pc : Nat} {Ls : Array Slot} {z : Int32} {rest : List Value} (hret : meth.sig.returnType = some .int) (hd : decode c.code pc = .ok (.ireturn, 1))
    {Q : Option Value → Heap → List Loc → Prop} (hQ : Q (some (.int z)) T.heap locs) {C N : Nat} (hC : cells ≤ C) (hN : slots ≤ N) :
    own_Out p e below (fun o U' => ∃ v L, o = .returned v ∧ Q v U'.heap L ∧ FrameEnd s o U' L C N) (T.setTop (mkF m pc Ls (.int z :: rest))) :=
  own_end X hlk (fun h => by rw [hret] at h; cases h) (fun fs hr => own_retI X hx hret hd hr) hQ hC hN
theorem own_outN (X : Stand p l e R s m args below meth c T locs cells slots) (hx : p.tables.exec = Jvm.exec) (hlk : meth.locks = false) {pc : Nat} {Ls : Array Slot} {z z' : Int32} {t : FieldType} {rest : List Value} (hret : meth.sig.returnType = some t) (ht : t = .boolean ∨ t = .byte ∨ t = .char ∨ t = .short) (hd : decode c.code pc = .ok (.ireturn, 1)) (hz : nar t z = z')
    {Q : Option Value → Heap → List Loc → Prop} (hQ : Q (some (.int z')) T.heap locs) {C N : Nat} (hC : cells ≤ C) (hN : slots ≤ N) :
    own_Out p e below (fun o U' => ∃ v L, o = .returned v ∧ Q v U'.heap L ∧ FrameEnd s o U' L C N) (T.setTop (mkF m pc Ls (.int z :: rest))) :=
  own_end X hlk (fun h => by rw [hret] at h; cases h) (fun fs hr => retN X hx hret ht hd (by rw [hz]; exact hr)) hQ hC hN
theorem own_outR (X : Stand p l e R s m args below meth c T locs cells slots) (hx : p.tables.exec = Jvm.exec) (hlk : meth.locks = false) {pc : Nat} {Ls : Array Slot} {w : Value} {t : FieldType} {rest : List Value} (hret : meth.sig.returnType = some t) (ht : t.isReference = true) (hw : w.isRef = true) (hn : narrow t w = w) (hd : decode c.code pc = .ok (.areturn, 1))
    {Q : Option Value → Heap → List Loc → Prop} (hQ : Q (some w) T.heap locs) {C N : Nat} (hC : cells ≤ C) (hN : slots ≤ N) :
    own_Out p e below (fun o U' => ∃ v L, o = .returned v ∧ Q v U'.heap L ∧ FrameEnd s o U' L C N) (T.setTop (mkF m pc Ls (w :: rest))) :=
  own_end X hlk (fun h => by rw [hret] at h; cases h) (fun fs hr => retOut X hx hret hn (Or.inr (Or.inr (Or.inr (Or.inr ⟨rfl, ht, hw⟩)))) hd hr) hQ hC hN
theorem own_outV (X : Stand p l e R s m args below meth c T locs cells slots) (hx : p.tables.exec = Jvm.exec) (hlk : meth.locks = false) {pc : Nat} {Ls : Array Slot} (hret : meth.sig.returnType = none) (hd : decode c.code pc = .ok (.return_, 1))
    {Q : Option Value → Heap → List Loc → Prop} (hQ : Q none T.heap locs) {C N : Nat} (hC : cells ≤ C) (hN : slots ≤ N) :
    own_Out p e below (fun o U' => ∃ v L, o = .returned v ∧ Q v U'.heap L ∧ FrameEnd s o U' L C N) (T.setTop (mkF m pc Ls [])) :=
  own_end X hlk (fun _ => rfl) (fun fs hr => X.returnOut hx hret hd hr) hQ hC hN
end New
theorem own_staK0 {Z : State} {h h' : Heap} {C n d : String} {v : Value} (F : Sta Z h C n d v) (K : Keep h h' []) : Sta Z h' C n d v := by
  obtain ⟨cf, i, k, f, st, cell, h1, h2, h3, h4, h5, r⟩ := F
  exact ⟨cf, i, k, f, st, cell, h1, h2, h3, h4, K.2.1 st cell h5 nin0, r⟩
theorem own_staK1 {Z : State} {h h' : Heap} {C n d : String} {v : Value} {a : Addr} (F : Sta Z h C n d v) (K : Keep h h' [a]) (q : ∀ cell : Cell, h[a]? = some cell → cell.vm.isStatics = false) : Sta Z h' C n d v := by
  obtain ⟨cf, i, k, f, st, cell, h1, h2, h3, h4, h5, h6, h7⟩ := F
  have ne : st ≠ a := fun e => by subst e; rw [q _ h5] at h6; cases h6
  exact ⟨cf, i, k, f, st, cell, h1, h2, h3, h4, K.2.1 st cell h5 (ninS ne nin0), h6, h7⟩
theorem own_plainE {Z : State} {h : Heap} {a : Addr} {C : String} (E : Exa Z h a C) : ∀ cell : Cell, h[a]? = some cell → cell.vm.isStatics = false := fun cell hc => by
  obtain ⟨c, k, h1, -, -, h4, -⟩ := E; cases h1.symm.trans hc; exact h4
theorem own_plainV {Z : State} {h : Heap} {a : Addr} {k : ClassId} {ty : FieldType} {z : Int32} {vs : List Value} {dv : Value} (F : Arv Z h a k ty z vs dv) : ∀ cell : Cell, h[a]? = some cell → cell.vm.isStatics = false := fun cell hc => by
  obtain ⟨c, A, -⟩ := F; cases A.1.symm.trans hc; exact A.plain
section Bounds
variable {x a k : Int32} {u : Int}
end Bounds
section Rel
end Rel
end Jvm.RoadKit
namespace Jvm.RoadKit
open Sem ClassFile Op Lib Jvm.Stand Jvm.Free Jvm.LawKit
section Short
variable {p : Program} {l : Launch} {e : Env} {R : Room} {s : State} {m : MethodId} {args : Array Value} {below : List Frame} {meth : Method} {c : Code} {T : State} {locs : List Loc} {cells slots : Nat} {P : Outcome → State → Prop} {bytes : ByteArray} {pc q : Nat} {ls l' : Array Slot} {st : List Value}
theorem o_iloadN (X : Stand p l e R s m args below meth c T locs cells slots) (hx : p.tables.exec = Jvm.exec) (hby : c.code = bytes) {k : Fin 4} {v : Int32} (hd : decode bytes pc = .ok (.iload_n k, 1)) (hl : ls[k.val]? = some (.val (.int v))) (hq : pc + 1 = q) (hr : own_Out p e below P (T.setTop (mkF m q ls (.int v :: st)))) : own_Out p e below P (T.setTop (mkF m pc ls (st))) := by
  subst hq; exact own_of (fun _ k => XS.iloadN X.here hx rfl (hb hby hd) hl k) hr
theorem o_iload (X : Stand p l e R s m args below meth c T locs cells slots) (hx : p.tables.exec = Jvm.exec) (hby : c.code = bytes) {k : Nat} {v : Int32} (hd : decode bytes pc = .ok (.iload k, 2)) (hl : ls[k]? = some (.val (.int v))) (hq : pc + 2 = q) (hr : own_Out p e below P (T.setTop (mkF m q ls (.int v :: st)))) : own_Out p e below P (T.setTop (mkF m pc ls (st))) := by
  subst hq; exact own_of (fun _ k => XS.iload X.here hx rfl (hb hby hd) hl k) hr
theorem o_istoreN (X : Stand p l e R s m args below meth c T locs cells slots) (hx : p.tables.exec = Jvm.exec) (hby : c.code = bytes) {k : Fin 4} {x : Int32} (hd : decode bytes pc = .ok (.istore_n k, 1)) (hl : storeLocals ls k.val (.int x) = some l') (hq : pc + 1 = q) (hr : own_Out p e below P (T.setTop (mkF m q l' (st)))) : own_Out p e below P (T.setTop (mkF m pc ls (.int x :: st))) := by
  subst hq; exact own_of (fun _ k => XS.istoreN X.here hx rfl (hb hby hd) rfl hl k) hr
theorem o_istore (X : Stand p l e R s m args below meth c T locs cells slots) (hx : p.tables.exec = Jvm.exec) (hby : c.code = bytes) {k : Nat} {x : Int32} (hd : decode bytes pc = .ok (.istore k, 2)) (hl : storeLocals ls k (.int x) = some l') (hq : pc + 2 = q) (hr : own_Out p e below P (T.setTop (mkF m q l' (st)))) : own_Out p e below P (T.setTop (mkF m pc ls (.int x :: st))) := by
  subst hq; exact own_of (fun _ k => XS.istore X.here hx rfl (hb hby hd) rfl hl k) hr
theorem o_aloadN (X : Stand p l e R s m args below meth c T locs cells slots) (hx : p.tables.exec = Jvm.exec) (hby : c.code = bytes) {k : Fin 4} {v : Value} (hd : decode bytes pc = .ok (.aload_n k, 1)) (hl : ls[k.val]? = some (.val v)) (hv : v.isRef = true) (hq : pc + 1 = q) (hr : own_Out p e below P (T.setTop (mkF m q ls (v :: st)))) : own_Out p e below P (T.setTop (mkF m pc ls (st))) := by
  subst hq; exact own_of (fun _ k => XS.aloadN X.here hx rfl (hb hby hd) hl hv k) hr
theorem o_aload (X : Stand p l e R s m args below meth c T locs cells slots) (hx : p.tables.exec = Jvm.exec) (hby : c.code = bytes) {k : Nat} {v : Value} (hd : decode bytes pc = .ok (.aload k, 2)) (hl : ls[k]? = some (.val v)) (hv : v.isRef = true) (hq : pc + 2 = q) (hr : own_Out p e below P (T.setTop (mkF m q ls (v :: st)))) : own_Out p e below P (T.setTop (mkF m pc ls (st))) := by
  subst hq; exact own_of (fun _ k => XS.aload X.here hx rfl (hb hby hd) hl hv k) hr
theorem o_astoreN (X : Stand p l e R s m args below meth c T locs cells slots) (hx : p.tables.exec = Jvm.exec) (hby : c.code = bytes) {k : Fin 4} {x : Value} (hd : decode bytes pc = .ok (.astore_n k, 1)) (hv : x.isRef = true) (hl : storeLocals ls k.val x = some l') (hq : pc + 1 = q) (hr : own_Out p e below P (T.setTop (mkF m q l' (st)))) : own_Out p e below P (T.setTop (mkF m pc ls (x :: st))) := by
  subst hq; exact own_of (fun _ k => XS.astoreN X.here hx rfl (hb hby hd) rfl hv hl k) hr
theorem o_astore (X : Stand p l e R s m args below meth c T locs cells slots) (hx : p.tables.exec = Jvm.exec) (hby : c.code = bytes) {k : Nat} {x : Value} (hd : decode bytes pc = .ok (.astore k, 2)) (hv : x.isRef = true) (hl : storeLocals ls k x = some l') (hq : pc + 2 = q) (hr : own_Out p e below P (T.setTop (mkF m q l' (st)))) : own_Out p e below P (T.setTop (mkF m pc ls (x :: st))) := by
  subst hq; exact own_of (fun _ k => XS.astore X.here hx rfl (hb hby hd) rfl hv hl k) hr
theorem o_iinc (X : Stand p l e R s m args below meth c T locs cells slots) (hx : p.tables.exec = Jvm.exec) (hby : c.code = bytes) {k : Nat} {cst : Int} {x : Int32} (hd : decode bytes pc = .ok (.iinc k cst, 3)) (hl : ls[k]? = some (.val (.int x))) (hl' : storeLocals ls k (.int (x + Int32.ofInt cst)) = some l') (hq : pc + 3 = q) (hr : own_Out p e below P (T.setTop (mkF m q l' (st)))) : own_Out p e below P (T.setTop (mkF m pc ls (st))) := by
  subst hq; exact own_of (fun _ k => XS.iinc X.here hx rfl (hb hby hd) hl hl' k) hr
theorem o_iconst (X : Stand p l e R s m args below meth c T locs cells slots) (hx : p.tables.exec = Jvm.exec) (hby : c.code = bytes) {i : Int} {z : Int32} (hd : decode bytes pc = .ok (.iconst i, 1)) (hz : Int32.ofInt i = z) (hq : pc + 1 = q) (hr : own_Out p e below P (T.setTop (mkF m q ls (.int z :: st)))) : own_Out p e below P (T.setTop (mkF m pc ls (st))) := by
  subst hq; exact own_of (fun _ k => XS.iconst X.here hx rfl (hb hby hd) (by rw [hz]; exact k)) hr
theorem o_bipush (X : Stand p l e R s m args below meth c T locs cells slots) (hx : p.tables.exec = Jvm.exec) (hby : c.code = bytes) {i : Int} {z : Int32} (hd : decode bytes pc = .ok (.bipush i, 2)) (hz : (Int8.ofInt i).toInt32 = z) (hq : pc + 2 = q) (hr : own_Out p e below P (T.setTop (mkF m q ls (.int z :: st)))) : own_Out p e below P (T.setTop (mkF m pc ls (st))) := by
  subst hq; exact own_of (fun _ k => XS.bipush X.here hx rfl (hb hby hd) (by rw [hz]; exact k)) hr
theorem o_sipush (X : Stand p l e R s m args below meth c T locs cells slots) (hx : p.tables.exec = Jvm.exec) (hby : c.code = bytes) {i : Int} {z : Int32} (hd : decode bytes pc = .ok (.sipush i, 3)) (hz : (Int16.ofInt i).toInt32 = z) (hq : pc + 3 = q) (hr : own_Out p e below P (T.setTop (mkF m q ls (.int z :: st)))) : own_Out p e below P (T.setTop (mkF m pc ls (st))) := by
  subst hq; exact own_of (fun _ k => XS.sipush X.here hx rfl (hb hby hd) (by rw [hz]; exact k)) hr
theorem o_aconst_null (X : Stand p l e R s m args below meth c T locs cells slots) (hx : p.tables.exec = Jvm.exec) (hby : c.code = bytes)  (hd : decode bytes pc = .ok (.aconst_null, 1))  (hq : pc + 1 = q) (hr : own_Out p e below P (T.setTop (mkF m q ls (.null :: st)))) : own_Out p e below P (T.setTop (mkF m pc ls (st))) := by
  subst hq; exact own_of (fun _ k => XS.aconstNull X.here hx rfl (hb hby hd) k) hr
theorem o_iadd (X : Stand p l e R s m args below meth c T locs cells slots) (hx : p.tables.exec = Jvm.exec) (hby : c.code = bytes) {x y z : Int32} (hd : decode bytes pc = .ok (.iadd, 1)) (hz : x + y = z) (hq : pc + 1 = q) (hr : own_Out p e below P (T.setTop (mkF m q ls (.int z :: st)))) : own_Out p e below P (T.setTop (mkF m pc ls (.int y :: .int x :: st))) := by
  subst hq; exact own_of (fun _ k => XS.iadd X.here hx rfl (hb hby hd) rfl (by rw [hz]; exact k)) hr
theorem o_isub (X : Stand p l e R s m args below meth c T locs cells slots) (hx : p.tables.exec = Jvm.exec) (hby : c.code = bytes) {x y z : Int32} (hd : decode bytes pc = .ok (.isub, 1)) (hz : x - y = z) (hq : pc + 1 = q) (hr : own_Out p e below P (T.setTop (mkF m q ls (.int z :: st)))) : own_Out p e below P (T.setTop (mkF m pc ls (.int y :: .int x :: st))) := by
  subst hq; exact own_of (fun _ k => XS.isub X.here hx rfl (hb hby hd) rfl (by rw [hz]; exact k)) hr
theorem o_iand (X : Stand p l e R s m args below meth c T locs cells slots) (hx : p.tables.exec = Jvm.exec) (hby : c.code = bytes) {x y z : Int32} (hd : decode bytes pc = .ok (.iand, 1)) (hz : x &&& y = z) (hq : pc + 1 = q) (hr : own_Out p e below P (T.setTop (mkF m q ls (.int z :: st)))) : own_Out p e below P (T.setTop (mkF m pc ls (.int y :: .int x :: st))) := by
  subst hq; exact own_of (fun _ k => XS.iand X.here hx rfl (hb hby hd) rfl (by rw [hz]; exact k)) hr
theorem o_ior (X : Stand p l e R s m args below meth c T locs cells slots) (hx : p.tables.exec = Jvm.exec) (hby : c.code = bytes) {x y z : Int32} (hd : decode bytes pc = .ok (.ior, 1)) (hz : x ||| y = z) (hq : pc + 1 = q) (hr : own_Out p e below P (T.setTop (mkF m q ls (.int z :: st)))) : own_Out p e below P (T.setTop (mkF m pc ls (.int y :: .int x :: st))) := by
  subst hq; exact own_of (fun _ k => XS.ior X.here hx rfl (hb hby hd) rfl (by rw [hz]; exact k)) hr
theorem o_ishl (X : Stand p l e R s m args below meth c T locs cells slots) (hx : p.tables.exec = Jvm.exec) (hby : c.code = bytes) {x z : Int32} {y : Int32} (hd : decode bytes pc = .ok (.ishl, 1)) (hz : (x <<< (y &&& 31)) = z) (hq : pc + 1 = q) (hr : own_Out p e below P (T.setTop (mkF m q ls (.int z :: st)))) : own_Out p e below P (T.setTop (mkF m pc ls (.int y :: .int x :: st))) := by
  subst hq; exact own_of (fun _ k => XS.ishl X.here hx rfl (hb hby hd) rfl (by rw [hz]; exact k)) hr
theorem o_ishr (X : Stand p l e R s m args below meth c T locs cells slots) (hx : p.tables.exec = Jvm.exec) (hby : c.code = bytes) {x z : Int32} {y : Int32} (hd : decode bytes pc = .ok (.ishr, 1)) (hz : (x >>> (y &&& 31)) = z) (hq : pc + 1 = q) (hr : own_Out p e below P (T.setTop (mkF m q ls (.int z :: st)))) : own_Out p e below P (T.setTop (mkF m pc ls (.int y :: .int x :: st))) := by
  subst hq; exact own_of (fun _ k => XS.ishr X.here hx rfl (hb hby hd) rfl (by rw [hz]; exact k)) hr
theorem o_iushr (X : Stand p l e R s m args below meth c T locs cells slots) (hx : p.tables.exec = Jvm.exec) (hby : c.code = bytes) {x z : Int32} {y : Int32} (hd : decode bytes pc = .ok (.iushr, 1)) (hz : ((x.toUInt32 >>> (y &&& 31).toUInt32).toInt32) = z) (hq : pc + 1 = q) (hr : own_Out p e below P (T.setTop (mkF m q ls (.int z :: st)))) : own_Out p e below P (T.setTop (mkF m pc ls (.int y :: .int x :: st))) := by
  subst hq; exact own_of (fun _ k => XS.iushr X.here hx rfl (hb hby hd) rfl (by rw [hz]; exact k)) hr
theorem o_i2b (X : Stand p l e R s m args below meth c T locs cells slots) (hx : p.tables.exec = Jvm.exec) (hby : c.code = bytes) {x : Int32} {z : Int32} (hd : decode bytes pc = .ok (.i2b, 1)) (hz : x.toInt8.toInt32 = z) (hq : pc + 1 = q) (hr : own_Out p e below P (T.setTop (mkF m q ls (.int z :: st)))) : own_Out p e below P (T.setTop (mkF m pc ls (.int x :: st))) := by
  subst hq; exact own_of (fun _ k => XS.i2b X.here hx rfl (hb hby hd) rfl (by rw [hz]; exact k)) hr
theorem o_i2c (X : Stand p l e R s m args below meth c T locs cells slots) (hx : p.tables.exec = Jvm.exec) (hby : c.code = bytes) {x : Int32} {z : Int32} (hd : decode bytes pc = .ok (.i2c, 1)) (hz : x.toUInt32.toUInt16.toUInt32.toInt32 = z) (hq : pc + 1 = q) (hr : own_Out p e below P (T.setTop (mkF m q ls (.int z :: st)))) : own_Out p e below P (T.setTop (mkF m pc ls (.int x :: st))) := by
  subst hq; exact own_of (fun _ k => XS.i2c X.here hx rfl (hb hby hd) rfl (by rw [hz]; exact k)) hr
theorem o_irem (X : Stand p l e R s m args below meth c T locs cells slots) (hx : p.tables.exec = Jvm.exec) (hby : c.code = bytes) {x y : Int32} (hd : decode bytes pc = .ok (.irem, 1)) (hy : y ≠ 0) (hq : pc + 1 = q) (hr : own_Out p e below P (T.setTop (mkF m q ls (.int (x % y) :: st)))) : own_Out p e below P (T.setTop (mkF m pc ls (.int y :: .int x :: st))) := by
  subst hq; exact own_of (fun _ k => iremM X hx rfl (hb hby hd) rfl hy k) hr
theorem o_goto (X : Stand p l e R s m args below meth c T locs cells slots) (hx : p.tables.exec = Jvm.exec) (hby : c.code = bytes) {o : Int} (hd : decode bytes pc = .ok (.goto o, 3))  (ho : 0 ≤ (pc : Int) + o) (hq : ((pc : Int) + o).toNat = q) (hr : own_Out p e below P (T.setTop (mkF m q ls (st)))) : own_Out p e below P (T.setTop (mkF m pc ls (st))) := by
  exact own_of (fun _ k => XS.goto X.here hx rfl rfl (hb hby hd) ho hq k) hr
theorem o_ifY (X : Stand p l e R s m args below meth c T locs cells slots) (hx : p.tables.exec = Jvm.exec) (hby : c.code = bytes) {cd : ClassFile.Cond} {x : Int32} {o : Int} (hd : decode bytes pc = .ok (.ifCond cd o, 3)) (hc : ifCond.holds cd x = true) (ho : 0 ≤ (pc : Int) + o) (hq : ((pc : Int) + o).toNat = q) (hr : own_Out p e below P (T.setTop (mkF m q ls (st)))) : own_Out p e below P (T.setTop (mkF m pc ls (.int x :: st))) := by
  exact own_of (fun _ k => XS.ifYes X.here hx rfl rfl (hb hby hd) rfl hc ho hq k) hr
theorem o_ifN (X : Stand p l e R s m args below meth c T locs cells slots) (hx : p.tables.exec = Jvm.exec) (hby : c.code = bytes) {cd : ClassFile.Cond} {x : Int32} {o : Int} (hd : decode bytes pc = .ok (.ifCond cd o, 3)) (hc : ifCond.holds cd x = false) (hq : pc + 3 = q) (hr : own_Out p e below P (T.setTop (mkF m q ls (st)))) : own_Out p e below P (T.setTop (mkF m pc ls (.int x :: st))) := by
  subst hq; exact own_of (fun _ k => XS.ifNo X.here hx rfl (hb hby hd) rfl hc k) hr
theorem o_icY (X : Stand p l e R s m args below meth c T locs cells slots) (hx : p.tables.exec = Jvm.exec) (hby : c.code = bytes) {cd : ClassFile.Cond} {x y : Int32} {o : Int} (hd : decode bytes pc = .ok (.if_icmp cd o, 3)) (hc : if_icmp.holds cd x y = true) (ho : 0 ≤ (pc : Int) + o) (hq : ((pc : Int) + o).toNat = q) (hr : own_Out p e below P (T.setTop (mkF m q ls (st)))) : own_Out p e below P (T.setTop (mkF m pc ls (.int y :: .int x :: st))) := by
  exact own_of (fun _ k => XS.icmpYes X.here hx rfl rfl (hb hby hd) rfl hc ho hq k) hr
theorem o_icN (X : Stand p l e R s m args below meth c T locs cells slots) (hx : p.tables.exec = Jvm.exec) (hby : c.code = bytes) {cd : ClassFile.Cond} {x y : Int32} {o : Int} (hd : decode bytes pc = .ok (.if_icmp cd o, 3)) (hc : if_icmp.holds cd x y = false) (hq : pc + 3 = q) (hr : own_Out p e below P (T.setTop (mkF m q ls (st)))) : own_Out p e below P (T.setTop (mkF m pc ls (.int y :: .int x :: st))) := by
  subst hq; exact own_of (fun _ k => XS.icmpNo X.here hx rfl (hb hby hd) rfl hc k) hr
theorem o_dup (X : Stand p l e R s m args below meth c T locs cells slots) (hx : p.tables.exec = Jvm.exec) (hby : c.code = bytes) {x : Value} (hd : decode bytes pc = .ok (.dup, 1)) (hc : x.category = 1) (hq : pc + 1 = q) (hr : own_Out p e below P (T.setTop (mkF m q ls (x :: x :: st)))) : own_Out p e below P (T.setTop (mkF m pc ls (x :: st))) := by
  subst hq; exact own_of (fun _ k => XS.dup X.here hx rfl (hb hby hd) rfl hc k) hr
theorem o_pop (X : Stand p l e R s m args below meth c T locs cells slots) (hx : p.tables.exec = Jvm.exec) (hby : c.code = bytes) {x : Value} (hd : decode bytes pc = .ok (.pop, 1)) (hc : x.category = 1) (hq : pc + 1 = q) (hr : own_Out p e below P (T.setTop (mkF m q ls (st)))) : own_Out p e below P (T.setTop (mkF m pc ls (x :: st))) := by
  subst hq; exact own_of (fun _ k => XS.pop X.here hx rfl (hb hby hd) rfl hc k) hr
variable {Z : State} {a0 : Array Value} {h : Heap}
theorem o_ldcI (X : Stand p l e R s m args below meth c T locs cells slots) (hx : p.tables.exec = Jvm.exec) (hZ : Z.Warmed39 s.vm) {own : String} (hown : s.vm.findClass own = some m.cls) (hby : c.code = bytes) {i : Nat} {v : Int32} (w : (Cond.constant own i v).before a0 Z = true) (hd : decode bytes pc = .ok (.ldc i, 2)) (hq : pc + 2 = q) (hr : own_Out p e below P (T.setTop (mkF m q ls (.int v :: st)))) : own_Out p e below P (T.setTop (mkF m pc ls st)) := by
  subst hq; exact own_of (X.ldcInt hx hown (mvT hZ w) (g := mkF m pc ls st) rfl (hb hby hd)) hr
theorem o_getF (X : Stand p l e R s m args below meth c T locs cells slots) (hx : p.tables.exec = Jvm.exec) (hZ : Z.Warmed39 s.vm) {own R0 O n d : String} (hown : s.vm.findClass own = some m.cls) (hby : c.code = bytes) {i : Nat} (w : (Cond.fieldLink own i R0 n d).before a0 Z = true) (via : Via Z R0 O n d) (eT : T.heap = h) {a : Addr} {v : Value} (F : Fld Z h a O n d v) (hd : decode bytes pc = .ok (.getfield i, 3)) (hq : pc + 3 = q)
    (hr : ∀ T', Stand p l e R s m args below meth c T' locs cells slots → T'.heap = h → own_Out p e below P (T'.setTop (mkF m q ls (v :: st)))) : own_Out p e below P (T.setTop (mkF m pc ls (.ref a :: st))) := by
  subst hq
  obtain ⟨T', X', e', t⟩ := getF X hx hZ hown (host := "") (Or.inl w) via eT F (g := mkF m pc ls (.ref a :: st)) rfl rfl (hb hby hd)
  exact own_of t (hr T' X' e')
theorem o_len (X : Stand p l e R s m args below meth c T locs cells slots) (hx : p.tables.exec = Jvm.exec) (hZ : Z.Warmed39 s.vm) (hby : c.code = bytes) (eT : T.heap = h) {a : Addr} {cl : Cell} {ty : FieldType} (A : Arr Z h a cl ty) {z : Int32} (S : cl.slots.size = z.toNatClampNeg) (N : ¬ z < 0) (hd : decode bytes pc = .ok (.arraylength, 1)) (hq : pc + 1 = q)
    (hr : own_Out p e below P (T.setTop (mkF m q ls (.int z :: st)))) : own_Out p e below P (T.setTop (mkF m pc ls (.ref a :: st))) := by
  subst hq
  refine own_of (X.arraylength hx (by rw [eT]; exact A.1) (State.isArrayOf_alike hZ.alike A.2.1) (g := mkF m pc ls (.ref a :: st)) rfl rfl (hb hby hd)) ?_
  rw [len_of S N]; exact hr
variable {a : Addr} {k : ClassId} {z j : Int32} {vs : List Value} {dv v : Value} {ty : FieldType}
theorem o_nin {c : Cell} (S : c.slots.size = z.toNatClampNeg) (hj : ¬ j < 0 ∧ j < z) : j.toNatClampNeg < c.slots.size := Nat.lt_of_not_le fun q => inb_of S hj (Or.inr q)
theorem o_caV (X : Stand p l e R s m args below meth c T locs cells slots) (hx : p.tables.exec = Jvm.exec) (hby : c.code = bytes) (hZ : Z.Warmed39 s.vm) (eT : T.heap = h) (V : Arv Z h a k .char z vs dv) (hj : ¬ j < 0 ∧ j < z) (hv : vs.getD j.toNatClampNeg dv = v) (hd : decode bytes pc = .ok (.caload, 1)) (hq : pc + 1 = q)
    (hr : own_Out p e below P (T.setTop (mkF m q ls (v :: st)))) : own_Out p e below P (T.setTop (mkF m pc ls (.int j :: .ref a :: st))) := by
  obtain ⟨cl, A, q1, S, N, H, G⟩ := V
  subst hq
  exact own_of (X.caload hx (by rw [eT]; exact A.1) (State.isArrayOf_alike hZ.alike A.2.1) A.2.2 (inb_of S hj) ((H _ (o_nin S hj)).trans (by rw [hv])) (g := mkF m pc ls (.int j :: .ref a :: st)) rfl rfl (hb hby hd)) hr
theorem o_baV (X : Stand p l e R s m args below meth c T locs cells slots) (hx : p.tables.exec = Jvm.exec) (hby : c.code = bytes) (hZ : Z.Warmed39 s.vm) (eT : T.heap = h) (V : Arv Z h a k .byte z vs dv) (hj : ¬ j < 0 ∧ j < z) (hv : vs.getD j.toNatClampNeg dv = v) (hd : decode bytes pc = .ok (.baload, 1)) (hq : pc + 1 = q)
    (hr : own_Out p e below P (T.setTop (mkF m q ls (v :: st)))) : own_Out p e below P (T.setTop (mkF m pc ls (.int j :: .ref a :: st))) := by
  obtain ⟨cl, A, q1, S, N, H, G⟩ := V
  subst hq
  exact own_of (X.baloadBytes hx (by rw [eT]; exact A.1) (State.isArrayOf_alike hZ.alike A.2.1) A.2.2 (inb_of S hj) ((H _ (o_nin S hj)).trans (by rw [hv])) (g := mkF m pc ls (.int j :: .ref a :: st)) rfl rfl (hb hby hd)) hr
theorem o_lenV (X : Stand p l e R s m args below meth c T locs cells slots) (hx : p.tables.exec = Jvm.exec) (hby : c.code = bytes) (hZ : Z.Warmed39 s.vm) (eT : T.heap = h) (V : Arv Z h a k ty z vs dv) (hd : decode bytes pc = .ok (.arraylength, 1)) (hq : pc + 1 = q)
    (hr : own_Out p e below P (T.setTop (mkF m q ls (.int z :: st)))) : own_Out p e below P (T.setTop (mkF m pc ls (.ref a :: st))) := by
  obtain ⟨cl, A, q1, S, N, H, G⟩ := V
  exact o_len X hx hZ hby eT A S N hd hq hr
end Short
end Jvm.RoadKit
namespace Jvm.Pilot.@@N@@
open Jvm Jvm.ClassFile Sem Op Lib Jvm.Free Jvm.Stand Jvm.LawKit Jvm.RoadKit Bundle Jvm.Pilot.@@N@@.Jvm.D
theorem w_ {a0 : Array Value} {Z : State} (hw : ∀ d ∈ tables_1, d.before a0 Z = true) (i : Nat) {d : Jvm.Cond} (h : tables_1[i]? = some d) : d.before a0 Z = true := hw _ (List.mem_of_getElem? h)
theorem own_i2c {c : Int32} (h : 0 ≤ c.toInt ∧ c.toInt < 65536) : c.toUInt32.toUInt16.toUInt32.toInt32 = c := by
  apply Int32.toInt_inj.mp
  have a := c_i2c c; omega
theorem own_cc {c : Int32} (h : 0 ≤ c.toInt ∧ c.toInt < 65536) : (((((((c >>> ((0 : Int32) &&& 31)).toInt8.toInt32).toInt8.toInt32) &&& (255 : Int32)) <<< ((0 : Int32) &&& 31)) ||| (((((c >>> ((8 : Int32) &&& 31)).toInt8.toInt32).toInt8.toInt32) &&& (255 : Int32)) <<< ((8 : Int32) &&& 31))).toUInt32.toUInt16.toUInt32.toInt32) = c := by
  obtain ⟨h0, h1⟩ := h
  apply Int32.toInt_inj.mp
  have s1 := c_ishr c 0 0 (by decide)
  have s2 := c_ishr c 8 8 (by decide)
  generalize (c >>> ((0 : Int32) &&& 31)) = u at *
  generalize (c >>> ((8 : Int32) &&& 31)) = w at *
  have a1 := c_i2b u
  have a2 := c_i2b (u.toInt8.toInt32)
  have b1 := c_i2b w
  have b2 := c_i2b (w.toInt8.toInt32)
  generalize (u.toInt8.toInt32).toInt8.toInt32 = x at *
  generalize (w.toInt8.toInt32).toInt8.toInt32 = y at *
  have a3 := c_mask x 255 8 (by decide) (by decide)
  have b3 := c_mask y 255 8 (by decide) (by decide)
  generalize (x &&& (255 : Int32)) = x1 at *
  generalize (y &&& (255 : Int32)) = y1 at *
  have a4 := c_ishl x1 0 0 (by decide)
  have b4 := c_ishl y1 8 8 (by decide)
  have ra := rng32 (x1 <<< ((0 : Int32) &&& 31))
  have rb := rng32 (y1 <<< ((8 : Int32) &&& 31))
  generalize (x1 <<< ((0 : Int32) &&& 31)) = x2 at *
  generalize (y1 <<< ((8 : Int32) &&& 31)) = y2 at *
  have hx2 : 0 ≤ x2.toInt ∧ x2.toInt < 256 := by omega
  have hy2 : y2.toInt % 256 = 0 := by omega
  have o := c_or' x2 y2 8 (by decide) 256 rfl hy2 hx2.1 hx2.2
  have ro := rng32 (x2 ||| y2)
  have z1 := c_i2c (x2 ||| y2)
  omega
theorem d10_0 : decode method_4_code 0 = .ok (.iload_n 1, 1) := by decide +kernel
theorem d10_1 : decode method_4_code 1 = .ok (.iload_n 2, 1) := by decide +kernel
theorem d10_2 : decode method_4_code 2 = .ok (.if_icmp .lt 8, 3) := by decide +kernel
theorem d10_5 : decode method_4_code 5 = .ok (.iload_n 1, 1) := by decide +kernel
theorem d10_6 : decode method_4_code 6 = .ok (.iload_n 3, 1) := by decide +kernel
theorem d10_7 : decode method_4_code 7 = .ok (.if_icmp .lt 5, 3) := by decide +kernel
theorem d10_10 : decode method_4_code 10 = .ok (.iconst 1, 1) := by decide +kernel
theorem d10_11 : decode method_4_code 11 = .ok (.ireturn, 1) := by decide +kernel
theorem d10_12 : decode method_4_code 12 = .ok (.iload_n 0, 1) := by decide +kernel
theorem d10_13 : decode method_4_code 13 = .ok (.bipush 48, 2) := by decide +kernel
theorem d10_15 : decode method_4_code 15 = .ok (.if_icmp .lt 13, 3) := by decide +kernel
theorem d10_18 : decode method_4_code 18 = .ok (.iload_n 0, 1) := by decide +kernel
theorem d10_19 : decode method_4_code 19 = .ok (.bipush 57, 2) := by decide +kernel
theorem d10_21 : decode method_4_code 21 = .ok (.if_icmp .gt 7, 3) := by decide +kernel
theorem d10_24 : decode method_4_code 24 = .ok (.iconst 1, 1) := by decide +kernel
theorem d10_25 : decode method_4_code 25 = .ok (.goto 4, 3) := by decide +kernel
theorem d10_28 : decode method_4_code 28 = .ok (.iconst 0, 1) := by decide +kernel
theorem d10_29 : decode method_4_code 29 = .ok (.ireturn, 1) := by decide +kernel
theorem pn_0 : plainName "com/example/fides/fides/ledger/PositionHasOnlyAsciiDigitsPinLaw" = true := by first | (simp [plainName, overriddenIn]; done) | decide +kernel
theorem ef_10 (m : MethodId) (x0 x1 x2 x3 : Int32) : entryFrame m #[(.int x0), (.int x1), (.int x2), (.int x3)] 4 = mkF m 0 #[.val (.int x0), .val (.int x1), .val (.int x2), .val (.int x3)] [] := by first | (simp [entryFrame, mkF, argsToLocals, Value.category]; done) | rfl
def fok (p0 p1 p2 p3 : Int32) : Int32 := if p1 < p2 then (1 : Int32)
  else if p1 < p3 then (if p0 < (48 : Int32) then (0 : Int32)
      else if (57 : Int32) < p0 then (0 : Int32)
        else (1 : Int32))
    else (1 : Int32)
def Q10 (Z : State) (p0 p1 p2 p3 : Int32) (h0 : Heap) (n0 : Nat) (v : Option Value) (h : Heap) (L : List Loc) : Prop := v = some (.int (fok p0 p1 p2 p3)) ∧ Fr n0 L ∧ h = h0
set_option maxRecDepth 65536 in
set_option maxHeartbeats 40000000 in
theorem rm10 (l : Launch) (Z : State) (a0 : Array Value) (hw : ∀ d ∈ tables_1, d.before a0 Z = true) (ws : List Jvm.Cond) (p0 p1 p2 p3 : Int32) (h0 : Heap) (n0 : Nat) (Z0 : n0 ≤ h0.size) :
    MetFree l (⟨"com/example/fides/fides/ledger/PositionHasOnlyAsciiDigitsPinLaw", "ok", "(CIII)Z"⟩ : MethodName) (head1 (Jvm.Cond.code (⟨"com/example/fides/fides/ledger/PositionHasOnlyAsciiDigitsPinLaw", "ok", "(CIII)Z"⟩ : MethodName) method_4_code 4 (some .boolean) :: ws) (⟨0, 0, 0, 0⟩ : Room)) (fun a U => a = #[(.int p0), (.int p1), (.int p2), (.int p3)] ∧ Z.Warmed39 U.vm ∧ U.heap = h0) (fun _ _ _ _ _ => True) (fun _ U o U' => ∃ v L, o = .returned v ∧ Q10 Z p0 p1 p2 p3 h0 n0 v U'.heap L ∧ FrameEnd U o U' L (⟨0, 0, 0, 0⟩ : Room).cells (⟨0, 0, 0, 0⟩ : Room).slots) := by
  refine MetFree.of_bodySF (plainFor_of_name pn_0) hisR ?_
  intro p e s m args below meth c s₁ Bd hml0 hP hK
  obtain ⟨rfl, hZ, hh⟩ := hP
  have hx := Bd.exec
  have hby := Bd.bytes
  have hml : c.maxLocals = 4 := hml0
  have hown : s.vm.findClass "com/example/fides/fides/ledger/PositionHasOnlyAsciiDigitsPinLaw" = some m.cls := findClass_of_methodNamed Bd.named
  have hnm := (name_of_methodNamed Bd.named Bd.method).1
  have X0 : Stand p l e (⟨0, 0, 0, 0⟩ : Room) s m #[(.int p0), (.int p1), (.int p2), (.int p3)] below meth c s₁ [] 0 0 := Stand.of_body Bd
  have e0 : s₁.heap = h0 := by rw [← hh, Bd.state]; rfl
  have N0 := Fr.nil n0
  have hret := Bd.returns
  have hlk := BodyLoose.notSynchronized Bd
  show own_Out p e below (fun o U' => ∃ v L, o = .returned v ∧ Q10 Z p0 p1 p2 p3 h0 n0 v U'.heap L ∧ FrameEnd s o U' L (⟨0, 0, 0, 0⟩ : Room).cells (⟨0, 0, 0, 0⟩ : Room).slots) (s₁.setTop (entryFrame m #[(.int p0), (.int p1), (.int p2), (.int p3)] 4))
  refine own_of (fun t k => castTop (ef_10 m p0 p1 p2 p3) k) ?_
  show own_Out p e below _ (s₁.setTop (mkF m 0 #[iv p0, iv p1, iv p2, iv p3] []))
  refine o_iloadN X0 hx hby d10_0 rfl (q := 1) rfl ?_
  refine o_iloadN X0 hx hby d10_1 rfl (q := 2) rfl ?_
  by_cases hc2_1 : p1 < p2
  · skip
    refine o_icY X0 hx hby d10_2 (tlt hc2_1).1 (by decide) (q := 10) (by decide) ?_
    refine o_iconst X0 hx hby d10_10 (z := 1) rfl (q := 11) rfl ?_
    exact own_outN X0 hx hlk (t := .boolean) hret (by simp) (hb hby d10_11) (z' := (1 : Int32)) rfl (Q := Q10 Z p0 p1 p2 p3 h0 n0) ⟨by simp only [fok, if_pos hc2_1], N0, e0⟩ (by decide) (by decide)
  · skip
    refine o_icN X0 hx hby d10_2 (flt hc2_1).1 (q := 5) rfl ?_
    refine o_iloadN X0 hx hby d10_5 rfl (q := 6) rfl ?_
    refine o_iloadN X0 hx hby d10_6 rfl (q := 7) rfl ?_
    by_cases hc7_2 : p1 < p3
    · skip
      refine o_icY X0 hx hby d10_7 (tlt hc7_2).1 (by decide) (q := 12) (by decide) ?_
      refine o_iloadN X0 hx hby d10_12 rfl (q := 13) rfl ?_
      refine o_bipush X0 hx hby d10_13 (z := 48) rfl (q := 15) rfl ?_
      by_cases hc15_3 : p0 < (48 : Int32)
      · skip
        refine o_icY X0 hx hby d10_15 (tlt hc15_3).1 (by decide) (q := 28) (by decide) ?_
        refine o_iconst X0 hx hby d10_28 (z := 0) rfl (q := 29) rfl ?_
        exact own_outN X0 hx hlk (t := .boolean) hret (by simp) (hb hby d10_29) (z' := (0 : Int32)) rfl (Q := Q10 Z p0 p1 p2 p3 h0 n0) ⟨by simp only [fok, if_neg hc2_1, if_pos hc7_2, if_pos hc15_3], N0, e0⟩ (by decide) (by decide)
      · skip
        refine o_icN X0 hx hby d10_15 (flt hc15_3).1 (q := 18) rfl ?_
        refine o_iloadN X0 hx hby d10_18 rfl (q := 19) rfl ?_
        refine o_bipush X0 hx hby d10_19 (z := 57) rfl (q := 21) rfl ?_
        by_cases hc21_4 : (57 : Int32) < p0
        · skip
          refine o_icY X0 hx hby d10_21 (tlt hc21_4).2.2.1 (by decide) (q := 28) (by decide) ?_
          refine o_iconst X0 hx hby d10_28 (z := 0) rfl (q := 29) rfl ?_
          exact own_outN X0 hx hlk (t := .boolean) hret (by simp) (hb hby d10_29) (z' := (0 : Int32)) rfl (Q := Q10 Z p0 p1 p2 p3 h0 n0) ⟨by simp only [fok, if_neg hc2_1, if_pos hc7_2, if_neg hc15_3, if_pos hc21_4], N0, e0⟩ (by decide) (by decide)
        · skip
          refine o_icN X0 hx hby d10_21 (flt hc21_4).2.2.1 (q := 24) rfl ?_
          refine o_iconst X0 hx hby d10_24 (z := 1) rfl (q := 25) rfl ?_
          refine o_goto X0 hx hby d10_25 (by decide) (q := 29) (by decide) ?_
          exact own_outN X0 hx hlk (t := .boolean) hret (by simp) (hb hby d10_29) (z' := (1 : Int32)) rfl (Q := Q10 Z p0 p1 p2 p3 h0 n0) ⟨by simp only [fok, if_neg hc2_1, if_pos hc7_2, if_neg hc15_3, if_neg hc21_4], N0, e0⟩ (by decide) (by decide)
    · skip
      refine o_icN X0 hx hby d10_7 (flt hc7_2).1 (q := 10) rfl ?_
      refine o_iconst X0 hx hby d10_10 (z := 1) rfl (q := 11) rfl ?_
      exact own_outN X0 hx hlk (t := .boolean) hret (by simp) (hb hby d10_11) (z' := (1 : Int32)) rfl (Q := Q10 Z p0 p1 p2 p3 h0 n0) ⟨by simp only [fok, if_neg hc2_1, if_neg hc7_2], N0, e0⟩ (by decide) (by decide)
theorem d13_0 : decode jdk_42_method_154_code 0 = .ok (.getstatic 38, 3) := by decide +kernel
theorem d13_3 : decode jdk_42_method_154_code 3 = .ok (.ifCond .eq 14, 3) := by decide +kernel
theorem d13_6 : decode jdk_42_method_154_code 6 = .ok (.aload_n 0, 1) := by decide +kernel
theorem d13_7 : decode jdk_42_method_154_code 7 = .ok (.getfield 15, 3) := by decide +kernel
theorem d13_10 : decode jdk_42_method_154_code 10 = .ok (.ifCond .ne 7, 3) := by decide +kernel
theorem d13_13 : decode jdk_42_method_154_code 13 = .ok (.iconst 1, 1) := by decide +kernel
theorem d13_14 : decode jdk_42_method_154_code 14 = .ok (.goto 4, 3) := by decide +kernel
theorem d13_18 : decode jdk_42_method_154_code 18 = .ok (.ireturn, 1) := by decide +kernel
theorem pn_1 : plainName "java/lang/String" = true := by first | (simp [plainName, overriddenIn]; done) | decide +kernel
theorem ef_13c0n4 (m : MethodId) (x0 : Addr) : entryFrame m #[(.ref x0)] 1 = mkF m 0 #[.val (.ref x0)] [] := by first | (simp [entryFrame, mkF, argsToLocals, Value.category]; done) | rfl
def Q13c0n4 (Z : State) (o0 ob : Addr) (k : ClassId) (b0 b1 b2 b3 cs : Int32) (h0 : Heap) (n0 : Nat) (v : Option Value) (h : Heap) (L : List Loc) : Prop := v = some (.int 1) ∧ Fr n0 L ∧ h = h0
set_option maxRecDepth 65536 in
set_option maxHeartbeats 40000000 in
theorem rm13c0n4 (l : Launch) (Z : State) (a0 : Array Value) (hw : ∀ d ∈ tables_1, d.before a0 Z = true) (ws : List Jvm.Cond) (o0 ob : Addr) (k : ClassId) (b0 b1 b2 b3 cs : Int32) (h0 : Heap) (n0 : Nat) (Z0 : n0 ≤ h0.size) (E : Exa Z h0 o0 "java/lang/String") (Fv : Fld Z h0 o0 "java/lang/String" "value" "[B" (.ref ob)) (Fc : Fld Z h0 o0 "java/lang/String" "coder" "B" (.int 0)) (V : Arv Z h0 ob k .byte (4 : Int32) [(.int b0), (.int b1), (.int b2), (.int b3)] (.int 0)) (S_cs : Sta Z h0 "java/lang/String" "COMPACT_STRINGS" "Z" (.int cs)) (hcs : ¬ (cs = (0 : Int32))) :
    MetFree l (⟨"java/lang/String", "isLatin1", "()Z"⟩ : MethodName) (head1 (Jvm.Cond.code (⟨"java/lang/String", "isLatin1", "()Z"⟩ : MethodName) jdk_42_method_154_code 1 (some .boolean) :: ws) (⟨0, 0, 0, 0⟩ : Room)) (fun a U => a = #[(.ref o0)] ∧ Z.Warmed39 U.vm ∧ U.heap = h0) (fun _ _ _ _ _ => True) (fun _ U o U' => ∃ v L, o = .returned v ∧ Q13c0n4 Z o0 ob k b0 b1 b2 b3 cs h0 n0 v U'.heap L ∧ FrameEnd U o U' L (⟨0, 0, 0, 0⟩ : Room).cells (⟨0, 0, 0, 0⟩ : Room).slots) := by
  refine MetFree.of_bodySF (plainFor_of_name pn_1) hisR ?_
  intro p e s m args below meth c s₁ Bd hml0 hP hK
  obtain ⟨rfl, hZ, hh⟩ := hP
  have hx := Bd.exec
  have hby := Bd.bytes
  have hml : c.maxLocals = 1 := hml0
  have hown : s.vm.findClass "java/lang/String" = some m.cls := findClass_of_methodNamed Bd.named
  have hnm := (name_of_methodNamed Bd.named Bd.method).1
  have X0 : Stand p l e (⟨0, 0, 0, 0⟩ : Room) s m #[(.ref o0)] below meth c s₁ [] 0 0 := Stand.of_body Bd
  have e0 : s₁.heap = h0 := by rw [← hh, Bd.state]; rfl
  have N0 := Fr.nil n0
  have hret := Bd.returns
  have hlk := BodyLoose.notSynchronized Bd
  show own_Out p e below (fun o U' => ∃ v L, o = .returned v ∧ Q13c0n4 Z o0 ob k b0 b1 b2 b3 cs h0 n0 v U'.heap L ∧ FrameEnd s o U' L (⟨0, 0, 0, 0⟩ : Room).cells (⟨0, 0, 0, 0⟩ : Room).slots) (s₁.setTop (entryFrame m #[(.ref o0)] 1))
  refine own_of (fun t k => castTop (ef_13c0n4 m o0) k) ?_
  show own_Out p e below _ (s₁.setTop (mkF m 0 #[rv o0] []))
  obtain ⟨T1, X1, e1, st1⟩ := getS2 X0 hx hZ hown (host := "") (Or.inl (w_ hw 19 rfl)) Via.refl e0 S_cs (g := (mkF m 0 #[rv o0] [])) rfl (hb hby d13_0)
  refine own_of st1 ?_
  show own_Out p e below _ (T1.setTop (mkF m 3 #[rv o0] [.int cs]))
  refine o_ifN X1 hx hby d13_3 ((if0 _ _).trans (feq hcs).1) (q := 6) rfl ?_
  refine o_aloadN X1 hx hby d13_6 rfl rfl (q := 7) rfl ?_
  refine o_getF X1 hx hZ hown hby (w_ hw 31 rfl) Via.refl e1 Fc d13_7 (q := 10) rfl fun T2 X2 e2 => ?_
  refine o_ifN X2 hx hby d13_10 ((if0 _ _).trans (teq (by decide : (0 : Int32) = (0 : Int32))).2) (q := 13) rfl ?_
  refine o_iconst X2 hx hby d13_13 (z := 1) rfl (q := 14) rfl ?_
  refine o_goto X2 hx hby d13_14 (by decide) (q := 18) (by decide) ?_
  exact own_outN X2 hx hlk (t := .boolean) hret (by simp) (hb hby d13_18) (z' := (1 : Int32)) rfl (Q := Q13c0n4 Z o0 ob k b0 b1 b2 b3 cs h0 n0) ⟨rfl, N0, e2⟩ (by decide) (by decide)
theorem d16_0 : decode jdk_41_method_11_code 0 = .ok (.iload_n 0, 1) := by decide +kernel
theorem d16_1 : decode jdk_41_method_11_code 1 = .ok (.ifCond .lt 8, 3) := by decide +kernel
theorem d16_4 : decode jdk_41_method_11_code 4 = .ok (.iload_n 0, 1) := by decide +kernel
theorem d16_5 : decode jdk_41_method_11_code 5 = .ok (.iload_n 1, 1) := by decide +kernel
theorem d16_6 : decode jdk_41_method_11_code 6 = .ok (.if_icmp .lt 10, 3) := by decide +kernel
theorem d16_16 : decode jdk_41_method_11_code 16 = .ok (.iload_n 0, 1) := by decide +kernel
theorem d16_17 : decode jdk_41_method_11_code 17 = .ok (.ireturn, 1) := by decide +kernel
theorem pn_2 : plainName "jdk/internal/util/Preconditions" = true := by first | (simp [plainName, overriddenIn]; done) | decide +kernel
theorem ef_16i0n4n (m : MethodId)  : entryFrame m #[(.int 0), (.int 4), .null] 3 = mkF m 0 #[.val (.int 0), .val (.int 4), .val .null] [] := by first | (simp [entryFrame, mkF, argsToLocals, Value.category]; done) | rfl
def Q16i0n4n (Z : State)  (h0 : Heap) (n0 : Nat) (v : Option Value) (h : Heap) (L : List Loc) : Prop := v = some (.int 0) ∧ Fr n0 L ∧ h = h0
set_option maxRecDepth 65536 in
set_option maxHeartbeats 40000000 in
theorem rm16i0n4n (l : Launch) (Z : State) (a0 : Array Value) (hw : ∀ d ∈ tables_1, d.before a0 Z = true) (ws : List Jvm.Cond)  (h0 : Heap) (n0 : Nat) (Z0 : n0 ≤ h0.size) :
    MetFree l (⟨"jdk/internal/util/Preconditions", "checkIndex", "(IILjava/util/function/BiFunction;)I"⟩ : MethodName) (head1 (Jvm.Cond.code (⟨"jdk/internal/util/Preconditions", "checkIndex", "(IILjava/util/function/BiFunction;)I"⟩ : MethodName) jdk_41_method_11_code 3 (some .int) :: ws) (⟨0, 0, 0, 0⟩ : Room)) (fun a U => a = #[(.int 0), (.int 4), .null] ∧ Z.Warmed39 U.vm ∧ U.heap = h0) (fun _ _ _ _ _ => True) (fun _ U o U' => ∃ v L, o = .returned v ∧ Q16i0n4n Z  h0 n0 v U'.heap L ∧ FrameEnd U o U' L (⟨0, 0, 0, 0⟩ : Room).cells (⟨0, 0, 0, 0⟩ : Room).slots) := by
  refine MetFree.of_bodySF (plainFor_of_name pn_2) hisR ?_
  intro p e s m args below meth c s₁ Bd hml0 hP hK
  obtain ⟨rfl, hZ, hh⟩ := hP
  have hx := Bd.exec
  have hby := Bd.bytes
  have hml : c.maxLocals = 3 := hml0
  have hown : s.vm.findClass "jdk/internal/util/Preconditions" = some m.cls := findClass_of_methodNamed Bd.named
  have hnm := (name_of_methodNamed Bd.named Bd.method).1
  have X0 : Stand p l e (⟨0, 0, 0, 0⟩ : Room) s m #[(.int 0), (.int 4), .null] below meth c s₁ [] 0 0 := Stand.of_body Bd
  have e0 : s₁.heap = h0 := by rw [← hh, Bd.state]; rfl
  have N0 := Fr.nil n0
  have hret := Bd.returns
  have hlk := BodyLoose.notSynchronized Bd
  show own_Out p e below (fun o U' => ∃ v L, o = .returned v ∧ Q16i0n4n Z  h0 n0 v U'.heap L ∧ FrameEnd s o U' L (⟨0, 0, 0, 0⟩ : Room).cells (⟨0, 0, 0, 0⟩ : Room).slots) (s₁.setTop (entryFrame m #[(.int 0), (.int 4), .null] 3))
  refine own_of (fun t k => castTop (ef_16i0n4n m ) k) ?_
  show own_Out p e below _ (s₁.setTop (mkF m 0 #[iv 0, iv 4, .val (.null)] []))
  refine o_iloadN X0 hx hby d16_0 rfl (q := 1) rfl ?_
  refine o_ifN X0 hx hby d16_1 ((if0 _ _).trans (flt (by decide : ¬ ((0 : Int32) < (0 : Int32)))).1) (q := 4) rfl ?_
  refine o_iloadN X0 hx hby d16_4 rfl (q := 5) rfl ?_
  refine o_iloadN X0 hx hby d16_5 rfl (q := 6) rfl ?_
  refine o_icY X0 hx hby d16_6 (tlt (by decide : (0 : Int32) < (4 : Int32))).1 (by decide) (q := 16) (by decide) ?_
  refine o_iloadN X0 hx hby d16_16 rfl (q := 17) rfl ?_
  exact own_outI X0 hx hlk hret (hb hby d16_17) (Q := Q16i0n4n Z  h0 n0) ⟨rfl, N0, e0⟩ (by decide) (by decide)
theorem ef_16i0n4r (m : MethodId) (x2 : Addr) : entryFrame m #[(.int 0), (.int 4), (.ref x2)] 3 = mkF m 0 #[.val (.int 0), .val (.int 4), .val (.ref x2)] [] := by first | (simp [entryFrame, mkF, argsToLocals, Value.category]; done) | rfl
def Q16i0n4r (Z : State) (o2 : Addr) (h0 : Heap) (n0 : Nat) (v : Option Value) (h : Heap) (L : List Loc) : Prop := v = some (.int 0) ∧ Fr n0 L ∧ h = h0
set_option maxRecDepth 65536 in
set_option maxHeartbeats 40000000 in
theorem rm16i0n4r (l : Launch) (Z : State) (a0 : Array Value) (hw : ∀ d ∈ tables_1, d.before a0 Z = true) (ws : List Jvm.Cond) (o2 : Addr) (h0 : Heap) (n0 : Nat) (Z0 : n0 ≤ h0.size) :
    MetFree l (⟨"jdk/internal/util/Preconditions", "checkIndex", "(IILjava/util/function/BiFunction;)I"⟩ : MethodName) (head1 (Jvm.Cond.code (⟨"jdk/internal/util/Preconditions", "checkIndex", "(IILjava/util/function/BiFunction;)I"⟩ : MethodName) jdk_41_method_11_code 3 (some .int) :: ws) (⟨0, 0, 0, 0⟩ : Room)) (fun a U => a = #[(.int 0), (.int 4), (.ref o2)] ∧ Z.Warmed39 U.vm ∧ U.heap = h0) (fun _ _ _ _ _ => True) (fun _ U o U' => ∃ v L, o = .returned v ∧ Q16i0n4r Z o2 h0 n0 v U'.heap L ∧ FrameEnd U o U' L (⟨0, 0, 0, 0⟩ : Room).cells (⟨0, 0, 0, 0⟩ : Room).slots) := by
  refine MetFree.of_bodySF (plainFor_of_name pn_2) hisR ?_
  intro p e s m args below meth c s₁ Bd hml0 hP hK
  obtain ⟨rfl, hZ, hh⟩ := hP
  have hx := Bd.exec
  have hby := Bd.bytes
  have hml : c.maxLocals = 3 := hml0
  have hown : s.vm.findClass "jdk/internal/util/Preconditions" = some m.cls := findClass_of_methodNamed Bd.named
  have hnm := (name_of_methodNamed Bd.named Bd.method).1
  have X0 : Stand p l e (⟨0, 0, 0, 0⟩ : Room) s m #[(.int 0), (.int 4), (.ref o2)] below meth c s₁ [] 0 0 := Stand.of_body Bd
  have e0 : s₁.heap = h0 := by rw [← hh, Bd.state]; rfl
  have N0 := Fr.nil n0
  have hret := Bd.returns
  have hlk := BodyLoose.notSynchronized Bd
  show own_Out p e below (fun o U' => ∃ v L, o = .returned v ∧ Q16i0n4r Z o2 h0 n0 v U'.heap L ∧ FrameEnd s o U' L (⟨0, 0, 0, 0⟩ : Room).cells (⟨0, 0, 0, 0⟩ : Room).slots) (s₁.setTop (entryFrame m #[(.int 0), (.int 4), (.ref o2)] 3))
  refine own_of (fun t k => castTop (ef_16i0n4r m o2) k) ?_
  show own_Out p e below _ (s₁.setTop (mkF m 0 #[iv 0, iv 4, rv o2] []))
  refine o_iloadN X0 hx hby d16_0 rfl (q := 1) rfl ?_
  refine o_ifN X0 hx hby d16_1 ((if0 _ _).trans (flt (by decide : ¬ ((0 : Int32) < (0 : Int32)))).1) (q := 4) rfl ?_
  refine o_iloadN X0 hx hby d16_4 rfl (q := 5) rfl ?_
  refine o_iloadN X0 hx hby d16_5 rfl (q := 6) rfl ?_
  refine o_icY X0 hx hby d16_6 (tlt (by decide : (0 : Int32) < (4 : Int32))).1 (by decide) (q := 16) (by decide) ?_
  refine o_iloadN X0 hx hby d16_16 rfl (q := 17) rfl ?_
  exact own_outI X0 hx hlk hret (hb hby d16_17) (Q := Q16i0n4r Z o2 h0 n0) ⟨rfl, N0, e0⟩ (by decide) (by decide)
theorem pd_0 : parseMethodDescriptor "(IILjava/util/function/BiFunction;)I" = some ⟨[.int, .int, (.object "java/util/function/BiFunction")], some .int⟩ := by decide +kernel
theorem d15_0 : decode jdk_42_method_155_code 0 = .ok (.iload_n 0, 1) := by decide +kernel
theorem d15_1 : decode jdk_42_method_155_code 1 = .ok (.iload_n 1, 1) := by decide +kernel
theorem d15_2 : decode jdk_42_method_155_code 2 = .ok (.getstatic 1053, 3) := by decide +kernel
theorem d15_5 : decode jdk_42_method_155_code 5 = .ok (.invokestatic 1059, 3) := by decide +kernel
theorem d15_8 : decode jdk_42_method_155_code 8 = .ok (.pop, 1) := by decide +kernel
theorem d15_9 : decode jdk_42_method_155_code 9 = .ok (.return_, 1) := by decide +kernel
theorem ef_15i0n4 (m : MethodId)  : entryFrame m #[(.int 0), (.int 4)] 2 = mkF m 0 #[.val (.int 0), .val (.int 4)] [] := by first | (simp [entryFrame, mkF, argsToLocals, Value.category]; done) | rfl
def Q15i0n4 (Z : State) (vf : Value) (h0 : Heap) (n0 : Nat) (v : Option Value) (h : Heap) (L : List Loc) : Prop := v = none ∧ Fr n0 L ∧ h = h0
set_option maxRecDepth 65536 in
set_option maxHeartbeats 40000000 in
theorem rm15i0n4 (l : Launch) (Z : State) (a0 : Array Value) (hw : ∀ d ∈ tables_1, d.before a0 Z = true) (ws : List Jvm.Cond) (vf : Value) (h0 : Heap) (n0 : Nat) (Z0 : n0 ≤ h0.size) (S_f : Sta Z h0 "jdk/internal/util/Preconditions" "SIOOBE_FORMATTER" "Ljava/util/function/BiFunction;" vf) (hvf : vf.isRef = true) :
    MetFree l (⟨"java/lang/String", "checkIndex", "(II)V"⟩ : MethodName) (head1 (Jvm.Cond.code (⟨"java/lang/String", "checkIndex", "(II)V"⟩ : MethodName) jdk_42_method_155_code 2 none :: ws) (⟨1, 0, 0, 14⟩ : Room)) (fun a U => a = #[(.int 0), (.int 4)] ∧ Z.Warmed39 U.vm ∧ U.heap = h0) (fun _ _ _ _ _ => True) (fun _ U o U' => ∃ v L, o = .returned v ∧ Q15i0n4 Z vf h0 n0 v U'.heap L ∧ FrameEnd U o U' L (⟨1, 0, 0, 14⟩ : Room).cells (⟨1, 0, 0, 14⟩ : Room).slots) := by
  refine MetFree.of_bodySF (plainFor_of_name pn_1) hisR ?_
  intro p e s m args below meth c s₁ Bd hml0 hP hK
  obtain ⟨rfl, hZ, hh⟩ := hP
  have hx := Bd.exec
  have hby := Bd.bytes
  have hml : c.maxLocals = 2 := hml0
  have hown : s.vm.findClass "java/lang/String" = some m.cls := findClass_of_methodNamed Bd.named
  have hnm := (name_of_methodNamed Bd.named Bd.method).1
  have X0 : Stand p l e (⟨1, 0, 0, 14⟩ : Room) s m #[(.int 0), (.int 4)] below meth c s₁ [] 0 0 := Stand.of_body Bd
  have e0 : s₁.heap = h0 := by rw [← hh, Bd.state]; rfl
  have N0 := Fr.nil n0
  have hret := Bd.returns
  have hlk := BodyLoose.notSynchronized Bd
  show own_Out p e below (fun o U' => ∃ v L, o = .returned v ∧ Q15i0n4 Z vf h0 n0 v U'.heap L ∧ FrameEnd s o U' L (⟨1, 0, 0, 14⟩ : Room).cells (⟨1, 0, 0, 14⟩ : Room).slots) (s₁.setTop (entryFrame m #[(.int 0), (.int 4)] 2))
  refine own_of (fun t k => castTop (ef_15i0n4 m ) k) ?_
  show own_Out p e below _ (s₁.setTop (mkF m 0 #[iv 0, iv 4] []))
  rcases ref_cases hvf with hv | ⟨af, hv⟩
  · rw [hv] at S_f
    refine o_iloadN X0 hx hby d15_0 rfl (q := 1) rfl ?_
    refine o_iloadN X0 hx hby d15_1 rfl (q := 2) rfl ?_
    obtain ⟨T1, X1, e1, st1⟩ := getS2 X0 hx hZ hown (host := "") (Or.inl (w_ hw 67 rfl)) Via.refl e0 S_f (g := (mkF m 2 #[iv 0, iv 4] [.int 4, .int 0])) rfl (hb hby d15_2)
    refine own_of st1 ?_
    show own_Out p e below _ (T1.setTop (mkF m 5 #[iv 0, iv 4] [.null, .int 4, .int 0]))
    obtain ⟨_, _, ⟨T2, L2, k2, n2⟩, -, X2, ⟨Lc2, hQ2, l2, y2, z2⟩, st2⟩ := Jvm.LawKit.callS X1 hx (y := (⟨"jdk/internal/util/Preconditions", "checkIndex", "(IILjava/util/function/BiFunction;)I"⟩ : MethodName)) hown (mvT hZ (w_ hw 69 rfl)) (mvT hZ (w_ hw 70 rfl)) (mvT hZ (w_ hw 68 rfl)) (mvT hZ (w_ hw 71 rfl)) (by decide) (backOf (W := 0) (rm16i0n4n l Z a0 hw []  h0 n0 Z0 ) hZ (w_ hw 71 rfl) (w_ hw 68 rfl) (by decide) (by decide)) (g := (mkF m 5 #[iv 0, iv 4] [.null, .int 4, .int 0])) rfl (by rw [hml]; rfl) (argsL := [(.int 0), (.int 4), .null]) (rest := []) (lenOf pd_0 rfl) rfl (by show 2 * 0 + _ ≤ _; exact Nat.le_of_eq rfl) (hb hby d15_5) (fun _ _ => ⟨rfl, e1, (by decide : 0 + 0 ≤ _), (by decide : 0 + 0 ≤ _)⟩)
    dsimp only [Pt.U, Pt.locs, Pt.cells, Pt.slots] at X2 l2 y2 z2 st2 hQ2
    subst l2 y2 z2
    obtain ⟨rfl, N2q, hh2⟩ := hQ2
    have N2 := Fr.app N0 N2q
    refine own_of st2 ?_
    show own_Out p e below _ (T2.setTop (mkF m 8 #[iv 0, iv 4] [.int 0]))
    refine o_pop X2 hx hby d15_8 rfl (q := 9) rfl ?_
    exact own_outV X2 hx hlk hret (hb hby d15_9) (Q := Q15i0n4 Z vf h0 n0) ⟨rfl, N2, hh2⟩ (by decide) (by decide)
  · rw [hv] at S_f
    refine o_iloadN X0 hx hby d15_0 rfl (q := 1) rfl ?_
    refine o_iloadN X0 hx hby d15_1 rfl (q := 2) rfl ?_
    obtain ⟨T3, X3, e3, st3⟩ := getS2 X0 hx hZ hown (host := "") (Or.inl (w_ hw 67 rfl)) Via.refl e0 S_f (g := (mkF m 2 #[iv 0, iv 4] [.int 4, .int 0])) rfl (hb hby d15_2)
    refine own_of st3 ?_
    show own_Out p e below _ (T3.setTop (mkF m 5 #[iv 0, iv 4] [.ref af, .int 4, .int 0]))
    obtain ⟨_, _, ⟨T4, L4, k4, n4⟩, -, X4, ⟨Lc4, hQ4, l4, y4, z4⟩, st4⟩ := Jvm.LawKit.callS X3 hx (y := (⟨"jdk/internal/util/Preconditions", "checkIndex", "(IILjava/util/function/BiFunction;)I"⟩ : MethodName)) hown (mvT hZ (w_ hw 69 rfl)) (mvT hZ (w_ hw 70 rfl)) (mvT hZ (w_ hw 68 rfl)) (mvT hZ (w_ hw 71 rfl)) (by decide) (backOf (W := 0) (rm16i0n4r l Z a0 hw [] af h0 n0 Z0 ) hZ (w_ hw 71 rfl) (w_ hw 68 rfl) (by decide) (by decide)) (g := (mkF m 5 #[iv 0, iv 4] [.ref af, .int 4, .int 0])) rfl (by rw [hml]; rfl) (argsL := [(.int 0), (.int 4), (.ref af)]) (rest := []) (lenOf pd_0 rfl) rfl (by show 2 * 0 + _ ≤ _; exact Nat.le_of_eq rfl) (hb hby d15_5) (fun _ _ => ⟨rfl, e3, (by decide : 0 + 0 ≤ _), (by decide : 0 + 0 ≤ _)⟩)
    dsimp only [Pt.U, Pt.locs, Pt.cells, Pt.slots] at X4 l4 y4 z4 st4 hQ4
    subst l4 y4 z4
    obtain ⟨rfl, N4q, hh4⟩ := hQ4
    have N4 := Fr.app N0 N4q
    refine own_of st4 ?_
    show own_Out p e below _ (T4.setTop (mkF m 8 #[iv 0, iv 4] [.int 0]))
    refine o_pop X4 hx hby d15_8 rfl (q := 9) rfl ?_
    exact own_outV X4 hx hlk hret (hb hby d15_9) (Q := Q15i0n4 Z vf h0 n0) ⟨rfl, N4, hh4⟩ (by decide) (by decide)
theorem pd_1 : parseMethodDescriptor "(II)V" = some ⟨[.int, .int], none⟩ := by decide +kernel
theorem d14_0 : decode jdk_43_method_2_code 0 = .ok (.iload_n 1, 1) := by decide +kernel
theorem d14_1 : decode jdk_43_method_2_code 1 = .ok (.aload_n 0, 1) := by decide +kernel
theorem d14_2 : decode jdk_43_method_2_code 2 = .ok (.arraylength, 1) := by decide +kernel
theorem d14_3 : decode jdk_43_method_2_code 3 = .ok (.invokestatic 9, 3) := by decide +kernel
theorem d14_6 : decode jdk_43_method_2_code 6 = .ok (.aload_n 0, 1) := by decide +kernel
theorem d14_7 : decode jdk_43_method_2_code 7 = .ok (.iload_n 1, 1) := by decide +kernel
theorem d14_8 : decode jdk_43_method_2_code 8 = .ok (.baload, 1) := by decide +kernel
theorem d14_9 : decode jdk_43_method_2_code 9 = .ok (.sipush 255, 3) := by decide +kernel
theorem d14_12 : decode jdk_43_method_2_code 12 = .ok (.iand, 1) := by decide +kernel
theorem d14_13 : decode jdk_43_method_2_code 13 = .ok (.i2c, 1) := by decide +kernel
theorem d14_14 : decode jdk_43_method_2_code 14 = .ok (.ireturn, 1) := by decide +kernel
theorem pn_3 : plainName "java/lang/StringLatin1" = true := by first | (simp [plainName, overriddenIn]; done) | decide +kernel
theorem ef_14c0n4i0 (m : MethodId) (x0 : Addr) : entryFrame m #[(.ref x0), (.int 0)] 2 = mkF m 0 #[.val (.ref x0), .val (.int 0)] [] := by first | (simp [entryFrame, mkF, argsToLocals, Value.category]; done) | rfl
def f_l1charAtc0n4i0 (b0 b1 b2 b3 : Int32) : Int32 := (((b0 &&& (255 : Int32)).toUInt32.toUInt16.toUInt32.toInt32).toUInt32.toUInt16.toUInt32.toInt32)
def Q14c0n4i0 (Z : State) (o0 : Addr) (k : ClassId) (b0 b1 b2 b3 : Int32) (vf : Value) (h0 : Heap) (n0 : Nat) (v : Option Value) (h : Heap) (L : List Loc) : Prop := v = some (.int (f_l1charAtc0n4i0 b0 b1 b2 b3)) ∧ Fr n0 L ∧ h = h0
set_option maxRecDepth 65536 in
set_option maxHeartbeats 40000000 in
theorem rm14c0n4i0 (l : Launch) (Z : State) (a0 : Array Value) (hw : ∀ d ∈ tables_1, d.before a0 Z = true) (ws : List Jvm.Cond) (o0 : Addr) (k : ClassId) (b0 b1 b2 b3 : Int32) (vf : Value) (h0 : Heap) (n0 : Nat) (Z0 : n0 ≤ h0.size) (V : Arv Z h0 o0 k .byte (4 : Int32) [(.int b0), (.int b1), (.int b2), (.int b3)] (.int 0)) (S_f : Sta Z h0 "jdk/internal/util/Preconditions" "SIOOBE_FORMATTER" "Ljava/util/function/BiFunction;" vf) (hvf : vf.isRef = true) :
    MetFree l (⟨"java/lang/StringLatin1", "charAt", "([BI)C"⟩ : MethodName) (head1 (Jvm.Cond.code (⟨"java/lang/StringLatin1", "charAt", "([BI)C"⟩ : MethodName) jdk_43_method_2_code 2 (some .char) :: ws) (⟨2, 0, 0, 27⟩ : Room)) (fun a U => a = #[(.ref o0), (.int 0)] ∧ Z.Warmed39 U.vm ∧ U.heap = h0) (fun _ _ _ _ _ => True) (fun _ U o U' => ∃ v L, o = .returned v ∧ Q14c0n4i0 Z o0 k b0 b1 b2 b3 vf h0 n0 v U'.heap L ∧ FrameEnd U o U' L (⟨2, 0, 0, 27⟩ : Room).cells (⟨2, 0, 0, 27⟩ : Room).slots) := by
  refine MetFree.of_bodySF (plainFor_of_name pn_3) hisR ?_
  intro p e s m args below meth c s₁ Bd hml0 hP hK
  obtain ⟨rfl, hZ, hh⟩ := hP
  have hx := Bd.exec
  have hby := Bd.bytes
  have hml : c.maxLocals = 2 := hml0
  have hown : s.vm.findClass "java/lang/StringLatin1" = some m.cls := findClass_of_methodNamed Bd.named
  have hnm := (name_of_methodNamed Bd.named Bd.method).1
  have X0 : Stand p l e (⟨2, 0, 0, 27⟩ : Room) s m #[(.ref o0), (.int 0)] below meth c s₁ [] 0 0 := Stand.of_body Bd
  have e0 : s₁.heap = h0 := by rw [← hh, Bd.state]; rfl
  have N0 := Fr.nil n0
  have hret := Bd.returns
  have hlk := BodyLoose.notSynchronized Bd
  show own_Out p e below (fun o U' => ∃ v L, o = .returned v ∧ Q14c0n4i0 Z o0 k b0 b1 b2 b3 vf h0 n0 v U'.heap L ∧ FrameEnd s o U' L (⟨2, 0, 0, 27⟩ : Room).cells (⟨2, 0, 0, 27⟩ : Room).slots) (s₁.setTop (entryFrame m #[(.ref o0), (.int 0)] 2))
  refine own_of (fun t k => castTop (ef_14c0n4i0 m o0) k) ?_
  show own_Out p e below _ (s₁.setTop (mkF m 0 #[rv o0, iv 0] []))
  refine o_iloadN X0 hx hby d14_0 rfl (q := 1) rfl ?_
  refine o_aloadN X0 hx hby d14_1 rfl rfl (q := 2) rfl ?_
  refine o_lenV X0 hx hby hZ e0 V d14_2 (q := 3) rfl ?_
  obtain ⟨_, _, ⟨T1, L1, k1, n1⟩, -, X1, ⟨Lc1, hQ1, l1, y1, z1⟩, st1⟩ := Jvm.LawKit.callS X0 hx (y := (⟨"java/lang/String", "checkIndex", "(II)V"⟩ : MethodName)) hown (mvT hZ (w_ hw 64 rfl)) (mvT hZ (w_ hw 65 rfl)) (mvT hZ (w_ hw 8 rfl)) (mvT hZ (w_ hw 66 rfl)) (by decide) (backOf (W := 0) (rm15i0n4 l Z a0 hw [] vf h0 n0 Z0 S_f hvf) hZ (w_ hw 66 rfl) (w_ hw 8 rfl) (by decide) (by decide)) (g := (mkF m 3 #[rv o0, iv 0] [.int 4, .int 0])) rfl (by rw [hml]; rfl) (argsL := [(.int 0), (.int 4)]) (rest := []) (lenOf pd_1 rfl) rfl (by show 2 * 0 + _ ≤ _; exact Nat.le_of_eq rfl) (hb hby d14_3) (fun _ _ => ⟨rfl, e0, (by decide : 0 + 0 ≤ _), (by decide : 0 + 0 ≤ _)⟩)
  dsimp only [Pt.U, Pt.locs, Pt.cells, Pt.slots] at X1 l1 y1 z1 st1 hQ1
  subst l1 y1 z1
  obtain ⟨rfl, N1q, hh1⟩ := hQ1
  have N1 := Fr.app N0 N1q
  refine own_of st1 ?_
  show own_Out p e below _ (T1.setTop (mkF m 6 #[rv o0, iv 0] []))
  refine o_aloadN X1 hx hby d14_6 rfl rfl (q := 7) rfl ?_
  refine o_iloadN X1 hx hby d14_7 rfl (q := 8) rfl ?_
  refine o_baV X1 hx hby hZ hh1 V ⟨by decide, by decide⟩ (v := .int b0) rfl d14_8 (q := 9) rfl ?_
  refine o_sipush X1 hx hby d14_9 (z := 255) rfl (q := 12) rfl ?_
  refine o_iand X1 hx hby d14_12 rfl (q := 13) rfl ?_
  refine o_i2c X1 hx hby d14_13 rfl (q := 14) rfl ?_
  exact own_outN X1 hx hlk (t := .char) hret (by simp) (hb hby d14_14) (z' := (((b0 &&& (255 : Int32)).toUInt32.toUInt16.toUInt32.toInt32).toUInt32.toUInt16.toUInt32.toInt32)) rfl (Q := Q14c0n4i0 Z o0 k b0 b1 b2 b3 vf h0 n0) ⟨by simp only [f_l1charAtc0n4i0], N1, hh1⟩ (by decide) (by decide)
theorem pd_2 : parseMethodDescriptor "()Z" = some ⟨[], some .boolean⟩ := by decide +kernel
theorem pd_3 : parseMethodDescriptor "([BI)C" = some ⟨[(.array .byte), .int], some .char⟩ := by decide +kernel
theorem d12_0 : decode jdk_42_method_56_code 0 = .ok (.aload_n 0, 1) := by decide +kernel
theorem d12_1 : decode jdk_42_method_56_code 1 = .ok (.invokevirtual 492, 3) := by decide +kernel
theorem d12_4 : decode jdk_42_method_56_code 4 = .ok (.ifCond .eq 12, 3) := by decide +kernel
theorem d12_7 : decode jdk_42_method_56_code 7 = .ok (.aload_n 0, 1) := by decide +kernel
theorem d12_8 : decode jdk_42_method_56_code 8 = .ok (.getfield 9, 3) := by decide +kernel
theorem d12_11 : decode jdk_42_method_56_code 11 = .ok (.iload_n 1, 1) := by decide +kernel
theorem d12_12 : decode jdk_42_method_56_code 12 = .ok (.invokestatic 495, 3) := by decide +kernel
theorem d12_15 : decode jdk_42_method_56_code 15 = .ok (.ireturn, 1) := by decide +kernel
theorem ef_12c0n4i0 (m : MethodId) (x0 : Addr) : entryFrame m #[(.ref x0), (.int 0)] 2 = mkF m 0 #[.val (.ref x0), .val (.int 0)] [] := by first | (simp [entryFrame, mkF, argsToLocals, Value.category]; done) | rfl
def f_charAtc0n4i0 (b0 b1 b2 b3 cs : Int32) : Int32 := ((f_l1charAtc0n4i0 b0 b1 b2 b3).toUInt32.toUInt16.toUInt32.toInt32)
def Q12c0n4i0 (Z : State) (o0 ob : Addr) (k : ClassId) (b0 b1 b2 b3 cs : Int32) (vf : Value) (h0 : Heap) (n0 : Nat) (v : Option Value) (h : Heap) (L : List Loc) : Prop := v = some (.int (f_charAtc0n4i0 b0 b1 b2 b3 cs)) ∧ Fr n0 L ∧ h = h0
set_option maxRecDepth 65536 in
set_option maxHeartbeats 40000000 in
theorem rm12c0n4i0 (l : Launch) (Z : State) (a0 : Array Value) (hw : ∀ d ∈ tables_1, d.before a0 Z = true) (ws : List Jvm.Cond) (o0 ob : Addr) (k : ClassId) (b0 b1 b2 b3 cs : Int32) (vf : Value) (h0 : Heap) (n0 : Nat) (Z0 : n0 ≤ h0.size) (E : Exa Z h0 o0 "java/lang/String") (Fv : Fld Z h0 o0 "java/lang/String" "value" "[B" (.ref ob)) (Fc : Fld Z h0 o0 "java/lang/String" "coder" "B" (.int 0)) (V : Arv Z h0 ob k .byte (4 : Int32) [(.int b0), (.int b1), (.int b2), (.int b3)] (.int 0)) (S_cs : Sta Z h0 "java/lang/String" "COMPACT_STRINGS" "Z" (.int cs)) (hcs : ¬ (cs = (0 : Int32))) (S_f : Sta Z h0 "jdk/internal/util/Preconditions" "SIOOBE_FORMATTER" "Ljava/util/function/BiFunction;" vf) (hvf : vf.isRef = true) :
    MetFree l (⟨"java/lang/String", "charAt", "(I)C"⟩ : MethodName) (head1 (Jvm.Cond.code (⟨"java/lang/String", "charAt", "(I)C"⟩ : MethodName) jdk_42_method_56_code 2 (some .char) :: ws) (⟨3, 0, 0, 40⟩ : Room)) (fun a U => a = #[(.ref o0), (.int 0)] ∧ Z.Warmed39 U.vm ∧ U.heap = h0) (fun _ _ _ _ _ => True) (fun _ U o U' => ∃ v L, o = .returned v ∧ Q12c0n4i0 Z o0 ob k b0 b1 b2 b3 cs vf h0 n0 v U'.heap L ∧ FrameEnd U o U' L (⟨3, 0, 0, 40⟩ : Room).cells (⟨3, 0, 0, 40⟩ : Room).slots) := by
  refine MetFree.of_bodySF (plainFor_of_name pn_1) hisR ?_
  intro p e s m args below meth c s₁ Bd hml0 hP hK
  obtain ⟨rfl, hZ, hh⟩ := hP
  have hx := Bd.exec
  have hby := Bd.bytes
  have hml : c.maxLocals = 2 := hml0
  have hown : s.vm.findClass "java/lang/String" = some m.cls := findClass_of_methodNamed Bd.named
  have hnm := (name_of_methodNamed Bd.named Bd.method).1
  have X0 : Stand p l e (⟨3, 0, 0, 40⟩ : Room) s m #[(.ref o0), (.int 0)] below meth c s₁ [] 0 0 := Stand.of_body Bd
  have e0 : s₁.heap = h0 := by rw [← hh, Bd.state]; rfl
  have N0 := Fr.nil n0
  have hret := Bd.returns
  have hlk := BodyLoose.notSynchronized Bd
  show own_Out p e below (fun o U' => ∃ v L, o = .returned v ∧ Q12c0n4i0 Z o0 ob k b0 b1 b2 b3 cs vf h0 n0 v U'.heap L ∧ FrameEnd s o U' L (⟨3, 0, 0, 40⟩ : Room).cells (⟨3, 0, 0, 40⟩ : Room).slots) (s₁.setTop (entryFrame m #[(.ref o0), (.int 0)] 2))
  refine own_of (fun t k => castTop (ef_12c0n4i0 m o0) k) ?_
  show own_Out p e below _ (s₁.setTop (mkF m 0 #[rv o0, iv 0] []))
  refine o_aloadN X0 hx hby d12_0 rfl rfl (q := 1) rfl ?_
  obtain ⟨cq1, kq1, q1a, q1b, q1c⟩ := isOf hZ e0 E
  obtain ⟨_, _, ⟨T1, L1, k1, n1⟩, -, X1, ⟨Lc1, hQ1, l1, y1, z1⟩, st1⟩ := X0.virtualBack hx (y := (⟨"java/lang/String", "isLatin1", "()Z"⟩ : MethodName)) (z := (⟨"java/lang/String", "isLatin1", "()Z"⟩ : MethodName)) hown (mvT hZ (w_ hw 55 rfl)) (mvT hZ (w_ hw 56 rfl)) (notFace_of_selects (args := #[]) (mvT hZ (w_ hw 58 rfl))) (mvT hZ (w_ hw 58 rfl)) (mvT hZ (w_ hw 57 rfl)) (by decide) (backOf (W := 0) (rm13c0n4 l Z a0 hw [] o0 ob k b0 b1 b2 b3 cs h0 n0 Z0 E Fv Fc V S_cs hcs) hZ (w_ hw 59 rfl) (w_ hw 8 rfl) (by decide) (by decide)) q1a q1c (g := (mkF m 1 #[rv o0, iv 0] [.ref o0])) rfl (by rw [hml]; rfl) (Steps.refl _) (argsL := []) (rest := []) (lenOf pd_2 rfl) rfl (by show 2 * 0 + _ ≤ _; exact Nat.le_of_eq rfl) (hb hby d12_1) (fun _ _ => ⟨rfl, e0, (by decide : 0 + 0 ≤ _), (by decide : 0 + 0 ≤ _)⟩)
  dsimp only [Pt.U, Pt.locs, Pt.cells, Pt.slots] at X1 l1 y1 z1 st1 hQ1
  subst l1 y1 z1
  obtain ⟨rfl, N1q, hh1⟩ := hQ1
  have N1 := Fr.app N0 N1q
  refine own_of (fun _ k => st1.trans k) ?_
  show own_Out p e below _ (T1.setTop (mkF m 4 #[rv o0, iv 0] [.int 1]))
  refine o_ifN X1 hx hby d12_4 ((if0 _ _).trans (feq (by decide : ¬ ((1 : Int32) = (0 : Int32)))).1) (q := 7) rfl ?_
  refine o_aloadN X1 hx hby d12_7 rfl rfl (q := 8) rfl ?_
  refine o_getF X1 hx hZ hown hby (w_ hw 33 rfl) Via.refl hh1 Fv d12_8 (q := 11) rfl fun T2 X2 e2 => ?_
  refine o_iloadN X2 hx hby d12_11 rfl (q := 12) rfl ?_
  obtain ⟨_, _, ⟨T3, L3, k3, n3⟩, -, X3, ⟨Lc3, hQ3, l3, y3, z3⟩, st3⟩ := Jvm.LawKit.callS X2 hx (y := (⟨"java/lang/StringLatin1", "charAt", "([BI)C"⟩ : MethodName)) hown (mvT hZ (w_ hw 60 rfl)) (mvT hZ (w_ hw 61 rfl)) (mvT hZ (w_ hw 62 rfl)) (mvT hZ (w_ hw 63 rfl)) (by decide) (backOf (W := 0) (rm14c0n4i0 l Z a0 hw [] ob k b0 b1 b2 b3 vf h0 n0 Z0 V S_f hvf) hZ (w_ hw 63 rfl) (w_ hw 62 rfl) (by decide) (by decide)) (g := (mkF m 12 #[rv o0, iv 0] [.int 0, .ref ob])) rfl (by rw [hml]; rfl) (argsL := [(.ref ob), (.int 0)]) (rest := []) (lenOf pd_3 rfl) rfl (by show 2 * 0 + _ ≤ _; exact Nat.le_of_eq rfl) (hb hby d12_12) (fun _ _ => ⟨rfl, e2, (by decide : 0 + 0 ≤ _), (by decide : 0 + 0 ≤ _)⟩)
  dsimp only [Pt.U, Pt.locs, Pt.cells, Pt.slots] at X3 l3 y3 z3 st3 hQ3
  subst l3 y3 z3
  obtain ⟨rfl, N3q, hh3⟩ := hQ3
  have N3 := Fr.app N1 N3q
  refine own_of st3 ?_
  show own_Out p e below _ (T3.setTop (mkF m 15 #[rv o0, iv 0] [.int (f_l1charAtc0n4i0 b0 b1 b2 b3)]))
  exact own_outN X3 hx hlk (t := .char) hret (by simp) (hb hby d12_15) (z' := ((f_l1charAtc0n4i0 b0 b1 b2 b3).toUInt32.toUInt16.toUInt32.toInt32)) rfl (Q := Q12c0n4i0 Z o0 ob k b0 b1 b2 b3 cs vf h0 n0) ⟨by simp only [f_charAtc0n4i0, if_neg hcs], N3, hh3⟩ (by decide) (by decide)
theorem ef_16i1n4n (m : MethodId)  : entryFrame m #[(.int 1), (.int 4), .null] 3 = mkF m 0 #[.val (.int 1), .val (.int 4), .val .null] [] := by first | (simp [entryFrame, mkF, argsToLocals, Value.category]; done) | rfl
def Q16i1n4n (Z : State)  (h0 : Heap) (n0 : Nat) (v : Option Value) (h : Heap) (L : List Loc) : Prop := v = some (.int 1) ∧ Fr n0 L ∧ h = h0
set_option maxRecDepth 65536 in
set_option maxHeartbeats 40000000 in
theorem rm16i1n4n (l : Launch) (Z : State) (a0 : Array Value) (hw : ∀ d ∈ tables_1, d.before a0 Z = true) (ws : List Jvm.Cond)  (h0 : Heap) (n0 : Nat) (Z0 : n0 ≤ h0.size) :
    MetFree l (⟨"jdk/internal/util/Preconditions", "checkIndex", "(IILjava/util/function/BiFunction;)I"⟩ : MethodName) (head1 (Jvm.Cond.code (⟨"jdk/internal/util/Preconditions", "checkIndex", "(IILjava/util/function/BiFunction;)I"⟩ : MethodName) jdk_41_method_11_code 3 (some .int) :: ws) (⟨0, 0, 0, 0⟩ : Room)) (fun a U => a = #[(.int 1), (.int 4), .null] ∧ Z.Warmed39 U.vm ∧ U.heap = h0) (fun _ _ _ _ _ => True) (fun _ U o U' => ∃ v L, o = .returned v ∧ Q16i1n4n Z  h0 n0 v U'.heap L ∧ FrameEnd U o U' L (⟨0, 0, 0, 0⟩ : Room).cells (⟨0, 0, 0, 0⟩ : Room).slots) := by
  refine MetFree.of_bodySF (plainFor_of_name pn_2) hisR ?_
  intro p e s m args below meth c s₁ Bd hml0 hP hK
  obtain ⟨rfl, hZ, hh⟩ := hP
  have hx := Bd.exec
  have hby := Bd.bytes
  have hml : c.maxLocals = 3 := hml0
  have hown : s.vm.findClass "jdk/internal/util/Preconditions" = some m.cls := findClass_of_methodNamed Bd.named
  have hnm := (name_of_methodNamed Bd.named Bd.method).1
  have X0 : Stand p l e (⟨0, 0, 0, 0⟩ : Room) s m #[(.int 1), (.int 4), .null] below meth c s₁ [] 0 0 := Stand.of_body Bd
  have e0 : s₁.heap = h0 := by rw [← hh, Bd.state]; rfl
  have N0 := Fr.nil n0
  have hret := Bd.returns
  have hlk := BodyLoose.notSynchronized Bd
  show own_Out p e below (fun o U' => ∃ v L, o = .returned v ∧ Q16i1n4n Z  h0 n0 v U'.heap L ∧ FrameEnd s o U' L (⟨0, 0, 0, 0⟩ : Room).cells (⟨0, 0, 0, 0⟩ : Room).slots) (s₁.setTop (entryFrame m #[(.int 1), (.int 4), .null] 3))
  refine own_of (fun t k => castTop (ef_16i1n4n m ) k) ?_
  show own_Out p e below _ (s₁.setTop (mkF m 0 #[iv 1, iv 4, .val (.null)] []))
  refine o_iloadN X0 hx hby d16_0 rfl (q := 1) rfl ?_
  refine o_ifN X0 hx hby d16_1 ((if0 _ _).trans (flt (by decide : ¬ ((1 : Int32) < (0 : Int32)))).1) (q := 4) rfl ?_
  refine o_iloadN X0 hx hby d16_4 rfl (q := 5) rfl ?_
  refine o_iloadN X0 hx hby d16_5 rfl (q := 6) rfl ?_
  refine o_icY X0 hx hby d16_6 (tlt (by decide : (1 : Int32) < (4 : Int32))).1 (by decide) (q := 16) (by decide) ?_
  refine o_iloadN X0 hx hby d16_16 rfl (q := 17) rfl ?_
  exact own_outI X0 hx hlk hret (hb hby d16_17) (Q := Q16i1n4n Z  h0 n0) ⟨rfl, N0, e0⟩ (by decide) (by decide)
theorem ef_16i1n4r (m : MethodId) (x2 : Addr) : entryFrame m #[(.int 1), (.int 4), (.ref x2)] 3 = mkF m 0 #[.val (.int 1), .val (.int 4), .val (.ref x2)] [] := by first | (simp [entryFrame, mkF, argsToLocals, Value.category]; done) | rfl
def Q16i1n4r (Z : State) (o2 : Addr) (h0 : Heap) (n0 : Nat) (v : Option Value) (h : Heap) (L : List Loc) : Prop := v = some (.int 1) ∧ Fr n0 L ∧ h = h0
set_option maxRecDepth 65536 in
set_option maxHeartbeats 40000000 in
theorem rm16i1n4r (l : Launch) (Z : State) (a0 : Array Value) (hw : ∀ d ∈ tables_1, d.before a0 Z = true) (ws : List Jvm.Cond) (o2 : Addr) (h0 : Heap) (n0 : Nat) (Z0 : n0 ≤ h0.size) :
    MetFree l (⟨"jdk/internal/util/Preconditions", "checkIndex", "(IILjava/util/function/BiFunction;)I"⟩ : MethodName) (head1 (Jvm.Cond.code (⟨"jdk/internal/util/Preconditions", "checkIndex", "(IILjava/util/function/BiFunction;)I"⟩ : MethodName) jdk_41_method_11_code 3 (some .int) :: ws) (⟨0, 0, 0, 0⟩ : Room)) (fun a U => a = #[(.int 1), (.int 4), (.ref o2)] ∧ Z.Warmed39 U.vm ∧ U.heap = h0) (fun _ _ _ _ _ => True) (fun _ U o U' => ∃ v L, o = .returned v ∧ Q16i1n4r Z o2 h0 n0 v U'.heap L ∧ FrameEnd U o U' L (⟨0, 0, 0, 0⟩ : Room).cells (⟨0, 0, 0, 0⟩ : Room).slots) := by
  refine MetFree.of_bodySF (plainFor_of_name pn_2) hisR ?_
  intro p e s m args below meth c s₁ Bd hml0 hP hK
  obtain ⟨rfl, hZ, hh⟩ := hP
  have hx := Bd.exec
  have hby := Bd.bytes
  have hml : c.maxLocals = 3 := hml0
  have hown : s.vm.findClass "jdk/internal/util/Preconditions" = some m.cls := findClass_of_methodNamed Bd.named
  have hnm := (name_of_methodNamed Bd.named Bd.method).1
  have X0 : Stand p l e (⟨0, 0, 0, 0⟩ : Room) s m #[(.int 1), (.int 4), (.ref o2)] below meth c s₁ [] 0 0 := Stand.of_body Bd
  have e0 : s₁.heap = h0 := by rw [← hh, Bd.state]; rfl
  have N0 := Fr.nil n0
  have hret := Bd.returns
  have hlk := BodyLoose.notSynchronized Bd
  show own_Out p e below (fun o U' => ∃ v L, o = .returned v ∧ Q16i1n4r Z o2 h0 n0 v U'.heap L ∧ FrameEnd s o U' L (⟨0, 0, 0, 0⟩ : Room).cells (⟨0, 0, 0, 0⟩ : Room).slots) (s₁.setTop (entryFrame m #[(.int 1), (.int 4), (.ref o2)] 3))
  refine own_of (fun t k => castTop (ef_16i1n4r m o2) k) ?_
  show own_Out p e below _ (s₁.setTop (mkF m 0 #[iv 1, iv 4, rv o2] []))
  refine o_iloadN X0 hx hby d16_0 rfl (q := 1) rfl ?_
  refine o_ifN X0 hx hby d16_1 ((if0 _ _).trans (flt (by decide : ¬ ((1 : Int32) < (0 : Int32)))).1) (q := 4) rfl ?_
  refine o_iloadN X0 hx hby d16_4 rfl (q := 5) rfl ?_
  refine o_iloadN X0 hx hby d16_5 rfl (q := 6) rfl ?_
  refine o_icY X0 hx hby d16_6 (tlt (by decide : (1 : Int32) < (4 : Int32))).1 (by decide) (q := 16) (by decide) ?_
  refine o_iloadN X0 hx hby d16_16 rfl (q := 17) rfl ?_
  exact own_outI X0 hx hlk hret (hb hby d16_17) (Q := Q16i1n4r Z o2 h0 n0) ⟨rfl, N0, e0⟩ (by decide) (by decide)
theorem ef_15i1n4 (m : MethodId)  : entryFrame m #[(.int 1), (.int 4)] 2 = mkF m 0 #[.val (.int 1), .val (.int 4)] [] := by first | (simp [entryFrame, mkF, argsToLocals, Value.category]; done) | rfl
def Q15i1n4 (Z : State) (vf : Value) (h0 : Heap) (n0 : Nat) (v : Option Value) (h : Heap) (L : List Loc) : Prop := v = none ∧ Fr n0 L ∧ h = h0
set_option maxRecDepth 65536 in
set_option maxHeartbeats 40000000 in
theorem rm15i1n4 (l : Launch) (Z : State) (a0 : Array Value) (hw : ∀ d ∈ tables_1, d.before a0 Z = true) (ws : List Jvm.Cond) (vf : Value) (h0 : Heap) (n0 : Nat) (Z0 : n0 ≤ h0.size) (S_f : Sta Z h0 "jdk/internal/util/Preconditions" "SIOOBE_FORMATTER" "Ljava/util/function/BiFunction;" vf) (hvf : vf.isRef = true) :
    MetFree l (⟨"java/lang/String", "checkIndex", "(II)V"⟩ : MethodName) (head1 (Jvm.Cond.code (⟨"java/lang/String", "checkIndex", "(II)V"⟩ : MethodName) jdk_42_method_155_code 2 none :: ws) (⟨1, 0, 0, 14⟩ : Room)) (fun a U => a = #[(.int 1), (.int 4)] ∧ Z.Warmed39 U.vm ∧ U.heap = h0) (fun _ _ _ _ _ => True) (fun _ U o U' => ∃ v L, o = .returned v ∧ Q15i1n4 Z vf h0 n0 v U'.heap L ∧ FrameEnd U o U' L (⟨1, 0, 0, 14⟩ : Room).cells (⟨1, 0, 0, 14⟩ : Room).slots) := by
  refine MetFree.of_bodySF (plainFor_of_name pn_1) hisR ?_
  intro p e s m args below meth c s₁ Bd hml0 hP hK
  obtain ⟨rfl, hZ, hh⟩ := hP
  have hx := Bd.exec
  have hby := Bd.bytes
  have hml : c.maxLocals = 2 := hml0
  have hown : s.vm.findClass "java/lang/String" = some m.cls := findClass_of_methodNamed Bd.named
  have hnm := (name_of_methodNamed Bd.named Bd.method).1
  have X0 : Stand p l e (⟨1, 0, 0, 14⟩ : Room) s m #[(.int 1), (.int 4)] below meth c s₁ [] 0 0 := Stand.of_body Bd
  have e0 : s₁.heap = h0 := by rw [← hh, Bd.state]; rfl
  have N0 := Fr.nil n0
  have hret := Bd.returns
  have hlk := BodyLoose.notSynchronized Bd
  show own_Out p e below (fun o U' => ∃ v L, o = .returned v ∧ Q15i1n4 Z vf h0 n0 v U'.heap L ∧ FrameEnd s o U' L (⟨1, 0, 0, 14⟩ : Room).cells (⟨1, 0, 0, 14⟩ : Room).slots) (s₁.setTop (entryFrame m #[(.int 1), (.int 4)] 2))
  refine own_of (fun t k => castTop (ef_15i1n4 m ) k) ?_
  show own_Out p e below _ (s₁.setTop (mkF m 0 #[iv 1, iv 4] []))
  rcases ref_cases hvf with hv | ⟨af, hv⟩
  · rw [hv] at S_f
    refine o_iloadN X0 hx hby d15_0 rfl (q := 1) rfl ?_
    refine o_iloadN X0 hx hby d15_1 rfl (q := 2) rfl ?_
    obtain ⟨T1, X1, e1, st1⟩ := getS2 X0 hx hZ hown (host := "") (Or.inl (w_ hw 67 rfl)) Via.refl e0 S_f (g := (mkF m 2 #[iv 1, iv 4] [.int 4, .int 1])) rfl (hb hby d15_2)
    refine own_of st1 ?_
    show own_Out p e below _ (T1.setTop (mkF m 5 #[iv 1, iv 4] [.null, .int 4, .int 1]))
    obtain ⟨_, _, ⟨T2, L2, k2, n2⟩, -, X2, ⟨Lc2, hQ2, l2, y2, z2⟩, st2⟩ := Jvm.LawKit.callS X1 hx (y := (⟨"jdk/internal/util/Preconditions", "checkIndex", "(IILjava/util/function/BiFunction;)I"⟩ : MethodName)) hown (mvT hZ (w_ hw 69 rfl)) (mvT hZ (w_ hw 70 rfl)) (mvT hZ (w_ hw 68 rfl)) (mvT hZ (w_ hw 71 rfl)) (by decide) (backOf (W := 0) (rm16i1n4n l Z a0 hw []  h0 n0 Z0 ) hZ (w_ hw 71 rfl) (w_ hw 68 rfl) (by decide) (by decide)) (g := (mkF m 5 #[iv 1, iv 4] [.null, .int 4, .int 1])) rfl (by rw [hml]; rfl) (argsL := [(.int 1), (.int 4), .null]) (rest := []) (lenOf pd_0 rfl) rfl (by show 2 * 0 + _ ≤ _; exact Nat.le_of_eq rfl) (hb hby d15_5) (fun _ _ => ⟨rfl, e1, (by decide : 0 + 0 ≤ _), (by decide : 0 + 0 ≤ _)⟩)
    dsimp only [Pt.U, Pt.locs, Pt.cells, Pt.slots] at X2 l2 y2 z2 st2 hQ2
    subst l2 y2 z2
    obtain ⟨rfl, N2q, hh2⟩ := hQ2
    have N2 := Fr.app N0 N2q
    refine own_of st2 ?_
    show own_Out p e below _ (T2.setTop (mkF m 8 #[iv 1, iv 4] [.int 1]))
    refine o_pop X2 hx hby d15_8 rfl (q := 9) rfl ?_
    exact own_outV X2 hx hlk hret (hb hby d15_9) (Q := Q15i1n4 Z vf h0 n0) ⟨rfl, N2, hh2⟩ (by decide) (by decide)
  · rw [hv] at S_f
    refine o_iloadN X0 hx hby d15_0 rfl (q := 1) rfl ?_
    refine o_iloadN X0 hx hby d15_1 rfl (q := 2) rfl ?_
    obtain ⟨T3, X3, e3, st3⟩ := getS2 X0 hx hZ hown (host := "") (Or.inl (w_ hw 67 rfl)) Via.refl e0 S_f (g := (mkF m 2 #[iv 1, iv 4] [.int 4, .int 1])) rfl (hb hby d15_2)
    refine own_of st3 ?_
    show own_Out p e below _ (T3.setTop (mkF m 5 #[iv 1, iv 4] [.ref af, .int 4, .int 1]))
    obtain ⟨_, _, ⟨T4, L4, k4, n4⟩, -, X4, ⟨Lc4, hQ4, l4, y4, z4⟩, st4⟩ := Jvm.LawKit.callS X3 hx (y := (⟨"jdk/internal/util/Preconditions", "checkIndex", "(IILjava/util/function/BiFunction;)I"⟩ : MethodName)) hown (mvT hZ (w_ hw 69 rfl)) (mvT hZ (w_ hw 70 rfl)) (mvT hZ (w_ hw 68 rfl)) (mvT hZ (w_ hw 71 rfl)) (by decide) (backOf (W := 0) (rm16i1n4r l Z a0 hw [] af h0 n0 Z0 ) hZ (w_ hw 71 rfl) (w_ hw 68 rfl) (by decide) (by decide)) (g := (mkF m 5 #[iv 1, iv 4] [.ref af, .int 4, .int 1])) rfl (by rw [hml]; rfl) (argsL := [(.int 1), (.int 4), (.ref af)]) (rest := []) (lenOf pd_0 rfl) rfl (by show 2 * 0 + _ ≤ _; exact Nat.le_of_eq rfl) (hb hby d15_5) (fun _ _ => ⟨rfl, e3, (by decide : 0 + 0 ≤ _), (by decide : 0 + 0 ≤ _)⟩)
    dsimp only [Pt.U, Pt.locs, Pt.cells, Pt.slots] at X4 l4 y4 z4 st4 hQ4
    subst l4 y4 z4
    obtain ⟨rfl, N4q, hh4⟩ := hQ4
    have N4 := Fr.app N0 N4q
    refine own_of st4 ?_
    show own_Out p e below _ (T4.setTop (mkF m 8 #[iv 1, iv 4] [.int 1]))
    refine o_pop X4 hx hby d15_8 rfl (q := 9) rfl ?_
    exact own_outV X4 hx hlk hret (hb hby d15_9) (Q := Q15i1n4 Z vf h0 n0) ⟨rfl, N4, hh4⟩ (by decide) (by decide)
theorem ef_14c0n4i1 (m : MethodId) (x0 : Addr) : entryFrame m #[(.ref x0), (.int 1)] 2 = mkF m 0 #[.val (.ref x0), .val (.int 1)] [] := by first | (simp [entryFrame, mkF, argsToLocals, Value.category]; done) | rfl
def f_l1charAtc0n4i1 (b0 b1 b2 b3 : Int32) : Int32 := (((b1 &&& (255 : Int32)).toUInt32.toUInt16.toUInt32.toInt32).toUInt32.toUInt16.toUInt32.toInt32)
def Q14c0n4i1 (Z : State) (o0 : Addr) (k : ClassId) (b0 b1 b2 b3 : Int32) (vf : Value) (h0 : Heap) (n0 : Nat) (v : Option Value) (h : Heap) (L : List Loc) : Prop := v = some (.int (f_l1charAtc0n4i1 b0 b1 b2 b3)) ∧ Fr n0 L ∧ h = h0
set_option maxRecDepth 65536 in
set_option maxHeartbeats 40000000 in
theorem rm14c0n4i1 (l : Launch) (Z : State) (a0 : Array Value) (hw : ∀ d ∈ tables_1, d.before a0 Z = true) (ws : List Jvm.Cond) (o0 : Addr) (k : ClassId) (b0 b1 b2 b3 : Int32) (vf : Value) (h0 : Heap) (n0 : Nat) (Z0 : n0 ≤ h0.size) (V : Arv Z h0 o0 k .byte (4 : Int32) [(.int b0), (.int b1), (.int b2), (.int b3)] (.int 0)) (S_f : Sta Z h0 "jdk/internal/util/Preconditions" "SIOOBE_FORMATTER" "Ljava/util/function/BiFunction;" vf) (hvf : vf.isRef = true) :
    MetFree l (⟨"java/lang/StringLatin1", "charAt", "([BI)C"⟩ : MethodName) (head1 (Jvm.Cond.code (⟨"java/lang/StringLatin1", "charAt", "([BI)C"⟩ : MethodName) jdk_43_method_2_code 2 (some .char) :: ws) (⟨2, 0, 0, 27⟩ : Room)) (fun a U => a = #[(.ref o0), (.int 1)] ∧ Z.Warmed39 U.vm ∧ U.heap = h0) (fun _ _ _ _ _ => True) (fun _ U o U' => ∃ v L, o = .returned v ∧ Q14c0n4i1 Z o0 k b0 b1 b2 b3 vf h0 n0 v U'.heap L ∧ FrameEnd U o U' L (⟨2, 0, 0, 27⟩ : Room).cells (⟨2, 0, 0, 27⟩ : Room).slots) := by
  refine MetFree.of_bodySF (plainFor_of_name pn_3) hisR ?_
  intro p e s m args below meth c s₁ Bd hml0 hP hK
  obtain ⟨rfl, hZ, hh⟩ := hP
  have hx := Bd.exec
  have hby := Bd.bytes
  have hml : c.maxLocals = 2 := hml0
  have hown : s.vm.findClass "java/lang/StringLatin1" = some m.cls := findClass_of_methodNamed Bd.named
  have hnm := (name_of_methodNamed Bd.named Bd.method).1
  have X0 : Stand p l e (⟨2, 0, 0, 27⟩ : Room) s m #[(.ref o0), (.int 1)] below meth c s₁ [] 0 0 := Stand.of_body Bd
  have e0 : s₁.heap = h0 := by rw [← hh, Bd.state]; rfl
  have N0 := Fr.nil n0
  have hret := Bd.returns
  have hlk := BodyLoose.notSynchronized Bd
  show own_Out p e below (fun o U' => ∃ v L, o = .returned v ∧ Q14c0n4i1 Z o0 k b0 b1 b2 b3 vf h0 n0 v U'.heap L ∧ FrameEnd s o U' L (⟨2, 0, 0, 27⟩ : Room).cells (⟨2, 0, 0, 27⟩ : Room).slots) (s₁.setTop (entryFrame m #[(.ref o0), (.int 1)] 2))
  refine own_of (fun t k => castTop (ef_14c0n4i1 m o0) k) ?_
  show own_Out p e below _ (s₁.setTop (mkF m 0 #[rv o0, iv 1] []))
  refine o_iloadN X0 hx hby d14_0 rfl (q := 1) rfl ?_
  refine o_aloadN X0 hx hby d14_1 rfl rfl (q := 2) rfl ?_
  refine o_lenV X0 hx hby hZ e0 V d14_2 (q := 3) rfl ?_
  obtain ⟨_, _, ⟨T1, L1, k1, n1⟩, -, X1, ⟨Lc1, hQ1, l1, y1, z1⟩, st1⟩ := Jvm.LawKit.callS X0 hx (y := (⟨"java/lang/String", "checkIndex", "(II)V"⟩ : MethodName)) hown (mvT hZ (w_ hw 64 rfl)) (mvT hZ (w_ hw 65 rfl)) (mvT hZ (w_ hw 8 rfl)) (mvT hZ (w_ hw 66 rfl)) (by decide) (backOf (W := 0) (rm15i1n4 l Z a0 hw [] vf h0 n0 Z0 S_f hvf) hZ (w_ hw 66 rfl) (w_ hw 8 rfl) (by decide) (by decide)) (g := (mkF m 3 #[rv o0, iv 1] [.int 4, .int 1])) rfl (by rw [hml]; rfl) (argsL := [(.int 1), (.int 4)]) (rest := []) (lenOf pd_1 rfl) rfl (by show 2 * 0 + _ ≤ _; exact Nat.le_of_eq rfl) (hb hby d14_3) (fun _ _ => ⟨rfl, e0, (by decide : 0 + 0 ≤ _), (by decide : 0 + 0 ≤ _)⟩)
  dsimp only [Pt.U, Pt.locs, Pt.cells, Pt.slots] at X1 l1 y1 z1 st1 hQ1
  subst l1 y1 z1
  obtain ⟨rfl, N1q, hh1⟩ := hQ1
  have N1 := Fr.app N0 N1q
  refine own_of st1 ?_
  show own_Out p e below _ (T1.setTop (mkF m 6 #[rv o0, iv 1] []))
  refine o_aloadN X1 hx hby d14_6 rfl rfl (q := 7) rfl ?_
  refine o_iloadN X1 hx hby d14_7 rfl (q := 8) rfl ?_
  refine o_baV X1 hx hby hZ hh1 V ⟨by decide, by decide⟩ (v := .int b1) rfl d14_8 (q := 9) rfl ?_
  refine o_sipush X1 hx hby d14_9 (z := 255) rfl (q := 12) rfl ?_
  refine o_iand X1 hx hby d14_12 rfl (q := 13) rfl ?_
  refine o_i2c X1 hx hby d14_13 rfl (q := 14) rfl ?_
  exact own_outN X1 hx hlk (t := .char) hret (by simp) (hb hby d14_14) (z' := (((b1 &&& (255 : Int32)).toUInt32.toUInt16.toUInt32.toInt32).toUInt32.toUInt16.toUInt32.toInt32)) rfl (Q := Q14c0n4i1 Z o0 k b0 b1 b2 b3 vf h0 n0) ⟨by simp only [f_l1charAtc0n4i1], N1, hh1⟩ (by decide) (by decide)
theorem ef_12c0n4i1 (m : MethodId) (x0 : Addr) : entryFrame m #[(.ref x0), (.int 1)] 2 = mkF m 0 #[.val (.ref x0), .val (.int 1)] [] := by first | (simp [entryFrame, mkF, argsToLocals, Value.category]; done) | rfl
def f_charAtc0n4i1 (b0 b1 b2 b3 cs : Int32) : Int32 := ((f_l1charAtc0n4i1 b0 b1 b2 b3).toUInt32.toUInt16.toUInt32.toInt32)
def Q12c0n4i1 (Z : State) (o0 ob : Addr) (k : ClassId) (b0 b1 b2 b3 cs : Int32) (vf : Value) (h0 : Heap) (n0 : Nat) (v : Option Value) (h : Heap) (L : List Loc) : Prop := v = some (.int (f_charAtc0n4i1 b0 b1 b2 b3 cs)) ∧ Fr n0 L ∧ h = h0
set_option maxRecDepth 65536 in
set_option maxHeartbeats 40000000 in
theorem rm12c0n4i1 (l : Launch) (Z : State) (a0 : Array Value) (hw : ∀ d ∈ tables_1, d.before a0 Z = true) (ws : List Jvm.Cond) (o0 ob : Addr) (k : ClassId) (b0 b1 b2 b3 cs : Int32) (vf : Value) (h0 : Heap) (n0 : Nat) (Z0 : n0 ≤ h0.size) (E : Exa Z h0 o0 "java/lang/String") (Fv : Fld Z h0 o0 "java/lang/String" "value" "[B" (.ref ob)) (Fc : Fld Z h0 o0 "java/lang/String" "coder" "B" (.int 0)) (V : Arv Z h0 ob k .byte (4 : Int32) [(.int b0), (.int b1), (.int b2), (.int b3)] (.int 0)) (S_cs : Sta Z h0 "java/lang/String" "COMPACT_STRINGS" "Z" (.int cs)) (hcs : ¬ (cs = (0 : Int32))) (S_f : Sta Z h0 "jdk/internal/util/Preconditions" "SIOOBE_FORMATTER" "Ljava/util/function/BiFunction;" vf) (hvf : vf.isRef = true) :
    MetFree l (⟨"java/lang/String", "charAt", "(I)C"⟩ : MethodName) (head1 (Jvm.Cond.code (⟨"java/lang/String", "charAt", "(I)C"⟩ : MethodName) jdk_42_method_56_code 2 (some .char) :: ws) (⟨3, 0, 0, 40⟩ : Room)) (fun a U => a = #[(.ref o0), (.int 1)] ∧ Z.Warmed39 U.vm ∧ U.heap = h0) (fun _ _ _ _ _ => True) (fun _ U o U' => ∃ v L, o = .returned v ∧ Q12c0n4i1 Z o0 ob k b0 b1 b2 b3 cs vf h0 n0 v U'.heap L ∧ FrameEnd U o U' L (⟨3, 0, 0, 40⟩ : Room).cells (⟨3, 0, 0, 40⟩ : Room).slots) := by
  refine MetFree.of_bodySF (plainFor_of_name pn_1) hisR ?_
  intro p e s m args below meth c s₁ Bd hml0 hP hK
  obtain ⟨rfl, hZ, hh⟩ := hP
  have hx := Bd.exec
  have hby := Bd.bytes
  have hml : c.maxLocals = 2 := hml0
  have hown : s.vm.findClass "java/lang/String" = some m.cls := findClass_of_methodNamed Bd.named
  have hnm := (name_of_methodNamed Bd.named Bd.method).1
  have X0 : Stand p l e (⟨3, 0, 0, 40⟩ : Room) s m #[(.ref o0), (.int 1)] below meth c s₁ [] 0 0 := Stand.of_body Bd
  have e0 : s₁.heap = h0 := by rw [← hh, Bd.state]; rfl
  have N0 := Fr.nil n0
  have hret := Bd.returns
  have hlk := BodyLoose.notSynchronized Bd
  show own_Out p e below (fun o U' => ∃ v L, o = .returned v ∧ Q12c0n4i1 Z o0 ob k b0 b1 b2 b3 cs vf h0 n0 v U'.heap L ∧ FrameEnd s o U' L (⟨3, 0, 0, 40⟩ : Room).cells (⟨3, 0, 0, 40⟩ : Room).slots) (s₁.setTop (entryFrame m #[(.ref o0), (.int 1)] 2))
  refine own_of (fun t k => castTop (ef_12c0n4i1 m o0) k) ?_
  show own_Out p e below _ (s₁.setTop (mkF m 0 #[rv o0, iv 1] []))
  refine o_aloadN X0 hx hby d12_0 rfl rfl (q := 1) rfl ?_
  obtain ⟨cq1, kq1, q1a, q1b, q1c⟩ := isOf hZ e0 E
  obtain ⟨_, _, ⟨T1, L1, k1, n1⟩, -, X1, ⟨Lc1, hQ1, l1, y1, z1⟩, st1⟩ := X0.virtualBack hx (y := (⟨"java/lang/String", "isLatin1", "()Z"⟩ : MethodName)) (z := (⟨"java/lang/String", "isLatin1", "()Z"⟩ : MethodName)) hown (mvT hZ (w_ hw 55 rfl)) (mvT hZ (w_ hw 56 rfl)) (notFace_of_selects (args := #[]) (mvT hZ (w_ hw 58 rfl))) (mvT hZ (w_ hw 58 rfl)) (mvT hZ (w_ hw 57 rfl)) (by decide) (backOf (W := 0) (rm13c0n4 l Z a0 hw [] o0 ob k b0 b1 b2 b3 cs h0 n0 Z0 E Fv Fc V S_cs hcs) hZ (w_ hw 59 rfl) (w_ hw 8 rfl) (by decide) (by decide)) q1a q1c (g := (mkF m 1 #[rv o0, iv 1] [.ref o0])) rfl (by rw [hml]; rfl) (Steps.refl _) (argsL := []) (rest := []) (lenOf pd_2 rfl) rfl (by show 2 * 0 + _ ≤ _; exact Nat.le_of_eq rfl) (hb hby d12_1) (fun _ _ => ⟨rfl, e0, (by decide : 0 + 0 ≤ _), (by decide : 0 + 0 ≤ _)⟩)
  dsimp only [Pt.U, Pt.locs, Pt.cells, Pt.slots] at X1 l1 y1 z1 st1 hQ1
  subst l1 y1 z1
  obtain ⟨rfl, N1q, hh1⟩ := hQ1
  have N1 := Fr.app N0 N1q
  refine own_of (fun _ k => st1.trans k) ?_
  show own_Out p e below _ (T1.setTop (mkF m 4 #[rv o0, iv 1] [.int 1]))
  refine o_ifN X1 hx hby d12_4 ((if0 _ _).trans (feq (by decide : ¬ ((1 : Int32) = (0 : Int32)))).1) (q := 7) rfl ?_
  refine o_aloadN X1 hx hby d12_7 rfl rfl (q := 8) rfl ?_
  refine o_getF X1 hx hZ hown hby (w_ hw 33 rfl) Via.refl hh1 Fv d12_8 (q := 11) rfl fun T2 X2 e2 => ?_
  refine o_iloadN X2 hx hby d12_11 rfl (q := 12) rfl ?_
  obtain ⟨_, _, ⟨T3, L3, k3, n3⟩, -, X3, ⟨Lc3, hQ3, l3, y3, z3⟩, st3⟩ := Jvm.LawKit.callS X2 hx (y := (⟨"java/lang/StringLatin1", "charAt", "([BI)C"⟩ : MethodName)) hown (mvT hZ (w_ hw 60 rfl)) (mvT hZ (w_ hw 61 rfl)) (mvT hZ (w_ hw 62 rfl)) (mvT hZ (w_ hw 63 rfl)) (by decide) (backOf (W := 0) (rm14c0n4i1 l Z a0 hw [] ob k b0 b1 b2 b3 vf h0 n0 Z0 V S_f hvf) hZ (w_ hw 63 rfl) (w_ hw 62 rfl) (by decide) (by decide)) (g := (mkF m 12 #[rv o0, iv 1] [.int 1, .ref ob])) rfl (by rw [hml]; rfl) (argsL := [(.ref ob), (.int 1)]) (rest := []) (lenOf pd_3 rfl) rfl (by show 2 * 0 + _ ≤ _; exact Nat.le_of_eq rfl) (hb hby d12_12) (fun _ _ => ⟨rfl, e2, (by decide : 0 + 0 ≤ _), (by decide : 0 + 0 ≤ _)⟩)
  dsimp only [Pt.U, Pt.locs, Pt.cells, Pt.slots] at X3 l3 y3 z3 st3 hQ3
  subst l3 y3 z3
  obtain ⟨rfl, N3q, hh3⟩ := hQ3
  have N3 := Fr.app N1 N3q
  refine own_of st3 ?_
  show own_Out p e below _ (T3.setTop (mkF m 15 #[rv o0, iv 1] [.int (f_l1charAtc0n4i1 b0 b1 b2 b3)]))
  exact own_outN X3 hx hlk (t := .char) hret (by simp) (hb hby d12_15) (z' := ((f_l1charAtc0n4i1 b0 b1 b2 b3).toUInt32.toUInt16.toUInt32.toInt32)) rfl (Q := Q12c0n4i1 Z o0 ob k b0 b1 b2 b3 cs vf h0 n0) ⟨by simp only [f_charAtc0n4i1, if_neg hcs], N3, hh3⟩ (by decide) (by decide)
theorem ef_16i2n4n (m : MethodId)  : entryFrame m #[(.int 2), (.int 4), .null] 3 = mkF m 0 #[.val (.int 2), .val (.int 4), .val .null] [] := by first | (simp [entryFrame, mkF, argsToLocals, Value.category]; done) | rfl
def Q16i2n4n (Z : State)  (h0 : Heap) (n0 : Nat) (v : Option Value) (h : Heap) (L : List Loc) : Prop := v = some (.int 2) ∧ Fr n0 L ∧ h = h0
set_option maxRecDepth 65536 in
set_option maxHeartbeats 40000000 in
theorem rm16i2n4n (l : Launch) (Z : State) (a0 : Array Value) (hw : ∀ d ∈ tables_1, d.before a0 Z = true) (ws : List Jvm.Cond)  (h0 : Heap) (n0 : Nat) (Z0 : n0 ≤ h0.size) :
    MetFree l (⟨"jdk/internal/util/Preconditions", "checkIndex", "(IILjava/util/function/BiFunction;)I"⟩ : MethodName) (head1 (Jvm.Cond.code (⟨"jdk/internal/util/Preconditions", "checkIndex", "(IILjava/util/function/BiFunction;)I"⟩ : MethodName) jdk_41_method_11_code 3 (some .int) :: ws) (⟨0, 0, 0, 0⟩ : Room)) (fun a U => a = #[(.int 2), (.int 4), .null] ∧ Z.Warmed39 U.vm ∧ U.heap = h0) (fun _ _ _ _ _ => True) (fun _ U o U' => ∃ v L, o = .returned v ∧ Q16i2n4n Z  h0 n0 v U'.heap L ∧ FrameEnd U o U' L (⟨0, 0, 0, 0⟩ : Room).cells (⟨0, 0, 0, 0⟩ : Room).slots) := by
  refine MetFree.of_bodySF (plainFor_of_name pn_2) hisR ?_
  intro p e s m args below meth c s₁ Bd hml0 hP hK
  obtain ⟨rfl, hZ, hh⟩ := hP
  have hx := Bd.exec
  have hby := Bd.bytes
  have hml : c.maxLocals = 3 := hml0
  have hown : s.vm.findClass "jdk/internal/util/Preconditions" = some m.cls := findClass_of_methodNamed Bd.named
  have hnm := (name_of_methodNamed Bd.named Bd.method).1
  have X0 : Stand p l e (⟨0, 0, 0, 0⟩ : Room) s m #[(.int 2), (.int 4), .null] below meth c s₁ [] 0 0 := Stand.of_body Bd
  have e0 : s₁.heap = h0 := by rw [← hh, Bd.state]; rfl
  have N0 := Fr.nil n0
  have hret := Bd.returns
  have hlk := BodyLoose.notSynchronized Bd
  show own_Out p e below (fun o U' => ∃ v L, o = .returned v ∧ Q16i2n4n Z  h0 n0 v U'.heap L ∧ FrameEnd s o U' L (⟨0, 0, 0, 0⟩ : Room).cells (⟨0, 0, 0, 0⟩ : Room).slots) (s₁.setTop (entryFrame m #[(.int 2), (.int 4), .null] 3))
  refine own_of (fun t k => castTop (ef_16i2n4n m ) k) ?_
  show own_Out p e below _ (s₁.setTop (mkF m 0 #[iv 2, iv 4, .val (.null)] []))
  refine o_iloadN X0 hx hby d16_0 rfl (q := 1) rfl ?_
  refine o_ifN X0 hx hby d16_1 ((if0 _ _).trans (flt (by decide : ¬ ((2 : Int32) < (0 : Int32)))).1) (q := 4) rfl ?_
  refine o_iloadN X0 hx hby d16_4 rfl (q := 5) rfl ?_
  refine o_iloadN X0 hx hby d16_5 rfl (q := 6) rfl ?_
  refine o_icY X0 hx hby d16_6 (tlt (by decide : (2 : Int32) < (4 : Int32))).1 (by decide) (q := 16) (by decide) ?_
  refine o_iloadN X0 hx hby d16_16 rfl (q := 17) rfl ?_
  exact own_outI X0 hx hlk hret (hb hby d16_17) (Q := Q16i2n4n Z  h0 n0) ⟨rfl, N0, e0⟩ (by decide) (by decide)
theorem ef_16i2n4r (m : MethodId) (x2 : Addr) : entryFrame m #[(.int 2), (.int 4), (.ref x2)] 3 = mkF m 0 #[.val (.int 2), .val (.int 4), .val (.ref x2)] [] := by first | (simp [entryFrame, mkF, argsToLocals, Value.category]; done) | rfl
def Q16i2n4r (Z : State) (o2 : Addr) (h0 : Heap) (n0 : Nat) (v : Option Value) (h : Heap) (L : List Loc) : Prop := v = some (.int 2) ∧ Fr n0 L ∧ h = h0
set_option maxRecDepth 65536 in
set_option maxHeartbeats 40000000 in
theorem rm16i2n4r (l : Launch) (Z : State) (a0 : Array Value) (hw : ∀ d ∈ tables_1, d.before a0 Z = true) (ws : List Jvm.Cond) (o2 : Addr) (h0 : Heap) (n0 : Nat) (Z0 : n0 ≤ h0.size) :
    MetFree l (⟨"jdk/internal/util/Preconditions", "checkIndex", "(IILjava/util/function/BiFunction;)I"⟩ : MethodName) (head1 (Jvm.Cond.code (⟨"jdk/internal/util/Preconditions", "checkIndex", "(IILjava/util/function/BiFunction;)I"⟩ : MethodName) jdk_41_method_11_code 3 (some .int) :: ws) (⟨0, 0, 0, 0⟩ : Room)) (fun a U => a = #[(.int 2), (.int 4), (.ref o2)] ∧ Z.Warmed39 U.vm ∧ U.heap = h0) (fun _ _ _ _ _ => True) (fun _ U o U' => ∃ v L, o = .returned v ∧ Q16i2n4r Z o2 h0 n0 v U'.heap L ∧ FrameEnd U o U' L (⟨0, 0, 0, 0⟩ : Room).cells (⟨0, 0, 0, 0⟩ : Room).slots) := by
  refine MetFree.of_bodySF (plainFor_of_name pn_2) hisR ?_
  intro p e s m args below meth c s₁ Bd hml0 hP hK
  obtain ⟨rfl, hZ, hh⟩ := hP
  have hx := Bd.exec
  have hby := Bd.bytes
  have hml : c.maxLocals = 3 := hml0
  have hown : s.vm.findClass "jdk/internal/util/Preconditions" = some m.cls := findClass_of_methodNamed Bd.named
  have hnm := (name_of_methodNamed Bd.named Bd.method).1
  have X0 : Stand p l e (⟨0, 0, 0, 0⟩ : Room) s m #[(.int 2), (.int 4), (.ref o2)] below meth c s₁ [] 0 0 := Stand.of_body Bd
  have e0 : s₁.heap = h0 := by rw [← hh, Bd.state]; rfl
  have N0 := Fr.nil n0
  have hret := Bd.returns
  have hlk := BodyLoose.notSynchronized Bd
  show own_Out p e below (fun o U' => ∃ v L, o = .returned v ∧ Q16i2n4r Z o2 h0 n0 v U'.heap L ∧ FrameEnd s o U' L (⟨0, 0, 0, 0⟩ : Room).cells (⟨0, 0, 0, 0⟩ : Room).slots) (s₁.setTop (entryFrame m #[(.int 2), (.int 4), (.ref o2)] 3))
  refine own_of (fun t k => castTop (ef_16i2n4r m o2) k) ?_
  show own_Out p e below _ (s₁.setTop (mkF m 0 #[iv 2, iv 4, rv o2] []))
  refine o_iloadN X0 hx hby d16_0 rfl (q := 1) rfl ?_
  refine o_ifN X0 hx hby d16_1 ((if0 _ _).trans (flt (by decide : ¬ ((2 : Int32) < (0 : Int32)))).1) (q := 4) rfl ?_
  refine o_iloadN X0 hx hby d16_4 rfl (q := 5) rfl ?_
  refine o_iloadN X0 hx hby d16_5 rfl (q := 6) rfl ?_
  refine o_icY X0 hx hby d16_6 (tlt (by decide : (2 : Int32) < (4 : Int32))).1 (by decide) (q := 16) (by decide) ?_
  refine o_iloadN X0 hx hby d16_16 rfl (q := 17) rfl ?_
  exact own_outI X0 hx hlk hret (hb hby d16_17) (Q := Q16i2n4r Z o2 h0 n0) ⟨rfl, N0, e0⟩ (by decide) (by decide)
theorem ef_15i2n4 (m : MethodId)  : entryFrame m #[(.int 2), (.int 4)] 2 = mkF m 0 #[.val (.int 2), .val (.int 4)] [] := by first | (simp [entryFrame, mkF, argsToLocals, Value.category]; done) | rfl
def Q15i2n4 (Z : State) (vf : Value) (h0 : Heap) (n0 : Nat) (v : Option Value) (h : Heap) (L : List Loc) : Prop := v = none ∧ Fr n0 L ∧ h = h0
set_option maxRecDepth 65536 in
set_option maxHeartbeats 40000000 in
theorem rm15i2n4 (l : Launch) (Z : State) (a0 : Array Value) (hw : ∀ d ∈ tables_1, d.before a0 Z = true) (ws : List Jvm.Cond) (vf : Value) (h0 : Heap) (n0 : Nat) (Z0 : n0 ≤ h0.size) (S_f : Sta Z h0 "jdk/internal/util/Preconditions" "SIOOBE_FORMATTER" "Ljava/util/function/BiFunction;" vf) (hvf : vf.isRef = true) :
    MetFree l (⟨"java/lang/String", "checkIndex", "(II)V"⟩ : MethodName) (head1 (Jvm.Cond.code (⟨"java/lang/String", "checkIndex", "(II)V"⟩ : MethodName) jdk_42_method_155_code 2 none :: ws) (⟨1, 0, 0, 14⟩ : Room)) (fun a U => a = #[(.int 2), (.int 4)] ∧ Z.Warmed39 U.vm ∧ U.heap = h0) (fun _ _ _ _ _ => True) (fun _ U o U' => ∃ v L, o = .returned v ∧ Q15i2n4 Z vf h0 n0 v U'.heap L ∧ FrameEnd U o U' L (⟨1, 0, 0, 14⟩ : Room).cells (⟨1, 0, 0, 14⟩ : Room).slots) := by
  refine MetFree.of_bodySF (plainFor_of_name pn_1) hisR ?_
  intro p e s m args below meth c s₁ Bd hml0 hP hK
  obtain ⟨rfl, hZ, hh⟩ := hP
  have hx := Bd.exec
  have hby := Bd.bytes
  have hml : c.maxLocals = 2 := hml0
  have hown : s.vm.findClass "java/lang/String" = some m.cls := findClass_of_methodNamed Bd.named
  have hnm := (name_of_methodNamed Bd.named Bd.method).1
  have X0 : Stand p l e (⟨1, 0, 0, 14⟩ : Room) s m #[(.int 2), (.int 4)] below meth c s₁ [] 0 0 := Stand.of_body Bd
  have e0 : s₁.heap = h0 := by rw [← hh, Bd.state]; rfl
  have N0 := Fr.nil n0
  have hret := Bd.returns
  have hlk := BodyLoose.notSynchronized Bd
  show own_Out p e below (fun o U' => ∃ v L, o = .returned v ∧ Q15i2n4 Z vf h0 n0 v U'.heap L ∧ FrameEnd s o U' L (⟨1, 0, 0, 14⟩ : Room).cells (⟨1, 0, 0, 14⟩ : Room).slots) (s₁.setTop (entryFrame m #[(.int 2), (.int 4)] 2))
  refine own_of (fun t k => castTop (ef_15i2n4 m ) k) ?_
  show own_Out p e below _ (s₁.setTop (mkF m 0 #[iv 2, iv 4] []))
  rcases ref_cases hvf with hv | ⟨af, hv⟩
  · rw [hv] at S_f
    refine o_iloadN X0 hx hby d15_0 rfl (q := 1) rfl ?_
    refine o_iloadN X0 hx hby d15_1 rfl (q := 2) rfl ?_
    obtain ⟨T1, X1, e1, st1⟩ := getS2 X0 hx hZ hown (host := "") (Or.inl (w_ hw 67 rfl)) Via.refl e0 S_f (g := (mkF m 2 #[iv 2, iv 4] [.int 4, .int 2])) rfl (hb hby d15_2)
    refine own_of st1 ?_
    show own_Out p e below _ (T1.setTop (mkF m 5 #[iv 2, iv 4] [.null, .int 4, .int 2]))
    obtain ⟨_, _, ⟨T2, L2, k2, n2⟩, -, X2, ⟨Lc2, hQ2, l2, y2, z2⟩, st2⟩ := Jvm.LawKit.callS X1 hx (y := (⟨"jdk/internal/util/Preconditions", "checkIndex", "(IILjava/util/function/BiFunction;)I"⟩ : MethodName)) hown (mvT hZ (w_ hw 69 rfl)) (mvT hZ (w_ hw 70 rfl)) (mvT hZ (w_ hw 68 rfl)) (mvT hZ (w_ hw 71 rfl)) (by decide) (backOf (W := 0) (rm16i2n4n l Z a0 hw []  h0 n0 Z0 ) hZ (w_ hw 71 rfl) (w_ hw 68 rfl) (by decide) (by decide)) (g := (mkF m 5 #[iv 2, iv 4] [.null, .int 4, .int 2])) rfl (by rw [hml]; rfl) (argsL := [(.int 2), (.int 4), .null]) (rest := []) (lenOf pd_0 rfl) rfl (by show 2 * 0 + _ ≤ _; exact Nat.le_of_eq rfl) (hb hby d15_5) (fun _ _ => ⟨rfl, e1, (by decide : 0 + 0 ≤ _), (by decide : 0 + 0 ≤ _)⟩)
    dsimp only [Pt.U, Pt.locs, Pt.cells, Pt.slots] at X2 l2 y2 z2 st2 hQ2
    subst l2 y2 z2
    obtain ⟨rfl, N2q, hh2⟩ := hQ2
    have N2 := Fr.app N0 N2q
    refine own_of st2 ?_
    show own_Out p e below _ (T2.setTop (mkF m 8 #[iv 2, iv 4] [.int 2]))
    refine o_pop X2 hx hby d15_8 rfl (q := 9) rfl ?_
    exact own_outV X2 hx hlk hret (hb hby d15_9) (Q := Q15i2n4 Z vf h0 n0) ⟨rfl, N2, hh2⟩ (by decide) (by decide)
  · rw [hv] at S_f
    refine o_iloadN X0 hx hby d15_0 rfl (q := 1) rfl ?_
    refine o_iloadN X0 hx hby d15_1 rfl (q := 2) rfl ?_
    obtain ⟨T3, X3, e3, st3⟩ := getS2 X0 hx hZ hown (host := "") (Or.inl (w_ hw 67 rfl)) Via.refl e0 S_f (g := (mkF m 2 #[iv 2, iv 4] [.int 4, .int 2])) rfl (hb hby d15_2)
    refine own_of st3 ?_
    show own_Out p e below _ (T3.setTop (mkF m 5 #[iv 2, iv 4] [.ref af, .int 4, .int 2]))
    obtain ⟨_, _, ⟨T4, L4, k4, n4⟩, -, X4, ⟨Lc4, hQ4, l4, y4, z4⟩, st4⟩ := Jvm.LawKit.callS X3 hx (y := (⟨"jdk/internal/util/Preconditions", "checkIndex", "(IILjava/util/function/BiFunction;)I"⟩ : MethodName)) hown (mvT hZ (w_ hw 69 rfl)) (mvT hZ (w_ hw 70 rfl)) (mvT hZ (w_ hw 68 rfl)) (mvT hZ (w_ hw 71 rfl)) (by decide) (backOf (W := 0) (rm16i2n4r l Z a0 hw [] af h0 n0 Z0 ) hZ (w_ hw 71 rfl) (w_ hw 68 rfl) (by decide) (by decide)) (g := (mkF m 5 #[iv 2, iv 4] [.ref af, .int 4, .int 2])) rfl (by rw [hml]; rfl) (argsL := [(.int 2), (.int 4), (.ref af)]) (rest := []) (lenOf pd_0 rfl) rfl (by show 2 * 0 + _ ≤ _; exact Nat.le_of_eq rfl) (hb hby d15_5) (fun _ _ => ⟨rfl, e3, (by decide : 0 + 0 ≤ _), (by decide : 0 + 0 ≤ _)⟩)
    dsimp only [Pt.U, Pt.locs, Pt.cells, Pt.slots] at X4 l4 y4 z4 st4 hQ4
    subst l4 y4 z4
    obtain ⟨rfl, N4q, hh4⟩ := hQ4
    have N4 := Fr.app N0 N4q
    refine own_of st4 ?_
    show own_Out p e below _ (T4.setTop (mkF m 8 #[iv 2, iv 4] [.int 2]))
    refine o_pop X4 hx hby d15_8 rfl (q := 9) rfl ?_
    exact own_outV X4 hx hlk hret (hb hby d15_9) (Q := Q15i2n4 Z vf h0 n0) ⟨rfl, N4, hh4⟩ (by decide) (by decide)
theorem ef_14c0n4i2 (m : MethodId) (x0 : Addr) : entryFrame m #[(.ref x0), (.int 2)] 2 = mkF m 0 #[.val (.ref x0), .val (.int 2)] [] := by first | (simp [entryFrame, mkF, argsToLocals, Value.category]; done) | rfl
def f_l1charAtc0n4i2 (b0 b1 b2 b3 : Int32) : Int32 := (((b2 &&& (255 : Int32)).toUInt32.toUInt16.toUInt32.toInt32).toUInt32.toUInt16.toUInt32.toInt32)
def Q14c0n4i2 (Z : State) (o0 : Addr) (k : ClassId) (b0 b1 b2 b3 : Int32) (vf : Value) (h0 : Heap) (n0 : Nat) (v : Option Value) (h : Heap) (L : List Loc) : Prop := v = some (.int (f_l1charAtc0n4i2 b0 b1 b2 b3)) ∧ Fr n0 L ∧ h = h0
set_option maxRecDepth 65536 in
set_option maxHeartbeats 40000000 in
theorem rm14c0n4i2 (l : Launch) (Z : State) (a0 : Array Value) (hw : ∀ d ∈ tables_1, d.before a0 Z = true) (ws : List Jvm.Cond) (o0 : Addr) (k : ClassId) (b0 b1 b2 b3 : Int32) (vf : Value) (h0 : Heap) (n0 : Nat) (Z0 : n0 ≤ h0.size) (V : Arv Z h0 o0 k .byte (4 : Int32) [(.int b0), (.int b1), (.int b2), (.int b3)] (.int 0)) (S_f : Sta Z h0 "jdk/internal/util/Preconditions" "SIOOBE_FORMATTER" "Ljava/util/function/BiFunction;" vf) (hvf : vf.isRef = true) :
    MetFree l (⟨"java/lang/StringLatin1", "charAt", "([BI)C"⟩ : MethodName) (head1 (Jvm.Cond.code (⟨"java/lang/StringLatin1", "charAt", "([BI)C"⟩ : MethodName) jdk_43_method_2_code 2 (some .char) :: ws) (⟨2, 0, 0, 27⟩ : Room)) (fun a U => a = #[(.ref o0), (.int 2)] ∧ Z.Warmed39 U.vm ∧ U.heap = h0) (fun _ _ _ _ _ => True) (fun _ U o U' => ∃ v L, o = .returned v ∧ Q14c0n4i2 Z o0 k b0 b1 b2 b3 vf h0 n0 v U'.heap L ∧ FrameEnd U o U' L (⟨2, 0, 0, 27⟩ : Room).cells (⟨2, 0, 0, 27⟩ : Room).slots) := by
  refine MetFree.of_bodySF (plainFor_of_name pn_3) hisR ?_
  intro p e s m args below meth c s₁ Bd hml0 hP hK
  obtain ⟨rfl, hZ, hh⟩ := hP
  have hx := Bd.exec
  have hby := Bd.bytes
  have hml : c.maxLocals = 2 := hml0
  have hown : s.vm.findClass "java/lang/StringLatin1" = some m.cls := findClass_of_methodNamed Bd.named
  have hnm := (name_of_methodNamed Bd.named Bd.method).1
  have X0 : Stand p l e (⟨2, 0, 0, 27⟩ : Room) s m #[(.ref o0), (.int 2)] below meth c s₁ [] 0 0 := Stand.of_body Bd
  have e0 : s₁.heap = h0 := by rw [← hh, Bd.state]; rfl
  have N0 := Fr.nil n0
  have hret := Bd.returns
  have hlk := BodyLoose.notSynchronized Bd
  show own_Out p e below (fun o U' => ∃ v L, o = .returned v ∧ Q14c0n4i2 Z o0 k b0 b1 b2 b3 vf h0 n0 v U'.heap L ∧ FrameEnd s o U' L (⟨2, 0, 0, 27⟩ : Room).cells (⟨2, 0, 0, 27⟩ : Room).slots) (s₁.setTop (entryFrame m #[(.ref o0), (.int 2)] 2))
  refine own_of (fun t k => castTop (ef_14c0n4i2 m o0) k) ?_
  show own_Out p e below _ (s₁.setTop (mkF m 0 #[rv o0, iv 2] []))
  refine o_iloadN X0 hx hby d14_0 rfl (q := 1) rfl ?_
  refine o_aloadN X0 hx hby d14_1 rfl rfl (q := 2) rfl ?_
  refine o_lenV X0 hx hby hZ e0 V d14_2 (q := 3) rfl ?_
  obtain ⟨_, _, ⟨T1, L1, k1, n1⟩, -, X1, ⟨Lc1, hQ1, l1, y1, z1⟩, st1⟩ := Jvm.LawKit.callS X0 hx (y := (⟨"java/lang/String", "checkIndex", "(II)V"⟩ : MethodName)) hown (mvT hZ (w_ hw 64 rfl)) (mvT hZ (w_ hw 65 rfl)) (mvT hZ (w_ hw 8 rfl)) (mvT hZ (w_ hw 66 rfl)) (by decide) (backOf (W := 0) (rm15i2n4 l Z a0 hw [] vf h0 n0 Z0 S_f hvf) hZ (w_ hw 66 rfl) (w_ hw 8 rfl) (by decide) (by decide)) (g := (mkF m 3 #[rv o0, iv 2] [.int 4, .int 2])) rfl (by rw [hml]; rfl) (argsL := [(.int 2), (.int 4)]) (rest := []) (lenOf pd_1 rfl) rfl (by show 2 * 0 + _ ≤ _; exact Nat.le_of_eq rfl) (hb hby d14_3) (fun _ _ => ⟨rfl, e0, (by decide : 0 + 0 ≤ _), (by decide : 0 + 0 ≤ _)⟩)
  dsimp only [Pt.U, Pt.locs, Pt.cells, Pt.slots] at X1 l1 y1 z1 st1 hQ1
  subst l1 y1 z1
  obtain ⟨rfl, N1q, hh1⟩ := hQ1
  have N1 := Fr.app N0 N1q
  refine own_of st1 ?_
  show own_Out p e below _ (T1.setTop (mkF m 6 #[rv o0, iv 2] []))
  refine o_aloadN X1 hx hby d14_6 rfl rfl (q := 7) rfl ?_
  refine o_iloadN X1 hx hby d14_7 rfl (q := 8) rfl ?_
  refine o_baV X1 hx hby hZ hh1 V ⟨by decide, by decide⟩ (v := .int b2) rfl d14_8 (q := 9) rfl ?_
  refine o_sipush X1 hx hby d14_9 (z := 255) rfl (q := 12) rfl ?_
  refine o_iand X1 hx hby d14_12 rfl (q := 13) rfl ?_
  refine o_i2c X1 hx hby d14_13 rfl (q := 14) rfl ?_
  exact own_outN X1 hx hlk (t := .char) hret (by simp) (hb hby d14_14) (z' := (((b2 &&& (255 : Int32)).toUInt32.toUInt16.toUInt32.toInt32).toUInt32.toUInt16.toUInt32.toInt32)) rfl (Q := Q14c0n4i2 Z o0 k b0 b1 b2 b3 vf h0 n0) ⟨by simp only [f_l1charAtc0n4i2], N1, hh1⟩ (by decide) (by decide)
theorem ef_12c0n4i2 (m : MethodId) (x0 : Addr) : entryFrame m #[(.ref x0), (.int 2)] 2 = mkF m 0 #[.val (.ref x0), .val (.int 2)] [] := by first | (simp [entryFrame, mkF, argsToLocals, Value.category]; done) | rfl
def f_charAtc0n4i2 (b0 b1 b2 b3 cs : Int32) : Int32 := ((f_l1charAtc0n4i2 b0 b1 b2 b3).toUInt32.toUInt16.toUInt32.toInt32)
def Q12c0n4i2 (Z : State) (o0 ob : Addr) (k : ClassId) (b0 b1 b2 b3 cs : Int32) (vf : Value) (h0 : Heap) (n0 : Nat) (v : Option Value) (h : Heap) (L : List Loc) : Prop := v = some (.int (f_charAtc0n4i2 b0 b1 b2 b3 cs)) ∧ Fr n0 L ∧ h = h0
set_option maxRecDepth 65536 in
set_option maxHeartbeats 40000000 in
theorem rm12c0n4i2 (l : Launch) (Z : State) (a0 : Array Value) (hw : ∀ d ∈ tables_1, d.before a0 Z = true) (ws : List Jvm.Cond) (o0 ob : Addr) (k : ClassId) (b0 b1 b2 b3 cs : Int32) (vf : Value) (h0 : Heap) (n0 : Nat) (Z0 : n0 ≤ h0.size) (E : Exa Z h0 o0 "java/lang/String") (Fv : Fld Z h0 o0 "java/lang/String" "value" "[B" (.ref ob)) (Fc : Fld Z h0 o0 "java/lang/String" "coder" "B" (.int 0)) (V : Arv Z h0 ob k .byte (4 : Int32) [(.int b0), (.int b1), (.int b2), (.int b3)] (.int 0)) (S_cs : Sta Z h0 "java/lang/String" "COMPACT_STRINGS" "Z" (.int cs)) (hcs : ¬ (cs = (0 : Int32))) (S_f : Sta Z h0 "jdk/internal/util/Preconditions" "SIOOBE_FORMATTER" "Ljava/util/function/BiFunction;" vf) (hvf : vf.isRef = true) :
    MetFree l (⟨"java/lang/String", "charAt", "(I)C"⟩ : MethodName) (head1 (Jvm.Cond.code (⟨"java/lang/String", "charAt", "(I)C"⟩ : MethodName) jdk_42_method_56_code 2 (some .char) :: ws) (⟨3, 0, 0, 40⟩ : Room)) (fun a U => a = #[(.ref o0), (.int 2)] ∧ Z.Warmed39 U.vm ∧ U.heap = h0) (fun _ _ _ _ _ => True) (fun _ U o U' => ∃ v L, o = .returned v ∧ Q12c0n4i2 Z o0 ob k b0 b1 b2 b3 cs vf h0 n0 v U'.heap L ∧ FrameEnd U o U' L (⟨3, 0, 0, 40⟩ : Room).cells (⟨3, 0, 0, 40⟩ : Room).slots) := by
  refine MetFree.of_bodySF (plainFor_of_name pn_1) hisR ?_
  intro p e s m args below meth c s₁ Bd hml0 hP hK
  obtain ⟨rfl, hZ, hh⟩ := hP
  have hx := Bd.exec
  have hby := Bd.bytes
  have hml : c.maxLocals = 2 := hml0
  have hown : s.vm.findClass "java/lang/String" = some m.cls := findClass_of_methodNamed Bd.named
  have hnm := (name_of_methodNamed Bd.named Bd.method).1
  have X0 : Stand p l e (⟨3, 0, 0, 40⟩ : Room) s m #[(.ref o0), (.int 2)] below meth c s₁ [] 0 0 := Stand.of_body Bd
  have e0 : s₁.heap = h0 := by rw [← hh, Bd.state]; rfl
  have N0 := Fr.nil n0
  have hret := Bd.returns
  have hlk := BodyLoose.notSynchronized Bd
  show own_Out p e below (fun o U' => ∃ v L, o = .returned v ∧ Q12c0n4i2 Z o0 ob k b0 b1 b2 b3 cs vf h0 n0 v U'.heap L ∧ FrameEnd s o U' L (⟨3, 0, 0, 40⟩ : Room).cells (⟨3, 0, 0, 40⟩ : Room).slots) (s₁.setTop (entryFrame m #[(.ref o0), (.int 2)] 2))
  refine own_of (fun t k => castTop (ef_12c0n4i2 m o0) k) ?_
  show own_Out p e below _ (s₁.setTop (mkF m 0 #[rv o0, iv 2] []))
  refine o_aloadN X0 hx hby d12_0 rfl rfl (q := 1) rfl ?_
  obtain ⟨cq1, kq1, q1a, q1b, q1c⟩ := isOf hZ e0 E
  obtain ⟨_, _, ⟨T1, L1, k1, n1⟩, -, X1, ⟨Lc1, hQ1, l1, y1, z1⟩, st1⟩ := X0.virtualBack hx (y := (⟨"java/lang/String", "isLatin1", "()Z"⟩ : MethodName)) (z := (⟨"java/lang/String", "isLatin1", "()Z"⟩ : MethodName)) hown (mvT hZ (w_ hw 55 rfl)) (mvT hZ (w_ hw 56 rfl)) (notFace_of_selects (args := #[]) (mvT hZ (w_ hw 58 rfl))) (mvT hZ (w_ hw 58 rfl)) (mvT hZ (w_ hw 57 rfl)) (by decide) (backOf (W := 0) (rm13c0n4 l Z a0 hw [] o0 ob k b0 b1 b2 b3 cs h0 n0 Z0 E Fv Fc V S_cs hcs) hZ (w_ hw 59 rfl) (w_ hw 8 rfl) (by decide) (by decide)) q1a q1c (g := (mkF m 1 #[rv o0, iv 2] [.ref o0])) rfl (by rw [hml]; rfl) (Steps.refl _) (argsL := []) (rest := []) (lenOf pd_2 rfl) rfl (by show 2 * 0 + _ ≤ _; exact Nat.le_of_eq rfl) (hb hby d12_1) (fun _ _ => ⟨rfl, e0, (by decide : 0 + 0 ≤ _), (by decide : 0 + 0 ≤ _)⟩)
  dsimp only [Pt.U, Pt.locs, Pt.cells, Pt.slots] at X1 l1 y1 z1 st1 hQ1
  subst l1 y1 z1
  obtain ⟨rfl, N1q, hh1⟩ := hQ1
  have N1 := Fr.app N0 N1q
  refine own_of (fun _ k => st1.trans k) ?_
  show own_Out p e below _ (T1.setTop (mkF m 4 #[rv o0, iv 2] [.int 1]))
  refine o_ifN X1 hx hby d12_4 ((if0 _ _).trans (feq (by decide : ¬ ((1 : Int32) = (0 : Int32)))).1) (q := 7) rfl ?_
  refine o_aloadN X1 hx hby d12_7 rfl rfl (q := 8) rfl ?_
  refine o_getF X1 hx hZ hown hby (w_ hw 33 rfl) Via.refl hh1 Fv d12_8 (q := 11) rfl fun T2 X2 e2 => ?_
  refine o_iloadN X2 hx hby d12_11 rfl (q := 12) rfl ?_
  obtain ⟨_, _, ⟨T3, L3, k3, n3⟩, -, X3, ⟨Lc3, hQ3, l3, y3, z3⟩, st3⟩ := Jvm.LawKit.callS X2 hx (y := (⟨"java/lang/StringLatin1", "charAt", "([BI)C"⟩ : MethodName)) hown (mvT hZ (w_ hw 60 rfl)) (mvT hZ (w_ hw 61 rfl)) (mvT hZ (w_ hw 62 rfl)) (mvT hZ (w_ hw 63 rfl)) (by decide) (backOf (W := 0) (rm14c0n4i2 l Z a0 hw [] ob k b0 b1 b2 b3 vf h0 n0 Z0 V S_f hvf) hZ (w_ hw 63 rfl) (w_ hw 62 rfl) (by decide) (by decide)) (g := (mkF m 12 #[rv o0, iv 2] [.int 2, .ref ob])) rfl (by rw [hml]; rfl) (argsL := [(.ref ob), (.int 2)]) (rest := []) (lenOf pd_3 rfl) rfl (by show 2 * 0 + _ ≤ _; exact Nat.le_of_eq rfl) (hb hby d12_12) (fun _ _ => ⟨rfl, e2, (by decide : 0 + 0 ≤ _), (by decide : 0 + 0 ≤ _)⟩)
  dsimp only [Pt.U, Pt.locs, Pt.cells, Pt.slots] at X3 l3 y3 z3 st3 hQ3
  subst l3 y3 z3
  obtain ⟨rfl, N3q, hh3⟩ := hQ3
  have N3 := Fr.app N1 N3q
  refine own_of st3 ?_
  show own_Out p e below _ (T3.setTop (mkF m 15 #[rv o0, iv 2] [.int (f_l1charAtc0n4i2 b0 b1 b2 b3)]))
  exact own_outN X3 hx hlk (t := .char) hret (by simp) (hb hby d12_15) (z' := ((f_l1charAtc0n4i2 b0 b1 b2 b3).toUInt32.toUInt16.toUInt32.toInt32)) rfl (Q := Q12c0n4i2 Z o0 ob k b0 b1 b2 b3 cs vf h0 n0) ⟨by simp only [f_charAtc0n4i2, if_neg hcs], N3, hh3⟩ (by decide) (by decide)
theorem ef_16i3n4n (m : MethodId)  : entryFrame m #[(.int 3), (.int 4), .null] 3 = mkF m 0 #[.val (.int 3), .val (.int 4), .val .null] [] := by first | (simp [entryFrame, mkF, argsToLocals, Value.category]; done) | rfl
def Q16i3n4n (Z : State)  (h0 : Heap) (n0 : Nat) (v : Option Value) (h : Heap) (L : List Loc) : Prop := v = some (.int 3) ∧ Fr n0 L ∧ h = h0
set_option maxRecDepth 65536 in
set_option maxHeartbeats 40000000 in
theorem rm16i3n4n (l : Launch) (Z : State) (a0 : Array Value) (hw : ∀ d ∈ tables_1, d.before a0 Z = true) (ws : List Jvm.Cond)  (h0 : Heap) (n0 : Nat) (Z0 : n0 ≤ h0.size) :
    MetFree l (⟨"jdk/internal/util/Preconditions", "checkIndex", "(IILjava/util/function/BiFunction;)I"⟩ : MethodName) (head1 (Jvm.Cond.code (⟨"jdk/internal/util/Preconditions", "checkIndex", "(IILjava/util/function/BiFunction;)I"⟩ : MethodName) jdk_41_method_11_code 3 (some .int) :: ws) (⟨0, 0, 0, 0⟩ : Room)) (fun a U => a = #[(.int 3), (.int 4), .null] ∧ Z.Warmed39 U.vm ∧ U.heap = h0) (fun _ _ _ _ _ => True) (fun _ U o U' => ∃ v L, o = .returned v ∧ Q16i3n4n Z  h0 n0 v U'.heap L ∧ FrameEnd U o U' L (⟨0, 0, 0, 0⟩ : Room).cells (⟨0, 0, 0, 0⟩ : Room).slots) := by
  refine MetFree.of_bodySF (plainFor_of_name pn_2) hisR ?_
  intro p e s m args below meth c s₁ Bd hml0 hP hK
  obtain ⟨rfl, hZ, hh⟩ := hP
  have hx := Bd.exec
  have hby := Bd.bytes
  have hml : c.maxLocals = 3 := hml0
  have hown : s.vm.findClass "jdk/internal/util/Preconditions" = some m.cls := findClass_of_methodNamed Bd.named
  have hnm := (name_of_methodNamed Bd.named Bd.method).1
  have X0 : Stand p l e (⟨0, 0, 0, 0⟩ : Room) s m #[(.int 3), (.int 4), .null] below meth c s₁ [] 0 0 := Stand.of_body Bd
  have e0 : s₁.heap = h0 := by rw [← hh, Bd.state]; rfl
  have N0 := Fr.nil n0
  have hret := Bd.returns
  have hlk := BodyLoose.notSynchronized Bd
  show own_Out p e below (fun o U' => ∃ v L, o = .returned v ∧ Q16i3n4n Z  h0 n0 v U'.heap L ∧ FrameEnd s o U' L (⟨0, 0, 0, 0⟩ : Room).cells (⟨0, 0, 0, 0⟩ : Room).slots) (s₁.setTop (entryFrame m #[(.int 3), (.int 4), .null] 3))
  refine own_of (fun t k => castTop (ef_16i3n4n m ) k) ?_
  show own_Out p e below _ (s₁.setTop (mkF m 0 #[iv 3, iv 4, .val (.null)] []))
  refine o_iloadN X0 hx hby d16_0 rfl (q := 1) rfl ?_
  refine o_ifN X0 hx hby d16_1 ((if0 _ _).trans (flt (by decide : ¬ ((3 : Int32) < (0 : Int32)))).1) (q := 4) rfl ?_
  refine o_iloadN X0 hx hby d16_4 rfl (q := 5) rfl ?_
  refine o_iloadN X0 hx hby d16_5 rfl (q := 6) rfl ?_
  refine o_icY X0 hx hby d16_6 (tlt (by decide : (3 : Int32) < (4 : Int32))).1 (by decide) (q := 16) (by decide) ?_
  refine o_iloadN X0 hx hby d16_16 rfl (q := 17) rfl ?_
  exact own_outI X0 hx hlk hret (hb hby d16_17) (Q := Q16i3n4n Z  h0 n0) ⟨rfl, N0, e0⟩ (by decide) (by decide)
theorem ef_16i3n4r (m : MethodId) (x2 : Addr) : entryFrame m #[(.int 3), (.int 4), (.ref x2)] 3 = mkF m 0 #[.val (.int 3), .val (.int 4), .val (.ref x2)] [] := by first | (simp [entryFrame, mkF, argsToLocals, Value.category]; done) | rfl
def Q16i3n4r (Z : State) (o2 : Addr) (h0 : Heap) (n0 : Nat) (v : Option Value) (h : Heap) (L : List Loc) : Prop := v = some (.int 3) ∧ Fr n0 L ∧ h = h0
set_option maxRecDepth 65536 in
set_option maxHeartbeats 40000000 in
theorem rm16i3n4r (l : Launch) (Z : State) (a0 : Array Value) (hw : ∀ d ∈ tables_1, d.before a0 Z = true) (ws : List Jvm.Cond) (o2 : Addr) (h0 : Heap) (n0 : Nat) (Z0 : n0 ≤ h0.size) :
    MetFree l (⟨"jdk/internal/util/Preconditions", "checkIndex", "(IILjava/util/function/BiFunction;)I"⟩ : MethodName) (head1 (Jvm.Cond.code (⟨"jdk/internal/util/Preconditions", "checkIndex", "(IILjava/util/function/BiFunction;)I"⟩ : MethodName) jdk_41_method_11_code 3 (some .int) :: ws) (⟨0, 0, 0, 0⟩ : Room)) (fun a U => a = #[(.int 3), (.int 4), (.ref o2)] ∧ Z.Warmed39 U.vm ∧ U.heap = h0) (fun _ _ _ _ _ => True) (fun _ U o U' => ∃ v L, o = .returned v ∧ Q16i3n4r Z o2 h0 n0 v U'.heap L ∧ FrameEnd U o U' L (⟨0, 0, 0, 0⟩ : Room).cells (⟨0, 0, 0, 0⟩ : Room).slots) := by
  refine MetFree.of_bodySF (plainFor_of_name pn_2) hisR ?_
  intro p e s m args below meth c s₁ Bd hml0 hP hK
  obtain ⟨rfl, hZ, hh⟩ := hP
  have hx := Bd.exec
  have hby := Bd.bytes
  have hml : c.maxLocals = 3 := hml0
  have hown : s.vm.findClass "jdk/internal/util/Preconditions" = some m.cls := findClass_of_methodNamed Bd.named
  have hnm := (name_of_methodNamed Bd.named Bd.method).1
  have X0 : Stand p l e (⟨0, 0, 0, 0⟩ : Room) s m #[(.int 3), (.int 4), (.ref o2)] below meth c s₁ [] 0 0 := Stand.of_body Bd
  have e0 : s₁.heap = h0 := by rw [← hh, Bd.state]; rfl
  have N0 := Fr.nil n0
  have hret := Bd.returns
  have hlk := BodyLoose.notSynchronized Bd
  show own_Out p e below (fun o U' => ∃ v L, o = .returned v ∧ Q16i3n4r Z o2 h0 n0 v U'.heap L ∧ FrameEnd s o U' L (⟨0, 0, 0, 0⟩ : Room).cells (⟨0, 0, 0, 0⟩ : Room).slots) (s₁.setTop (entryFrame m #[(.int 3), (.int 4), (.ref o2)] 3))
  refine own_of (fun t k => castTop (ef_16i3n4r m o2) k) ?_
  show own_Out p e below _ (s₁.setTop (mkF m 0 #[iv 3, iv 4, rv o2] []))
  refine o_iloadN X0 hx hby d16_0 rfl (q := 1) rfl ?_
  refine o_ifN X0 hx hby d16_1 ((if0 _ _).trans (flt (by decide : ¬ ((3 : Int32) < (0 : Int32)))).1) (q := 4) rfl ?_
  refine o_iloadN X0 hx hby d16_4 rfl (q := 5) rfl ?_
  refine o_iloadN X0 hx hby d16_5 rfl (q := 6) rfl ?_
  refine o_icY X0 hx hby d16_6 (tlt (by decide : (3 : Int32) < (4 : Int32))).1 (by decide) (q := 16) (by decide) ?_
  refine o_iloadN X0 hx hby d16_16 rfl (q := 17) rfl ?_
  exact own_outI X0 hx hlk hret (hb hby d16_17) (Q := Q16i3n4r Z o2 h0 n0) ⟨rfl, N0, e0⟩ (by decide) (by decide)
theorem ef_15i3n4 (m : MethodId)  : entryFrame m #[(.int 3), (.int 4)] 2 = mkF m 0 #[.val (.int 3), .val (.int 4)] [] := by first | (simp [entryFrame, mkF, argsToLocals, Value.category]; done) | rfl
def Q15i3n4 (Z : State) (vf : Value) (h0 : Heap) (n0 : Nat) (v : Option Value) (h : Heap) (L : List Loc) : Prop := v = none ∧ Fr n0 L ∧ h = h0
set_option maxRecDepth 65536 in
set_option maxHeartbeats 40000000 in
theorem rm15i3n4 (l : Launch) (Z : State) (a0 : Array Value) (hw : ∀ d ∈ tables_1, d.before a0 Z = true) (ws : List Jvm.Cond) (vf : Value) (h0 : Heap) (n0 : Nat) (Z0 : n0 ≤ h0.size) (S_f : Sta Z h0 "jdk/internal/util/Preconditions" "SIOOBE_FORMATTER" "Ljava/util/function/BiFunction;" vf) (hvf : vf.isRef = true) :
    MetFree l (⟨"java/lang/String", "checkIndex", "(II)V"⟩ : MethodName) (head1 (Jvm.Cond.code (⟨"java/lang/String", "checkIndex", "(II)V"⟩ : MethodName) jdk_42_method_155_code 2 none :: ws) (⟨1, 0, 0, 14⟩ : Room)) (fun a U => a = #[(.int 3), (.int 4)] ∧ Z.Warmed39 U.vm ∧ U.heap = h0) (fun _ _ _ _ _ => True) (fun _ U o U' => ∃ v L, o = .returned v ∧ Q15i3n4 Z vf h0 n0 v U'.heap L ∧ FrameEnd U o U' L (⟨1, 0, 0, 14⟩ : Room).cells (⟨1, 0, 0, 14⟩ : Room).slots) := by
  refine MetFree.of_bodySF (plainFor_of_name pn_1) hisR ?_
  intro p e s m args below meth c s₁ Bd hml0 hP hK
  obtain ⟨rfl, hZ, hh⟩ := hP
  have hx := Bd.exec
  have hby := Bd.bytes
  have hml : c.maxLocals = 2 := hml0
  have hown : s.vm.findClass "java/lang/String" = some m.cls := findClass_of_methodNamed Bd.named
  have hnm := (name_of_methodNamed Bd.named Bd.method).1
  have X0 : Stand p l e (⟨1, 0, 0, 14⟩ : Room) s m #[(.int 3), (.int 4)] below meth c s₁ [] 0 0 := Stand.of_body Bd
  have e0 : s₁.heap = h0 := by rw [← hh, Bd.state]; rfl
  have N0 := Fr.nil n0
  have hret := Bd.returns
  have hlk := BodyLoose.notSynchronized Bd
  show own_Out p e below (fun o U' => ∃ v L, o = .returned v ∧ Q15i3n4 Z vf h0 n0 v U'.heap L ∧ FrameEnd s o U' L (⟨1, 0, 0, 14⟩ : Room).cells (⟨1, 0, 0, 14⟩ : Room).slots) (s₁.setTop (entryFrame m #[(.int 3), (.int 4)] 2))
  refine own_of (fun t k => castTop (ef_15i3n4 m ) k) ?_
  show own_Out p e below _ (s₁.setTop (mkF m 0 #[iv 3, iv 4] []))
  rcases ref_cases hvf with hv | ⟨af, hv⟩
  · rw [hv] at S_f
    refine o_iloadN X0 hx hby d15_0 rfl (q := 1) rfl ?_
    refine o_iloadN X0 hx hby d15_1 rfl (q := 2) rfl ?_
    obtain ⟨T1, X1, e1, st1⟩ := getS2 X0 hx hZ hown (host := "") (Or.inl (w_ hw 67 rfl)) Via.refl e0 S_f (g := (mkF m 2 #[iv 3, iv 4] [.int 4, .int 3])) rfl (hb hby d15_2)
    refine own_of st1 ?_
    show own_Out p e below _ (T1.setTop (mkF m 5 #[iv 3, iv 4] [.null, .int 4, .int 3]))
    obtain ⟨_, _, ⟨T2, L2, k2, n2⟩, -, X2, ⟨Lc2, hQ2, l2, y2, z2⟩, st2⟩ := Jvm.LawKit.callS X1 hx (y := (⟨"jdk/internal/util/Preconditions", "checkIndex", "(IILjava/util/function/BiFunction;)I"⟩ : MethodName)) hown (mvT hZ (w_ hw 69 rfl)) (mvT hZ (w_ hw 70 rfl)) (mvT hZ (w_ hw 68 rfl)) (mvT hZ (w_ hw 71 rfl)) (by decide) (backOf (W := 0) (rm16i3n4n l Z a0 hw []  h0 n0 Z0 ) hZ (w_ hw 71 rfl) (w_ hw 68 rfl) (by decide) (by decide)) (g := (mkF m 5 #[iv 3, iv 4] [.null, .int 4, .int 3])) rfl (by rw [hml]; rfl) (argsL := [(.int 3), (.int 4), .null]) (rest := []) (lenOf pd_0 rfl) rfl (by show 2 * 0 + _ ≤ _; exact Nat.le_of_eq rfl) (hb hby d15_5) (fun _ _ => ⟨rfl, e1, (by decide : 0 + 0 ≤ _), (by decide : 0 + 0 ≤ _)⟩)
    dsimp only [Pt.U, Pt.locs, Pt.cells, Pt.slots] at X2 l2 y2 z2 st2 hQ2
    subst l2 y2 z2
    obtain ⟨rfl, N2q, hh2⟩ := hQ2
    have N2 := Fr.app N0 N2q
    refine own_of st2 ?_
    show own_Out p e below _ (T2.setTop (mkF m 8 #[iv 3, iv 4] [.int 3]))
    refine o_pop X2 hx hby d15_8 rfl (q := 9) rfl ?_
    exact own_outV X2 hx hlk hret (hb hby d15_9) (Q := Q15i3n4 Z vf h0 n0) ⟨rfl, N2, hh2⟩ (by decide) (by decide)
  · rw [hv] at S_f
    refine o_iloadN X0 hx hby d15_0 rfl (q := 1) rfl ?_
    refine o_iloadN X0 hx hby d15_1 rfl (q := 2) rfl ?_
    obtain ⟨T3, X3, e3, st3⟩ := getS2 X0 hx hZ hown (host := "") (Or.inl (w_ hw 67 rfl)) Via.refl e0 S_f (g := (mkF m 2 #[iv 3, iv 4] [.int 4, .int 3])) rfl (hb hby d15_2)
    refine own_of st3 ?_
    show own_Out p e below _ (T3.setTop (mkF m 5 #[iv 3, iv 4] [.ref af, .int 4, .int 3]))
    obtain ⟨_, _, ⟨T4, L4, k4, n4⟩, -, X4, ⟨Lc4, hQ4, l4, y4, z4⟩, st4⟩ := Jvm.LawKit.callS X3 hx (y := (⟨"jdk/internal/util/Preconditions", "checkIndex", "(IILjava/util/function/BiFunction;)I"⟩ : MethodName)) hown (mvT hZ (w_ hw 69 rfl)) (mvT hZ (w_ hw 70 rfl)) (mvT hZ (w_ hw 68 rfl)) (mvT hZ (w_ hw 71 rfl)) (by decide) (backOf (W := 0) (rm16i3n4r l Z a0 hw [] af h0 n0 Z0 ) hZ (w_ hw 71 rfl) (w_ hw 68 rfl) (by decide) (by decide)) (g := (mkF m 5 #[iv 3, iv 4] [.ref af, .int 4, .int 3])) rfl (by rw [hml]; rfl) (argsL := [(.int 3), (.int 4), (.ref af)]) (rest := []) (lenOf pd_0 rfl) rfl (by show 2 * 0 + _ ≤ _; exact Nat.le_of_eq rfl) (hb hby d15_5) (fun _ _ => ⟨rfl, e3, (by decide : 0 + 0 ≤ _), (by decide : 0 + 0 ≤ _)⟩)
    dsimp only [Pt.U, Pt.locs, Pt.cells, Pt.slots] at X4 l4 y4 z4 st4 hQ4
    subst l4 y4 z4
    obtain ⟨rfl, N4q, hh4⟩ := hQ4
    have N4 := Fr.app N0 N4q
    refine own_of st4 ?_
    show own_Out p e below _ (T4.setTop (mkF m 8 #[iv 3, iv 4] [.int 3]))
    refine o_pop X4 hx hby d15_8 rfl (q := 9) rfl ?_
    exact own_outV X4 hx hlk hret (hb hby d15_9) (Q := Q15i3n4 Z vf h0 n0) ⟨rfl, N4, hh4⟩ (by decide) (by decide)
theorem ef_14c0n4i3 (m : MethodId) (x0 : Addr) : entryFrame m #[(.ref x0), (.int 3)] 2 = mkF m 0 #[.val (.ref x0), .val (.int 3)] [] := by first | (simp [entryFrame, mkF, argsToLocals, Value.category]; done) | rfl
def f_l1charAtc0n4i3 (b0 b1 b2 b3 : Int32) : Int32 := (((b3 &&& (255 : Int32)).toUInt32.toUInt16.toUInt32.toInt32).toUInt32.toUInt16.toUInt32.toInt32)
def Q14c0n4i3 (Z : State) (o0 : Addr) (k : ClassId) (b0 b1 b2 b3 : Int32) (vf : Value) (h0 : Heap) (n0 : Nat) (v : Option Value) (h : Heap) (L : List Loc) : Prop := v = some (.int (f_l1charAtc0n4i3 b0 b1 b2 b3)) ∧ Fr n0 L ∧ h = h0
set_option maxRecDepth 65536 in
set_option maxHeartbeats 40000000 in
theorem rm14c0n4i3 (l : Launch) (Z : State) (a0 : Array Value) (hw : ∀ d ∈ tables_1, d.before a0 Z = true) (ws : List Jvm.Cond) (o0 : Addr) (k : ClassId) (b0 b1 b2 b3 : Int32) (vf : Value) (h0 : Heap) (n0 : Nat) (Z0 : n0 ≤ h0.size) (V : Arv Z h0 o0 k .byte (4 : Int32) [(.int b0), (.int b1), (.int b2), (.int b3)] (.int 0)) (S_f : Sta Z h0 "jdk/internal/util/Preconditions" "SIOOBE_FORMATTER" "Ljava/util/function/BiFunction;" vf) (hvf : vf.isRef = true) :
    MetFree l (⟨"java/lang/StringLatin1", "charAt", "([BI)C"⟩ : MethodName) (head1 (Jvm.Cond.code (⟨"java/lang/StringLatin1", "charAt", "([BI)C"⟩ : MethodName) jdk_43_method_2_code 2 (some .char) :: ws) (⟨2, 0, 0, 27⟩ : Room)) (fun a U => a = #[(.ref o0), (.int 3)] ∧ Z.Warmed39 U.vm ∧ U.heap = h0) (fun _ _ _ _ _ => True) (fun _ U o U' => ∃ v L, o = .returned v ∧ Q14c0n4i3 Z o0 k b0 b1 b2 b3 vf h0 n0 v U'.heap L ∧ FrameEnd U o U' L (⟨2, 0, 0, 27⟩ : Room).cells (⟨2, 0, 0, 27⟩ : Room).slots) := by
  refine MetFree.of_bodySF (plainFor_of_name pn_3) hisR ?_
  intro p e s m args below meth c s₁ Bd hml0 hP hK
  obtain ⟨rfl, hZ, hh⟩ := hP
  have hx := Bd.exec
  have hby := Bd.bytes
  have hml : c.maxLocals = 2 := hml0
  have hown : s.vm.findClass "java/lang/StringLatin1" = some m.cls := findClass_of_methodNamed Bd.named
  have hnm := (name_of_methodNamed Bd.named Bd.method).1
  have X0 : Stand p l e (⟨2, 0, 0, 27⟩ : Room) s m #[(.ref o0), (.int 3)] below meth c s₁ [] 0 0 := Stand.of_body Bd
  have e0 : s₁.heap = h0 := by rw [← hh, Bd.state]; rfl
  have N0 := Fr.nil n0
  have hret := Bd.returns
  have hlk := BodyLoose.notSynchronized Bd
  show own_Out p e below (fun o U' => ∃ v L, o = .returned v ∧ Q14c0n4i3 Z o0 k b0 b1 b2 b3 vf h0 n0 v U'.heap L ∧ FrameEnd s o U' L (⟨2, 0, 0, 27⟩ : Room).cells (⟨2, 0, 0, 27⟩ : Room).slots) (s₁.setTop (entryFrame m #[(.ref o0), (.int 3)] 2))
  refine own_of (fun t k => castTop (ef_14c0n4i3 m o0) k) ?_
  show own_Out p e below _ (s₁.setTop (mkF m 0 #[rv o0, iv 3] []))
  refine o_iloadN X0 hx hby d14_0 rfl (q := 1) rfl ?_
  refine o_aloadN X0 hx hby d14_1 rfl rfl (q := 2) rfl ?_
  refine o_lenV X0 hx hby hZ e0 V d14_2 (q := 3) rfl ?_
  obtain ⟨_, _, ⟨T1, L1, k1, n1⟩, -, X1, ⟨Lc1, hQ1, l1, y1, z1⟩, st1⟩ := Jvm.LawKit.callS X0 hx (y := (⟨"java/lang/String", "checkIndex", "(II)V"⟩ : MethodName)) hown (mvT hZ (w_ hw 64 rfl)) (mvT hZ (w_ hw 65 rfl)) (mvT hZ (w_ hw 8 rfl)) (mvT hZ (w_ hw 66 rfl)) (by decide) (backOf (W := 0) (rm15i3n4 l Z a0 hw [] vf h0 n0 Z0 S_f hvf) hZ (w_ hw 66 rfl) (w_ hw 8 rfl) (by decide) (by decide)) (g := (mkF m 3 #[rv o0, iv 3] [.int 4, .int 3])) rfl (by rw [hml]; rfl) (argsL := [(.int 3), (.int 4)]) (rest := []) (lenOf pd_1 rfl) rfl (by show 2 * 0 + _ ≤ _; exact Nat.le_of_eq rfl) (hb hby d14_3) (fun _ _ => ⟨rfl, e0, (by decide : 0 + 0 ≤ _), (by decide : 0 + 0 ≤ _)⟩)
  dsimp only [Pt.U, Pt.locs, Pt.cells, Pt.slots] at X1 l1 y1 z1 st1 hQ1
  subst l1 y1 z1
  obtain ⟨rfl, N1q, hh1⟩ := hQ1
  have N1 := Fr.app N0 N1q
  refine own_of st1 ?_
  show own_Out p e below _ (T1.setTop (mkF m 6 #[rv o0, iv 3] []))
  refine o_aloadN X1 hx hby d14_6 rfl rfl (q := 7) rfl ?_
  refine o_iloadN X1 hx hby d14_7 rfl (q := 8) rfl ?_
  refine o_baV X1 hx hby hZ hh1 V ⟨by decide, by decide⟩ (v := .int b3) rfl d14_8 (q := 9) rfl ?_
  refine o_sipush X1 hx hby d14_9 (z := 255) rfl (q := 12) rfl ?_
  refine o_iand X1 hx hby d14_12 rfl (q := 13) rfl ?_
  refine o_i2c X1 hx hby d14_13 rfl (q := 14) rfl ?_
  exact own_outN X1 hx hlk (t := .char) hret (by simp) (hb hby d14_14) (z' := (((b3 &&& (255 : Int32)).toUInt32.toUInt16.toUInt32.toInt32).toUInt32.toUInt16.toUInt32.toInt32)) rfl (Q := Q14c0n4i3 Z o0 k b0 b1 b2 b3 vf h0 n0) ⟨by simp only [f_l1charAtc0n4i3], N1, hh1⟩ (by decide) (by decide)
theorem ef_12c0n4i3 (m : MethodId) (x0 : Addr) : entryFrame m #[(.ref x0), (.int 3)] 2 = mkF m 0 #[.val (.ref x0), .val (.int 3)] [] := by first | (simp [entryFrame, mkF, argsToLocals, Value.category]; done) | rfl
def f_charAtc0n4i3 (b0 b1 b2 b3 cs : Int32) : Int32 := ((f_l1charAtc0n4i3 b0 b1 b2 b3).toUInt32.toUInt16.toUInt32.toInt32)
def Q12c0n4i3 (Z : State) (o0 ob : Addr) (k : ClassId) (b0 b1 b2 b3 cs : Int32) (vf : Value) (h0 : Heap) (n0 : Nat) (v : Option Value) (h : Heap) (L : List Loc) : Prop := v = some (.int (f_charAtc0n4i3 b0 b1 b2 b3 cs)) ∧ Fr n0 L ∧ h = h0
set_option maxRecDepth 65536 in
set_option maxHeartbeats 40000000 in
theorem rm12c0n4i3 (l : Launch) (Z : State) (a0 : Array Value) (hw : ∀ d ∈ tables_1, d.before a0 Z = true) (ws : List Jvm.Cond) (o0 ob : Addr) (k : ClassId) (b0 b1 b2 b3 cs : Int32) (vf : Value) (h0 : Heap) (n0 : Nat) (Z0 : n0 ≤ h0.size) (E : Exa Z h0 o0 "java/lang/String") (Fv : Fld Z h0 o0 "java/lang/String" "value" "[B" (.ref ob)) (Fc : Fld Z h0 o0 "java/lang/String" "coder" "B" (.int 0)) (V : Arv Z h0 ob k .byte (4 : Int32) [(.int b0), (.int b1), (.int b2), (.int b3)] (.int 0)) (S_cs : Sta Z h0 "java/lang/String" "COMPACT_STRINGS" "Z" (.int cs)) (hcs : ¬ (cs = (0 : Int32))) (S_f : Sta Z h0 "jdk/internal/util/Preconditions" "SIOOBE_FORMATTER" "Ljava/util/function/BiFunction;" vf) (hvf : vf.isRef = true) :
    MetFree l (⟨"java/lang/String", "charAt", "(I)C"⟩ : MethodName) (head1 (Jvm.Cond.code (⟨"java/lang/String", "charAt", "(I)C"⟩ : MethodName) jdk_42_method_56_code 2 (some .char) :: ws) (⟨3, 0, 0, 40⟩ : Room)) (fun a U => a = #[(.ref o0), (.int 3)] ∧ Z.Warmed39 U.vm ∧ U.heap = h0) (fun _ _ _ _ _ => True) (fun _ U o U' => ∃ v L, o = .returned v ∧ Q12c0n4i3 Z o0 ob k b0 b1 b2 b3 cs vf h0 n0 v U'.heap L ∧ FrameEnd U o U' L (⟨3, 0, 0, 40⟩ : Room).cells (⟨3, 0, 0, 40⟩ : Room).slots) := by
  refine MetFree.of_bodySF (plainFor_of_name pn_1) hisR ?_
  intro p e s m args below meth c s₁ Bd hml0 hP hK
  obtain ⟨rfl, hZ, hh⟩ := hP
  have hx := Bd.exec
  have hby := Bd.bytes
  have hml : c.maxLocals = 2 := hml0
  have hown : s.vm.findClass "java/lang/String" = some m.cls := findClass_of_methodNamed Bd.named
  have hnm := (name_of_methodNamed Bd.named Bd.method).1
  have X0 : Stand p l e (⟨3, 0, 0, 40⟩ : Room) s m #[(.ref o0), (.int 3)] below meth c s₁ [] 0 0 := Stand.of_body Bd
  have e0 : s₁.heap = h0 := by rw [← hh, Bd.state]; rfl
  have N0 := Fr.nil n0
  have hret := Bd.returns
  have hlk := BodyLoose.notSynchronized Bd
  show own_Out p e below (fun o U' => ∃ v L, o = .returned v ∧ Q12c0n4i3 Z o0 ob k b0 b1 b2 b3 cs vf h0 n0 v U'.heap L ∧ FrameEnd s o U' L (⟨3, 0, 0, 40⟩ : Room).cells (⟨3, 0, 0, 40⟩ : Room).slots) (s₁.setTop (entryFrame m #[(.ref o0), (.int 3)] 2))
  refine own_of (fun t k => castTop (ef_12c0n4i3 m o0) k) ?_
  show own_Out p e below _ (s₁.setTop (mkF m 0 #[rv o0, iv 3] []))
  refine o_aloadN X0 hx hby d12_0 rfl rfl (q := 1) rfl ?_
  obtain ⟨cq1, kq1, q1a, q1b, q1c⟩ := isOf hZ e0 E
  obtain ⟨_, _, ⟨T1, L1, k1, n1⟩, -, X1, ⟨Lc1, hQ1, l1, y1, z1⟩, st1⟩ := X0.virtualBack hx (y := (⟨"java/lang/String", "isLatin1", "()Z"⟩ : MethodName)) (z := (⟨"java/lang/String", "isLatin1", "()Z"⟩ : MethodName)) hown (mvT hZ (w_ hw 55 rfl)) (mvT hZ (w_ hw 56 rfl)) (notFace_of_selects (args := #[]) (mvT hZ (w_ hw 58 rfl))) (mvT hZ (w_ hw 58 rfl)) (mvT hZ (w_ hw 57 rfl)) (by decide) (backOf (W := 0) (rm13c0n4 l Z a0 hw [] o0 ob k b0 b1 b2 b3 cs h0 n0 Z0 E Fv Fc V S_cs hcs) hZ (w_ hw 59 rfl) (w_ hw 8 rfl) (by decide) (by decide)) q1a q1c (g := (mkF m 1 #[rv o0, iv 3] [.ref o0])) rfl (by rw [hml]; rfl) (Steps.refl _) (argsL := []) (rest := []) (lenOf pd_2 rfl) rfl (by show 2 * 0 + _ ≤ _; exact Nat.le_of_eq rfl) (hb hby d12_1) (fun _ _ => ⟨rfl, e0, (by decide : 0 + 0 ≤ _), (by decide : 0 + 0 ≤ _)⟩)
  dsimp only [Pt.U, Pt.locs, Pt.cells, Pt.slots] at X1 l1 y1 z1 st1 hQ1
  subst l1 y1 z1
  obtain ⟨rfl, N1q, hh1⟩ := hQ1
  have N1 := Fr.app N0 N1q
  refine own_of (fun _ k => st1.trans k) ?_
  show own_Out p e below _ (T1.setTop (mkF m 4 #[rv o0, iv 3] [.int 1]))
  refine o_ifN X1 hx hby d12_4 ((if0 _ _).trans (feq (by decide : ¬ ((1 : Int32) = (0 : Int32)))).1) (q := 7) rfl ?_
  refine o_aloadN X1 hx hby d12_7 rfl rfl (q := 8) rfl ?_
  refine o_getF X1 hx hZ hown hby (w_ hw 33 rfl) Via.refl hh1 Fv d12_8 (q := 11) rfl fun T2 X2 e2 => ?_
  refine o_iloadN X2 hx hby d12_11 rfl (q := 12) rfl ?_
  obtain ⟨_, _, ⟨T3, L3, k3, n3⟩, -, X3, ⟨Lc3, hQ3, l3, y3, z3⟩, st3⟩ := Jvm.LawKit.callS X2 hx (y := (⟨"java/lang/StringLatin1", "charAt", "([BI)C"⟩ : MethodName)) hown (mvT hZ (w_ hw 60 rfl)) (mvT hZ (w_ hw 61 rfl)) (mvT hZ (w_ hw 62 rfl)) (mvT hZ (w_ hw 63 rfl)) (by decide) (backOf (W := 0) (rm14c0n4i3 l Z a0 hw [] ob k b0 b1 b2 b3 vf h0 n0 Z0 V S_f hvf) hZ (w_ hw 63 rfl) (w_ hw 62 rfl) (by decide) (by decide)) (g := (mkF m 12 #[rv o0, iv 3] [.int 3, .ref ob])) rfl (by rw [hml]; rfl) (argsL := [(.ref ob), (.int 3)]) (rest := []) (lenOf pd_3 rfl) rfl (by show 2 * 0 + _ ≤ _; exact Nat.le_of_eq rfl) (hb hby d12_12) (fun _ _ => ⟨rfl, e2, (by decide : 0 + 0 ≤ _), (by decide : 0 + 0 ≤ _)⟩)
  dsimp only [Pt.U, Pt.locs, Pt.cells, Pt.slots] at X3 l3 y3 z3 st3 hQ3
  subst l3 y3 z3
  obtain ⟨rfl, N3q, hh3⟩ := hQ3
  have N3 := Fr.app N1 N3q
  refine own_of st3 ?_
  show own_Out p e below _ (T3.setTop (mkF m 15 #[rv o0, iv 3] [.int (f_l1charAtc0n4i3 b0 b1 b2 b3)]))
  exact own_outN X3 hx hlk (t := .char) hret (by simp) (hb hby d12_15) (z' := ((f_l1charAtc0n4i3 b0 b1 b2 b3).toUInt32.toUInt16.toUInt32.toInt32)) rfl (Q := Q12c0n4i3 Z o0 ob k b0 b1 b2 b3 cs vf h0 n0) ⟨by simp only [f_charAtc0n4i3, if_neg hcs], N3, hh3⟩ (by decide) (by decide)
theorem d11_0 : decode prog_28_method_5_code 0 = .ok (.iload_n 1, 1) := by decide +kernel
theorem d11_1 : decode prog_28_method_5_code 1 = .ok (.istore_n 3, 1) := by decide +kernel
theorem d11_2 : decode prog_28_method_5_code 2 = .ok (.iload_n 3, 1) := by decide +kernel
theorem d11_3 : decode prog_28_method_5_code 3 = .ok (.iload_n 2, 1) := by decide +kernel
theorem d11_4 : decode prog_28_method_5_code 4 = .ok (.if_icmp .ge 32, 3) := by decide +kernel
theorem d11_36 : decode prog_28_method_5_code 36 = .ok (.iconst 1, 1) := by decide +kernel
theorem d11_37 : decode prog_28_method_5_code 37 = .ok (.ireturn, 1) := by decide +kernel
theorem pn_4 : plainName "com/example/fides/fides/ledger/Position" = true := by first | (simp [plainName, overriddenIn]; done) | decide +kernel
theorem ef_11c0n4x00 (m : MethodId) (x0 : Addr) : entryFrame m #[(.ref x0), (.int 0), (.int 0)] 5 = mkF m 0 #[.val (.ref x0), .val (.int 0), .val (.int 0), .unset, .unset] [] := by first | (simp [entryFrame, mkF, argsToLocals, Value.category]; done) | rfl
def fhc0n4x00 (b0 b1 b2 b3 cs : Int32) : Int32 := (1 : Int32)
def Q11c0n4x00 (Z : State) (o0 ob : Addr) (k : ClassId) (b0 b1 b2 b3 cs : Int32) (vf : Value) (h0 : Heap) (n0 : Nat) (v : Option Value) (h : Heap) (L : List Loc) : Prop := v = some (.int (fhc0n4x00 b0 b1 b2 b3 cs)) ∧ Fr n0 L ∧ h = h0
set_option maxRecDepth 65536 in
set_option maxHeartbeats 40000000 in
theorem rm11c0n4x00 (l : Launch) (Z : State) (a0 : Array Value) (hw : ∀ d ∈ tables_1, d.before a0 Z = true) (ws : List Jvm.Cond) (o0 ob : Addr) (k : ClassId) (b0 b1 b2 b3 cs : Int32) (vf : Value) (h0 : Heap) (n0 : Nat) (Z0 : n0 ≤ h0.size) (E : Exa Z h0 o0 "java/lang/String") (Fv : Fld Z h0 o0 "java/lang/String" "value" "[B" (.ref ob)) (Fc : Fld Z h0 o0 "java/lang/String" "coder" "B" (.int 0)) (V : Arv Z h0 ob k .byte (4 : Int32) [(.int b0), (.int b1), (.int b2), (.int b3)] (.int 0)) (S_cs : Sta Z h0 "java/lang/String" "COMPACT_STRINGS" "Z" (.int cs)) (hcs : ¬ (cs = (0 : Int32))) (S_f : Sta Z h0 "jdk/internal/util/Preconditions" "SIOOBE_FORMATTER" "Ljava/util/function/BiFunction;" vf) (hvf : vf.isRef = true) :
    MetFree l (⟨"com/example/fides/fides/ledger/Position", "hasOnlyAsciiDigits", "(Ljava/lang/String;II)Z"⟩ : MethodName) (head1 (Jvm.Cond.code (⟨"com/example/fides/fides/ledger/Position", "hasOnlyAsciiDigits", "(Ljava/lang/String;II)Z"⟩ : MethodName) prog_28_method_5_code 5 (some .boolean) :: ws) (⟨5, 0, 0, 66⟩ : Room)) (fun a U => a = #[(.ref o0), (.int 0), (.int 0)] ∧ Z.Warmed39 U.vm ∧ U.heap = h0) (fun _ _ _ _ _ => True) (fun _ U o U' => ∃ v L, o = .returned v ∧ Q11c0n4x00 Z o0 ob k b0 b1 b2 b3 cs vf h0 n0 v U'.heap L ∧ FrameEnd U o U' L (⟨5, 0, 0, 66⟩ : Room).cells (⟨5, 0, 0, 66⟩ : Room).slots) := by
  refine MetFree.of_bodySF (plainFor_of_name pn_4) hisR ?_
  intro p e s m args below meth c s₁ Bd hml0 hP hK
  obtain ⟨rfl, hZ, hh⟩ := hP
  have hx := Bd.exec
  have hby := Bd.bytes
  have hml : c.maxLocals = 5 := hml0
  have hown : s.vm.findClass "com/example/fides/fides/ledger/Position" = some m.cls := findClass_of_methodNamed Bd.named
  have hnm := (name_of_methodNamed Bd.named Bd.method).1
  have X0 : Stand p l e (⟨5, 0, 0, 66⟩ : Room) s m #[(.ref o0), (.int 0), (.int 0)] below meth c s₁ [] 0 0 := Stand.of_body Bd
  have e0 : s₁.heap = h0 := by rw [← hh, Bd.state]; rfl
  have N0 := Fr.nil n0
  have hret := Bd.returns
  have hlk := BodyLoose.notSynchronized Bd
  show own_Out p e below (fun o U' => ∃ v L, o = .returned v ∧ Q11c0n4x00 Z o0 ob k b0 b1 b2 b3 cs vf h0 n0 v U'.heap L ∧ FrameEnd s o U' L (⟨5, 0, 0, 66⟩ : Room).cells (⟨5, 0, 0, 66⟩ : Room).slots) (s₁.setTop (entryFrame m #[(.ref o0), (.int 0), (.int 0)] 5))
  refine own_of (fun t k => castTop (ef_11c0n4x00 m o0) k) ?_
  show own_Out p e below _ (s₁.setTop (mkF m 0 #[rv o0, iv 0, iv 0, .unset, .unset] []))
  refine o_iloadN X0 hx hby d11_0 rfl (q := 1) rfl ?_
  refine o_istoreN X0 hx hby d11_1 (l' := #[rv o0, iv 0, iv 0, iv 0, .unset]) rfl (q := 2) rfl ?_
  refine o_iloadN X0 hx hby d11_2 rfl (q := 3) rfl ?_
  refine o_iloadN X0 hx hby d11_3 rfl (q := 4) rfl ?_
  refine o_icY X0 hx hby d11_4 (flt (by decide : ¬ ((0 : Int32) < (0 : Int32)))).2.1 (by decide) (q := 36) (by decide) ?_
  refine o_iconst X0 hx hby d11_36 (z := 1) rfl (q := 37) rfl ?_
  exact own_outN X0 hx hlk (t := .boolean) hret (by simp) (hb hby d11_37) (z' := (1 : Int32)) rfl (Q := Q11c0n4x00 Z o0 ob k b0 b1 b2 b3 cs vf h0 n0) ⟨by simp only [fhc0n4x00, if_neg hcs], N0, e0⟩ (by decide) (by decide)
theorem pd_4 : parseMethodDescriptor "(I)C" = some ⟨[.int], some .char⟩ := by decide +kernel
theorem d11_7 : decode prog_28_method_5_code 7 = .ok (.aload_n 0, 1) := by decide +kernel
theorem d11_8 : decode prog_28_method_5_code 8 = .ok (.iload_n 3, 1) := by decide +kernel
theorem d11_9 : decode prog_28_method_5_code 9 = .ok (.invokevirtual 68, 3) := by decide +kernel
theorem d11_12 : decode prog_28_method_5_code 12 = .ok (.istore 4, 2) := by decide +kernel
theorem d11_14 : decode prog_28_method_5_code 14 = .ok (.iload 4, 2) := by decide +kernel
theorem d11_16 : decode prog_28_method_5_code 16 = .ok (.bipush 48, 2) := by decide +kernel
theorem d11_18 : decode prog_28_method_5_code 18 = .ok (.if_icmp .lt 10, 3) := by decide +kernel
theorem d11_21 : decode prog_28_method_5_code 21 = .ok (.iload 4, 2) := by decide +kernel
theorem d11_23 : decode prog_28_method_5_code 23 = .ok (.bipush 57, 2) := by decide +kernel
theorem d11_25 : decode prog_28_method_5_code 25 = .ok (.if_icmp .le 5, 3) := by decide +kernel
theorem d11_28 : decode prog_28_method_5_code 28 = .ok (.iconst 0, 1) := by decide +kernel
theorem d11_29 : decode prog_28_method_5_code 29 = .ok (.ireturn, 1) := by decide +kernel
theorem d11_30 : decode prog_28_method_5_code 30 = .ok (.iinc 3 1, 3) := by decide +kernel
theorem d11_33 : decode prog_28_method_5_code 33 = .ok (.goto (-31), 3) := by decide +kernel
theorem ef_11c0n4x01 (m : MethodId) (x0 : Addr) : entryFrame m #[(.ref x0), (.int 0), (.int 1)] 5 = mkF m 0 #[.val (.ref x0), .val (.int 0), .val (.int 1), .unset, .unset] [] := by first | (simp [entryFrame, mkF, argsToLocals, Value.category]; done) | rfl
def fhc0n4x01 (b0 b1 b2 b3 cs : Int32) : Int32 := if (f_charAtc0n4i0 b0 b1 b2 b3 cs) < (48 : Int32) then (0 : Int32)
  else if (57 : Int32) < (f_charAtc0n4i0 b0 b1 b2 b3 cs) then (0 : Int32)
    else (1 : Int32)
def Q11c0n4x01 (Z : State) (o0 ob : Addr) (k : ClassId) (b0 b1 b2 b3 cs : Int32) (vf : Value) (h0 : Heap) (n0 : Nat) (v : Option Value) (h : Heap) (L : List Loc) : Prop := v = some (.int (fhc0n4x01 b0 b1 b2 b3 cs)) ∧ Fr n0 L ∧ h = h0
set_option maxRecDepth 65536 in
set_option maxHeartbeats 40000000 in
theorem rm11c0n4x01 (l : Launch) (Z : State) (a0 : Array Value) (hw : ∀ d ∈ tables_1, d.before a0 Z = true) (ws : List Jvm.Cond) (o0 ob : Addr) (k : ClassId) (b0 b1 b2 b3 cs : Int32) (vf : Value) (h0 : Heap) (n0 : Nat) (Z0 : n0 ≤ h0.size) (E : Exa Z h0 o0 "java/lang/String") (Fv : Fld Z h0 o0 "java/lang/String" "value" "[B" (.ref ob)) (Fc : Fld Z h0 o0 "java/lang/String" "coder" "B" (.int 0)) (V : Arv Z h0 ob k .byte (4 : Int32) [(.int b0), (.int b1), (.int b2), (.int b3)] (.int 0)) (S_cs : Sta Z h0 "java/lang/String" "COMPACT_STRINGS" "Z" (.int cs)) (hcs : ¬ (cs = (0 : Int32))) (S_f : Sta Z h0 "jdk/internal/util/Preconditions" "SIOOBE_FORMATTER" "Ljava/util/function/BiFunction;" vf) (hvf : vf.isRef = true) :
    MetFree l (⟨"com/example/fides/fides/ledger/Position", "hasOnlyAsciiDigits", "(Ljava/lang/String;II)Z"⟩ : MethodName) (head1 (Jvm.Cond.code (⟨"com/example/fides/fides/ledger/Position", "hasOnlyAsciiDigits", "(Ljava/lang/String;II)Z"⟩ : MethodName) prog_28_method_5_code 5 (some .boolean) :: ws) (⟨5, 0, 0, 66⟩ : Room)) (fun a U => a = #[(.ref o0), (.int 0), (.int 1)] ∧ Z.Warmed39 U.vm ∧ U.heap = h0) (fun _ _ _ _ _ => True) (fun _ U o U' => ∃ v L, o = .returned v ∧ Q11c0n4x01 Z o0 ob k b0 b1 b2 b3 cs vf h0 n0 v U'.heap L ∧ FrameEnd U o U' L (⟨5, 0, 0, 66⟩ : Room).cells (⟨5, 0, 0, 66⟩ : Room).slots) := by
  refine MetFree.of_bodySF (plainFor_of_name pn_4) hisR ?_
  intro p e s m args below meth c s₁ Bd hml0 hP hK
  obtain ⟨rfl, hZ, hh⟩ := hP
  have hx := Bd.exec
  have hby := Bd.bytes
  have hml : c.maxLocals = 5 := hml0
  have hown : s.vm.findClass "com/example/fides/fides/ledger/Position" = some m.cls := findClass_of_methodNamed Bd.named
  have hnm := (name_of_methodNamed Bd.named Bd.method).1
  have X0 : Stand p l e (⟨5, 0, 0, 66⟩ : Room) s m #[(.ref o0), (.int 0), (.int 1)] below meth c s₁ [] 0 0 := Stand.of_body Bd
  have e0 : s₁.heap = h0 := by rw [← hh, Bd.state]; rfl
  have N0 := Fr.nil n0
  have hret := Bd.returns
  have hlk := BodyLoose.notSynchronized Bd
  show own_Out p e below (fun o U' => ∃ v L, o = .returned v ∧ Q11c0n4x01 Z o0 ob k b0 b1 b2 b3 cs vf h0 n0 v U'.heap L ∧ FrameEnd s o U' L (⟨5, 0, 0, 66⟩ : Room).cells (⟨5, 0, 0, 66⟩ : Room).slots) (s₁.setTop (entryFrame m #[(.ref o0), (.int 0), (.int 1)] 5))
  refine own_of (fun t k => castTop (ef_11c0n4x01 m o0) k) ?_
  show own_Out p e below _ (s₁.setTop (mkF m 0 #[rv o0, iv 0, iv 1, .unset, .unset] []))
  refine o_iloadN X0 hx hby d11_0 rfl (q := 1) rfl ?_
  refine o_istoreN X0 hx hby d11_1 (l' := #[rv o0, iv 0, iv 1, iv 0, .unset]) rfl (q := 2) rfl ?_
  refine o_iloadN X0 hx hby d11_2 rfl (q := 3) rfl ?_
  refine o_iloadN X0 hx hby d11_3 rfl (q := 4) rfl ?_
  refine o_icN X0 hx hby d11_4 (tlt (by decide : (0 : Int32) < (1 : Int32))).2.1 (q := 7) rfl ?_
  refine o_aloadN X0 hx hby d11_7 rfl rfl (q := 8) rfl ?_
  refine o_iloadN X0 hx hby d11_8 rfl (q := 9) rfl ?_
  obtain ⟨cq1, kq1, q1a, q1b, q1c⟩ := isOf hZ e0 E
  obtain ⟨_, _, ⟨T1, L1, k1, n1⟩, -, X1, ⟨Lc1, hQ1, l1, y1, z1⟩, st1⟩ := X0.virtualBack hx (y := (⟨"java/lang/String", "charAt", "(I)C"⟩ : MethodName)) (z := (⟨"java/lang/String", "charAt", "(I)C"⟩ : MethodName)) hown (mvT hZ (w_ hw 50 rfl)) (mvT hZ (w_ hw 51 rfl)) (notFace_of_selects (args := #[]) (mvT hZ (w_ hw 53 rfl))) (mvT hZ (w_ hw 53 rfl)) (mvT hZ (w_ hw 52 rfl)) (by decide) (backOf (W := 0) (rm12c0n4i0 l Z a0 hw [] o0 ob k b0 b1 b2 b3 cs vf h0 n0 Z0 E Fv Fc V S_cs hcs S_f hvf) hZ (w_ hw 54 rfl) (w_ hw 8 rfl) (by decide) (by decide)) q1a q1c (g := (mkF m 9 #[rv o0, iv 0, iv 1, iv 0, .unset] [.int 0, .ref o0])) rfl (by rw [hml]; rfl) (Steps.refl _) (argsL := [(.int 0)]) (rest := []) (lenOf pd_4 rfl) rfl (by show 2 * 0 + _ ≤ _; exact Nat.le_of_eq rfl) (hb hby d11_9) (fun _ _ => ⟨rfl, e0, (by decide : 0 + 0 ≤ _), (by decide : 0 + 0 ≤ _)⟩)
  dsimp only [Pt.U, Pt.locs, Pt.cells, Pt.slots] at X1 l1 y1 z1 st1 hQ1
  subst l1 y1 z1
  obtain ⟨rfl, N1q, hh1⟩ := hQ1
  have N1 := Fr.app N0 N1q
  refine own_of (fun _ k => st1.trans k) ?_
  show own_Out p e below _ (T1.setTop (mkF m 12 #[rv o0, iv 0, iv 1, iv 0, .unset] [.int (f_charAtc0n4i0 b0 b1 b2 b3 cs)]))
  refine o_istore X1 hx hby d11_12 (l' := #[rv o0, iv 0, iv 1, iv 0, iv (f_charAtc0n4i0 b0 b1 b2 b3 cs)]) rfl (q := 14) rfl ?_
  refine o_iload X1 hx hby d11_14 rfl (q := 16) rfl ?_
  refine o_bipush X1 hx hby d11_16 (z := 48) rfl (q := 18) rfl ?_
  by_cases hc18_2 : (f_charAtc0n4i0 b0 b1 b2 b3 cs) < (48 : Int32)
  · skip
    refine o_icY X1 hx hby d11_18 (tlt hc18_2).1 (by decide) (q := 28) (by decide) ?_
    refine o_iconst X1 hx hby d11_28 (z := 0) rfl (q := 29) rfl ?_
    exact own_outN X1 hx hlk (t := .boolean) hret (by simp) (hb hby d11_29) (z' := (0 : Int32)) rfl (Q := Q11c0n4x01 Z o0 ob k b0 b1 b2 b3 cs vf h0 n0) ⟨by simp only [fhc0n4x01, if_neg hcs, if_pos hc18_2], N1, hh1⟩ (by decide) (by decide)
  · skip
    refine o_icN X1 hx hby d11_18 (flt hc18_2).1 (q := 21) rfl ?_
    refine o_iload X1 hx hby d11_21 rfl (q := 23) rfl ?_
    refine o_bipush X1 hx hby d11_23 (z := 57) rfl (q := 25) rfl ?_
    by_cases hc25_3 : (57 : Int32) < (f_charAtc0n4i0 b0 b1 b2 b3 cs)
    · skip
      refine o_icN X1 hx hby d11_25 (tlt hc25_3).2.2.2 (q := 28) rfl ?_
      refine o_iconst X1 hx hby d11_28 (z := 0) rfl (q := 29) rfl ?_
      exact own_outN X1 hx hlk (t := .boolean) hret (by simp) (hb hby d11_29) (z' := (0 : Int32)) rfl (Q := Q11c0n4x01 Z o0 ob k b0 b1 b2 b3 cs vf h0 n0) ⟨by simp only [fhc0n4x01, if_neg hcs, if_neg hc18_2, if_pos hc25_3], N1, hh1⟩ (by decide) (by decide)
    · skip
      refine o_icY X1 hx hby d11_25 (flt hc25_3).2.2.2 (by decide) (q := 30) (by decide) ?_
      refine o_iinc X1 hx hby d11_30 rfl (l' := #[rv o0, iv 0, iv 1, iv 1, iv (f_charAtc0n4i0 b0 b1 b2 b3 cs)]) rfl (q := 33) rfl ?_
      refine o_goto X1 hx hby d11_33 (by decide) (q := 2) (by decide) ?_
      refine o_iloadN X1 hx hby d11_2 rfl (q := 3) rfl ?_
      refine o_iloadN X1 hx hby d11_3 rfl (q := 4) rfl ?_
      refine o_icY X1 hx hby d11_4 (flt (by decide : ¬ ((1 : Int32) < (1 : Int32)))).2.1 (by decide) (q := 36) (by decide) ?_
      refine o_iconst X1 hx hby d11_36 (z := 1) rfl (q := 37) rfl ?_
      exact own_outN X1 hx hlk (t := .boolean) hret (by simp) (hb hby d11_37) (z' := (1 : Int32)) rfl (Q := Q11c0n4x01 Z o0 ob k b0 b1 b2 b3 cs vf h0 n0) ⟨by simp only [fhc0n4x01, if_neg hcs, if_neg hc18_2, if_neg hc25_3], N1, hh1⟩ (by decide) (by decide)
theorem ef_11c0n4x02 (m : MethodId) (x0 : Addr) : entryFrame m #[(.ref x0), (.int 0), (.int 2)] 5 = mkF m 0 #[.val (.ref x0), .val (.int 0), .val (.int 2), .unset, .unset] [] := by first | (simp [entryFrame, mkF, argsToLocals, Value.category]; done) | rfl
def fhc0n4x02 (b0 b1 b2 b3 cs : Int32) : Int32 := if (f_charAtc0n4i0 b0 b1 b2 b3 cs) < (48 : Int32) then (0 : Int32)
  else if (57 : Int32) < (f_charAtc0n4i0 b0 b1 b2 b3 cs) then (0 : Int32)
    else if (f_charAtc0n4i1 b0 b1 b2 b3 cs) < (48 : Int32) then (0 : Int32)
      else if (57 : Int32) < (f_charAtc0n4i1 b0 b1 b2 b3 cs) then (0 : Int32)
        else (1 : Int32)
def Q11c0n4x02 (Z : State) (o0 ob : Addr) (k : ClassId) (b0 b1 b2 b3 cs : Int32) (vf : Value) (h0 : Heap) (n0 : Nat) (v : Option Value) (h : Heap) (L : List Loc) : Prop := v = some (.int (fhc0n4x02 b0 b1 b2 b3 cs)) ∧ Fr n0 L ∧ h = h0
set_option maxRecDepth 65536 in
set_option maxHeartbeats 40000000 in
theorem rm11c0n4x02 (l : Launch) (Z : State) (a0 : Array Value) (hw : ∀ d ∈ tables_1, d.before a0 Z = true) (ws : List Jvm.Cond) (o0 ob : Addr) (k : ClassId) (b0 b1 b2 b3 cs : Int32) (vf : Value) (h0 : Heap) (n0 : Nat) (Z0 : n0 ≤ h0.size) (E : Exa Z h0 o0 "java/lang/String") (Fv : Fld Z h0 o0 "java/lang/String" "value" "[B" (.ref ob)) (Fc : Fld Z h0 o0 "java/lang/String" "coder" "B" (.int 0)) (V : Arv Z h0 ob k .byte (4 : Int32) [(.int b0), (.int b1), (.int b2), (.int b3)] (.int 0)) (S_cs : Sta Z h0 "java/lang/String" "COMPACT_STRINGS" "Z" (.int cs)) (hcs : ¬ (cs = (0 : Int32))) (S_f : Sta Z h0 "jdk/internal/util/Preconditions" "SIOOBE_FORMATTER" "Ljava/util/function/BiFunction;" vf) (hvf : vf.isRef = true) :
    MetFree l (⟨"com/example/fides/fides/ledger/Position", "hasOnlyAsciiDigits", "(Ljava/lang/String;II)Z"⟩ : MethodName) (head1 (Jvm.Cond.code (⟨"com/example/fides/fides/ledger/Position", "hasOnlyAsciiDigits", "(Ljava/lang/String;II)Z"⟩ : MethodName) prog_28_method_5_code 5 (some .boolean) :: ws) (⟨5, 0, 0, 66⟩ : Room)) (fun a U => a = #[(.ref o0), (.int 0), (.int 2)] ∧ Z.Warmed39 U.vm ∧ U.heap = h0) (fun _ _ _ _ _ => True) (fun _ U o U' => ∃ v L, o = .returned v ∧ Q11c0n4x02 Z o0 ob k b0 b1 b2 b3 cs vf h0 n0 v U'.heap L ∧ FrameEnd U o U' L (⟨5, 0, 0, 66⟩ : Room).cells (⟨5, 0, 0, 66⟩ : Room).slots) := by
  refine MetFree.of_bodySF (plainFor_of_name pn_4) hisR ?_
  intro p e s m args below meth c s₁ Bd hml0 hP hK
  obtain ⟨rfl, hZ, hh⟩ := hP
  have hx := Bd.exec
  have hby := Bd.bytes
  have hml : c.maxLocals = 5 := hml0
  have hown : s.vm.findClass "com/example/fides/fides/ledger/Position" = some m.cls := findClass_of_methodNamed Bd.named
  have hnm := (name_of_methodNamed Bd.named Bd.method).1
  have X0 : Stand p l e (⟨5, 0, 0, 66⟩ : Room) s m #[(.ref o0), (.int 0), (.int 2)] below meth c s₁ [] 0 0 := Stand.of_body Bd
  have e0 : s₁.heap = h0 := by rw [← hh, Bd.state]; rfl
  have N0 := Fr.nil n0
  have hret := Bd.returns
  have hlk := BodyLoose.notSynchronized Bd
  show own_Out p e below (fun o U' => ∃ v L, o = .returned v ∧ Q11c0n4x02 Z o0 ob k b0 b1 b2 b3 cs vf h0 n0 v U'.heap L ∧ FrameEnd s o U' L (⟨5, 0, 0, 66⟩ : Room).cells (⟨5, 0, 0, 66⟩ : Room).slots) (s₁.setTop (entryFrame m #[(.ref o0), (.int 0), (.int 2)] 5))
  refine own_of (fun t k => castTop (ef_11c0n4x02 m o0) k) ?_
  show own_Out p e below _ (s₁.setTop (mkF m 0 #[rv o0, iv 0, iv 2, .unset, .unset] []))
  refine o_iloadN X0 hx hby d11_0 rfl (q := 1) rfl ?_
  refine o_istoreN X0 hx hby d11_1 (l' := #[rv o0, iv 0, iv 2, iv 0, .unset]) rfl (q := 2) rfl ?_
  refine o_iloadN X0 hx hby d11_2 rfl (q := 3) rfl ?_
  refine o_iloadN X0 hx hby d11_3 rfl (q := 4) rfl ?_
  refine o_icN X0 hx hby d11_4 (tlt (by decide : (0 : Int32) < (2 : Int32))).2.1 (q := 7) rfl ?_
  refine o_aloadN X0 hx hby d11_7 rfl rfl (q := 8) rfl ?_
  refine o_iloadN X0 hx hby d11_8 rfl (q := 9) rfl ?_
  obtain ⟨cq1, kq1, q1a, q1b, q1c⟩ := isOf hZ e0 E
  obtain ⟨_, _, ⟨T1, L1, k1, n1⟩, -, X1, ⟨Lc1, hQ1, l1, y1, z1⟩, st1⟩ := X0.virtualBack hx (y := (⟨"java/lang/String", "charAt", "(I)C"⟩ : MethodName)) (z := (⟨"java/lang/String", "charAt", "(I)C"⟩ : MethodName)) hown (mvT hZ (w_ hw 50 rfl)) (mvT hZ (w_ hw 51 rfl)) (notFace_of_selects (args := #[]) (mvT hZ (w_ hw 53 rfl))) (mvT hZ (w_ hw 53 rfl)) (mvT hZ (w_ hw 52 rfl)) (by decide) (backOf (W := 0) (rm12c0n4i0 l Z a0 hw [] o0 ob k b0 b1 b2 b3 cs vf h0 n0 Z0 E Fv Fc V S_cs hcs S_f hvf) hZ (w_ hw 54 rfl) (w_ hw 8 rfl) (by decide) (by decide)) q1a q1c (g := (mkF m 9 #[rv o0, iv 0, iv 2, iv 0, .unset] [.int 0, .ref o0])) rfl (by rw [hml]; rfl) (Steps.refl _) (argsL := [(.int 0)]) (rest := []) (lenOf pd_4 rfl) rfl (by show 2 * 0 + _ ≤ _; exact Nat.le_of_eq rfl) (hb hby d11_9) (fun _ _ => ⟨rfl, e0, (by decide : 0 + 0 ≤ _), (by decide : 0 + 0 ≤ _)⟩)
  dsimp only [Pt.U, Pt.locs, Pt.cells, Pt.slots] at X1 l1 y1 z1 st1 hQ1
  subst l1 y1 z1
  obtain ⟨rfl, N1q, hh1⟩ := hQ1
  have N1 := Fr.app N0 N1q
  refine own_of (fun _ k => st1.trans k) ?_
  show own_Out p e below _ (T1.setTop (mkF m 12 #[rv o0, iv 0, iv 2, iv 0, .unset] [.int (f_charAtc0n4i0 b0 b1 b2 b3 cs)]))
  refine o_istore X1 hx hby d11_12 (l' := #[rv o0, iv 0, iv 2, iv 0, iv (f_charAtc0n4i0 b0 b1 b2 b3 cs)]) rfl (q := 14) rfl ?_
  refine o_iload X1 hx hby d11_14 rfl (q := 16) rfl ?_
  refine o_bipush X1 hx hby d11_16 (z := 48) rfl (q := 18) rfl ?_
  by_cases hc18_2 : (f_charAtc0n4i0 b0 b1 b2 b3 cs) < (48 : Int32)
  · skip
    refine o_icY X1 hx hby d11_18 (tlt hc18_2).1 (by decide) (q := 28) (by decide) ?_
    refine o_iconst X1 hx hby d11_28 (z := 0) rfl (q := 29) rfl ?_
    exact own_outN X1 hx hlk (t := .boolean) hret (by simp) (hb hby d11_29) (z' := (0 : Int32)) rfl (Q := Q11c0n4x02 Z o0 ob k b0 b1 b2 b3 cs vf h0 n0) ⟨by simp only [fhc0n4x02, if_neg hcs, if_pos hc18_2], N1, hh1⟩ (by decide) (by decide)
  · skip
    refine o_icN X1 hx hby d11_18 (flt hc18_2).1 (q := 21) rfl ?_
    refine o_iload X1 hx hby d11_21 rfl (q := 23) rfl ?_
    refine o_bipush X1 hx hby d11_23 (z := 57) rfl (q := 25) rfl ?_
    by_cases hc25_3 : (57 : Int32) < (f_charAtc0n4i0 b0 b1 b2 b3 cs)
    · skip
      refine o_icN X1 hx hby d11_25 (tlt hc25_3).2.2.2 (q := 28) rfl ?_
      refine o_iconst X1 hx hby d11_28 (z := 0) rfl (q := 29) rfl ?_
      exact own_outN X1 hx hlk (t := .boolean) hret (by simp) (hb hby d11_29) (z' := (0 : Int32)) rfl (Q := Q11c0n4x02 Z o0 ob k b0 b1 b2 b3 cs vf h0 n0) ⟨by simp only [fhc0n4x02, if_neg hcs, if_neg hc18_2, if_pos hc25_3], N1, hh1⟩ (by decide) (by decide)
    · skip
      refine o_icY X1 hx hby d11_25 (flt hc25_3).2.2.2 (by decide) (q := 30) (by decide) ?_
      refine o_iinc X1 hx hby d11_30 rfl (l' := #[rv o0, iv 0, iv 2, iv 1, iv (f_charAtc0n4i0 b0 b1 b2 b3 cs)]) rfl (q := 33) rfl ?_
      refine o_goto X1 hx hby d11_33 (by decide) (q := 2) (by decide) ?_
      refine o_iloadN X1 hx hby d11_2 rfl (q := 3) rfl ?_
      refine o_iloadN X1 hx hby d11_3 rfl (q := 4) rfl ?_
      refine o_icN X1 hx hby d11_4 (tlt (by decide : (1 : Int32) < (2 : Int32))).2.1 (q := 7) rfl ?_
      refine o_aloadN X1 hx hby d11_7 rfl rfl (q := 8) rfl ?_
      refine o_iloadN X1 hx hby d11_8 rfl (q := 9) rfl ?_
      obtain ⟨cq4, kq4, q4a, q4b, q4c⟩ := isOf hZ hh1 E
      obtain ⟨_, _, ⟨T4, L4, k4, n4⟩, -, X4, ⟨Lc4, hQ4, l4, y4, z4⟩, st4⟩ := X1.virtualBack hx (y := (⟨"java/lang/String", "charAt", "(I)C"⟩ : MethodName)) (z := (⟨"java/lang/String", "charAt", "(I)C"⟩ : MethodName)) hown (mvT hZ (w_ hw 50 rfl)) (mvT hZ (w_ hw 51 rfl)) (notFace_of_selects (args := #[]) (mvT hZ (w_ hw 53 rfl))) (mvT hZ (w_ hw 53 rfl)) (mvT hZ (w_ hw 52 rfl)) (by decide) (backOf (W := 0) (rm12c0n4i1 l Z a0 hw [] o0 ob k b0 b1 b2 b3 cs vf h0 n0 Z0 E Fv Fc V S_cs hcs S_f hvf) hZ (w_ hw 54 rfl) (w_ hw 8 rfl) (by decide) (by decide)) q4a q4c (g := (mkF m 9 #[rv o0, iv 0, iv 2, iv 1, iv (f_charAtc0n4i0 b0 b1 b2 b3 cs)] [.int 1, .ref o0])) rfl (by rw [hml]; rfl) (Steps.refl _) (argsL := [(.int 1)]) (rest := []) (lenOf pd_4 rfl) rfl (by show 2 * 0 + _ ≤ _; exact Nat.le_of_eq rfl) (hb hby d11_9) (fun _ _ => ⟨rfl, hh1, (by decide : 0 + 0 ≤ _), (by decide : 0 + 0 ≤ _)⟩)
      dsimp only [Pt.U, Pt.locs, Pt.cells, Pt.slots] at X4 l4 y4 z4 st4 hQ4
      subst l4 y4 z4
      obtain ⟨rfl, N4q, hh4⟩ := hQ4
      have N4 := Fr.app N1 N4q
      refine own_of (fun _ k => st4.trans k) ?_
      show own_Out p e below _ (T4.setTop (mkF m 12 #[rv o0, iv 0, iv 2, iv 1, iv (f_charAtc0n4i0 b0 b1 b2 b3 cs)] [.int (f_charAtc0n4i1 b0 b1 b2 b3 cs)]))
      refine o_istore X4 hx hby d11_12 (l' := #[rv o0, iv 0, iv 2, iv 1, iv (f_charAtc0n4i1 b0 b1 b2 b3 cs)]) rfl (q := 14) rfl ?_
      refine o_iload X4 hx hby d11_14 rfl (q := 16) rfl ?_
      refine o_bipush X4 hx hby d11_16 (z := 48) rfl (q := 18) rfl ?_
      by_cases hc18_5 : (f_charAtc0n4i1 b0 b1 b2 b3 cs) < (48 : Int32)
      · skip
        refine o_icY X4 hx hby d11_18 (tlt hc18_5).1 (by decide) (q := 28) (by decide) ?_
        refine o_iconst X4 hx hby d11_28 (z := 0) rfl (q := 29) rfl ?_
        exact own_outN X4 hx hlk (t := .boolean) hret (by simp) (hb hby d11_29) (z' := (0 : Int32)) rfl (Q := Q11c0n4x02 Z o0 ob k b0 b1 b2 b3 cs vf h0 n0) ⟨by simp only [fhc0n4x02, if_neg hcs, if_neg hc18_2, if_neg hc25_3, if_pos hc18_5], N4, hh4⟩ (by decide) (by decide)
      · skip
        refine o_icN X4 hx hby d11_18 (flt hc18_5).1 (q := 21) rfl ?_
        refine o_iload X4 hx hby d11_21 rfl (q := 23) rfl ?_
        refine o_bipush X4 hx hby d11_23 (z := 57) rfl (q := 25) rfl ?_
        by_cases hc25_6 : (57 : Int32) < (f_charAtc0n4i1 b0 b1 b2 b3 cs)
        · skip
          refine o_icN X4 hx hby d11_25 (tlt hc25_6).2.2.2 (q := 28) rfl ?_
          refine o_iconst X4 hx hby d11_28 (z := 0) rfl (q := 29) rfl ?_
          exact own_outN X4 hx hlk (t := .boolean) hret (by simp) (hb hby d11_29) (z' := (0 : Int32)) rfl (Q := Q11c0n4x02 Z o0 ob k b0 b1 b2 b3 cs vf h0 n0) ⟨by simp only [fhc0n4x02, if_neg hcs, if_neg hc18_2, if_neg hc25_3, if_neg hc18_5, if_pos hc25_6], N4, hh4⟩ (by decide) (by decide)
        · skip
          refine o_icY X4 hx hby d11_25 (flt hc25_6).2.2.2 (by decide) (q := 30) (by decide) ?_
          refine o_iinc X4 hx hby d11_30 rfl (l' := #[rv o0, iv 0, iv 2, iv 2, iv (f_charAtc0n4i1 b0 b1 b2 b3 cs)]) rfl (q := 33) rfl ?_
          refine o_goto X4 hx hby d11_33 (by decide) (q := 2) (by decide) ?_
          refine o_iloadN X4 hx hby d11_2 rfl (q := 3) rfl ?_
          refine o_iloadN X4 hx hby d11_3 rfl (q := 4) rfl ?_
          refine o_icY X4 hx hby d11_4 (flt (by decide : ¬ ((2 : Int32) < (2 : Int32)))).2.1 (by decide) (q := 36) (by decide) ?_
          refine o_iconst X4 hx hby d11_36 (z := 1) rfl (q := 37) rfl ?_
          exact own_outN X4 hx hlk (t := .boolean) hret (by simp) (hb hby d11_37) (z' := (1 : Int32)) rfl (Q := Q11c0n4x02 Z o0 ob k b0 b1 b2 b3 cs vf h0 n0) ⟨by simp only [fhc0n4x02, if_neg hcs, if_neg hc18_2, if_neg hc25_3, if_neg hc18_5, if_neg hc25_6], N4, hh4⟩ (by decide) (by decide)
theorem ef_11c0n4x03 (m : MethodId) (x0 : Addr) : entryFrame m #[(.ref x0), (.int 0), (.int 3)] 5 = mkF m 0 #[.val (.ref x0), .val (.int 0), .val (.int 3), .unset, .unset] [] := by first | (simp [entryFrame, mkF, argsToLocals, Value.category]; done) | rfl
def fhc0n4x03 (b0 b1 b2 b3 cs : Int32) : Int32 := if (f_charAtc0n4i0 b0 b1 b2 b3 cs) < (48 : Int32) then (0 : Int32)
  else if (57 : Int32) < (f_charAtc0n4i0 b0 b1 b2 b3 cs) then (0 : Int32)
    else if (f_charAtc0n4i1 b0 b1 b2 b3 cs) < (48 : Int32) then (0 : Int32)
      else if (57 : Int32) < (f_charAtc0n4i1 b0 b1 b2 b3 cs) then (0 : Int32)
        else if (f_charAtc0n4i2 b0 b1 b2 b3 cs) < (48 : Int32) then (0 : Int32)
          else if (57 : Int32) < (f_charAtc0n4i2 b0 b1 b2 b3 cs) then (0 : Int32)
            else (1 : Int32)
def Q11c0n4x03 (Z : State) (o0 ob : Addr) (k : ClassId) (b0 b1 b2 b3 cs : Int32) (vf : Value) (h0 : Heap) (n0 : Nat) (v : Option Value) (h : Heap) (L : List Loc) : Prop := v = some (.int (fhc0n4x03 b0 b1 b2 b3 cs)) ∧ Fr n0 L ∧ h = h0
set_option maxRecDepth 65536 in
set_option maxHeartbeats 40000000 in
theorem rm11c0n4x03 (l : Launch) (Z : State) (a0 : Array Value) (hw : ∀ d ∈ tables_1, d.before a0 Z = true) (ws : List Jvm.Cond) (o0 ob : Addr) (k : ClassId) (b0 b1 b2 b3 cs : Int32) (vf : Value) (h0 : Heap) (n0 : Nat) (Z0 : n0 ≤ h0.size) (E : Exa Z h0 o0 "java/lang/String") (Fv : Fld Z h0 o0 "java/lang/String" "value" "[B" (.ref ob)) (Fc : Fld Z h0 o0 "java/lang/String" "coder" "B" (.int 0)) (V : Arv Z h0 ob k .byte (4 : Int32) [(.int b0), (.int b1), (.int b2), (.int b3)] (.int 0)) (S_cs : Sta Z h0 "java/lang/String" "COMPACT_STRINGS" "Z" (.int cs)) (hcs : ¬ (cs = (0 : Int32))) (S_f : Sta Z h0 "jdk/internal/util/Preconditions" "SIOOBE_FORMATTER" "Ljava/util/function/BiFunction;" vf) (hvf : vf.isRef = true) :
    MetFree l (⟨"com/example/fides/fides/ledger/Position", "hasOnlyAsciiDigits", "(Ljava/lang/String;II)Z"⟩ : MethodName) (head1 (Jvm.Cond.code (⟨"com/example/fides/fides/ledger/Position", "hasOnlyAsciiDigits", "(Ljava/lang/String;II)Z"⟩ : MethodName) prog_28_method_5_code 5 (some .boolean) :: ws) (⟨5, 0, 0, 66⟩ : Room)) (fun a U => a = #[(.ref o0), (.int 0), (.int 3)] ∧ Z.Warmed39 U.vm ∧ U.heap = h0) (fun _ _ _ _ _ => True) (fun _ U o U' => ∃ v L, o = .returned v ∧ Q11c0n4x03 Z o0 ob k b0 b1 b2 b3 cs vf h0 n0 v U'.heap L ∧ FrameEnd U o U' L (⟨5, 0, 0, 66⟩ : Room).cells (⟨5, 0, 0, 66⟩ : Room).slots) := by
  refine MetFree.of_bodySF (plainFor_of_name pn_4) hisR ?_
  intro p e s m args below meth c s₁ Bd hml0 hP hK
  obtain ⟨rfl, hZ, hh⟩ := hP
  have hx := Bd.exec
  have hby := Bd.bytes
  have hml : c.maxLocals = 5 := hml0
  have hown : s.vm.findClass "com/example/fides/fides/ledger/Position" = some m.cls := findClass_of_methodNamed Bd.named
  have hnm := (name_of_methodNamed Bd.named Bd.method).1
  have X0 : Stand p l e (⟨5, 0, 0, 66⟩ : Room) s m #[(.ref o0), (.int 0), (.int 3)] below meth c s₁ [] 0 0 := Stand.of_body Bd
  have e0 : s₁.heap = h0 := by rw [← hh, Bd.state]; rfl
  have N0 := Fr.nil n0
  have hret := Bd.returns
  have hlk := BodyLoose.notSynchronized Bd
  show own_Out p e below (fun o U' => ∃ v L, o = .returned v ∧ Q11c0n4x03 Z o0 ob k b0 b1 b2 b3 cs vf h0 n0 v U'.heap L ∧ FrameEnd s o U' L (⟨5, 0, 0, 66⟩ : Room).cells (⟨5, 0, 0, 66⟩ : Room).slots) (s₁.setTop (entryFrame m #[(.ref o0), (.int 0), (.int 3)] 5))
  refine own_of (fun t k => castTop (ef_11c0n4x03 m o0) k) ?_
  show own_Out p e below _ (s₁.setTop (mkF m 0 #[rv o0, iv 0, iv 3, .unset, .unset] []))
  refine o_iloadN X0 hx hby d11_0 rfl (q := 1) rfl ?_
  refine o_istoreN X0 hx hby d11_1 (l' := #[rv o0, iv 0, iv 3, iv 0, .unset]) rfl (q := 2) rfl ?_
  refine o_iloadN X0 hx hby d11_2 rfl (q := 3) rfl ?_
  refine o_iloadN X0 hx hby d11_3 rfl (q := 4) rfl ?_
  refine o_icN X0 hx hby d11_4 (tlt (by decide : (0 : Int32) < (3 : Int32))).2.1 (q := 7) rfl ?_
  refine o_aloadN X0 hx hby d11_7 rfl rfl (q := 8) rfl ?_
  refine o_iloadN X0 hx hby d11_8 rfl (q := 9) rfl ?_
  obtain ⟨cq1, kq1, q1a, q1b, q1c⟩ := isOf hZ e0 E
  obtain ⟨_, _, ⟨T1, L1, k1, n1⟩, -, X1, ⟨Lc1, hQ1, l1, y1, z1⟩, st1⟩ := X0.virtualBack hx (y := (⟨"java/lang/String", "charAt", "(I)C"⟩ : MethodName)) (z := (⟨"java/lang/String", "charAt", "(I)C"⟩ : MethodName)) hown (mvT hZ (w_ hw 50 rfl)) (mvT hZ (w_ hw 51 rfl)) (notFace_of_selects (args := #[]) (mvT hZ (w_ hw 53 rfl))) (mvT hZ (w_ hw 53 rfl)) (mvT hZ (w_ hw 52 rfl)) (by decide) (backOf (W := 0) (rm12c0n4i0 l Z a0 hw [] o0 ob k b0 b1 b2 b3 cs vf h0 n0 Z0 E Fv Fc V S_cs hcs S_f hvf) hZ (w_ hw 54 rfl) (w_ hw 8 rfl) (by decide) (by decide)) q1a q1c (g := (mkF m 9 #[rv o0, iv 0, iv 3, iv 0, .unset] [.int 0, .ref o0])) rfl (by rw [hml]; rfl) (Steps.refl _) (argsL := [(.int 0)]) (rest := []) (lenOf pd_4 rfl) rfl (by show 2 * 0 + _ ≤ _; exact Nat.le_of_eq rfl) (hb hby d11_9) (fun _ _ => ⟨rfl, e0, (by decide : 0 + 0 ≤ _), (by decide : 0 + 0 ≤ _)⟩)
  dsimp only [Pt.U, Pt.locs, Pt.cells, Pt.slots] at X1 l1 y1 z1 st1 hQ1
  subst l1 y1 z1
  obtain ⟨rfl, N1q, hh1⟩ := hQ1
  have N1 := Fr.app N0 N1q
  refine own_of (fun _ k => st1.trans k) ?_
  show own_Out p e below _ (T1.setTop (mkF m 12 #[rv o0, iv 0, iv 3, iv 0, .unset] [.int (f_charAtc0n4i0 b0 b1 b2 b3 cs)]))
  refine o_istore X1 hx hby d11_12 (l' := #[rv o0, iv 0, iv 3, iv 0, iv (f_charAtc0n4i0 b0 b1 b2 b3 cs)]) rfl (q := 14) rfl ?_
  refine o_iload X1 hx hby d11_14 rfl (q := 16) rfl ?_
  refine o_bipush X1 hx hby d11_16 (z := 48) rfl (q := 18) rfl ?_
  by_cases hc18_2 : (f_charAtc0n4i0 b0 b1 b2 b3 cs) < (48 : Int32)
  · skip
    refine o_icY X1 hx hby d11_18 (tlt hc18_2).1 (by decide) (q := 28) (by decide) ?_
    refine o_iconst X1 hx hby d11_28 (z := 0) rfl (q := 29) rfl ?_
    exact own_outN X1 hx hlk (t := .boolean) hret (by simp) (hb hby d11_29) (z' := (0 : Int32)) rfl (Q := Q11c0n4x03 Z o0 ob k b0 b1 b2 b3 cs vf h0 n0) ⟨by simp only [fhc0n4x03, if_neg hcs, if_pos hc18_2], N1, hh1⟩ (by decide) (by decide)
  · skip
    refine o_icN X1 hx hby d11_18 (flt hc18_2).1 (q := 21) rfl ?_
    refine o_iload X1 hx hby d11_21 rfl (q := 23) rfl ?_
    refine o_bipush X1 hx hby d11_23 (z := 57) rfl (q := 25) rfl ?_
    by_cases hc25_3 : (57 : Int32) < (f_charAtc0n4i0 b0 b1 b2 b3 cs)
    · skip
      refine o_icN X1 hx hby d11_25 (tlt hc25_3).2.2.2 (q := 28) rfl ?_
      refine o_iconst X1 hx hby d11_28 (z := 0) rfl (q := 29) rfl ?_
      exact own_outN X1 hx hlk (t := .boolean) hret (by simp) (hb hby d11_29) (z' := (0 : Int32)) rfl (Q := Q11c0n4x03 Z o0 ob k b0 b1 b2 b3 cs vf h0 n0) ⟨by simp only [fhc0n4x03, if_neg hcs, if_neg hc18_2, if_pos hc25_3], N1, hh1⟩ (by decide) (by decide)
    · skip
      refine o_icY X1 hx hby d11_25 (flt hc25_3).2.2.2 (by decide) (q := 30) (by decide) ?_
      refine o_iinc X1 hx hby d11_30 rfl (l' := #[rv o0, iv 0, iv 3, iv 1, iv (f_charAtc0n4i0 b0 b1 b2 b3 cs)]) rfl (q := 33) rfl ?_
      refine o_goto X1 hx hby d11_33 (by decide) (q := 2) (by decide) ?_
      refine o_iloadN X1 hx hby d11_2 rfl (q := 3) rfl ?_
      refine o_iloadN X1 hx hby d11_3 rfl (q := 4) rfl ?_
      refine o_icN X1 hx hby d11_4 (tlt (by decide : (1 : Int32) < (3 : Int32))).2.1 (q := 7) rfl ?_
      refine o_aloadN X1 hx hby d11_7 rfl rfl (q := 8) rfl ?_
      refine o_iloadN X1 hx hby d11_8 rfl (q := 9) rfl ?_
      obtain ⟨cq4, kq4, q4a, q4b, q4c⟩ := isOf hZ hh1 E
      obtain ⟨_, _, ⟨T4, L4, k4, n4⟩, -, X4, ⟨Lc4, hQ4, l4, y4, z4⟩, st4⟩ := X1.virtualBack hx (y := (⟨"java/lang/String", "charAt", "(I)C"⟩ : MethodName)) (z := (⟨"java/lang/String", "charAt", "(I)C"⟩ : MethodName)) hown (mvT hZ (w_ hw 50 rfl)) (mvT hZ (w_ hw 51 rfl)) (notFace_of_selects (args := #[]) (mvT hZ (w_ hw 53 rfl))) (mvT hZ (w_ hw 53 rfl)) (mvT hZ (w_ hw 52 rfl)) (by decide) (backOf (W := 0) (rm12c0n4i1 l Z a0 hw [] o0 ob k b0 b1 b2 b3 cs vf h0 n0 Z0 E Fv Fc V S_cs hcs S_f hvf) hZ (w_ hw 54 rfl) (w_ hw 8 rfl) (by decide) (by decide)) q4a q4c (g := (mkF m 9 #[rv o0, iv 0, iv 3, iv 1, iv (f_charAtc0n4i0 b0 b1 b2 b3 cs)] [.int 1, .ref o0])) rfl (by rw [hml]; rfl) (Steps.refl _) (argsL := [(.int 1)]) (rest := []) (lenOf pd_4 rfl) rfl (by show 2 * 0 + _ ≤ _; exact Nat.le_of_eq rfl) (hb hby d11_9) (fun _ _ => ⟨rfl, hh1, (by decide : 0 + 0 ≤ _), (by decide : 0 + 0 ≤ _)⟩)
      dsimp only [Pt.U, Pt.locs, Pt.cells, Pt.slots] at X4 l4 y4 z4 st4 hQ4
      subst l4 y4 z4
      obtain ⟨rfl, N4q, hh4⟩ := hQ4
      have N4 := Fr.app N1 N4q
      refine own_of (fun _ k => st4.trans k) ?_
      show own_Out p e below _ (T4.setTop (mkF m 12 #[rv o0, iv 0, iv 3, iv 1, iv (f_charAtc0n4i0 b0 b1 b2 b3 cs)] [.int (f_charAtc0n4i1 b0 b1 b2 b3 cs)]))
      refine o_istore X4 hx hby d11_12 (l' := #[rv o0, iv 0, iv 3, iv 1, iv (f_charAtc0n4i1 b0 b1 b2 b3 cs)]) rfl (q := 14) rfl ?_
      refine o_iload X4 hx hby d11_14 rfl (q := 16) rfl ?_
      refine o_bipush X4 hx hby d11_16 (z := 48) rfl (q := 18) rfl ?_
      by_cases hc18_5 : (f_charAtc0n4i1 b0 b1 b2 b3 cs) < (48 : Int32)
      · skip
        refine o_icY X4 hx hby d11_18 (tlt hc18_5).1 (by decide) (q := 28) (by decide) ?_
        refine o_iconst X4 hx hby d11_28 (z := 0) rfl (q := 29) rfl ?_
        exact own_outN X4 hx hlk (t := .boolean) hret (by simp) (hb hby d11_29) (z' := (0 : Int32)) rfl (Q := Q11c0n4x03 Z o0 ob k b0 b1 b2 b3 cs vf h0 n0) ⟨by simp only [fhc0n4x03, if_neg hcs, if_neg hc18_2, if_neg hc25_3, if_pos hc18_5], N4, hh4⟩ (by decide) (by decide)
      · skip
        refine o_icN X4 hx hby d11_18 (flt hc18_5).1 (q := 21) rfl ?_
        refine o_iload X4 hx hby d11_21 rfl (q := 23) rfl ?_
        refine o_bipush X4 hx hby d11_23 (z := 57) rfl (q := 25) rfl ?_
        by_cases hc25_6 : (57 : Int32) < (f_charAtc0n4i1 b0 b1 b2 b3 cs)
        · skip
          refine o_icN X4 hx hby d11_25 (tlt hc25_6).2.2.2 (q := 28) rfl ?_
          refine o_iconst X4 hx hby d11_28 (z := 0) rfl (q := 29) rfl ?_
          exact own_outN X4 hx hlk (t := .boolean) hret (by simp) (hb hby d11_29) (z' := (0 : Int32)) rfl (Q := Q11c0n4x03 Z o0 ob k b0 b1 b2 b3 cs vf h0 n0) ⟨by simp only [fhc0n4x03, if_neg hcs, if_neg hc18_2, if_neg hc25_3, if_neg hc18_5, if_pos hc25_6], N4, hh4⟩ (by decide) (by decide)
        · skip
          refine o_icY X4 hx hby d11_25 (flt hc25_6).2.2.2 (by decide) (q := 30) (by decide) ?_
          refine o_iinc X4 hx hby d11_30 rfl (l' := #[rv o0, iv 0, iv 3, iv 2, iv (f_charAtc0n4i1 b0 b1 b2 b3 cs)]) rfl (q := 33) rfl ?_
          refine o_goto X4 hx hby d11_33 (by decide) (q := 2) (by decide) ?_
          refine o_iloadN X4 hx hby d11_2 rfl (q := 3) rfl ?_
          refine o_iloadN X4 hx hby d11_3 rfl (q := 4) rfl ?_
          refine o_icN X4 hx hby d11_4 (tlt (by decide : (2 : Int32) < (3 : Int32))).2.1 (q := 7) rfl ?_
          refine o_aloadN X4 hx hby d11_7 rfl rfl (q := 8) rfl ?_
          refine o_iloadN X4 hx hby d11_8 rfl (q := 9) rfl ?_
          obtain ⟨cq7, kq7, q7a, q7b, q7c⟩ := isOf hZ hh4 E
          obtain ⟨_, _, ⟨T7, L7, k7, n7⟩, -, X7, ⟨Lc7, hQ7, l7, y7, z7⟩, st7⟩ := X4.virtualBack hx (y := (⟨"java/lang/String", "charAt", "(I)C"⟩ : MethodName)) (z := (⟨"java/lang/String", "charAt", "(I)C"⟩ : MethodName)) hown (mvT hZ (w_ hw 50 rfl)) (mvT hZ (w_ hw 51 rfl)) (notFace_of_selects (args := #[]) (mvT hZ (w_ hw 53 rfl))) (mvT hZ (w_ hw 53 rfl)) (mvT hZ (w_ hw 52 rfl)) (by decide) (backOf (W := 0) (rm12c0n4i2 l Z a0 hw [] o0 ob k b0 b1 b2 b3 cs vf h0 n0 Z0 E Fv Fc V S_cs hcs S_f hvf) hZ (w_ hw 54 rfl) (w_ hw 8 rfl) (by decide) (by decide)) q7a q7c (g := (mkF m 9 #[rv o0, iv 0, iv 3, iv 2, iv (f_charAtc0n4i1 b0 b1 b2 b3 cs)] [.int 2, .ref o0])) rfl (by rw [hml]; rfl) (Steps.refl _) (argsL := [(.int 2)]) (rest := []) (lenOf pd_4 rfl) rfl (by show 2 * 0 + _ ≤ _; exact Nat.le_of_eq rfl) (hb hby d11_9) (fun _ _ => ⟨rfl, hh4, (by decide : 0 + 0 ≤ _), (by decide : 0 + 0 ≤ _)⟩)
          dsimp only [Pt.U, Pt.locs, Pt.cells, Pt.slots] at X7 l7 y7 z7 st7 hQ7
          subst l7 y7 z7
          obtain ⟨rfl, N7q, hh7⟩ := hQ7
          have N7 := Fr.app N4 N7q
          refine own_of (fun _ k => st7.trans k) ?_
          show own_Out p e below _ (T7.setTop (mkF m 12 #[rv o0, iv 0, iv 3, iv 2, iv (f_charAtc0n4i1 b0 b1 b2 b3 cs)] [.int (f_charAtc0n4i2 b0 b1 b2 b3 cs)]))
          refine o_istore X7 hx hby d11_12 (l' := #[rv o0, iv 0, iv 3, iv 2, iv (f_charAtc0n4i2 b0 b1 b2 b3 cs)]) rfl (q := 14) rfl ?_
          refine o_iload X7 hx hby d11_14 rfl (q := 16) rfl ?_
          refine o_bipush X7 hx hby d11_16 (z := 48) rfl (q := 18) rfl ?_
          by_cases hc18_8 : (f_charAtc0n4i2 b0 b1 b2 b3 cs) < (48 : Int32)
          · skip
            refine o_icY X7 hx hby d11_18 (tlt hc18_8).1 (by decide) (q := 28) (by decide) ?_
            refine o_iconst X7 hx hby d11_28 (z := 0) rfl (q := 29) rfl ?_
            exact own_outN X7 hx hlk (t := .boolean) hret (by simp) (hb hby d11_29) (z' := (0 : Int32)) rfl (Q := Q11c0n4x03 Z o0 ob k b0 b1 b2 b3 cs vf h0 n0) ⟨by simp only [fhc0n4x03, if_neg hcs, if_neg hc18_2, if_neg hc25_3, if_neg hc18_5, if_neg hc25_6, if_pos hc18_8], N7, hh7⟩ (by decide) (by decide)
          · skip
            refine o_icN X7 hx hby d11_18 (flt hc18_8).1 (q := 21) rfl ?_
            refine o_iload X7 hx hby d11_21 rfl (q := 23) rfl ?_
            refine o_bipush X7 hx hby d11_23 (z := 57) rfl (q := 25) rfl ?_
            by_cases hc25_9 : (57 : Int32) < (f_charAtc0n4i2 b0 b1 b2 b3 cs)
            · skip
              refine o_icN X7 hx hby d11_25 (tlt hc25_9).2.2.2 (q := 28) rfl ?_
              refine o_iconst X7 hx hby d11_28 (z := 0) rfl (q := 29) rfl ?_
              exact own_outN X7 hx hlk (t := .boolean) hret (by simp) (hb hby d11_29) (z' := (0 : Int32)) rfl (Q := Q11c0n4x03 Z o0 ob k b0 b1 b2 b3 cs vf h0 n0) ⟨by simp only [fhc0n4x03, if_neg hcs, if_neg hc18_2, if_neg hc25_3, if_neg hc18_5, if_neg hc25_6, if_neg hc18_8, if_pos hc25_9], N7, hh7⟩ (by decide) (by decide)
            · skip
              refine o_icY X7 hx hby d11_25 (flt hc25_9).2.2.2 (by decide) (q := 30) (by decide) ?_
              refine o_iinc X7 hx hby d11_30 rfl (l' := #[rv o0, iv 0, iv 3, iv 3, iv (f_charAtc0n4i2 b0 b1 b2 b3 cs)]) rfl (q := 33) rfl ?_
              refine o_goto X7 hx hby d11_33 (by decide) (q := 2) (by decide) ?_
              refine o_iloadN X7 hx hby d11_2 rfl (q := 3) rfl ?_
              refine o_iloadN X7 hx hby d11_3 rfl (q := 4) rfl ?_
              refine o_icY X7 hx hby d11_4 (flt (by decide : ¬ ((3 : Int32) < (3 : Int32)))).2.1 (by decide) (q := 36) (by decide) ?_
              refine o_iconst X7 hx hby d11_36 (z := 1) rfl (q := 37) rfl ?_
              exact own_outN X7 hx hlk (t := .boolean) hret (by simp) (hb hby d11_37) (z' := (1 : Int32)) rfl (Q := Q11c0n4x03 Z o0 ob k b0 b1 b2 b3 cs vf h0 n0) ⟨by simp only [fhc0n4x03, if_neg hcs, if_neg hc18_2, if_neg hc25_3, if_neg hc18_5, if_neg hc25_6, if_neg hc18_8, if_neg hc25_9], N7, hh7⟩ (by decide) (by decide)
theorem ef_11c0n4x04 (m : MethodId) (x0 : Addr) : entryFrame m #[(.ref x0), (.int 0), (.int 4)] 5 = mkF m 0 #[.val (.ref x0), .val (.int 0), .val (.int 4), .unset, .unset] [] := by first | (simp [entryFrame, mkF, argsToLocals, Value.category]; done) | rfl
def fhc0n4x04 (b0 b1 b2 b3 cs : Int32) : Int32 := if (f_charAtc0n4i0 b0 b1 b2 b3 cs) < (48 : Int32) then (0 : Int32)
  else if (57 : Int32) < (f_charAtc0n4i0 b0 b1 b2 b3 cs) then (0 : Int32)
    else if (f_charAtc0n4i1 b0 b1 b2 b3 cs) < (48 : Int32) then (0 : Int32)
      else if (57 : Int32) < (f_charAtc0n4i1 b0 b1 b2 b3 cs) then (0 : Int32)
        else if (f_charAtc0n4i2 b0 b1 b2 b3 cs) < (48 : Int32) then (0 : Int32)
          else if (57 : Int32) < (f_charAtc0n4i2 b0 b1 b2 b3 cs) then (0 : Int32)
            else if (f_charAtc0n4i3 b0 b1 b2 b3 cs) < (48 : Int32) then (0 : Int32)
              else if (57 : Int32) < (f_charAtc0n4i3 b0 b1 b2 b3 cs) then (0 : Int32)
                else (1 : Int32)
def Q11c0n4x04 (Z : State) (o0 ob : Addr) (k : ClassId) (b0 b1 b2 b3 cs : Int32) (vf : Value) (h0 : Heap) (n0 : Nat) (v : Option Value) (h : Heap) (L : List Loc) : Prop := v = some (.int (fhc0n4x04 b0 b1 b2 b3 cs)) ∧ Fr n0 L ∧ h = h0
set_option maxRecDepth 65536 in
set_option maxHeartbeats 40000000 in
theorem rm11c0n4x04 (l : Launch) (Z : State) (a0 : Array Value) (hw : ∀ d ∈ tables_1, d.before a0 Z = true) (ws : List Jvm.Cond) (o0 ob : Addr) (k : ClassId) (b0 b1 b2 b3 cs : Int32) (vf : Value) (h0 : Heap) (n0 : Nat) (Z0 : n0 ≤ h0.size) (E : Exa Z h0 o0 "java/lang/String") (Fv : Fld Z h0 o0 "java/lang/String" "value" "[B" (.ref ob)) (Fc : Fld Z h0 o0 "java/lang/String" "coder" "B" (.int 0)) (V : Arv Z h0 ob k .byte (4 : Int32) [(.int b0), (.int b1), (.int b2), (.int b3)] (.int 0)) (S_cs : Sta Z h0 "java/lang/String" "COMPACT_STRINGS" "Z" (.int cs)) (hcs : ¬ (cs = (0 : Int32))) (S_f : Sta Z h0 "jdk/internal/util/Preconditions" "SIOOBE_FORMATTER" "Ljava/util/function/BiFunction;" vf) (hvf : vf.isRef = true) :
    MetFree l (⟨"com/example/fides/fides/ledger/Position", "hasOnlyAsciiDigits", "(Ljava/lang/String;II)Z"⟩ : MethodName) (head1 (Jvm.Cond.code (⟨"com/example/fides/fides/ledger/Position", "hasOnlyAsciiDigits", "(Ljava/lang/String;II)Z"⟩ : MethodName) prog_28_method_5_code 5 (some .boolean) :: ws) (⟨5, 0, 0, 66⟩ : Room)) (fun a U => a = #[(.ref o0), (.int 0), (.int 4)] ∧ Z.Warmed39 U.vm ∧ U.heap = h0) (fun _ _ _ _ _ => True) (fun _ U o U' => ∃ v L, o = .returned v ∧ Q11c0n4x04 Z o0 ob k b0 b1 b2 b3 cs vf h0 n0 v U'.heap L ∧ FrameEnd U o U' L (⟨5, 0, 0, 66⟩ : Room).cells (⟨5, 0, 0, 66⟩ : Room).slots) := by
  refine MetFree.of_bodySF (plainFor_of_name pn_4) hisR ?_
  intro p e s m args below meth c s₁ Bd hml0 hP hK
  obtain ⟨rfl, hZ, hh⟩ := hP
  have hx := Bd.exec
  have hby := Bd.bytes
  have hml : c.maxLocals = 5 := hml0
  have hown : s.vm.findClass "com/example/fides/fides/ledger/Position" = some m.cls := findClass_of_methodNamed Bd.named
  have hnm := (name_of_methodNamed Bd.named Bd.method).1
  have X0 : Stand p l e (⟨5, 0, 0, 66⟩ : Room) s m #[(.ref o0), (.int 0), (.int 4)] below meth c s₁ [] 0 0 := Stand.of_body Bd
  have e0 : s₁.heap = h0 := by rw [← hh, Bd.state]; rfl
  have N0 := Fr.nil n0
  have hret := Bd.returns
  have hlk := BodyLoose.notSynchronized Bd
  show own_Out p e below (fun o U' => ∃ v L, o = .returned v ∧ Q11c0n4x04 Z o0 ob k b0 b1 b2 b3 cs vf h0 n0 v U'.heap L ∧ FrameEnd s o U' L (⟨5, 0, 0, 66⟩ : Room).cells (⟨5, 0, 0, 66⟩ : Room).slots) (s₁.setTop (entryFrame m #[(.ref o0), (.int 0), (.int 4)] 5))
  refine own_of (fun t k => castTop (ef_11c0n4x04 m o0) k) ?_
  show own_Out p e below _ (s₁.setTop (mkF m 0 #[rv o0, iv 0, iv 4, .unset, .unset] []))
  refine o_iloadN X0 hx hby d11_0 rfl (q := 1) rfl ?_
  refine o_istoreN X0 hx hby d11_1 (l' := #[rv o0, iv 0, iv 4, iv 0, .unset]) rfl (q := 2) rfl ?_
  refine o_iloadN X0 hx hby d11_2 rfl (q := 3) rfl ?_
  refine o_iloadN X0 hx hby d11_3 rfl (q := 4) rfl ?_
  refine o_icN X0 hx hby d11_4 (tlt (by decide : (0 : Int32) < (4 : Int32))).2.1 (q := 7) rfl ?_
  refine o_aloadN X0 hx hby d11_7 rfl rfl (q := 8) rfl ?_
  refine o_iloadN X0 hx hby d11_8 rfl (q := 9) rfl ?_
  obtain ⟨cq1, kq1, q1a, q1b, q1c⟩ := isOf hZ e0 E
  obtain ⟨_, _, ⟨T1, L1, k1, n1⟩, -, X1, ⟨Lc1, hQ1, l1, y1, z1⟩, st1⟩ := X0.virtualBack hx (y := (⟨"java/lang/String", "charAt", "(I)C"⟩ : MethodName)) (z := (⟨"java/lang/String", "charAt", "(I)C"⟩ : MethodName)) hown (mvT hZ (w_ hw 50 rfl)) (mvT hZ (w_ hw 51 rfl)) (notFace_of_selects (args := #[]) (mvT hZ (w_ hw 53 rfl))) (mvT hZ (w_ hw 53 rfl)) (mvT hZ (w_ hw 52 rfl)) (by decide) (backOf (W := 0) (rm12c0n4i0 l Z a0 hw [] o0 ob k b0 b1 b2 b3 cs vf h0 n0 Z0 E Fv Fc V S_cs hcs S_f hvf) hZ (w_ hw 54 rfl) (w_ hw 8 rfl) (by decide) (by decide)) q1a q1c (g := (mkF m 9 #[rv o0, iv 0, iv 4, iv 0, .unset] [.int 0, .ref o0])) rfl (by rw [hml]; rfl) (Steps.refl _) (argsL := [(.int 0)]) (rest := []) (lenOf pd_4 rfl) rfl (by show 2 * 0 + _ ≤ _; exact Nat.le_of_eq rfl) (hb hby d11_9) (fun _ _ => ⟨rfl, e0, (by decide : 0 + 0 ≤ _), (by decide : 0 + 0 ≤ _)⟩)
  dsimp only [Pt.U, Pt.locs, Pt.cells, Pt.slots] at X1 l1 y1 z1 st1 hQ1
  subst l1 y1 z1
  obtain ⟨rfl, N1q, hh1⟩ := hQ1
  have N1 := Fr.app N0 N1q
  refine own_of (fun _ k => st1.trans k) ?_
  show own_Out p e below _ (T1.setTop (mkF m 12 #[rv o0, iv 0, iv 4, iv 0, .unset] [.int (f_charAtc0n4i0 b0 b1 b2 b3 cs)]))
  refine o_istore X1 hx hby d11_12 (l' := #[rv o0, iv 0, iv 4, iv 0, iv (f_charAtc0n4i0 b0 b1 b2 b3 cs)]) rfl (q := 14) rfl ?_
  refine o_iload X1 hx hby d11_14 rfl (q := 16) rfl ?_
  refine o_bipush X1 hx hby d11_16 (z := 48) rfl (q := 18) rfl ?_
  by_cases hc18_2 : (f_charAtc0n4i0 b0 b1 b2 b3 cs) < (48 : Int32)
  · skip
    refine o_icY X1 hx hby d11_18 (tlt hc18_2).1 (by decide) (q := 28) (by decide) ?_
    refine o_iconst X1 hx hby d11_28 (z := 0) rfl (q := 29) rfl ?_
    exact own_outN X1 hx hlk (t := .boolean) hret (by simp) (hb hby d11_29) (z' := (0 : Int32)) rfl (Q := Q11c0n4x04 Z o0 ob k b0 b1 b2 b3 cs vf h0 n0) ⟨by simp only [fhc0n4x04, if_neg hcs, if_pos hc18_2], N1, hh1⟩ (by decide) (by decide)
  · skip
    refine o_icN X1 hx hby d11_18 (flt hc18_2).1 (q := 21) rfl ?_
    refine o_iload X1 hx hby d11_21 rfl (q := 23) rfl ?_
    refine o_bipush X1 hx hby d11_23 (z := 57) rfl (q := 25) rfl ?_
    by_cases hc25_3 : (57 : Int32) < (f_charAtc0n4i0 b0 b1 b2 b3 cs)
    · skip
      refine o_icN X1 hx hby d11_25 (tlt hc25_3).2.2.2 (q := 28) rfl ?_
      refine o_iconst X1 hx hby d11_28 (z := 0) rfl (q := 29) rfl ?_
      exact own_outN X1 hx hlk (t := .boolean) hret (by simp) (hb hby d11_29) (z' := (0 : Int32)) rfl (Q := Q11c0n4x04 Z o0 ob k b0 b1 b2 b3 cs vf h0 n0) ⟨by simp only [fhc0n4x04, if_neg hcs, if_neg hc18_2, if_pos hc25_3], N1, hh1⟩ (by decide) (by decide)
    · skip
      refine o_icY X1 hx hby d11_25 (flt hc25_3).2.2.2 (by decide) (q := 30) (by decide) ?_
      refine o_iinc X1 hx hby d11_30 rfl (l' := #[rv o0, iv 0, iv 4, iv 1, iv (f_charAtc0n4i0 b0 b1 b2 b3 cs)]) rfl (q := 33) rfl ?_
      refine o_goto X1 hx hby d11_33 (by decide) (q := 2) (by decide) ?_
      refine o_iloadN X1 hx hby d11_2 rfl (q := 3) rfl ?_
      refine o_iloadN X1 hx hby d11_3 rfl (q := 4) rfl ?_
      refine o_icN X1 hx hby d11_4 (tlt (by decide : (1 : Int32) < (4 : Int32))).2.1 (q := 7) rfl ?_
      refine o_aloadN X1 hx hby d11_7 rfl rfl (q := 8) rfl ?_
      refine o_iloadN X1 hx hby d11_8 rfl (q := 9) rfl ?_
      obtain ⟨cq4, kq4, q4a, q4b, q4c⟩ := isOf hZ hh1 E
      obtain ⟨_, _, ⟨T4, L4, k4, n4⟩, -, X4, ⟨Lc4, hQ4, l4, y4, z4⟩, st4⟩ := X1.virtualBack hx (y := (⟨"java/lang/String", "charAt", "(I)C"⟩ : MethodName)) (z := (⟨"java/lang/String", "charAt", "(I)C"⟩ : MethodName)) hown (mvT hZ (w_ hw 50 rfl)) (mvT hZ (w_ hw 51 rfl)) (notFace_of_selects (args := #[]) (mvT hZ (w_ hw 53 rfl))) (mvT hZ (w_ hw 53 rfl)) (mvT hZ (w_ hw 52 rfl)) (by decide) (backOf (W := 0) (rm12c0n4i1 l Z a0 hw [] o0 ob k b0 b1 b2 b3 cs vf h0 n0 Z0 E Fv Fc V S_cs hcs S_f hvf) hZ (w_ hw 54 rfl) (w_ hw 8 rfl) (by decide) (by decide)) q4a q4c (g := (mkF m 9 #[rv o0, iv 0, iv 4, iv 1, iv (f_charAtc0n4i0 b0 b1 b2 b3 cs)] [.int 1, .ref o0])) rfl (by rw [hml]; rfl) (Steps.refl _) (argsL := [(.int 1)]) (rest := []) (lenOf pd_4 rfl) rfl (by show 2 * 0 + _ ≤ _; exact Nat.le_of_eq rfl) (hb hby d11_9) (fun _ _ => ⟨rfl, hh1, (by decide : 0 + 0 ≤ _), (by decide : 0 + 0 ≤ _)⟩)
      dsimp only [Pt.U, Pt.locs, Pt.cells, Pt.slots] at X4 l4 y4 z4 st4 hQ4
      subst l4 y4 z4
      obtain ⟨rfl, N4q, hh4⟩ := hQ4
      have N4 := Fr.app N1 N4q
      refine own_of (fun _ k => st4.trans k) ?_
      show own_Out p e below _ (T4.setTop (mkF m 12 #[rv o0, iv 0, iv 4, iv 1, iv (f_charAtc0n4i0 b0 b1 b2 b3 cs)] [.int (f_charAtc0n4i1 b0 b1 b2 b3 cs)]))
      refine o_istore X4 hx hby d11_12 (l' := #[rv o0, iv 0, iv 4, iv 1, iv (f_charAtc0n4i1 b0 b1 b2 b3 cs)]) rfl (q := 14) rfl ?_
      refine o_iload X4 hx hby d11_14 rfl (q := 16) rfl ?_
      refine o_bipush X4 hx hby d11_16 (z := 48) rfl (q := 18) rfl ?_
      by_cases hc18_5 : (f_charAtc0n4i1 b0 b1 b2 b3 cs) < (48 : Int32)
      · skip
        refine o_icY X4 hx hby d11_18 (tlt hc18_5).1 (by decide) (q := 28) (by decide) ?_
        refine o_iconst X4 hx hby d11_28 (z := 0) rfl (q := 29) rfl ?_
        exact own_outN X4 hx hlk (t := .boolean) hret (by simp) (hb hby d11_29) (z' := (0 : Int32)) rfl (Q := Q11c0n4x04 Z o0 ob k b0 b1 b2 b3 cs vf h0 n0) ⟨by simp only [fhc0n4x04, if_neg hcs, if_neg hc18_2, if_neg hc25_3, if_pos hc18_5], N4, hh4⟩ (by decide) (by decide)
      · skip
        refine o_icN X4 hx hby d11_18 (flt hc18_5).1 (q := 21) rfl ?_
        refine o_iload X4 hx hby d11_21 rfl (q := 23) rfl ?_
        refine o_bipush X4 hx hby d11_23 (z := 57) rfl (q := 25) rfl ?_
        by_cases hc25_6 : (57 : Int32) < (f_charAtc0n4i1 b0 b1 b2 b3 cs)
        · skip
          refine o_icN X4 hx hby d11_25 (tlt hc25_6).2.2.2 (q := 28) rfl ?_
          refine o_iconst X4 hx hby d11_28 (z := 0) rfl (q := 29) rfl ?_
          exact own_outN X4 hx hlk (t := .boolean) hret (by simp) (hb hby d11_29) (z' := (0 : Int32)) rfl (Q := Q11c0n4x04 Z o0 ob k b0 b1 b2 b3 cs vf h0 n0) ⟨by simp only [fhc0n4x04, if_neg hcs, if_neg hc18_2, if_neg hc25_3, if_neg hc18_5, if_pos hc25_6], N4, hh4⟩ (by decide) (by decide)
        · skip
          refine o_icY X4 hx hby d11_25 (flt hc25_6).2.2.2 (by decide) (q := 30) (by decide) ?_
          refine o_iinc X4 hx hby d11_30 rfl (l' := #[rv o0, iv 0, iv 4, iv 2, iv (f_charAtc0n4i1 b0 b1 b2 b3 cs)]) rfl (q := 33) rfl ?_
          refine o_goto X4 hx hby d11_33 (by decide) (q := 2) (by decide) ?_
          refine o_iloadN X4 hx hby d11_2 rfl (q := 3) rfl ?_
          refine o_iloadN X4 hx hby d11_3 rfl (q := 4) rfl ?_
          refine o_icN X4 hx hby d11_4 (tlt (by decide : (2 : Int32) < (4 : Int32))).2.1 (q := 7) rfl ?_
          refine o_aloadN X4 hx hby d11_7 rfl rfl (q := 8) rfl ?_
          refine o_iloadN X4 hx hby d11_8 rfl (q := 9) rfl ?_
          obtain ⟨cq7, kq7, q7a, q7b, q7c⟩ := isOf hZ hh4 E
          obtain ⟨_, _, ⟨T7, L7, k7, n7⟩, -, X7, ⟨Lc7, hQ7, l7, y7, z7⟩, st7⟩ := X4.virtualBack hx (y := (⟨"java/lang/String", "charAt", "(I)C"⟩ : MethodName)) (z := (⟨"java/lang/String", "charAt", "(I)C"⟩ : MethodName)) hown (mvT hZ (w_ hw 50 rfl)) (mvT hZ (w_ hw 51 rfl)) (notFace_of_selects (args := #[]) (mvT hZ (w_ hw 53 rfl))) (mvT hZ (w_ hw 53 rfl)) (mvT hZ (w_ hw 52 rfl)) (by decide) (backOf (W := 0) (rm12c0n4i2 l Z a0 hw [] o0 ob k b0 b1 b2 b3 cs vf h0 n0 Z0 E Fv Fc V S_cs hcs S_f hvf) hZ (w_ hw 54 rfl) (w_ hw 8 rfl) (by decide) (by decide)) q7a q7c (g := (mkF m 9 #[rv o0, iv 0, iv 4, iv 2, iv (f_charAtc0n4i1 b0 b1 b2 b3 cs)] [.int 2, .ref o0])) rfl (by rw [hml]; rfl) (Steps.refl _) (argsL := [(.int 2)]) (rest := []) (lenOf pd_4 rfl) rfl (by show 2 * 0 + _ ≤ _; exact Nat.le_of_eq rfl) (hb hby d11_9) (fun _ _ => ⟨rfl, hh4, (by decide : 0 + 0 ≤ _), (by decide : 0 + 0 ≤ _)⟩)
          dsimp only [Pt.U, Pt.locs, Pt.cells, Pt.slots] at X7 l7 y7 z7 st7 hQ7
          subst l7 y7 z7
          obtain ⟨rfl, N7q, hh7⟩ := hQ7
          have N7 := Fr.app N4 N7q
          refine own_of (fun _ k => st7.trans k) ?_
          show own_Out p e below _ (T7.setTop (mkF m 12 #[rv o0, iv 0, iv 4, iv 2, iv (f_charAtc0n4i1 b0 b1 b2 b3 cs)] [.int (f_charAtc0n4i2 b0 b1 b2 b3 cs)]))
          refine o_istore X7 hx hby d11_12 (l' := #[rv o0, iv 0, iv 4, iv 2, iv (f_charAtc0n4i2 b0 b1 b2 b3 cs)]) rfl (q := 14) rfl ?_
          refine o_iload X7 hx hby d11_14 rfl (q := 16) rfl ?_
          refine o_bipush X7 hx hby d11_16 (z := 48) rfl (q := 18) rfl ?_
          by_cases hc18_8 : (f_charAtc0n4i2 b0 b1 b2 b3 cs) < (48 : Int32)
          · skip
            refine o_icY X7 hx hby d11_18 (tlt hc18_8).1 (by decide) (q := 28) (by decide) ?_
            refine o_iconst X7 hx hby d11_28 (z := 0) rfl (q := 29) rfl ?_
            exact own_outN X7 hx hlk (t := .boolean) hret (by simp) (hb hby d11_29) (z' := (0 : Int32)) rfl (Q := Q11c0n4x04 Z o0 ob k b0 b1 b2 b3 cs vf h0 n0) ⟨by simp only [fhc0n4x04, if_neg hcs, if_neg hc18_2, if_neg hc25_3, if_neg hc18_5, if_neg hc25_6, if_pos hc18_8], N7, hh7⟩ (by decide) (by decide)
          · skip
            refine o_icN X7 hx hby d11_18 (flt hc18_8).1 (q := 21) rfl ?_
            refine o_iload X7 hx hby d11_21 rfl (q := 23) rfl ?_
            refine o_bipush X7 hx hby d11_23 (z := 57) rfl (q := 25) rfl ?_
            by_cases hc25_9 : (57 : Int32) < (f_charAtc0n4i2 b0 b1 b2 b3 cs)
            · skip
              refine o_icN X7 hx hby d11_25 (tlt hc25_9).2.2.2 (q := 28) rfl ?_
              refine o_iconst X7 hx hby d11_28 (z := 0) rfl (q := 29) rfl ?_
              exact own_outN X7 hx hlk (t := .boolean) hret (by simp) (hb hby d11_29) (z' := (0 : Int32)) rfl (Q := Q11c0n4x04 Z o0 ob k b0 b1 b2 b3 cs vf h0 n0) ⟨by simp only [fhc0n4x04, if_neg hcs, if_neg hc18_2, if_neg hc25_3, if_neg hc18_5, if_neg hc25_6, if_neg hc18_8, if_pos hc25_9], N7, hh7⟩ (by decide) (by decide)
            · skip
              refine o_icY X7 hx hby d11_25 (flt hc25_9).2.2.2 (by decide) (q := 30) (by decide) ?_
              refine o_iinc X7 hx hby d11_30 rfl (l' := #[rv o0, iv 0, iv 4, iv 3, iv (f_charAtc0n4i2 b0 b1 b2 b3 cs)]) rfl (q := 33) rfl ?_
              refine o_goto X7 hx hby d11_33 (by decide) (q := 2) (by decide) ?_
              refine o_iloadN X7 hx hby d11_2 rfl (q := 3) rfl ?_
              refine o_iloadN X7 hx hby d11_3 rfl (q := 4) rfl ?_
              refine o_icN X7 hx hby d11_4 (tlt (by decide : (3 : Int32) < (4 : Int32))).2.1 (q := 7) rfl ?_
              refine o_aloadN X7 hx hby d11_7 rfl rfl (q := 8) rfl ?_
              refine o_iloadN X7 hx hby d11_8 rfl (q := 9) rfl ?_
              obtain ⟨cq10, kq10, q10a, q10b, q10c⟩ := isOf hZ hh7 E
              obtain ⟨_, _, ⟨T10, L10, k10, n10⟩, -, X10, ⟨Lc10, hQ10, l10, y10, z10⟩, st10⟩ := X7.virtualBack hx (y := (⟨"java/lang/String", "charAt", "(I)C"⟩ : MethodName)) (z := (⟨"java/lang/String", "charAt", "(I)C"⟩ : MethodName)) hown (mvT hZ (w_ hw 50 rfl)) (mvT hZ (w_ hw 51 rfl)) (notFace_of_selects (args := #[]) (mvT hZ (w_ hw 53 rfl))) (mvT hZ (w_ hw 53 rfl)) (mvT hZ (w_ hw 52 rfl)) (by decide) (backOf (W := 0) (rm12c0n4i3 l Z a0 hw [] o0 ob k b0 b1 b2 b3 cs vf h0 n0 Z0 E Fv Fc V S_cs hcs S_f hvf) hZ (w_ hw 54 rfl) (w_ hw 8 rfl) (by decide) (by decide)) q10a q10c (g := (mkF m 9 #[rv o0, iv 0, iv 4, iv 3, iv (f_charAtc0n4i2 b0 b1 b2 b3 cs)] [.int 3, .ref o0])) rfl (by rw [hml]; rfl) (Steps.refl _) (argsL := [(.int 3)]) (rest := []) (lenOf pd_4 rfl) rfl (by show 2 * 0 + _ ≤ _; exact Nat.le_of_eq rfl) (hb hby d11_9) (fun _ _ => ⟨rfl, hh7, (by decide : 0 + 0 ≤ _), (by decide : 0 + 0 ≤ _)⟩)
              dsimp only [Pt.U, Pt.locs, Pt.cells, Pt.slots] at X10 l10 y10 z10 st10 hQ10
              subst l10 y10 z10
              obtain ⟨rfl, N10q, hh10⟩ := hQ10
              have N10 := Fr.app N7 N10q
              refine own_of (fun _ k => st10.trans k) ?_
              show own_Out p e below _ (T10.setTop (mkF m 12 #[rv o0, iv 0, iv 4, iv 3, iv (f_charAtc0n4i2 b0 b1 b2 b3 cs)] [.int (f_charAtc0n4i3 b0 b1 b2 b3 cs)]))
              refine o_istore X10 hx hby d11_12 (l' := #[rv o0, iv 0, iv 4, iv 3, iv (f_charAtc0n4i3 b0 b1 b2 b3 cs)]) rfl (q := 14) rfl ?_
              refine o_iload X10 hx hby d11_14 rfl (q := 16) rfl ?_
              refine o_bipush X10 hx hby d11_16 (z := 48) rfl (q := 18) rfl ?_
              by_cases hc18_11 : (f_charAtc0n4i3 b0 b1 b2 b3 cs) < (48 : Int32)
              · skip
                refine o_icY X10 hx hby d11_18 (tlt hc18_11).1 (by decide) (q := 28) (by decide) ?_
                refine o_iconst X10 hx hby d11_28 (z := 0) rfl (q := 29) rfl ?_
                exact own_outN X10 hx hlk (t := .boolean) hret (by simp) (hb hby d11_29) (z' := (0 : Int32)) rfl (Q := Q11c0n4x04 Z o0 ob k b0 b1 b2 b3 cs vf h0 n0) ⟨by simp only [fhc0n4x04, if_neg hcs, if_neg hc18_2, if_neg hc25_3, if_neg hc18_5, if_neg hc25_6, if_neg hc18_8, if_neg hc25_9, if_pos hc18_11], N10, hh10⟩ (by decide) (by decide)
              · skip
                refine o_icN X10 hx hby d11_18 (flt hc18_11).1 (q := 21) rfl ?_
                refine o_iload X10 hx hby d11_21 rfl (q := 23) rfl ?_
                refine o_bipush X10 hx hby d11_23 (z := 57) rfl (q := 25) rfl ?_
                by_cases hc25_12 : (57 : Int32) < (f_charAtc0n4i3 b0 b1 b2 b3 cs)
                · skip
                  refine o_icN X10 hx hby d11_25 (tlt hc25_12).2.2.2 (q := 28) rfl ?_
                  refine o_iconst X10 hx hby d11_28 (z := 0) rfl (q := 29) rfl ?_
                  exact own_outN X10 hx hlk (t := .boolean) hret (by simp) (hb hby d11_29) (z' := (0 : Int32)) rfl (Q := Q11c0n4x04 Z o0 ob k b0 b1 b2 b3 cs vf h0 n0) ⟨by simp only [fhc0n4x04, if_neg hcs, if_neg hc18_2, if_neg hc25_3, if_neg hc18_5, if_neg hc25_6, if_neg hc18_8, if_neg hc25_9, if_neg hc18_11, if_pos hc25_12], N10, hh10⟩ (by decide) (by decide)
                · skip
                  refine o_icY X10 hx hby d11_25 (flt hc25_12).2.2.2 (by decide) (q := 30) (by decide) ?_
                  refine o_iinc X10 hx hby d11_30 rfl (l' := #[rv o0, iv 0, iv 4, iv 4, iv (f_charAtc0n4i3 b0 b1 b2 b3 cs)]) rfl (q := 33) rfl ?_
                  refine o_goto X10 hx hby d11_33 (by decide) (q := 2) (by decide) ?_
                  refine o_iloadN X10 hx hby d11_2 rfl (q := 3) rfl ?_
                  refine o_iloadN X10 hx hby d11_3 rfl (q := 4) rfl ?_
                  refine o_icY X10 hx hby d11_4 (flt (by decide : ¬ ((4 : Int32) < (4 : Int32)))).2.1 (by decide) (q := 36) (by decide) ?_
                  refine o_iconst X10 hx hby d11_36 (z := 1) rfl (q := 37) rfl ?_
                  exact own_outN X10 hx hlk (t := .boolean) hret (by simp) (hb hby d11_37) (z' := (1 : Int32)) rfl (Q := Q11c0n4x04 Z o0 ob k b0 b1 b2 b3 cs vf h0 n0) ⟨by simp only [fhc0n4x04, if_neg hcs, if_neg hc18_2, if_neg hc25_3, if_neg hc18_5, if_neg hc25_6, if_neg hc18_8, if_neg hc25_9, if_neg hc18_11, if_neg hc25_12], N10, hh10⟩ (by decide) (by decide)
theorem ef_11c0n4x11 (m : MethodId) (x0 : Addr) : entryFrame m #[(.ref x0), (.int 1), (.int 1)] 5 = mkF m 0 #[.val (.ref x0), .val (.int 1), .val (.int 1), .unset, .unset] [] := by first | (simp [entryFrame, mkF, argsToLocals, Value.category]; done) | rfl
def fhc0n4x11 (b0 b1 b2 b3 cs : Int32) : Int32 := (1 : Int32)
def Q11c0n4x11 (Z : State) (o0 ob : Addr) (k : ClassId) (b0 b1 b2 b3 cs : Int32) (vf : Value) (h0 : Heap) (n0 : Nat) (v : Option Value) (h : Heap) (L : List Loc) : Prop := v = some (.int (fhc0n4x11 b0 b1 b2 b3 cs)) ∧ Fr n0 L ∧ h = h0
set_option maxRecDepth 65536 in
set_option maxHeartbeats 40000000 in
theorem rm11c0n4x11 (l : Launch) (Z : State) (a0 : Array Value) (hw : ∀ d ∈ tables_1, d.before a0 Z = true) (ws : List Jvm.Cond) (o0 ob : Addr) (k : ClassId) (b0 b1 b2 b3 cs : Int32) (vf : Value) (h0 : Heap) (n0 : Nat) (Z0 : n0 ≤ h0.size) (E : Exa Z h0 o0 "java/lang/String") (Fv : Fld Z h0 o0 "java/lang/String" "value" "[B" (.ref ob)) (Fc : Fld Z h0 o0 "java/lang/String" "coder" "B" (.int 0)) (V : Arv Z h0 ob k .byte (4 : Int32) [(.int b0), (.int b1), (.int b2), (.int b3)] (.int 0)) (S_cs : Sta Z h0 "java/lang/String" "COMPACT_STRINGS" "Z" (.int cs)) (hcs : ¬ (cs = (0 : Int32))) (S_f : Sta Z h0 "jdk/internal/util/Preconditions" "SIOOBE_FORMATTER" "Ljava/util/function/BiFunction;" vf) (hvf : vf.isRef = true) :
    MetFree l (⟨"com/example/fides/fides/ledger/Position", "hasOnlyAsciiDigits", "(Ljava/lang/String;II)Z"⟩ : MethodName) (head1 (Jvm.Cond.code (⟨"com/example/fides/fides/ledger/Position", "hasOnlyAsciiDigits", "(Ljava/lang/String;II)Z"⟩ : MethodName) prog_28_method_5_code 5 (some .boolean) :: ws) (⟨5, 0, 0, 66⟩ : Room)) (fun a U => a = #[(.ref o0), (.int 1), (.int 1)] ∧ Z.Warmed39 U.vm ∧ U.heap = h0) (fun _ _ _ _ _ => True) (fun _ U o U' => ∃ v L, o = .returned v ∧ Q11c0n4x11 Z o0 ob k b0 b1 b2 b3 cs vf h0 n0 v U'.heap L ∧ FrameEnd U o U' L (⟨5, 0, 0, 66⟩ : Room).cells (⟨5, 0, 0, 66⟩ : Room).slots) := by
  refine MetFree.of_bodySF (plainFor_of_name pn_4) hisR ?_
  intro p e s m args below meth c s₁ Bd hml0 hP hK
  obtain ⟨rfl, hZ, hh⟩ := hP
  have hx := Bd.exec
  have hby := Bd.bytes
  have hml : c.maxLocals = 5 := hml0
  have hown : s.vm.findClass "com/example/fides/fides/ledger/Position" = some m.cls := findClass_of_methodNamed Bd.named
  have hnm := (name_of_methodNamed Bd.named Bd.method).1
  have X0 : Stand p l e (⟨5, 0, 0, 66⟩ : Room) s m #[(.ref o0), (.int 1), (.int 1)] below meth c s₁ [] 0 0 := Stand.of_body Bd
  have e0 : s₁.heap = h0 := by rw [← hh, Bd.state]; rfl
  have N0 := Fr.nil n0
  have hret := Bd.returns
  have hlk := BodyLoose.notSynchronized Bd
  show own_Out p e below (fun o U' => ∃ v L, o = .returned v ∧ Q11c0n4x11 Z o0 ob k b0 b1 b2 b3 cs vf h0 n0 v U'.heap L ∧ FrameEnd s o U' L (⟨5, 0, 0, 66⟩ : Room).cells (⟨5, 0, 0, 66⟩ : Room).slots) (s₁.setTop (entryFrame m #[(.ref o0), (.int 1), (.int 1)] 5))
  refine own_of (fun t k => castTop (ef_11c0n4x11 m o0) k) ?_
  show own_Out p e below _ (s₁.setTop (mkF m 0 #[rv o0, iv 1, iv 1, .unset, .unset] []))
  refine o_iloadN X0 hx hby d11_0 rfl (q := 1) rfl ?_
  refine o_istoreN X0 hx hby d11_1 (l' := #[rv o0, iv 1, iv 1, iv 1, .unset]) rfl (q := 2) rfl ?_
  refine o_iloadN X0 hx hby d11_2 rfl (q := 3) rfl ?_
  refine o_iloadN X0 hx hby d11_3 rfl (q := 4) rfl ?_
  refine o_icY X0 hx hby d11_4 (flt (by decide : ¬ ((1 : Int32) < (1 : Int32)))).2.1 (by decide) (q := 36) (by decide) ?_
  refine o_iconst X0 hx hby d11_36 (z := 1) rfl (q := 37) rfl ?_
  exact own_outN X0 hx hlk (t := .boolean) hret (by simp) (hb hby d11_37) (z' := (1 : Int32)) rfl (Q := Q11c0n4x11 Z o0 ob k b0 b1 b2 b3 cs vf h0 n0) ⟨by simp only [fhc0n4x11, if_neg hcs], N0, e0⟩ (by decide) (by decide)
theorem ef_11c0n4x12 (m : MethodId) (x0 : Addr) : entryFrame m #[(.ref x0), (.int 1), (.int 2)] 5 = mkF m 0 #[.val (.ref x0), .val (.int 1), .val (.int 2), .unset, .unset] [] := by first | (simp [entryFrame, mkF, argsToLocals, Value.category]; done) | rfl
def fhc0n4x12 (b0 b1 b2 b3 cs : Int32) : Int32 := if (f_charAtc0n4i1 b0 b1 b2 b3 cs) < (48 : Int32) then (0 : Int32)
  else if (57 : Int32) < (f_charAtc0n4i1 b0 b1 b2 b3 cs) then (0 : Int32)
    else (1 : Int32)
def Q11c0n4x12 (Z : State) (o0 ob : Addr) (k : ClassId) (b0 b1 b2 b3 cs : Int32) (vf : Value) (h0 : Heap) (n0 : Nat) (v : Option Value) (h : Heap) (L : List Loc) : Prop := v = some (.int (fhc0n4x12 b0 b1 b2 b3 cs)) ∧ Fr n0 L ∧ h = h0
set_option maxRecDepth 65536 in
set_option maxHeartbeats 40000000 in
theorem rm11c0n4x12 (l : Launch) (Z : State) (a0 : Array Value) (hw : ∀ d ∈ tables_1, d.before a0 Z = true) (ws : List Jvm.Cond) (o0 ob : Addr) (k : ClassId) (b0 b1 b2 b3 cs : Int32) (vf : Value) (h0 : Heap) (n0 : Nat) (Z0 : n0 ≤ h0.size) (E : Exa Z h0 o0 "java/lang/String") (Fv : Fld Z h0 o0 "java/lang/String" "value" "[B" (.ref ob)) (Fc : Fld Z h0 o0 "java/lang/String" "coder" "B" (.int 0)) (V : Arv Z h0 ob k .byte (4 : Int32) [(.int b0), (.int b1), (.int b2), (.int b3)] (.int 0)) (S_cs : Sta Z h0 "java/lang/String" "COMPACT_STRINGS" "Z" (.int cs)) (hcs : ¬ (cs = (0 : Int32))) (S_f : Sta Z h0 "jdk/internal/util/Preconditions" "SIOOBE_FORMATTER" "Ljava/util/function/BiFunction;" vf) (hvf : vf.isRef = true) :
    MetFree l (⟨"com/example/fides/fides/ledger/Position", "hasOnlyAsciiDigits", "(Ljava/lang/String;II)Z"⟩ : MethodName) (head1 (Jvm.Cond.code (⟨"com/example/fides/fides/ledger/Position", "hasOnlyAsciiDigits", "(Ljava/lang/String;II)Z"⟩ : MethodName) prog_28_method_5_code 5 (some .boolean) :: ws) (⟨5, 0, 0, 66⟩ : Room)) (fun a U => a = #[(.ref o0), (.int 1), (.int 2)] ∧ Z.Warmed39 U.vm ∧ U.heap = h0) (fun _ _ _ _ _ => True) (fun _ U o U' => ∃ v L, o = .returned v ∧ Q11c0n4x12 Z o0 ob k b0 b1 b2 b3 cs vf h0 n0 v U'.heap L ∧ FrameEnd U o U' L (⟨5, 0, 0, 66⟩ : Room).cells (⟨5, 0, 0, 66⟩ : Room).slots) := by
  refine MetFree.of_bodySF (plainFor_of_name pn_4) hisR ?_
  intro p e s m args below meth c s₁ Bd hml0 hP hK
  obtain ⟨rfl, hZ, hh⟩ := hP
  have hx := Bd.exec
  have hby := Bd.bytes
  have hml : c.maxLocals = 5 := hml0
  have hown : s.vm.findClass "com/example/fides/fides/ledger/Position" = some m.cls := findClass_of_methodNamed Bd.named
  have hnm := (name_of_methodNamed Bd.named Bd.method).1
  have X0 : Stand p l e (⟨5, 0, 0, 66⟩ : Room) s m #[(.ref o0), (.int 1), (.int 2)] below meth c s₁ [] 0 0 := Stand.of_body Bd
  have e0 : s₁.heap = h0 := by rw [← hh, Bd.state]; rfl
  have N0 := Fr.nil n0
  have hret := Bd.returns
  have hlk := BodyLoose.notSynchronized Bd
  show own_Out p e below (fun o U' => ∃ v L, o = .returned v ∧ Q11c0n4x12 Z o0 ob k b0 b1 b2 b3 cs vf h0 n0 v U'.heap L ∧ FrameEnd s o U' L (⟨5, 0, 0, 66⟩ : Room).cells (⟨5, 0, 0, 66⟩ : Room).slots) (s₁.setTop (entryFrame m #[(.ref o0), (.int 1), (.int 2)] 5))
  refine own_of (fun t k => castTop (ef_11c0n4x12 m o0) k) ?_
  show own_Out p e below _ (s₁.setTop (mkF m 0 #[rv o0, iv 1, iv 2, .unset, .unset] []))
  refine o_iloadN X0 hx hby d11_0 rfl (q := 1) rfl ?_
  refine o_istoreN X0 hx hby d11_1 (l' := #[rv o0, iv 1, iv 2, iv 1, .unset]) rfl (q := 2) rfl ?_
  refine o_iloadN X0 hx hby d11_2 rfl (q := 3) rfl ?_
  refine o_iloadN X0 hx hby d11_3 rfl (q := 4) rfl ?_
  refine o_icN X0 hx hby d11_4 (tlt (by decide : (1 : Int32) < (2 : Int32))).2.1 (q := 7) rfl ?_
  refine o_aloadN X0 hx hby d11_7 rfl rfl (q := 8) rfl ?_
  refine o_iloadN X0 hx hby d11_8 rfl (q := 9) rfl ?_
  obtain ⟨cq1, kq1, q1a, q1b, q1c⟩ := isOf hZ e0 E
  obtain ⟨_, _, ⟨T1, L1, k1, n1⟩, -, X1, ⟨Lc1, hQ1, l1, y1, z1⟩, st1⟩ := X0.virtualBack hx (y := (⟨"java/lang/String", "charAt", "(I)C"⟩ : MethodName)) (z := (⟨"java/lang/String", "charAt", "(I)C"⟩ : MethodName)) hown (mvT hZ (w_ hw 50 rfl)) (mvT hZ (w_ hw 51 rfl)) (notFace_of_selects (args := #[]) (mvT hZ (w_ hw 53 rfl))) (mvT hZ (w_ hw 53 rfl)) (mvT hZ (w_ hw 52 rfl)) (by decide) (backOf (W := 0) (rm12c0n4i1 l Z a0 hw [] o0 ob k b0 b1 b2 b3 cs vf h0 n0 Z0 E Fv Fc V S_cs hcs S_f hvf) hZ (w_ hw 54 rfl) (w_ hw 8 rfl) (by decide) (by decide)) q1a q1c (g := (mkF m 9 #[rv o0, iv 1, iv 2, iv 1, .unset] [.int 1, .ref o0])) rfl (by rw [hml]; rfl) (Steps.refl _) (argsL := [(.int 1)]) (rest := []) (lenOf pd_4 rfl) rfl (by show 2 * 0 + _ ≤ _; exact Nat.le_of_eq rfl) (hb hby d11_9) (fun _ _ => ⟨rfl, e0, (by decide : 0 + 0 ≤ _), (by decide : 0 + 0 ≤ _)⟩)
  dsimp only [Pt.U, Pt.locs, Pt.cells, Pt.slots] at X1 l1 y1 z1 st1 hQ1
  subst l1 y1 z1
  obtain ⟨rfl, N1q, hh1⟩ := hQ1
  have N1 := Fr.app N0 N1q
  refine own_of (fun _ k => st1.trans k) ?_
  show own_Out p e below _ (T1.setTop (mkF m 12 #[rv o0, iv 1, iv 2, iv 1, .unset] [.int (f_charAtc0n4i1 b0 b1 b2 b3 cs)]))
  refine o_istore X1 hx hby d11_12 (l' := #[rv o0, iv 1, iv 2, iv 1, iv (f_charAtc0n4i1 b0 b1 b2 b3 cs)]) rfl (q := 14) rfl ?_
  refine o_iload X1 hx hby d11_14 rfl (q := 16) rfl ?_
  refine o_bipush X1 hx hby d11_16 (z := 48) rfl (q := 18) rfl ?_
  by_cases hc18_2 : (f_charAtc0n4i1 b0 b1 b2 b3 cs) < (48 : Int32)
  · skip
    refine o_icY X1 hx hby d11_18 (tlt hc18_2).1 (by decide) (q := 28) (by decide) ?_
    refine o_iconst X1 hx hby d11_28 (z := 0) rfl (q := 29) rfl ?_
    exact own_outN X1 hx hlk (t := .boolean) hret (by simp) (hb hby d11_29) (z' := (0 : Int32)) rfl (Q := Q11c0n4x12 Z o0 ob k b0 b1 b2 b3 cs vf h0 n0) ⟨by simp only [fhc0n4x12, if_neg hcs, if_pos hc18_2], N1, hh1⟩ (by decide) (by decide)
  · skip
    refine o_icN X1 hx hby d11_18 (flt hc18_2).1 (q := 21) rfl ?_
    refine o_iload X1 hx hby d11_21 rfl (q := 23) rfl ?_
    refine o_bipush X1 hx hby d11_23 (z := 57) rfl (q := 25) rfl ?_
    by_cases hc25_3 : (57 : Int32) < (f_charAtc0n4i1 b0 b1 b2 b3 cs)
    · skip
      refine o_icN X1 hx hby d11_25 (tlt hc25_3).2.2.2 (q := 28) rfl ?_
      refine o_iconst X1 hx hby d11_28 (z := 0) rfl (q := 29) rfl ?_
      exact own_outN X1 hx hlk (t := .boolean) hret (by simp) (hb hby d11_29) (z' := (0 : Int32)) rfl (Q := Q11c0n4x12 Z o0 ob k b0 b1 b2 b3 cs vf h0 n0) ⟨by simp only [fhc0n4x12, if_neg hcs, if_neg hc18_2, if_pos hc25_3], N1, hh1⟩ (by decide) (by decide)
    · skip
      refine o_icY X1 hx hby d11_25 (flt hc25_3).2.2.2 (by decide) (q := 30) (by decide) ?_
      refine o_iinc X1 hx hby d11_30 rfl (l' := #[rv o0, iv 1, iv 2, iv 2, iv (f_charAtc0n4i1 b0 b1 b2 b3 cs)]) rfl (q := 33) rfl ?_
      refine o_goto X1 hx hby d11_33 (by decide) (q := 2) (by decide) ?_
      refine o_iloadN X1 hx hby d11_2 rfl (q := 3) rfl ?_
      refine o_iloadN X1 hx hby d11_3 rfl (q := 4) rfl ?_
      refine o_icY X1 hx hby d11_4 (flt (by decide : ¬ ((2 : Int32) < (2 : Int32)))).2.1 (by decide) (q := 36) (by decide) ?_
      refine o_iconst X1 hx hby d11_36 (z := 1) rfl (q := 37) rfl ?_
      exact own_outN X1 hx hlk (t := .boolean) hret (by simp) (hb hby d11_37) (z' := (1 : Int32)) rfl (Q := Q11c0n4x12 Z o0 ob k b0 b1 b2 b3 cs vf h0 n0) ⟨by simp only [fhc0n4x12, if_neg hcs, if_neg hc18_2, if_neg hc25_3], N1, hh1⟩ (by decide) (by decide)
theorem ef_11c0n4x13 (m : MethodId) (x0 : Addr) : entryFrame m #[(.ref x0), (.int 1), (.int 3)] 5 = mkF m 0 #[.val (.ref x0), .val (.int 1), .val (.int 3), .unset, .unset] [] := by first | (simp [entryFrame, mkF, argsToLocals, Value.category]; done) | rfl
def fhc0n4x13 (b0 b1 b2 b3 cs : Int32) : Int32 := if (f_charAtc0n4i1 b0 b1 b2 b3 cs) < (48 : Int32) then (0 : Int32)
  else if (57 : Int32) < (f_charAtc0n4i1 b0 b1 b2 b3 cs) then (0 : Int32)
    else if (f_charAtc0n4i2 b0 b1 b2 b3 cs) < (48 : Int32) then (0 : Int32)
      else if (57 : Int32) < (f_charAtc0n4i2 b0 b1 b2 b3 cs) then (0 : Int32)
        else (1 : Int32)
def Q11c0n4x13 (Z : State) (o0 ob : Addr) (k : ClassId) (b0 b1 b2 b3 cs : Int32) (vf : Value) (h0 : Heap) (n0 : Nat) (v : Option Value) (h : Heap) (L : List Loc) : Prop := v = some (.int (fhc0n4x13 b0 b1 b2 b3 cs)) ∧ Fr n0 L ∧ h = h0
set_option maxRecDepth 65536 in
set_option maxHeartbeats 40000000 in
theorem rm11c0n4x13 (l : Launch) (Z : State) (a0 : Array Value) (hw : ∀ d ∈ tables_1, d.before a0 Z = true) (ws : List Jvm.Cond) (o0 ob : Addr) (k : ClassId) (b0 b1 b2 b3 cs : Int32) (vf : Value) (h0 : Heap) (n0 : Nat) (Z0 : n0 ≤ h0.size) (E : Exa Z h0 o0 "java/lang/String") (Fv : Fld Z h0 o0 "java/lang/String" "value" "[B" (.ref ob)) (Fc : Fld Z h0 o0 "java/lang/String" "coder" "B" (.int 0)) (V : Arv Z h0 ob k .byte (4 : Int32) [(.int b0), (.int b1), (.int b2), (.int b3)] (.int 0)) (S_cs : Sta Z h0 "java/lang/String" "COMPACT_STRINGS" "Z" (.int cs)) (hcs : ¬ (cs = (0 : Int32))) (S_f : Sta Z h0 "jdk/internal/util/Preconditions" "SIOOBE_FORMATTER" "Ljava/util/function/BiFunction;" vf) (hvf : vf.isRef = true) :
    MetFree l (⟨"com/example/fides/fides/ledger/Position", "hasOnlyAsciiDigits", "(Ljava/lang/String;II)Z"⟩ : MethodName) (head1 (Jvm.Cond.code (⟨"com/example/fides/fides/ledger/Position", "hasOnlyAsciiDigits", "(Ljava/lang/String;II)Z"⟩ : MethodName) prog_28_method_5_code 5 (some .boolean) :: ws) (⟨5, 0, 0, 66⟩ : Room)) (fun a U => a = #[(.ref o0), (.int 1), (.int 3)] ∧ Z.Warmed39 U.vm ∧ U.heap = h0) (fun _ _ _ _ _ => True) (fun _ U o U' => ∃ v L, o = .returned v ∧ Q11c0n4x13 Z o0 ob k b0 b1 b2 b3 cs vf h0 n0 v U'.heap L ∧ FrameEnd U o U' L (⟨5, 0, 0, 66⟩ : Room).cells (⟨5, 0, 0, 66⟩ : Room).slots) := by
  refine MetFree.of_bodySF (plainFor_of_name pn_4) hisR ?_
  intro p e s m args below meth c s₁ Bd hml0 hP hK
  obtain ⟨rfl, hZ, hh⟩ := hP
  have hx := Bd.exec
  have hby := Bd.bytes
  have hml : c.maxLocals = 5 := hml0
  have hown : s.vm.findClass "com/example/fides/fides/ledger/Position" = some m.cls := findClass_of_methodNamed Bd.named
  have hnm := (name_of_methodNamed Bd.named Bd.method).1
  have X0 : Stand p l e (⟨5, 0, 0, 66⟩ : Room) s m #[(.ref o0), (.int 1), (.int 3)] below meth c s₁ [] 0 0 := Stand.of_body Bd
  have e0 : s₁.heap = h0 := by rw [← hh, Bd.state]; rfl
  have N0 := Fr.nil n0
  have hret := Bd.returns
  have hlk := BodyLoose.notSynchronized Bd
  show own_Out p e below (fun o U' => ∃ v L, o = .returned v ∧ Q11c0n4x13 Z o0 ob k b0 b1 b2 b3 cs vf h0 n0 v U'.heap L ∧ FrameEnd s o U' L (⟨5, 0, 0, 66⟩ : Room).cells (⟨5, 0, 0, 66⟩ : Room).slots) (s₁.setTop (entryFrame m #[(.ref o0), (.int 1), (.int 3)] 5))
  refine own_of (fun t k => castTop (ef_11c0n4x13 m o0) k) ?_
  show own_Out p e below _ (s₁.setTop (mkF m 0 #[rv o0, iv 1, iv 3, .unset, .unset] []))
  refine o_iloadN X0 hx hby d11_0 rfl (q := 1) rfl ?_
  refine o_istoreN X0 hx hby d11_1 (l' := #[rv o0, iv 1, iv 3, iv 1, .unset]) rfl (q := 2) rfl ?_
  refine o_iloadN X0 hx hby d11_2 rfl (q := 3) rfl ?_
  refine o_iloadN X0 hx hby d11_3 rfl (q := 4) rfl ?_
  refine o_icN X0 hx hby d11_4 (tlt (by decide : (1 : Int32) < (3 : Int32))).2.1 (q := 7) rfl ?_
  refine o_aloadN X0 hx hby d11_7 rfl rfl (q := 8) rfl ?_
  refine o_iloadN X0 hx hby d11_8 rfl (q := 9) rfl ?_
  obtain ⟨cq1, kq1, q1a, q1b, q1c⟩ := isOf hZ e0 E
  obtain ⟨_, _, ⟨T1, L1, k1, n1⟩, -, X1, ⟨Lc1, hQ1, l1, y1, z1⟩, st1⟩ := X0.virtualBack hx (y := (⟨"java/lang/String", "charAt", "(I)C"⟩ : MethodName)) (z := (⟨"java/lang/String", "charAt", "(I)C"⟩ : MethodName)) hown (mvT hZ (w_ hw 50 rfl)) (mvT hZ (w_ hw 51 rfl)) (notFace_of_selects (args := #[]) (mvT hZ (w_ hw 53 rfl))) (mvT hZ (w_ hw 53 rfl)) (mvT hZ (w_ hw 52 rfl)) (by decide) (backOf (W := 0) (rm12c0n4i1 l Z a0 hw [] o0 ob k b0 b1 b2 b3 cs vf h0 n0 Z0 E Fv Fc V S_cs hcs S_f hvf) hZ (w_ hw 54 rfl) (w_ hw 8 rfl) (by decide) (by decide)) q1a q1c (g := (mkF m 9 #[rv o0, iv 1, iv 3, iv 1, .unset] [.int 1, .ref o0])) rfl (by rw [hml]; rfl) (Steps.refl _) (argsL := [(.int 1)]) (rest := []) (lenOf pd_4 rfl) rfl (by show 2 * 0 + _ ≤ _; exact Nat.le_of_eq rfl) (hb hby d11_9) (fun _ _ => ⟨rfl, e0, (by decide : 0 + 0 ≤ _), (by decide : 0 + 0 ≤ _)⟩)
  dsimp only [Pt.U, Pt.locs, Pt.cells, Pt.slots] at X1 l1 y1 z1 st1 hQ1
  subst l1 y1 z1
  obtain ⟨rfl, N1q, hh1⟩ := hQ1
  have N1 := Fr.app N0 N1q
  refine own_of (fun _ k => st1.trans k) ?_
  show own_Out p e below _ (T1.setTop (mkF m 12 #[rv o0, iv 1, iv 3, iv 1, .unset] [.int (f_charAtc0n4i1 b0 b1 b2 b3 cs)]))
  refine o_istore X1 hx hby d11_12 (l' := #[rv o0, iv 1, iv 3, iv 1, iv (f_charAtc0n4i1 b0 b1 b2 b3 cs)]) rfl (q := 14) rfl ?_
  refine o_iload X1 hx hby d11_14 rfl (q := 16) rfl ?_
  refine o_bipush X1 hx hby d11_16 (z := 48) rfl (q := 18) rfl ?_
  by_cases hc18_2 : (f_charAtc0n4i1 b0 b1 b2 b3 cs) < (48 : Int32)
  · skip
    refine o_icY X1 hx hby d11_18 (tlt hc18_2).1 (by decide) (q := 28) (by decide) ?_
    refine o_iconst X1 hx hby d11_28 (z := 0) rfl (q := 29) rfl ?_
    exact own_outN X1 hx hlk (t := .boolean) hret (by simp) (hb hby d11_29) (z' := (0 : Int32)) rfl (Q := Q11c0n4x13 Z o0 ob k b0 b1 b2 b3 cs vf h0 n0) ⟨by simp only [fhc0n4x13, if_neg hcs, if_pos hc18_2], N1, hh1⟩ (by decide) (by decide)
  · skip
    refine o_icN X1 hx hby d11_18 (flt hc18_2).1 (q := 21) rfl ?_
    refine o_iload X1 hx hby d11_21 rfl (q := 23) rfl ?_
    refine o_bipush X1 hx hby d11_23 (z := 57) rfl (q := 25) rfl ?_
    by_cases hc25_3 : (57 : Int32) < (f_charAtc0n4i1 b0 b1 b2 b3 cs)
    · skip
      refine o_icN X1 hx hby d11_25 (tlt hc25_3).2.2.2 (q := 28) rfl ?_
      refine o_iconst X1 hx hby d11_28 (z := 0) rfl (q := 29) rfl ?_
      exact own_outN X1 hx hlk (t := .boolean) hret (by simp) (hb hby d11_29) (z' := (0 : Int32)) rfl (Q := Q11c0n4x13 Z o0 ob k b0 b1 b2 b3 cs vf h0 n0) ⟨by simp only [fhc0n4x13, if_neg hcs, if_neg hc18_2, if_pos hc25_3], N1, hh1⟩ (by decide) (by decide)
    · skip
      refine o_icY X1 hx hby d11_25 (flt hc25_3).2.2.2 (by decide) (q := 30) (by decide) ?_
      refine o_iinc X1 hx hby d11_30 rfl (l' := #[rv o0, iv 1, iv 3, iv 2, iv (f_charAtc0n4i1 b0 b1 b2 b3 cs)]) rfl (q := 33) rfl ?_
      refine o_goto X1 hx hby d11_33 (by decide) (q := 2) (by decide) ?_
      refine o_iloadN X1 hx hby d11_2 rfl (q := 3) rfl ?_
      refine o_iloadN X1 hx hby d11_3 rfl (q := 4) rfl ?_
      refine o_icN X1 hx hby d11_4 (tlt (by decide : (2 : Int32) < (3 : Int32))).2.1 (q := 7) rfl ?_
      refine o_aloadN X1 hx hby d11_7 rfl rfl (q := 8) rfl ?_
      refine o_iloadN X1 hx hby d11_8 rfl (q := 9) rfl ?_
      obtain ⟨cq4, kq4, q4a, q4b, q4c⟩ := isOf hZ hh1 E
      obtain ⟨_, _, ⟨T4, L4, k4, n4⟩, -, X4, ⟨Lc4, hQ4, l4, y4, z4⟩, st4⟩ := X1.virtualBack hx (y := (⟨"java/lang/String", "charAt", "(I)C"⟩ : MethodName)) (z := (⟨"java/lang/String", "charAt", "(I)C"⟩ : MethodName)) hown (mvT hZ (w_ hw 50 rfl)) (mvT hZ (w_ hw 51 rfl)) (notFace_of_selects (args := #[]) (mvT hZ (w_ hw 53 rfl))) (mvT hZ (w_ hw 53 rfl)) (mvT hZ (w_ hw 52 rfl)) (by decide) (backOf (W := 0) (rm12c0n4i2 l Z a0 hw [] o0 ob k b0 b1 b2 b3 cs vf h0 n0 Z0 E Fv Fc V S_cs hcs S_f hvf) hZ (w_ hw 54 rfl) (w_ hw 8 rfl) (by decide) (by decide)) q4a q4c (g := (mkF m 9 #[rv o0, iv 1, iv 3, iv 2, iv (f_charAtc0n4i1 b0 b1 b2 b3 cs)] [.int 2, .ref o0])) rfl (by rw [hml]; rfl) (Steps.refl _) (argsL := [(.int 2)]) (rest := []) (lenOf pd_4 rfl) rfl (by show 2 * 0 + _ ≤ _; exact Nat.le_of_eq rfl) (hb hby d11_9) (fun _ _ => ⟨rfl, hh1, (by decide : 0 + 0 ≤ _), (by decide : 0 + 0 ≤ _)⟩)
      dsimp only [Pt.U, Pt.locs, Pt.cells, Pt.slots] at X4 l4 y4 z4 st4 hQ4
      subst l4 y4 z4
      obtain ⟨rfl, N4q, hh4⟩ := hQ4
      have N4 := Fr.app N1 N4q
      refine own_of (fun _ k => st4.trans k) ?_
      show own_Out p e below _ (T4.setTop (mkF m 12 #[rv o0, iv 1, iv 3, iv 2, iv (f_charAtc0n4i1 b0 b1 b2 b3 cs)] [.int (f_charAtc0n4i2 b0 b1 b2 b3 cs)]))
      refine o_istore X4 hx hby d11_12 (l' := #[rv o0, iv 1, iv 3, iv 2, iv (f_charAtc0n4i2 b0 b1 b2 b3 cs)]) rfl (q := 14) rfl ?_
      refine o_iload X4 hx hby d11_14 rfl (q := 16) rfl ?_
      refine o_bipush X4 hx hby d11_16 (z := 48) rfl (q := 18) rfl ?_
      by_cases hc18_5 : (f_charAtc0n4i2 b0 b1 b2 b3 cs) < (48 : Int32)
      · skip
        refine o_icY X4 hx hby d11_18 (tlt hc18_5).1 (by decide) (q := 28) (by decide) ?_
        refine o_iconst X4 hx hby d11_28 (z := 0) rfl (q := 29) rfl ?_
        exact own_outN X4 hx hlk (t := .boolean) hret (by simp) (hb hby d11_29) (z' := (0 : Int32)) rfl (Q := Q11c0n4x13 Z o0 ob k b0 b1 b2 b3 cs vf h0 n0) ⟨by simp only [fhc0n4x13, if_neg hcs, if_neg hc18_2, if_neg hc25_3, if_pos hc18_5], N4, hh4⟩ (by decide) (by decide)
      · skip
        refine o_icN X4 hx hby d11_18 (flt hc18_5).1 (q := 21) rfl ?_
        refine o_iload X4 hx hby d11_21 rfl (q := 23) rfl ?_
        refine o_bipush X4 hx hby d11_23 (z := 57) rfl (q := 25) rfl ?_
        by_cases hc25_6 : (57 : Int32) < (f_charAtc0n4i2 b0 b1 b2 b3 cs)
        · skip
          refine o_icN X4 hx hby d11_25 (tlt hc25_6).2.2.2 (q := 28) rfl ?_
          refine o_iconst X4 hx hby d11_28 (z := 0) rfl (q := 29) rfl ?_
          exact own_outN X4 hx hlk (t := .boolean) hret (by simp) (hb hby d11_29) (z' := (0 : Int32)) rfl (Q := Q11c0n4x13 Z o0 ob k b0 b1 b2 b3 cs vf h0 n0) ⟨by simp only [fhc0n4x13, if_neg hcs, if_neg hc18_2, if_neg hc25_3, if_neg hc18_5, if_pos hc25_6], N4, hh4⟩ (by decide) (by decide)
        · skip
          refine o_icY X4 hx hby d11_25 (flt hc25_6).2.2.2 (by decide) (q := 30) (by decide) ?_
          refine o_iinc X4 hx hby d11_30 rfl (l' := #[rv o0, iv 1, iv 3, iv 3, iv (f_charAtc0n4i2 b0 b1 b2 b3 cs)]) rfl (q := 33) rfl ?_
          refine o_goto X4 hx hby d11_33 (by decide) (q := 2) (by decide) ?_
          refine o_iloadN X4 hx hby d11_2 rfl (q := 3) rfl ?_
          refine o_iloadN X4 hx hby d11_3 rfl (q := 4) rfl ?_
          refine o_icY X4 hx hby d11_4 (flt (by decide : ¬ ((3 : Int32) < (3 : Int32)))).2.1 (by decide) (q := 36) (by decide) ?_
          refine o_iconst X4 hx hby d11_36 (z := 1) rfl (q := 37) rfl ?_
          exact own_outN X4 hx hlk (t := .boolean) hret (by simp) (hb hby d11_37) (z' := (1 : Int32)) rfl (Q := Q11c0n4x13 Z o0 ob k b0 b1 b2 b3 cs vf h0 n0) ⟨by simp only [fhc0n4x13, if_neg hcs, if_neg hc18_2, if_neg hc25_3, if_neg hc18_5, if_neg hc25_6], N4, hh4⟩ (by decide) (by decide)
theorem ef_11c0n4x14 (m : MethodId) (x0 : Addr) : entryFrame m #[(.ref x0), (.int 1), (.int 4)] 5 = mkF m 0 #[.val (.ref x0), .val (.int 1), .val (.int 4), .unset, .unset] [] := by first | (simp [entryFrame, mkF, argsToLocals, Value.category]; done) | rfl
def fhc0n4x14 (b0 b1 b2 b3 cs : Int32) : Int32 := if (f_charAtc0n4i1 b0 b1 b2 b3 cs) < (48 : Int32) then (0 : Int32)
  else if (57 : Int32) < (f_charAtc0n4i1 b0 b1 b2 b3 cs) then (0 : Int32)
    else if (f_charAtc0n4i2 b0 b1 b2 b3 cs) < (48 : Int32) then (0 : Int32)
      else if (57 : Int32) < (f_charAtc0n4i2 b0 b1 b2 b3 cs) then (0 : Int32)
        else if (f_charAtc0n4i3 b0 b1 b2 b3 cs) < (48 : Int32) then (0 : Int32)
          else if (57 : Int32) < (f_charAtc0n4i3 b0 b1 b2 b3 cs) then (0 : Int32)
            else (1 : Int32)
def Q11c0n4x14 (Z : State) (o0 ob : Addr) (k : ClassId) (b0 b1 b2 b3 cs : Int32) (vf : Value) (h0 : Heap) (n0 : Nat) (v : Option Value) (h : Heap) (L : List Loc) : Prop := v = some (.int (fhc0n4x14 b0 b1 b2 b3 cs)) ∧ Fr n0 L ∧ h = h0
set_option maxRecDepth 65536 in
set_option maxHeartbeats 40000000 in
theorem rm11c0n4x14 (l : Launch) (Z : State) (a0 : Array Value) (hw : ∀ d ∈ tables_1, d.before a0 Z = true) (ws : List Jvm.Cond) (o0 ob : Addr) (k : ClassId) (b0 b1 b2 b3 cs : Int32) (vf : Value) (h0 : Heap) (n0 : Nat) (Z0 : n0 ≤ h0.size) (E : Exa Z h0 o0 "java/lang/String") (Fv : Fld Z h0 o0 "java/lang/String" "value" "[B" (.ref ob)) (Fc : Fld Z h0 o0 "java/lang/String" "coder" "B" (.int 0)) (V : Arv Z h0 ob k .byte (4 : Int32) [(.int b0), (.int b1), (.int b2), (.int b3)] (.int 0)) (S_cs : Sta Z h0 "java/lang/String" "COMPACT_STRINGS" "Z" (.int cs)) (hcs : ¬ (cs = (0 : Int32))) (S_f : Sta Z h0 "jdk/internal/util/Preconditions" "SIOOBE_FORMATTER" "Ljava/util/function/BiFunction;" vf) (hvf : vf.isRef = true) :
    MetFree l (⟨"com/example/fides/fides/ledger/Position", "hasOnlyAsciiDigits", "(Ljava/lang/String;II)Z"⟩ : MethodName) (head1 (Jvm.Cond.code (⟨"com/example/fides/fides/ledger/Position", "hasOnlyAsciiDigits", "(Ljava/lang/String;II)Z"⟩ : MethodName) prog_28_method_5_code 5 (some .boolean) :: ws) (⟨5, 0, 0, 66⟩ : Room)) (fun a U => a = #[(.ref o0), (.int 1), (.int 4)] ∧ Z.Warmed39 U.vm ∧ U.heap = h0) (fun _ _ _ _ _ => True) (fun _ U o U' => ∃ v L, o = .returned v ∧ Q11c0n4x14 Z o0 ob k b0 b1 b2 b3 cs vf h0 n0 v U'.heap L ∧ FrameEnd U o U' L (⟨5, 0, 0, 66⟩ : Room).cells (⟨5, 0, 0, 66⟩ : Room).slots) := by
  refine MetFree.of_bodySF (plainFor_of_name pn_4) hisR ?_
  intro p e s m args below meth c s₁ Bd hml0 hP hK
  obtain ⟨rfl, hZ, hh⟩ := hP
  have hx := Bd.exec
  have hby := Bd.bytes
  have hml : c.maxLocals = 5 := hml0
  have hown : s.vm.findClass "com/example/fides/fides/ledger/Position" = some m.cls := findClass_of_methodNamed Bd.named
  have hnm := (name_of_methodNamed Bd.named Bd.method).1
  have X0 : Stand p l e (⟨5, 0, 0, 66⟩ : Room) s m #[(.ref o0), (.int 1), (.int 4)] below meth c s₁ [] 0 0 := Stand.of_body Bd
  have e0 : s₁.heap = h0 := by rw [← hh, Bd.state]; rfl
  have N0 := Fr.nil n0
  have hret := Bd.returns
  have hlk := BodyLoose.notSynchronized Bd
  show own_Out p e below (fun o U' => ∃ v L, o = .returned v ∧ Q11c0n4x14 Z o0 ob k b0 b1 b2 b3 cs vf h0 n0 v U'.heap L ∧ FrameEnd s o U' L (⟨5, 0, 0, 66⟩ : Room).cells (⟨5, 0, 0, 66⟩ : Room).slots) (s₁.setTop (entryFrame m #[(.ref o0), (.int 1), (.int 4)] 5))
  refine own_of (fun t k => castTop (ef_11c0n4x14 m o0) k) ?_
  show own_Out p e below _ (s₁.setTop (mkF m 0 #[rv o0, iv 1, iv 4, .unset, .unset] []))
  refine o_iloadN X0 hx hby d11_0 rfl (q := 1) rfl ?_
  refine o_istoreN X0 hx hby d11_1 (l' := #[rv o0, iv 1, iv 4, iv 1, .unset]) rfl (q := 2) rfl ?_
  refine o_iloadN X0 hx hby d11_2 rfl (q := 3) rfl ?_
  refine o_iloadN X0 hx hby d11_3 rfl (q := 4) rfl ?_
  refine o_icN X0 hx hby d11_4 (tlt (by decide : (1 : Int32) < (4 : Int32))).2.1 (q := 7) rfl ?_
  refine o_aloadN X0 hx hby d11_7 rfl rfl (q := 8) rfl ?_
  refine o_iloadN X0 hx hby d11_8 rfl (q := 9) rfl ?_
  obtain ⟨cq1, kq1, q1a, q1b, q1c⟩ := isOf hZ e0 E
  obtain ⟨_, _, ⟨T1, L1, k1, n1⟩, -, X1, ⟨Lc1, hQ1, l1, y1, z1⟩, st1⟩ := X0.virtualBack hx (y := (⟨"java/lang/String", "charAt", "(I)C"⟩ : MethodName)) (z := (⟨"java/lang/String", "charAt", "(I)C"⟩ : MethodName)) hown (mvT hZ (w_ hw 50 rfl)) (mvT hZ (w_ hw 51 rfl)) (notFace_of_selects (args := #[]) (mvT hZ (w_ hw 53 rfl))) (mvT hZ (w_ hw 53 rfl)) (mvT hZ (w_ hw 52 rfl)) (by decide) (backOf (W := 0) (rm12c0n4i1 l Z a0 hw [] o0 ob k b0 b1 b2 b3 cs vf h0 n0 Z0 E Fv Fc V S_cs hcs S_f hvf) hZ (w_ hw 54 rfl) (w_ hw 8 rfl) (by decide) (by decide)) q1a q1c (g := (mkF m 9 #[rv o0, iv 1, iv 4, iv 1, .unset] [.int 1, .ref o0])) rfl (by rw [hml]; rfl) (Steps.refl _) (argsL := [(.int 1)]) (rest := []) (lenOf pd_4 rfl) rfl (by show 2 * 0 + _ ≤ _; exact Nat.le_of_eq rfl) (hb hby d11_9) (fun _ _ => ⟨rfl, e0, (by decide : 0 + 0 ≤ _), (by decide : 0 + 0 ≤ _)⟩)
  dsimp only [Pt.U, Pt.locs, Pt.cells, Pt.slots] at X1 l1 y1 z1 st1 hQ1
  subst l1 y1 z1
  obtain ⟨rfl, N1q, hh1⟩ := hQ1
  have N1 := Fr.app N0 N1q
  refine own_of (fun _ k => st1.trans k) ?_
  show own_Out p e below _ (T1.setTop (mkF m 12 #[rv o0, iv 1, iv 4, iv 1, .unset] [.int (f_charAtc0n4i1 b0 b1 b2 b3 cs)]))
  refine o_istore X1 hx hby d11_12 (l' := #[rv o0, iv 1, iv 4, iv 1, iv (f_charAtc0n4i1 b0 b1 b2 b3 cs)]) rfl (q := 14) rfl ?_
  refine o_iload X1 hx hby d11_14 rfl (q := 16) rfl ?_
  refine o_bipush X1 hx hby d11_16 (z := 48) rfl (q := 18) rfl ?_
  by_cases hc18_2 : (f_charAtc0n4i1 b0 b1 b2 b3 cs) < (48 : Int32)
  · skip
    refine o_icY X1 hx hby d11_18 (tlt hc18_2).1 (by decide) (q := 28) (by decide) ?_
    refine o_iconst X1 hx hby d11_28 (z := 0) rfl (q := 29) rfl ?_
    exact own_outN X1 hx hlk (t := .boolean) hret (by simp) (hb hby d11_29) (z' := (0 : Int32)) rfl (Q := Q11c0n4x14 Z o0 ob k b0 b1 b2 b3 cs vf h0 n0) ⟨by simp only [fhc0n4x14, if_neg hcs, if_pos hc18_2], N1, hh1⟩ (by decide) (by decide)
  · skip
    refine o_icN X1 hx hby d11_18 (flt hc18_2).1 (q := 21) rfl ?_
    refine o_iload X1 hx hby d11_21 rfl (q := 23) rfl ?_
    refine o_bipush X1 hx hby d11_23 (z := 57) rfl (q := 25) rfl ?_
    by_cases hc25_3 : (57 : Int32) < (f_charAtc0n4i1 b0 b1 b2 b3 cs)
    · skip
      refine o_icN X1 hx hby d11_25 (tlt hc25_3).2.2.2 (q := 28) rfl ?_
      refine o_iconst X1 hx hby d11_28 (z := 0) rfl (q := 29) rfl ?_
      exact own_outN X1 hx hlk (t := .boolean) hret (by simp) (hb hby d11_29) (z' := (0 : Int32)) rfl (Q := Q11c0n4x14 Z o0 ob k b0 b1 b2 b3 cs vf h0 n0) ⟨by simp only [fhc0n4x14, if_neg hcs, if_neg hc18_2, if_pos hc25_3], N1, hh1⟩ (by decide) (by decide)
    · skip
      refine o_icY X1 hx hby d11_25 (flt hc25_3).2.2.2 (by decide) (q := 30) (by decide) ?_
      refine o_iinc X1 hx hby d11_30 rfl (l' := #[rv o0, iv 1, iv 4, iv 2, iv (f_charAtc0n4i1 b0 b1 b2 b3 cs)]) rfl (q := 33) rfl ?_
      refine o_goto X1 hx hby d11_33 (by decide) (q := 2) (by decide) ?_
      refine o_iloadN X1 hx hby d11_2 rfl (q := 3) rfl ?_
      refine o_iloadN X1 hx hby d11_3 rfl (q := 4) rfl ?_
      refine o_icN X1 hx hby d11_4 (tlt (by decide : (2 : Int32) < (4 : Int32))).2.1 (q := 7) rfl ?_
      refine o_aloadN X1 hx hby d11_7 rfl rfl (q := 8) rfl ?_
      refine o_iloadN X1 hx hby d11_8 rfl (q := 9) rfl ?_
      obtain ⟨cq4, kq4, q4a, q4b, q4c⟩ := isOf hZ hh1 E
      obtain ⟨_, _, ⟨T4, L4, k4, n4⟩, -, X4, ⟨Lc4, hQ4, l4, y4, z4⟩, st4⟩ := X1.virtualBack hx (y := (⟨"java/lang/String", "charAt", "(I)C"⟩ : MethodName)) (z := (⟨"java/lang/String", "charAt", "(I)C"⟩ : MethodName)) hown (mvT hZ (w_ hw 50 rfl)) (mvT hZ (w_ hw 51 rfl)) (notFace_of_selects (args := #[]) (mvT hZ (w_ hw 53 rfl))) (mvT hZ (w_ hw 53 rfl)) (mvT hZ (w_ hw 52 rfl)) (by decide) (backOf (W := 0) (rm12c0n4i2 l Z a0 hw [] o0 ob k b0 b1 b2 b3 cs vf h0 n0 Z0 E Fv Fc V S_cs hcs S_f hvf) hZ (w_ hw 54 rfl) (w_ hw 8 rfl) (by decide) (by decide)) q4a q4c (g := (mkF m 9 #[rv o0, iv 1, iv 4, iv 2, iv (f_charAtc0n4i1 b0 b1 b2 b3 cs)] [.int 2, .ref o0])) rfl (by rw [hml]; rfl) (Steps.refl _) (argsL := [(.int 2)]) (rest := []) (lenOf pd_4 rfl) rfl (by show 2 * 0 + _ ≤ _; exact Nat.le_of_eq rfl) (hb hby d11_9) (fun _ _ => ⟨rfl, hh1, (by decide : 0 + 0 ≤ _), (by decide : 0 + 0 ≤ _)⟩)
      dsimp only [Pt.U, Pt.locs, Pt.cells, Pt.slots] at X4 l4 y4 z4 st4 hQ4
      subst l4 y4 z4
      obtain ⟨rfl, N4q, hh4⟩ := hQ4
      have N4 := Fr.app N1 N4q
      refine own_of (fun _ k => st4.trans k) ?_
      show own_Out p e below _ (T4.setTop (mkF m 12 #[rv o0, iv 1, iv 4, iv 2, iv (f_charAtc0n4i1 b0 b1 b2 b3 cs)] [.int (f_charAtc0n4i2 b0 b1 b2 b3 cs)]))
      refine o_istore X4 hx hby d11_12 (l' := #[rv o0, iv 1, iv 4, iv 2, iv (f_charAtc0n4i2 b0 b1 b2 b3 cs)]) rfl (q := 14) rfl ?_
      refine o_iload X4 hx hby d11_14 rfl (q := 16) rfl ?_
      refine o_bipush X4 hx hby d11_16 (z := 48) rfl (q := 18) rfl ?_
      by_cases hc18_5 : (f_charAtc0n4i2 b0 b1 b2 b3 cs) < (48 : Int32)
      · skip
        refine o_icY X4 hx hby d11_18 (tlt hc18_5).1 (by decide) (q := 28) (by decide) ?_
        refine o_iconst X4 hx hby d11_28 (z := 0) rfl (q := 29) rfl ?_
        exact own_outN X4 hx hlk (t := .boolean) hret (by simp) (hb hby d11_29) (z' := (0 : Int32)) rfl (Q := Q11c0n4x14 Z o0 ob k b0 b1 b2 b3 cs vf h0 n0) ⟨by simp only [fhc0n4x14, if_neg hcs, if_neg hc18_2, if_neg hc25_3, if_pos hc18_5], N4, hh4⟩ (by decide) (by decide)
      · skip
        refine o_icN X4 hx hby d11_18 (flt hc18_5).1 (q := 21) rfl ?_
        refine o_iload X4 hx hby d11_21 rfl (q := 23) rfl ?_
        refine o_bipush X4 hx hby d11_23 (z := 57) rfl (q := 25) rfl ?_
        by_cases hc25_6 : (57 : Int32) < (f_charAtc0n4i2 b0 b1 b2 b3 cs)
        · skip
          refine o_icN X4 hx hby d11_25 (tlt hc25_6).2.2.2 (q := 28) rfl ?_
          refine o_iconst X4 hx hby d11_28 (z := 0) rfl (q := 29) rfl ?_
          exact own_outN X4 hx hlk (t := .boolean) hret (by simp) (hb hby d11_29) (z' := (0 : Int32)) rfl (Q := Q11c0n4x14 Z o0 ob k b0 b1 b2 b3 cs vf h0 n0) ⟨by simp only [fhc0n4x14, if_neg hcs, if_neg hc18_2, if_neg hc25_3, if_neg hc18_5, if_pos hc25_6], N4, hh4⟩ (by decide) (by decide)
        · skip
          refine o_icY X4 hx hby d11_25 (flt hc25_6).2.2.2 (by decide) (q := 30) (by decide) ?_
          refine o_iinc X4 hx hby d11_30 rfl (l' := #[rv o0, iv 1, iv 4, iv 3, iv (f_charAtc0n4i2 b0 b1 b2 b3 cs)]) rfl (q := 33) rfl ?_
          refine o_goto X4 hx hby d11_33 (by decide) (q := 2) (by decide) ?_
          refine o_iloadN X4 hx hby d11_2 rfl (q := 3) rfl ?_
          refine o_iloadN X4 hx hby d11_3 rfl (q := 4) rfl ?_
          refine o_icN X4 hx hby d11_4 (tlt (by decide : (3 : Int32) < (4 : Int32))).2.1 (q := 7) rfl ?_
          refine o_aloadN X4 hx hby d11_7 rfl rfl (q := 8) rfl ?_
          refine o_iloadN X4 hx hby d11_8 rfl (q := 9) rfl ?_
          obtain ⟨cq7, kq7, q7a, q7b, q7c⟩ := isOf hZ hh4 E
          obtain ⟨_, _, ⟨T7, L7, k7, n7⟩, -, X7, ⟨Lc7, hQ7, l7, y7, z7⟩, st7⟩ := X4.virtualBack hx (y := (⟨"java/lang/String", "charAt", "(I)C"⟩ : MethodName)) (z := (⟨"java/lang/String", "charAt", "(I)C"⟩ : MethodName)) hown (mvT hZ (w_ hw 50 rfl)) (mvT hZ (w_ hw 51 rfl)) (notFace_of_selects (args := #[]) (mvT hZ (w_ hw 53 rfl))) (mvT hZ (w_ hw 53 rfl)) (mvT hZ (w_ hw 52 rfl)) (by decide) (backOf (W := 0) (rm12c0n4i3 l Z a0 hw [] o0 ob k b0 b1 b2 b3 cs vf h0 n0 Z0 E Fv Fc V S_cs hcs S_f hvf) hZ (w_ hw 54 rfl) (w_ hw 8 rfl) (by decide) (by decide)) q7a q7c (g := (mkF m 9 #[rv o0, iv 1, iv 4, iv 3, iv (f_charAtc0n4i2 b0 b1 b2 b3 cs)] [.int 3, .ref o0])) rfl (by rw [hml]; rfl) (Steps.refl _) (argsL := [(.int 3)]) (rest := []) (lenOf pd_4 rfl) rfl (by show 2 * 0 + _ ≤ _; exact Nat.le_of_eq rfl) (hb hby d11_9) (fun _ _ => ⟨rfl, hh4, (by decide : 0 + 0 ≤ _), (by decide : 0 + 0 ≤ _)⟩)
          dsimp only [Pt.U, Pt.locs, Pt.cells, Pt.slots] at X7 l7 y7 z7 st7 hQ7
          subst l7 y7 z7
          obtain ⟨rfl, N7q, hh7⟩ := hQ7
          have N7 := Fr.app N4 N7q
          refine own_of (fun _ k => st7.trans k) ?_
          show own_Out p e below _ (T7.setTop (mkF m 12 #[rv o0, iv 1, iv 4, iv 3, iv (f_charAtc0n4i2 b0 b1 b2 b3 cs)] [.int (f_charAtc0n4i3 b0 b1 b2 b3 cs)]))
          refine o_istore X7 hx hby d11_12 (l' := #[rv o0, iv 1, iv 4, iv 3, iv (f_charAtc0n4i3 b0 b1 b2 b3 cs)]) rfl (q := 14) rfl ?_
          refine o_iload X7 hx hby d11_14 rfl (q := 16) rfl ?_
          refine o_bipush X7 hx hby d11_16 (z := 48) rfl (q := 18) rfl ?_
          by_cases hc18_8 : (f_charAtc0n4i3 b0 b1 b2 b3 cs) < (48 : Int32)
          · skip
            refine o_icY X7 hx hby d11_18 (tlt hc18_8).1 (by decide) (q := 28) (by decide) ?_
            refine o_iconst X7 hx hby d11_28 (z := 0) rfl (q := 29) rfl ?_
            exact own_outN X7 hx hlk (t := .boolean) hret (by simp) (hb hby d11_29) (z' := (0 : Int32)) rfl (Q := Q11c0n4x14 Z o0 ob k b0 b1 b2 b3 cs vf h0 n0) ⟨by simp only [fhc0n4x14, if_neg hcs, if_neg hc18_2, if_neg hc25_3, if_neg hc18_5, if_neg hc25_6, if_pos hc18_8], N7, hh7⟩ (by decide) (by decide)
          · skip
            refine o_icN X7 hx hby d11_18 (flt hc18_8).1 (q := 21) rfl ?_
            refine o_iload X7 hx hby d11_21 rfl (q := 23) rfl ?_
            refine o_bipush X7 hx hby d11_23 (z := 57) rfl (q := 25) rfl ?_
            by_cases hc25_9 : (57 : Int32) < (f_charAtc0n4i3 b0 b1 b2 b3 cs)
            · skip
              refine o_icN X7 hx hby d11_25 (tlt hc25_9).2.2.2 (q := 28) rfl ?_
              refine o_iconst X7 hx hby d11_28 (z := 0) rfl (q := 29) rfl ?_
              exact own_outN X7 hx hlk (t := .boolean) hret (by simp) (hb hby d11_29) (z' := (0 : Int32)) rfl (Q := Q11c0n4x14 Z o0 ob k b0 b1 b2 b3 cs vf h0 n0) ⟨by simp only [fhc0n4x14, if_neg hcs, if_neg hc18_2, if_neg hc25_3, if_neg hc18_5, if_neg hc25_6, if_neg hc18_8, if_pos hc25_9], N7, hh7⟩ (by decide) (by decide)
            · skip
              refine o_icY X7 hx hby d11_25 (flt hc25_9).2.2.2 (by decide) (q := 30) (by decide) ?_
              refine o_iinc X7 hx hby d11_30 rfl (l' := #[rv o0, iv 1, iv 4, iv 4, iv (f_charAtc0n4i3 b0 b1 b2 b3 cs)]) rfl (q := 33) rfl ?_
              refine o_goto X7 hx hby d11_33 (by decide) (q := 2) (by decide) ?_
              refine o_iloadN X7 hx hby d11_2 rfl (q := 3) rfl ?_
              refine o_iloadN X7 hx hby d11_3 rfl (q := 4) rfl ?_
              refine o_icY X7 hx hby d11_4 (flt (by decide : ¬ ((4 : Int32) < (4 : Int32)))).2.1 (by decide) (q := 36) (by decide) ?_
              refine o_iconst X7 hx hby d11_36 (z := 1) rfl (q := 37) rfl ?_
              exact own_outN X7 hx hlk (t := .boolean) hret (by simp) (hb hby d11_37) (z' := (1 : Int32)) rfl (Q := Q11c0n4x14 Z o0 ob k b0 b1 b2 b3 cs vf h0 n0) ⟨by simp only [fhc0n4x14, if_neg hcs, if_neg hc18_2, if_neg hc25_3, if_neg hc18_5, if_neg hc25_6, if_neg hc18_8, if_neg hc25_9], N7, hh7⟩ (by decide) (by decide)
theorem ef_11c0n4x22 (m : MethodId) (x0 : Addr) : entryFrame m #[(.ref x0), (.int 2), (.int 2)] 5 = mkF m 0 #[.val (.ref x0), .val (.int 2), .val (.int 2), .unset, .unset] [] := by first | (simp [entryFrame, mkF, argsToLocals, Value.category]; done) | rfl
def fhc0n4x22 (b0 b1 b2 b3 cs : Int32) : Int32 := (1 : Int32)
def Q11c0n4x22 (Z : State) (o0 ob : Addr) (k : ClassId) (b0 b1 b2 b3 cs : Int32) (vf : Value) (h0 : Heap) (n0 : Nat) (v : Option Value) (h : Heap) (L : List Loc) : Prop := v = some (.int (fhc0n4x22 b0 b1 b2 b3 cs)) ∧ Fr n0 L ∧ h = h0
set_option maxRecDepth 65536 in
set_option maxHeartbeats 40000000 in
theorem rm11c0n4x22 (l : Launch) (Z : State) (a0 : Array Value) (hw : ∀ d ∈ tables_1, d.before a0 Z = true) (ws : List Jvm.Cond) (o0 ob : Addr) (k : ClassId) (b0 b1 b2 b3 cs : Int32) (vf : Value) (h0 : Heap) (n0 : Nat) (Z0 : n0 ≤ h0.size) (E : Exa Z h0 o0 "java/lang/String") (Fv : Fld Z h0 o0 "java/lang/String" "value" "[B" (.ref ob)) (Fc : Fld Z h0 o0 "java/lang/String" "coder" "B" (.int 0)) (V : Arv Z h0 ob k .byte (4 : Int32) [(.int b0), (.int b1), (.int b2), (.int b3)] (.int 0)) (S_cs : Sta Z h0 "java/lang/String" "COMPACT_STRINGS" "Z" (.int cs)) (hcs : ¬ (cs = (0 : Int32))) (S_f : Sta Z h0 "jdk/internal/util/Preconditions" "SIOOBE_FORMATTER" "Ljava/util/function/BiFunction;" vf) (hvf : vf.isRef = true) :
    MetFree l (⟨"com/example/fides/fides/ledger/Position", "hasOnlyAsciiDigits", "(Ljava/lang/String;II)Z"⟩ : MethodName) (head1 (Jvm.Cond.code (⟨"com/example/fides/fides/ledger/Position", "hasOnlyAsciiDigits", "(Ljava/lang/String;II)Z"⟩ : MethodName) prog_28_method_5_code 5 (some .boolean) :: ws) (⟨5, 0, 0, 66⟩ : Room)) (fun a U => a = #[(.ref o0), (.int 2), (.int 2)] ∧ Z.Warmed39 U.vm ∧ U.heap = h0) (fun _ _ _ _ _ => True) (fun _ U o U' => ∃ v L, o = .returned v ∧ Q11c0n4x22 Z o0 ob k b0 b1 b2 b3 cs vf h0 n0 v U'.heap L ∧ FrameEnd U o U' L (⟨5, 0, 0, 66⟩ : Room).cells (⟨5, 0, 0, 66⟩ : Room).slots) := by
  refine MetFree.of_bodySF (plainFor_of_name pn_4) hisR ?_
  intro p e s m args below meth c s₁ Bd hml0 hP hK
  obtain ⟨rfl, hZ, hh⟩ := hP
  have hx := Bd.exec
  have hby := Bd.bytes
  have hml : c.maxLocals = 5 := hml0
  have hown : s.vm.findClass "com/example/fides/fides/ledger/Position" = some m.cls := findClass_of_methodNamed Bd.named
  have hnm := (name_of_methodNamed Bd.named Bd.method).1
  have X0 : Stand p l e (⟨5, 0, 0, 66⟩ : Room) s m #[(.ref o0), (.int 2), (.int 2)] below meth c s₁ [] 0 0 := Stand.of_body Bd
  have e0 : s₁.heap = h0 := by rw [← hh, Bd.state]; rfl
  have N0 := Fr.nil n0
  have hret := Bd.returns
  have hlk := BodyLoose.notSynchronized Bd
  show own_Out p e below (fun o U' => ∃ v L, o = .returned v ∧ Q11c0n4x22 Z o0 ob k b0 b1 b2 b3 cs vf h0 n0 v U'.heap L ∧ FrameEnd s o U' L (⟨5, 0, 0, 66⟩ : Room).cells (⟨5, 0, 0, 66⟩ : Room).slots) (s₁.setTop (entryFrame m #[(.ref o0), (.int 2), (.int 2)] 5))
  refine own_of (fun t k => castTop (ef_11c0n4x22 m o0) k) ?_
  show own_Out p e below _ (s₁.setTop (mkF m 0 #[rv o0, iv 2, iv 2, .unset, .unset] []))
  refine o_iloadN X0 hx hby d11_0 rfl (q := 1) rfl ?_
  refine o_istoreN X0 hx hby d11_1 (l' := #[rv o0, iv 2, iv 2, iv 2, .unset]) rfl (q := 2) rfl ?_
  refine o_iloadN X0 hx hby d11_2 rfl (q := 3) rfl ?_
  refine o_iloadN X0 hx hby d11_3 rfl (q := 4) rfl ?_
  refine o_icY X0 hx hby d11_4 (flt (by decide : ¬ ((2 : Int32) < (2 : Int32)))).2.1 (by decide) (q := 36) (by decide) ?_
  refine o_iconst X0 hx hby d11_36 (z := 1) rfl (q := 37) rfl ?_
  exact own_outN X0 hx hlk (t := .boolean) hret (by simp) (hb hby d11_37) (z' := (1 : Int32)) rfl (Q := Q11c0n4x22 Z o0 ob k b0 b1 b2 b3 cs vf h0 n0) ⟨by simp only [fhc0n4x22, if_neg hcs], N0, e0⟩ (by decide) (by decide)
theorem ef_11c0n4x23 (m : MethodId) (x0 : Addr) : entryFrame m #[(.ref x0), (.int 2), (.int 3)] 5 = mkF m 0 #[.val (.ref x0), .val (.int 2), .val (.int 3), .unset, .unset] [] := by first | (simp [entryFrame, mkF, argsToLocals, Value.category]; done) | rfl
def fhc0n4x23 (b0 b1 b2 b3 cs : Int32) : Int32 := if (f_charAtc0n4i2 b0 b1 b2 b3 cs) < (48 : Int32) then (0 : Int32)
  else if (57 : Int32) < (f_charAtc0n4i2 b0 b1 b2 b3 cs) then (0 : Int32)
    else (1 : Int32)
def Q11c0n4x23 (Z : State) (o0 ob : Addr) (k : ClassId) (b0 b1 b2 b3 cs : Int32) (vf : Value) (h0 : Heap) (n0 : Nat) (v : Option Value) (h : Heap) (L : List Loc) : Prop := v = some (.int (fhc0n4x23 b0 b1 b2 b3 cs)) ∧ Fr n0 L ∧ h = h0
set_option maxRecDepth 65536 in
set_option maxHeartbeats 40000000 in
theorem rm11c0n4x23 (l : Launch) (Z : State) (a0 : Array Value) (hw : ∀ d ∈ tables_1, d.before a0 Z = true) (ws : List Jvm.Cond) (o0 ob : Addr) (k : ClassId) (b0 b1 b2 b3 cs : Int32) (vf : Value) (h0 : Heap) (n0 : Nat) (Z0 : n0 ≤ h0.size) (E : Exa Z h0 o0 "java/lang/String") (Fv : Fld Z h0 o0 "java/lang/String" "value" "[B" (.ref ob)) (Fc : Fld Z h0 o0 "java/lang/String" "coder" "B" (.int 0)) (V : Arv Z h0 ob k .byte (4 : Int32) [(.int b0), (.int b1), (.int b2), (.int b3)] (.int 0)) (S_cs : Sta Z h0 "java/lang/String" "COMPACT_STRINGS" "Z" (.int cs)) (hcs : ¬ (cs = (0 : Int32))) (S_f : Sta Z h0 "jdk/internal/util/Preconditions" "SIOOBE_FORMATTER" "Ljava/util/function/BiFunction;" vf) (hvf : vf.isRef = true) :
    MetFree l (⟨"com/example/fides/fides/ledger/Position", "hasOnlyAsciiDigits", "(Ljava/lang/String;II)Z"⟩ : MethodName) (head1 (Jvm.Cond.code (⟨"com/example/fides/fides/ledger/Position", "hasOnlyAsciiDigits", "(Ljava/lang/String;II)Z"⟩ : MethodName) prog_28_method_5_code 5 (some .boolean) :: ws) (⟨5, 0, 0, 66⟩ : Room)) (fun a U => a = #[(.ref o0), (.int 2), (.int 3)] ∧ Z.Warmed39 U.vm ∧ U.heap = h0) (fun _ _ _ _ _ => True) (fun _ U o U' => ∃ v L, o = .returned v ∧ Q11c0n4x23 Z o0 ob k b0 b1 b2 b3 cs vf h0 n0 v U'.heap L ∧ FrameEnd U o U' L (⟨5, 0, 0, 66⟩ : Room).cells (⟨5, 0, 0, 66⟩ : Room).slots) := by
  refine MetFree.of_bodySF (plainFor_of_name pn_4) hisR ?_
  intro p e s m args below meth c s₁ Bd hml0 hP hK
  obtain ⟨rfl, hZ, hh⟩ := hP
  have hx := Bd.exec
  have hby := Bd.bytes
  have hml : c.maxLocals = 5 := hml0
  have hown : s.vm.findClass "com/example/fides/fides/ledger/Position" = some m.cls := findClass_of_methodNamed Bd.named
  have hnm := (name_of_methodNamed Bd.named Bd.method).1
  have X0 : Stand p l e (⟨5, 0, 0, 66⟩ : Room) s m #[(.ref o0), (.int 2), (.int 3)] below meth c s₁ [] 0 0 := Stand.of_body Bd
  have e0 : s₁.heap = h0 := by rw [← hh, Bd.state]; rfl
  have N0 := Fr.nil n0
  have hret := Bd.returns
  have hlk := BodyLoose.notSynchronized Bd
  show own_Out p e below (fun o U' => ∃ v L, o = .returned v ∧ Q11c0n4x23 Z o0 ob k b0 b1 b2 b3 cs vf h0 n0 v U'.heap L ∧ FrameEnd s o U' L (⟨5, 0, 0, 66⟩ : Room).cells (⟨5, 0, 0, 66⟩ : Room).slots) (s₁.setTop (entryFrame m #[(.ref o0), (.int 2), (.int 3)] 5))
  refine own_of (fun t k => castTop (ef_11c0n4x23 m o0) k) ?_
  show own_Out p e below _ (s₁.setTop (mkF m 0 #[rv o0, iv 2, iv 3, .unset, .unset] []))
  refine o_iloadN X0 hx hby d11_0 rfl (q := 1) rfl ?_
  refine o_istoreN X0 hx hby d11_1 (l' := #[rv o0, iv 2, iv 3, iv 2, .unset]) rfl (q := 2) rfl ?_
  refine o_iloadN X0 hx hby d11_2 rfl (q := 3) rfl ?_
  refine o_iloadN X0 hx hby d11_3 rfl (q := 4) rfl ?_
  refine o_icN X0 hx hby d11_4 (tlt (by decide : (2 : Int32) < (3 : Int32))).2.1 (q := 7) rfl ?_
  refine o_aloadN X0 hx hby d11_7 rfl rfl (q := 8) rfl ?_
  refine o_iloadN X0 hx hby d11_8 rfl (q := 9) rfl ?_
  obtain ⟨cq1, kq1, q1a, q1b, q1c⟩ := isOf hZ e0 E
  obtain ⟨_, _, ⟨T1, L1, k1, n1⟩, -, X1, ⟨Lc1, hQ1, l1, y1, z1⟩, st1⟩ := X0.virtualBack hx (y := (⟨"java/lang/String", "charAt", "(I)C"⟩ : MethodName)) (z := (⟨"java/lang/String", "charAt", "(I)C"⟩ : MethodName)) hown (mvT hZ (w_ hw 50 rfl)) (mvT hZ (w_ hw 51 rfl)) (notFace_of_selects (args := #[]) (mvT hZ (w_ hw 53 rfl))) (mvT hZ (w_ hw 53 rfl)) (mvT hZ (w_ hw 52 rfl)) (by decide) (backOf (W := 0) (rm12c0n4i2 l Z a0 hw [] o0 ob k b0 b1 b2 b3 cs vf h0 n0 Z0 E Fv Fc V S_cs hcs S_f hvf) hZ (w_ hw 54 rfl) (w_ hw 8 rfl) (by decide) (by decide)) q1a q1c (g := (mkF m 9 #[rv o0, iv 2, iv 3, iv 2, .unset] [.int 2, .ref o0])) rfl (by rw [hml]; rfl) (Steps.refl _) (argsL := [(.int 2)]) (rest := []) (lenOf pd_4 rfl) rfl (by show 2 * 0 + _ ≤ _; exact Nat.le_of_eq rfl) (hb hby d11_9) (fun _ _ => ⟨rfl, e0, (by decide : 0 + 0 ≤ _), (by decide : 0 + 0 ≤ _)⟩)
  dsimp only [Pt.U, Pt.locs, Pt.cells, Pt.slots] at X1 l1 y1 z1 st1 hQ1
  subst l1 y1 z1
  obtain ⟨rfl, N1q, hh1⟩ := hQ1
  have N1 := Fr.app N0 N1q
  refine own_of (fun _ k => st1.trans k) ?_
  show own_Out p e below _ (T1.setTop (mkF m 12 #[rv o0, iv 2, iv 3, iv 2, .unset] [.int (f_charAtc0n4i2 b0 b1 b2 b3 cs)]))
  refine o_istore X1 hx hby d11_12 (l' := #[rv o0, iv 2, iv 3, iv 2, iv (f_charAtc0n4i2 b0 b1 b2 b3 cs)]) rfl (q := 14) rfl ?_
  refine o_iload X1 hx hby d11_14 rfl (q := 16) rfl ?_
  refine o_bipush X1 hx hby d11_16 (z := 48) rfl (q := 18) rfl ?_
  by_cases hc18_2 : (f_charAtc0n4i2 b0 b1 b2 b3 cs) < (48 : Int32)
  · skip
    refine o_icY X1 hx hby d11_18 (tlt hc18_2).1 (by decide) (q := 28) (by decide) ?_
    refine o_iconst X1 hx hby d11_28 (z := 0) rfl (q := 29) rfl ?_
    exact own_outN X1 hx hlk (t := .boolean) hret (by simp) (hb hby d11_29) (z' := (0 : Int32)) rfl (Q := Q11c0n4x23 Z o0 ob k b0 b1 b2 b3 cs vf h0 n0) ⟨by simp only [fhc0n4x23, if_neg hcs, if_pos hc18_2], N1, hh1⟩ (by decide) (by decide)
  · skip
    refine o_icN X1 hx hby d11_18 (flt hc18_2).1 (q := 21) rfl ?_
    refine o_iload X1 hx hby d11_21 rfl (q := 23) rfl ?_
    refine o_bipush X1 hx hby d11_23 (z := 57) rfl (q := 25) rfl ?_
    by_cases hc25_3 : (57 : Int32) < (f_charAtc0n4i2 b0 b1 b2 b3 cs)
    · skip
      refine o_icN X1 hx hby d11_25 (tlt hc25_3).2.2.2 (q := 28) rfl ?_
      refine o_iconst X1 hx hby d11_28 (z := 0) rfl (q := 29) rfl ?_
      exact own_outN X1 hx hlk (t := .boolean) hret (by simp) (hb hby d11_29) (z' := (0 : Int32)) rfl (Q := Q11c0n4x23 Z o0 ob k b0 b1 b2 b3 cs vf h0 n0) ⟨by simp only [fhc0n4x23, if_neg hcs, if_neg hc18_2, if_pos hc25_3], N1, hh1⟩ (by decide) (by decide)
    · skip
      refine o_icY X1 hx hby d11_25 (flt hc25_3).2.2.2 (by decide) (q := 30) (by decide) ?_
      refine o_iinc X1 hx hby d11_30 rfl (l' := #[rv o0, iv 2, iv 3, iv 3, iv (f_charAtc0n4i2 b0 b1 b2 b3 cs)]) rfl (q := 33) rfl ?_
      refine o_goto X1 hx hby d11_33 (by decide) (q := 2) (by decide) ?_
      refine o_iloadN X1 hx hby d11_2 rfl (q := 3) rfl ?_
      refine o_iloadN X1 hx hby d11_3 rfl (q := 4) rfl ?_
      refine o_icY X1 hx hby d11_4 (flt (by decide : ¬ ((3 : Int32) < (3 : Int32)))).2.1 (by decide) (q := 36) (by decide) ?_
      refine o_iconst X1 hx hby d11_36 (z := 1) rfl (q := 37) rfl ?_
      exact own_outN X1 hx hlk (t := .boolean) hret (by simp) (hb hby d11_37) (z' := (1 : Int32)) rfl (Q := Q11c0n4x23 Z o0 ob k b0 b1 b2 b3 cs vf h0 n0) ⟨by simp only [fhc0n4x23, if_neg hcs, if_neg hc18_2, if_neg hc25_3], N1, hh1⟩ (by decide) (by decide)
theorem ef_11c0n4x24 (m : MethodId) (x0 : Addr) : entryFrame m #[(.ref x0), (.int 2), (.int 4)] 5 = mkF m 0 #[.val (.ref x0), .val (.int 2), .val (.int 4), .unset, .unset] [] := by first | (simp [entryFrame, mkF, argsToLocals, Value.category]; done) | rfl
def fhc0n4x24 (b0 b1 b2 b3 cs : Int32) : Int32 := if (f_charAtc0n4i2 b0 b1 b2 b3 cs) < (48 : Int32) then (0 : Int32)
  else if (57 : Int32) < (f_charAtc0n4i2 b0 b1 b2 b3 cs) then (0 : Int32)
    else if (f_charAtc0n4i3 b0 b1 b2 b3 cs) < (48 : Int32) then (0 : Int32)
      else if (57 : Int32) < (f_charAtc0n4i3 b0 b1 b2 b3 cs) then (0 : Int32)
        else (1 : Int32)
def Q11c0n4x24 (Z : State) (o0 ob : Addr) (k : ClassId) (b0 b1 b2 b3 cs : Int32) (vf : Value) (h0 : Heap) (n0 : Nat) (v : Option Value) (h : Heap) (L : List Loc) : Prop := v = some (.int (fhc0n4x24 b0 b1 b2 b3 cs)) ∧ Fr n0 L ∧ h = h0
set_option maxRecDepth 65536 in
set_option maxHeartbeats 40000000 in
theorem rm11c0n4x24 (l : Launch) (Z : State) (a0 : Array Value) (hw : ∀ d ∈ tables_1, d.before a0 Z = true) (ws : List Jvm.Cond) (o0 ob : Addr) (k : ClassId) (b0 b1 b2 b3 cs : Int32) (vf : Value) (h0 : Heap) (n0 : Nat) (Z0 : n0 ≤ h0.size) (E : Exa Z h0 o0 "java/lang/String") (Fv : Fld Z h0 o0 "java/lang/String" "value" "[B" (.ref ob)) (Fc : Fld Z h0 o0 "java/lang/String" "coder" "B" (.int 0)) (V : Arv Z h0 ob k .byte (4 : Int32) [(.int b0), (.int b1), (.int b2), (.int b3)] (.int 0)) (S_cs : Sta Z h0 "java/lang/String" "COMPACT_STRINGS" "Z" (.int cs)) (hcs : ¬ (cs = (0 : Int32))) (S_f : Sta Z h0 "jdk/internal/util/Preconditions" "SIOOBE_FORMATTER" "Ljava/util/function/BiFunction;" vf) (hvf : vf.isRef = true) :
    MetFree l (⟨"com/example/fides/fides/ledger/Position", "hasOnlyAsciiDigits", "(Ljava/lang/String;II)Z"⟩ : MethodName) (head1 (Jvm.Cond.code (⟨"com/example/fides/fides/ledger/Position", "hasOnlyAsciiDigits", "(Ljava/lang/String;II)Z"⟩ : MethodName) prog_28_method_5_code 5 (some .boolean) :: ws) (⟨5, 0, 0, 66⟩ : Room)) (fun a U => a = #[(.ref o0), (.int 2), (.int 4)] ∧ Z.Warmed39 U.vm ∧ U.heap = h0) (fun _ _ _ _ _ => True) (fun _ U o U' => ∃ v L, o = .returned v ∧ Q11c0n4x24 Z o0 ob k b0 b1 b2 b3 cs vf h0 n0 v U'.heap L ∧ FrameEnd U o U' L (⟨5, 0, 0, 66⟩ : Room).cells (⟨5, 0, 0, 66⟩ : Room).slots) := by
  refine MetFree.of_bodySF (plainFor_of_name pn_4) hisR ?_
  intro p e s m args below meth c s₁ Bd hml0 hP hK
  obtain ⟨rfl, hZ, hh⟩ := hP
  have hx := Bd.exec
  have hby := Bd.bytes
  have hml : c.maxLocals = 5 := hml0
  have hown : s.vm.findClass "com/example/fides/fides/ledger/Position" = some m.cls := findClass_of_methodNamed Bd.named
  have hnm := (name_of_methodNamed Bd.named Bd.method).1
  have X0 : Stand p l e (⟨5, 0, 0, 66⟩ : Room) s m #[(.ref o0), (.int 2), (.int 4)] below meth c s₁ [] 0 0 := Stand.of_body Bd
  have e0 : s₁.heap = h0 := by rw [← hh, Bd.state]; rfl
  have N0 := Fr.nil n0
  have hret := Bd.returns
  have hlk := BodyLoose.notSynchronized Bd
  show own_Out p e below (fun o U' => ∃ v L, o = .returned v ∧ Q11c0n4x24 Z o0 ob k b0 b1 b2 b3 cs vf h0 n0 v U'.heap L ∧ FrameEnd s o U' L (⟨5, 0, 0, 66⟩ : Room).cells (⟨5, 0, 0, 66⟩ : Room).slots) (s₁.setTop (entryFrame m #[(.ref o0), (.int 2), (.int 4)] 5))
  refine own_of (fun t k => castTop (ef_11c0n4x24 m o0) k) ?_
  show own_Out p e below _ (s₁.setTop (mkF m 0 #[rv o0, iv 2, iv 4, .unset, .unset] []))
  refine o_iloadN X0 hx hby d11_0 rfl (q := 1) rfl ?_
  refine o_istoreN X0 hx hby d11_1 (l' := #[rv o0, iv 2, iv 4, iv 2, .unset]) rfl (q := 2) rfl ?_
  refine o_iloadN X0 hx hby d11_2 rfl (q := 3) rfl ?_
  refine o_iloadN X0 hx hby d11_3 rfl (q := 4) rfl ?_
  refine o_icN X0 hx hby d11_4 (tlt (by decide : (2 : Int32) < (4 : Int32))).2.1 (q := 7) rfl ?_
  refine o_aloadN X0 hx hby d11_7 rfl rfl (q := 8) rfl ?_
  refine o_iloadN X0 hx hby d11_8 rfl (q := 9) rfl ?_
  obtain ⟨cq1, kq1, q1a, q1b, q1c⟩ := isOf hZ e0 E
  obtain ⟨_, _, ⟨T1, L1, k1, n1⟩, -, X1, ⟨Lc1, hQ1, l1, y1, z1⟩, st1⟩ := X0.virtualBack hx (y := (⟨"java/lang/String", "charAt", "(I)C"⟩ : MethodName)) (z := (⟨"java/lang/String", "charAt", "(I)C"⟩ : MethodName)) hown (mvT hZ (w_ hw 50 rfl)) (mvT hZ (w_ hw 51 rfl)) (notFace_of_selects (args := #[]) (mvT hZ (w_ hw 53 rfl))) (mvT hZ (w_ hw 53 rfl)) (mvT hZ (w_ hw 52 rfl)) (by decide) (backOf (W := 0) (rm12c0n4i2 l Z a0 hw [] o0 ob k b0 b1 b2 b3 cs vf h0 n0 Z0 E Fv Fc V S_cs hcs S_f hvf) hZ (w_ hw 54 rfl) (w_ hw 8 rfl) (by decide) (by decide)) q1a q1c (g := (mkF m 9 #[rv o0, iv 2, iv 4, iv 2, .unset] [.int 2, .ref o0])) rfl (by rw [hml]; rfl) (Steps.refl _) (argsL := [(.int 2)]) (rest := []) (lenOf pd_4 rfl) rfl (by show 2 * 0 + _ ≤ _; exact Nat.le_of_eq rfl) (hb hby d11_9) (fun _ _ => ⟨rfl, e0, (by decide : 0 + 0 ≤ _), (by decide : 0 + 0 ≤ _)⟩)
  dsimp only [Pt.U, Pt.locs, Pt.cells, Pt.slots] at X1 l1 y1 z1 st1 hQ1
  subst l1 y1 z1
  obtain ⟨rfl, N1q, hh1⟩ := hQ1
  have N1 := Fr.app N0 N1q
  refine own_of (fun _ k => st1.trans k) ?_
  show own_Out p e below _ (T1.setTop (mkF m 12 #[rv o0, iv 2, iv 4, iv 2, .unset] [.int (f_charAtc0n4i2 b0 b1 b2 b3 cs)]))
  refine o_istore X1 hx hby d11_12 (l' := #[rv o0, iv 2, iv 4, iv 2, iv (f_charAtc0n4i2 b0 b1 b2 b3 cs)]) rfl (q := 14) rfl ?_
  refine o_iload X1 hx hby d11_14 rfl (q := 16) rfl ?_
  refine o_bipush X1 hx hby d11_16 (z := 48) rfl (q := 18) rfl ?_
  by_cases hc18_2 : (f_charAtc0n4i2 b0 b1 b2 b3 cs) < (48 : Int32)
  · skip
    refine o_icY X1 hx hby d11_18 (tlt hc18_2).1 (by decide) (q := 28) (by decide) ?_
    refine o_iconst X1 hx hby d11_28 (z := 0) rfl (q := 29) rfl ?_
    exact own_outN X1 hx hlk (t := .boolean) hret (by simp) (hb hby d11_29) (z' := (0 : Int32)) rfl (Q := Q11c0n4x24 Z o0 ob k b0 b1 b2 b3 cs vf h0 n0) ⟨by simp only [fhc0n4x24, if_neg hcs, if_pos hc18_2], N1, hh1⟩ (by decide) (by decide)
  · skip
    refine o_icN X1 hx hby d11_18 (flt hc18_2).1 (q := 21) rfl ?_
    refine o_iload X1 hx hby d11_21 rfl (q := 23) rfl ?_
    refine o_bipush X1 hx hby d11_23 (z := 57) rfl (q := 25) rfl ?_
    by_cases hc25_3 : (57 : Int32) < (f_charAtc0n4i2 b0 b1 b2 b3 cs)
    · skip
      refine o_icN X1 hx hby d11_25 (tlt hc25_3).2.2.2 (q := 28) rfl ?_
      refine o_iconst X1 hx hby d11_28 (z := 0) rfl (q := 29) rfl ?_
      exact own_outN X1 hx hlk (t := .boolean) hret (by simp) (hb hby d11_29) (z' := (0 : Int32)) rfl (Q := Q11c0n4x24 Z o0 ob k b0 b1 b2 b3 cs vf h0 n0) ⟨by simp only [fhc0n4x24, if_neg hcs, if_neg hc18_2, if_pos hc25_3], N1, hh1⟩ (by decide) (by decide)
    · skip
      refine o_icY X1 hx hby d11_25 (flt hc25_3).2.2.2 (by decide) (q := 30) (by decide) ?_
      refine o_iinc X1 hx hby d11_30 rfl (l' := #[rv o0, iv 2, iv 4, iv 3, iv (f_charAtc0n4i2 b0 b1 b2 b3 cs)]) rfl (q := 33) rfl ?_
      refine o_goto X1 hx hby d11_33 (by decide) (q := 2) (by decide) ?_
      refine o_iloadN X1 hx hby d11_2 rfl (q := 3) rfl ?_
      refine o_iloadN X1 hx hby d11_3 rfl (q := 4) rfl ?_
      refine o_icN X1 hx hby d11_4 (tlt (by decide : (3 : Int32) < (4 : Int32))).2.1 (q := 7) rfl ?_
      refine o_aloadN X1 hx hby d11_7 rfl rfl (q := 8) rfl ?_
      refine o_iloadN X1 hx hby d11_8 rfl (q := 9) rfl ?_
      obtain ⟨cq4, kq4, q4a, q4b, q4c⟩ := isOf hZ hh1 E
      obtain ⟨_, _, ⟨T4, L4, k4, n4⟩, -, X4, ⟨Lc4, hQ4, l4, y4, z4⟩, st4⟩ := X1.virtualBack hx (y := (⟨"java/lang/String", "charAt", "(I)C"⟩ : MethodName)) (z := (⟨"java/lang/String", "charAt", "(I)C"⟩ : MethodName)) hown (mvT hZ (w_ hw 50 rfl)) (mvT hZ (w_ hw 51 rfl)) (notFace_of_selects (args := #[]) (mvT hZ (w_ hw 53 rfl))) (mvT hZ (w_ hw 53 rfl)) (mvT hZ (w_ hw 52 rfl)) (by decide) (backOf (W := 0) (rm12c0n4i3 l Z a0 hw [] o0 ob k b0 b1 b2 b3 cs vf h0 n0 Z0 E Fv Fc V S_cs hcs S_f hvf) hZ (w_ hw 54 rfl) (w_ hw 8 rfl) (by decide) (by decide)) q4a q4c (g := (mkF m 9 #[rv o0, iv 2, iv 4, iv 3, iv (f_charAtc0n4i2 b0 b1 b2 b3 cs)] [.int 3, .ref o0])) rfl (by rw [hml]; rfl) (Steps.refl _) (argsL := [(.int 3)]) (rest := []) (lenOf pd_4 rfl) rfl (by show 2 * 0 + _ ≤ _; exact Nat.le_of_eq rfl) (hb hby d11_9) (fun _ _ => ⟨rfl, hh1, (by decide : 0 + 0 ≤ _), (by decide : 0 + 0 ≤ _)⟩)
      dsimp only [Pt.U, Pt.locs, Pt.cells, Pt.slots] at X4 l4 y4 z4 st4 hQ4
      subst l4 y4 z4
      obtain ⟨rfl, N4q, hh4⟩ := hQ4
      have N4 := Fr.app N1 N4q
      refine own_of (fun _ k => st4.trans k) ?_
      show own_Out p e below _ (T4.setTop (mkF m 12 #[rv o0, iv 2, iv 4, iv 3, iv (f_charAtc0n4i2 b0 b1 b2 b3 cs)] [.int (f_charAtc0n4i3 b0 b1 b2 b3 cs)]))
      refine o_istore X4 hx hby d11_12 (l' := #[rv o0, iv 2, iv 4, iv 3, iv (f_charAtc0n4i3 b0 b1 b2 b3 cs)]) rfl (q := 14) rfl ?_
      refine o_iload X4 hx hby d11_14 rfl (q := 16) rfl ?_
      refine o_bipush X4 hx hby d11_16 (z := 48) rfl (q := 18) rfl ?_
      by_cases hc18_5 : (f_charAtc0n4i3 b0 b1 b2 b3 cs) < (48 : Int32)
      · skip
        refine o_icY X4 hx hby d11_18 (tlt hc18_5).1 (by decide) (q := 28) (by decide) ?_
        refine o_iconst X4 hx hby d11_28 (z := 0) rfl (q := 29) rfl ?_
        exact own_outN X4 hx hlk (t := .boolean) hret (by simp) (hb hby d11_29) (z' := (0 : Int32)) rfl (Q := Q11c0n4x24 Z o0 ob k b0 b1 b2 b3 cs vf h0 n0) ⟨by simp only [fhc0n4x24, if_neg hcs, if_neg hc18_2, if_neg hc25_3, if_pos hc18_5], N4, hh4⟩ (by decide) (by decide)
      · skip
        refine o_icN X4 hx hby d11_18 (flt hc18_5).1 (q := 21) rfl ?_
        refine o_iload X4 hx hby d11_21 rfl (q := 23) rfl ?_
        refine o_bipush X4 hx hby d11_23 (z := 57) rfl (q := 25) rfl ?_
        by_cases hc25_6 : (57 : Int32) < (f_charAtc0n4i3 b0 b1 b2 b3 cs)
        · skip
          refine o_icN X4 hx hby d11_25 (tlt hc25_6).2.2.2 (q := 28) rfl ?_
          refine o_iconst X4 hx hby d11_28 (z := 0) rfl (q := 29) rfl ?_
          exact own_outN X4 hx hlk (t := .boolean) hret (by simp) (hb hby d11_29) (z' := (0 : Int32)) rfl (Q := Q11c0n4x24 Z o0 ob k b0 b1 b2 b3 cs vf h0 n0) ⟨by simp only [fhc0n4x24, if_neg hcs, if_neg hc18_2, if_neg hc25_3, if_neg hc18_5, if_pos hc25_6], N4, hh4⟩ (by decide) (by decide)
        · skip
          refine o_icY X4 hx hby d11_25 (flt hc25_6).2.2.2 (by decide) (q := 30) (by decide) ?_
          refine o_iinc X4 hx hby d11_30 rfl (l' := #[rv o0, iv 2, iv 4, iv 4, iv (f_charAtc0n4i3 b0 b1 b2 b3 cs)]) rfl (q := 33) rfl ?_
          refine o_goto X4 hx hby d11_33 (by decide) (q := 2) (by decide) ?_
          refine o_iloadN X4 hx hby d11_2 rfl (q := 3) rfl ?_
          refine o_iloadN X4 hx hby d11_3 rfl (q := 4) rfl ?_
          refine o_icY X4 hx hby d11_4 (flt (by decide : ¬ ((4 : Int32) < (4 : Int32)))).2.1 (by decide) (q := 36) (by decide) ?_
          refine o_iconst X4 hx hby d11_36 (z := 1) rfl (q := 37) rfl ?_
          exact own_outN X4 hx hlk (t := .boolean) hret (by simp) (hb hby d11_37) (z' := (1 : Int32)) rfl (Q := Q11c0n4x24 Z o0 ob k b0 b1 b2 b3 cs vf h0 n0) ⟨by simp only [fhc0n4x24, if_neg hcs, if_neg hc18_2, if_neg hc25_3, if_neg hc18_5, if_neg hc25_6], N4, hh4⟩ (by decide) (by decide)
theorem ef_11c0n4x33 (m : MethodId) (x0 : Addr) : entryFrame m #[(.ref x0), (.int 3), (.int 3)] 5 = mkF m 0 #[.val (.ref x0), .val (.int 3), .val (.int 3), .unset, .unset] [] := by first | (simp [entryFrame, mkF, argsToLocals, Value.category]; done) | rfl
def fhc0n4x33 (b0 b1 b2 b3 cs : Int32) : Int32 := (1 : Int32)
def Q11c0n4x33 (Z : State) (o0 ob : Addr) (k : ClassId) (b0 b1 b2 b3 cs : Int32) (vf : Value) (h0 : Heap) (n0 : Nat) (v : Option Value) (h : Heap) (L : List Loc) : Prop := v = some (.int (fhc0n4x33 b0 b1 b2 b3 cs)) ∧ Fr n0 L ∧ h = h0
set_option maxRecDepth 65536 in
set_option maxHeartbeats 40000000 in
theorem rm11c0n4x33 (l : Launch) (Z : State) (a0 : Array Value) (hw : ∀ d ∈ tables_1, d.before a0 Z = true) (ws : List Jvm.Cond) (o0 ob : Addr) (k : ClassId) (b0 b1 b2 b3 cs : Int32) (vf : Value) (h0 : Heap) (n0 : Nat) (Z0 : n0 ≤ h0.size) (E : Exa Z h0 o0 "java/lang/String") (Fv : Fld Z h0 o0 "java/lang/String" "value" "[B" (.ref ob)) (Fc : Fld Z h0 o0 "java/lang/String" "coder" "B" (.int 0)) (V : Arv Z h0 ob k .byte (4 : Int32) [(.int b0), (.int b1), (.int b2), (.int b3)] (.int 0)) (S_cs : Sta Z h0 "java/lang/String" "COMPACT_STRINGS" "Z" (.int cs)) (hcs : ¬ (cs = (0 : Int32))) (S_f : Sta Z h0 "jdk/internal/util/Preconditions" "SIOOBE_FORMATTER" "Ljava/util/function/BiFunction;" vf) (hvf : vf.isRef = true) :
    MetFree l (⟨"com/example/fides/fides/ledger/Position", "hasOnlyAsciiDigits", "(Ljava/lang/String;II)Z"⟩ : MethodName) (head1 (Jvm.Cond.code (⟨"com/example/fides/fides/ledger/Position", "hasOnlyAsciiDigits", "(Ljava/lang/String;II)Z"⟩ : MethodName) prog_28_method_5_code 5 (some .boolean) :: ws) (⟨5, 0, 0, 66⟩ : Room)) (fun a U => a = #[(.ref o0), (.int 3), (.int 3)] ∧ Z.Warmed39 U.vm ∧ U.heap = h0) (fun _ _ _ _ _ => True) (fun _ U o U' => ∃ v L, o = .returned v ∧ Q11c0n4x33 Z o0 ob k b0 b1 b2 b3 cs vf h0 n0 v U'.heap L ∧ FrameEnd U o U' L (⟨5, 0, 0, 66⟩ : Room).cells (⟨5, 0, 0, 66⟩ : Room).slots) := by
  refine MetFree.of_bodySF (plainFor_of_name pn_4) hisR ?_
  intro p e s m args below meth c s₁ Bd hml0 hP hK
  obtain ⟨rfl, hZ, hh⟩ := hP
  have hx := Bd.exec
  have hby := Bd.bytes
  have hml : c.maxLocals = 5 := hml0
  have hown : s.vm.findClass "com/example/fides/fides/ledger/Position" = some m.cls := findClass_of_methodNamed Bd.named
  have hnm := (name_of_methodNamed Bd.named Bd.method).1
  have X0 : Stand p l e (⟨5, 0, 0, 66⟩ : Room) s m #[(.ref o0), (.int 3), (.int 3)] below meth c s₁ [] 0 0 := Stand.of_body Bd
  have e0 : s₁.heap = h0 := by rw [← hh, Bd.state]; rfl
  have N0 := Fr.nil n0
  have hret := Bd.returns
  have hlk := BodyLoose.notSynchronized Bd
  show own_Out p e below (fun o U' => ∃ v L, o = .returned v ∧ Q11c0n4x33 Z o0 ob k b0 b1 b2 b3 cs vf h0 n0 v U'.heap L ∧ FrameEnd s o U' L (⟨5, 0, 0, 66⟩ : Room).cells (⟨5, 0, 0, 66⟩ : Room).slots) (s₁.setTop (entryFrame m #[(.ref o0), (.int 3), (.int 3)] 5))
  refine own_of (fun t k => castTop (ef_11c0n4x33 m o0) k) ?_
  show own_Out p e below _ (s₁.setTop (mkF m 0 #[rv o0, iv 3, iv 3, .unset, .unset] []))
  refine o_iloadN X0 hx hby d11_0 rfl (q := 1) rfl ?_
  refine o_istoreN X0 hx hby d11_1 (l' := #[rv o0, iv 3, iv 3, iv 3, .unset]) rfl (q := 2) rfl ?_
  refine o_iloadN X0 hx hby d11_2 rfl (q := 3) rfl ?_
  refine o_iloadN X0 hx hby d11_3 rfl (q := 4) rfl ?_
  refine o_icY X0 hx hby d11_4 (flt (by decide : ¬ ((3 : Int32) < (3 : Int32)))).2.1 (by decide) (q := 36) (by decide) ?_
  refine o_iconst X0 hx hby d11_36 (z := 1) rfl (q := 37) rfl ?_
  exact own_outN X0 hx hlk (t := .boolean) hret (by simp) (hb hby d11_37) (z' := (1 : Int32)) rfl (Q := Q11c0n4x33 Z o0 ob k b0 b1 b2 b3 cs vf h0 n0) ⟨by simp only [fhc0n4x33, if_neg hcs], N0, e0⟩ (by decide) (by decide)
theorem ef_11c0n4x34 (m : MethodId) (x0 : Addr) : entryFrame m #[(.ref x0), (.int 3), (.int 4)] 5 = mkF m 0 #[.val (.ref x0), .val (.int 3), .val (.int 4), .unset, .unset] [] := by first | (simp [entryFrame, mkF, argsToLocals, Value.category]; done) | rfl
def fhc0n4x34 (b0 b1 b2 b3 cs : Int32) : Int32 := if (f_charAtc0n4i3 b0 b1 b2 b3 cs) < (48 : Int32) then (0 : Int32)
  else if (57 : Int32) < (f_charAtc0n4i3 b0 b1 b2 b3 cs) then (0 : Int32)
    else (1 : Int32)
def Q11c0n4x34 (Z : State) (o0 ob : Addr) (k : ClassId) (b0 b1 b2 b3 cs : Int32) (vf : Value) (h0 : Heap) (n0 : Nat) (v : Option Value) (h : Heap) (L : List Loc) : Prop := v = some (.int (fhc0n4x34 b0 b1 b2 b3 cs)) ∧ Fr n0 L ∧ h = h0
set_option maxRecDepth 65536 in
set_option maxHeartbeats 40000000 in
theorem rm11c0n4x34 (l : Launch) (Z : State) (a0 : Array Value) (hw : ∀ d ∈ tables_1, d.before a0 Z = true) (ws : List Jvm.Cond) (o0 ob : Addr) (k : ClassId) (b0 b1 b2 b3 cs : Int32) (vf : Value) (h0 : Heap) (n0 : Nat) (Z0 : n0 ≤ h0.size) (E : Exa Z h0 o0 "java/lang/String") (Fv : Fld Z h0 o0 "java/lang/String" "value" "[B" (.ref ob)) (Fc : Fld Z h0 o0 "java/lang/String" "coder" "B" (.int 0)) (V : Arv Z h0 ob k .byte (4 : Int32) [(.int b0), (.int b1), (.int b2), (.int b3)] (.int 0)) (S_cs : Sta Z h0 "java/lang/String" "COMPACT_STRINGS" "Z" (.int cs)) (hcs : ¬ (cs = (0 : Int32))) (S_f : Sta Z h0 "jdk/internal/util/Preconditions" "SIOOBE_FORMATTER" "Ljava/util/function/BiFunction;" vf) (hvf : vf.isRef = true) :
    MetFree l (⟨"com/example/fides/fides/ledger/Position", "hasOnlyAsciiDigits", "(Ljava/lang/String;II)Z"⟩ : MethodName) (head1 (Jvm.Cond.code (⟨"com/example/fides/fides/ledger/Position", "hasOnlyAsciiDigits", "(Ljava/lang/String;II)Z"⟩ : MethodName) prog_28_method_5_code 5 (some .boolean) :: ws) (⟨5, 0, 0, 66⟩ : Room)) (fun a U => a = #[(.ref o0), (.int 3), (.int 4)] ∧ Z.Warmed39 U.vm ∧ U.heap = h0) (fun _ _ _ _ _ => True) (fun _ U o U' => ∃ v L, o = .returned v ∧ Q11c0n4x34 Z o0 ob k b0 b1 b2 b3 cs vf h0 n0 v U'.heap L ∧ FrameEnd U o U' L (⟨5, 0, 0, 66⟩ : Room).cells (⟨5, 0, 0, 66⟩ : Room).slots) := by
  refine MetFree.of_bodySF (plainFor_of_name pn_4) hisR ?_
  intro p e s m args below meth c s₁ Bd hml0 hP hK
  obtain ⟨rfl, hZ, hh⟩ := hP
  have hx := Bd.exec
  have hby := Bd.bytes
  have hml : c.maxLocals = 5 := hml0
  have hown : s.vm.findClass "com/example/fides/fides/ledger/Position" = some m.cls := findClass_of_methodNamed Bd.named
  have hnm := (name_of_methodNamed Bd.named Bd.method).1
  have X0 : Stand p l e (⟨5, 0, 0, 66⟩ : Room) s m #[(.ref o0), (.int 3), (.int 4)] below meth c s₁ [] 0 0 := Stand.of_body Bd
  have e0 : s₁.heap = h0 := by rw [← hh, Bd.state]; rfl
  have N0 := Fr.nil n0
  have hret := Bd.returns
  have hlk := BodyLoose.notSynchronized Bd
  show own_Out p e below (fun o U' => ∃ v L, o = .returned v ∧ Q11c0n4x34 Z o0 ob k b0 b1 b2 b3 cs vf h0 n0 v U'.heap L ∧ FrameEnd s o U' L (⟨5, 0, 0, 66⟩ : Room).cells (⟨5, 0, 0, 66⟩ : Room).slots) (s₁.setTop (entryFrame m #[(.ref o0), (.int 3), (.int 4)] 5))
  refine own_of (fun t k => castTop (ef_11c0n4x34 m o0) k) ?_
  show own_Out p e below _ (s₁.setTop (mkF m 0 #[rv o0, iv 3, iv 4, .unset, .unset] []))
  refine o_iloadN X0 hx hby d11_0 rfl (q := 1) rfl ?_
  refine o_istoreN X0 hx hby d11_1 (l' := #[rv o0, iv 3, iv 4, iv 3, .unset]) rfl (q := 2) rfl ?_
  refine o_iloadN X0 hx hby d11_2 rfl (q := 3) rfl ?_
  refine o_iloadN X0 hx hby d11_3 rfl (q := 4) rfl ?_
  refine o_icN X0 hx hby d11_4 (tlt (by decide : (3 : Int32) < (4 : Int32))).2.1 (q := 7) rfl ?_
  refine o_aloadN X0 hx hby d11_7 rfl rfl (q := 8) rfl ?_
  refine o_iloadN X0 hx hby d11_8 rfl (q := 9) rfl ?_
  obtain ⟨cq1, kq1, q1a, q1b, q1c⟩ := isOf hZ e0 E
  obtain ⟨_, _, ⟨T1, L1, k1, n1⟩, -, X1, ⟨Lc1, hQ1, l1, y1, z1⟩, st1⟩ := X0.virtualBack hx (y := (⟨"java/lang/String", "charAt", "(I)C"⟩ : MethodName)) (z := (⟨"java/lang/String", "charAt", "(I)C"⟩ : MethodName)) hown (mvT hZ (w_ hw 50 rfl)) (mvT hZ (w_ hw 51 rfl)) (notFace_of_selects (args := #[]) (mvT hZ (w_ hw 53 rfl))) (mvT hZ (w_ hw 53 rfl)) (mvT hZ (w_ hw 52 rfl)) (by decide) (backOf (W := 0) (rm12c0n4i3 l Z a0 hw [] o0 ob k b0 b1 b2 b3 cs vf h0 n0 Z0 E Fv Fc V S_cs hcs S_f hvf) hZ (w_ hw 54 rfl) (w_ hw 8 rfl) (by decide) (by decide)) q1a q1c (g := (mkF m 9 #[rv o0, iv 3, iv 4, iv 3, .unset] [.int 3, .ref o0])) rfl (by rw [hml]; rfl) (Steps.refl _) (argsL := [(.int 3)]) (rest := []) (lenOf pd_4 rfl) rfl (by show 2 * 0 + _ ≤ _; exact Nat.le_of_eq rfl) (hb hby d11_9) (fun _ _ => ⟨rfl, e0, (by decide : 0 + 0 ≤ _), (by decide : 0 + 0 ≤ _)⟩)
  dsimp only [Pt.U, Pt.locs, Pt.cells, Pt.slots] at X1 l1 y1 z1 st1 hQ1
  subst l1 y1 z1
  obtain ⟨rfl, N1q, hh1⟩ := hQ1
  have N1 := Fr.app N0 N1q
  refine own_of (fun _ k => st1.trans k) ?_
  show own_Out p e below _ (T1.setTop (mkF m 12 #[rv o0, iv 3, iv 4, iv 3, .unset] [.int (f_charAtc0n4i3 b0 b1 b2 b3 cs)]))
  refine o_istore X1 hx hby d11_12 (l' := #[rv o0, iv 3, iv 4, iv 3, iv (f_charAtc0n4i3 b0 b1 b2 b3 cs)]) rfl (q := 14) rfl ?_
  refine o_iload X1 hx hby d11_14 rfl (q := 16) rfl ?_
  refine o_bipush X1 hx hby d11_16 (z := 48) rfl (q := 18) rfl ?_
  by_cases hc18_2 : (f_charAtc0n4i3 b0 b1 b2 b3 cs) < (48 : Int32)
  · skip
    refine o_icY X1 hx hby d11_18 (tlt hc18_2).1 (by decide) (q := 28) (by decide) ?_
    refine o_iconst X1 hx hby d11_28 (z := 0) rfl (q := 29) rfl ?_
    exact own_outN X1 hx hlk (t := .boolean) hret (by simp) (hb hby d11_29) (z' := (0 : Int32)) rfl (Q := Q11c0n4x34 Z o0 ob k b0 b1 b2 b3 cs vf h0 n0) ⟨by simp only [fhc0n4x34, if_neg hcs, if_pos hc18_2], N1, hh1⟩ (by decide) (by decide)
  · skip
    refine o_icN X1 hx hby d11_18 (flt hc18_2).1 (q := 21) rfl ?_
    refine o_iload X1 hx hby d11_21 rfl (q := 23) rfl ?_
    refine o_bipush X1 hx hby d11_23 (z := 57) rfl (q := 25) rfl ?_
    by_cases hc25_3 : (57 : Int32) < (f_charAtc0n4i3 b0 b1 b2 b3 cs)
    · skip
      refine o_icN X1 hx hby d11_25 (tlt hc25_3).2.2.2 (q := 28) rfl ?_
      refine o_iconst X1 hx hby d11_28 (z := 0) rfl (q := 29) rfl ?_
      exact own_outN X1 hx hlk (t := .boolean) hret (by simp) (hb hby d11_29) (z' := (0 : Int32)) rfl (Q := Q11c0n4x34 Z o0 ob k b0 b1 b2 b3 cs vf h0 n0) ⟨by simp only [fhc0n4x34, if_neg hcs, if_neg hc18_2, if_pos hc25_3], N1, hh1⟩ (by decide) (by decide)
    · skip
      refine o_icY X1 hx hby d11_25 (flt hc25_3).2.2.2 (by decide) (q := 30) (by decide) ?_
      refine o_iinc X1 hx hby d11_30 rfl (l' := #[rv o0, iv 3, iv 4, iv 4, iv (f_charAtc0n4i3 b0 b1 b2 b3 cs)]) rfl (q := 33) rfl ?_
      refine o_goto X1 hx hby d11_33 (by decide) (q := 2) (by decide) ?_
      refine o_iloadN X1 hx hby d11_2 rfl (q := 3) rfl ?_
      refine o_iloadN X1 hx hby d11_3 rfl (q := 4) rfl ?_
      refine o_icY X1 hx hby d11_4 (flt (by decide : ¬ ((4 : Int32) < (4 : Int32)))).2.1 (by decide) (q := 36) (by decide) ?_
      refine o_iconst X1 hx hby d11_36 (z := 1) rfl (q := 37) rfl ?_
      exact own_outN X1 hx hlk (t := .boolean) hret (by simp) (hb hby d11_37) (z' := (1 : Int32)) rfl (Q := Q11c0n4x34 Z o0 ob k b0 b1 b2 b3 cs vf h0 n0) ⟨by simp only [fhc0n4x34, if_neg hcs, if_neg hc18_2, if_neg hc25_3], N1, hh1⟩ (by decide) (by decide)
theorem ef_11c0n4x44 (m : MethodId) (x0 : Addr) : entryFrame m #[(.ref x0), (.int 4), (.int 4)] 5 = mkF m 0 #[.val (.ref x0), .val (.int 4), .val (.int 4), .unset, .unset] [] := by first | (simp [entryFrame, mkF, argsToLocals, Value.category]; done) | rfl
def fhc0n4x44 (b0 b1 b2 b3 cs : Int32) : Int32 := (1 : Int32)
def Q11c0n4x44 (Z : State) (o0 ob : Addr) (k : ClassId) (b0 b1 b2 b3 cs : Int32) (vf : Value) (h0 : Heap) (n0 : Nat) (v : Option Value) (h : Heap) (L : List Loc) : Prop := v = some (.int (fhc0n4x44 b0 b1 b2 b3 cs)) ∧ Fr n0 L ∧ h = h0
set_option maxRecDepth 65536 in
set_option maxHeartbeats 40000000 in
theorem rm11c0n4x44 (l : Launch) (Z : State) (a0 : Array Value) (hw : ∀ d ∈ tables_1, d.before a0 Z = true) (ws : List Jvm.Cond) (o0 ob : Addr) (k : ClassId) (b0 b1 b2 b3 cs : Int32) (vf : Value) (h0 : Heap) (n0 : Nat) (Z0 : n0 ≤ h0.size) (E : Exa Z h0 o0 "java/lang/String") (Fv : Fld Z h0 o0 "java/lang/String" "value" "[B" (.ref ob)) (Fc : Fld Z h0 o0 "java/lang/String" "coder" "B" (.int 0)) (V : Arv Z h0 ob k .byte (4 : Int32) [(.int b0), (.int b1), (.int b2), (.int b3)] (.int 0)) (S_cs : Sta Z h0 "java/lang/String" "COMPACT_STRINGS" "Z" (.int cs)) (hcs : ¬ (cs = (0 : Int32))) (S_f : Sta Z h0 "jdk/internal/util/Preconditions" "SIOOBE_FORMATTER" "Ljava/util/function/BiFunction;" vf) (hvf : vf.isRef = true) :
    MetFree l (⟨"com/example/fides/fides/ledger/Position", "hasOnlyAsciiDigits", "(Ljava/lang/String;II)Z"⟩ : MethodName) (head1 (Jvm.Cond.code (⟨"com/example/fides/fides/ledger/Position", "hasOnlyAsciiDigits", "(Ljava/lang/String;II)Z"⟩ : MethodName) prog_28_method_5_code 5 (some .boolean) :: ws) (⟨5, 0, 0, 66⟩ : Room)) (fun a U => a = #[(.ref o0), (.int 4), (.int 4)] ∧ Z.Warmed39 U.vm ∧ U.heap = h0) (fun _ _ _ _ _ => True) (fun _ U o U' => ∃ v L, o = .returned v ∧ Q11c0n4x44 Z o0 ob k b0 b1 b2 b3 cs vf h0 n0 v U'.heap L ∧ FrameEnd U o U' L (⟨5, 0, 0, 66⟩ : Room).cells (⟨5, 0, 0, 66⟩ : Room).slots) := by
  refine MetFree.of_bodySF (plainFor_of_name pn_4) hisR ?_
  intro p e s m args below meth c s₁ Bd hml0 hP hK
  obtain ⟨rfl, hZ, hh⟩ := hP
  have hx := Bd.exec
  have hby := Bd.bytes
  have hml : c.maxLocals = 5 := hml0
  have hown : s.vm.findClass "com/example/fides/fides/ledger/Position" = some m.cls := findClass_of_methodNamed Bd.named
  have hnm := (name_of_methodNamed Bd.named Bd.method).1
  have X0 : Stand p l e (⟨5, 0, 0, 66⟩ : Room) s m #[(.ref o0), (.int 4), (.int 4)] below meth c s₁ [] 0 0 := Stand.of_body Bd
  have e0 : s₁.heap = h0 := by rw [← hh, Bd.state]; rfl
  have N0 := Fr.nil n0
  have hret := Bd.returns
  have hlk := BodyLoose.notSynchronized Bd
  show own_Out p e below (fun o U' => ∃ v L, o = .returned v ∧ Q11c0n4x44 Z o0 ob k b0 b1 b2 b3 cs vf h0 n0 v U'.heap L ∧ FrameEnd s o U' L (⟨5, 0, 0, 66⟩ : Room).cells (⟨5, 0, 0, 66⟩ : Room).slots) (s₁.setTop (entryFrame m #[(.ref o0), (.int 4), (.int 4)] 5))
  refine own_of (fun t k => castTop (ef_11c0n4x44 m o0) k) ?_
  show own_Out p e below _ (s₁.setTop (mkF m 0 #[rv o0, iv 4, iv 4, .unset, .unset] []))
  refine o_iloadN X0 hx hby d11_0 rfl (q := 1) rfl ?_
  refine o_istoreN X0 hx hby d11_1 (l' := #[rv o0, iv 4, iv 4, iv 4, .unset]) rfl (q := 2) rfl ?_
  refine o_iloadN X0 hx hby d11_2 rfl (q := 3) rfl ?_
  refine o_iloadN X0 hx hby d11_3 rfl (q := 4) rfl ?_
  refine o_icY X0 hx hby d11_4 (flt (by decide : ¬ ((4 : Int32) < (4 : Int32)))).2.1 (by decide) (q := 36) (by decide) ?_
  refine o_iconst X0 hx hby d11_36 (z := 1) rfl (q := 37) rfl ?_
  exact own_outN X0 hx hlk (t := .boolean) hret (by simp) (hb hby d11_37) (z' := (1 : Int32)) rfl (Q := Q11c0n4x44 Z o0 ob k b0 b1 b2 b3 cs vf h0 n0) ⟨by simp only [fhc0n4x44, if_neg hcs], N0, e0⟩ (by decide) (by decide)
theorem d13_17 : decode jdk_42_method_154_code 17 = .ok (.iconst 0, 1) := by decide +kernel
theorem ef_13c1n8 (m : MethodId) (x0 : Addr) : entryFrame m #[(.ref x0)] 1 = mkF m 0 #[.val (.ref x0)] [] := by first | (simp [entryFrame, mkF, argsToLocals, Value.category]; done) | rfl
def Q13c1n8 (Z : State) (o0 ob : Addr) (k : ClassId) (b0 b1 b2 b3 b4 b5 b6 b7 cs : Int32) (h0 : Heap) (n0 : Nat) (v : Option Value) (h : Heap) (L : List Loc) : Prop := v = some (.int 0) ∧ Fr n0 L ∧ h = h0
set_option maxRecDepth 65536 in
set_option maxHeartbeats 40000000 in
theorem rm13c1n8 (l : Launch) (Z : State) (a0 : Array Value) (hw : ∀ d ∈ tables_1, d.before a0 Z = true) (ws : List Jvm.Cond) (o0 ob : Addr) (k : ClassId) (b0 b1 b2 b3 b4 b5 b6 b7 cs : Int32) (h0 : Heap) (n0 : Nat) (Z0 : n0 ≤ h0.size) (E : Exa Z h0 o0 "java/lang/String") (Fv : Fld Z h0 o0 "java/lang/String" "value" "[B" (.ref ob)) (Fc : Fld Z h0 o0 "java/lang/String" "coder" "B" (.int 1)) (V : Arv Z h0 ob k .byte (8 : Int32) [(.int b0), (.int b1), (.int b2), (.int b3), (.int b4), (.int b5), (.int b6), (.int b7)] (.int 0)) (S_cs : Sta Z h0 "java/lang/String" "COMPACT_STRINGS" "Z" (.int cs)) (hcs : ¬ (cs = (0 : Int32))) :
    MetFree l (⟨"java/lang/String", "isLatin1", "()Z"⟩ : MethodName) (head1 (Jvm.Cond.code (⟨"java/lang/String", "isLatin1", "()Z"⟩ : MethodName) jdk_42_method_154_code 1 (some .boolean) :: ws) (⟨0, 0, 0, 0⟩ : Room)) (fun a U => a = #[(.ref o0)] ∧ Z.Warmed39 U.vm ∧ U.heap = h0) (fun _ _ _ _ _ => True) (fun _ U o U' => ∃ v L, o = .returned v ∧ Q13c1n8 Z o0 ob k b0 b1 b2 b3 b4 b5 b6 b7 cs h0 n0 v U'.heap L ∧ FrameEnd U o U' L (⟨0, 0, 0, 0⟩ : Room).cells (⟨0, 0, 0, 0⟩ : Room).slots) := by
  refine MetFree.of_bodySF (plainFor_of_name pn_1) hisR ?_
  intro p e s m args below meth c s₁ Bd hml0 hP hK
  obtain ⟨rfl, hZ, hh⟩ := hP
  have hx := Bd.exec
  have hby := Bd.bytes
  have hml : c.maxLocals = 1 := hml0
  have hown : s.vm.findClass "java/lang/String" = some m.cls := findClass_of_methodNamed Bd.named
  have hnm := (name_of_methodNamed Bd.named Bd.method).1
  have X0 : Stand p l e (⟨0, 0, 0, 0⟩ : Room) s m #[(.ref o0)] below meth c s₁ [] 0 0 := Stand.of_body Bd
  have e0 : s₁.heap = h0 := by rw [← hh, Bd.state]; rfl
  have N0 := Fr.nil n0
  have hret := Bd.returns
  have hlk := BodyLoose.notSynchronized Bd
  show own_Out p e below (fun o U' => ∃ v L, o = .returned v ∧ Q13c1n8 Z o0 ob k b0 b1 b2 b3 b4 b5 b6 b7 cs h0 n0 v U'.heap L ∧ FrameEnd s o U' L (⟨0, 0, 0, 0⟩ : Room).cells (⟨0, 0, 0, 0⟩ : Room).slots) (s₁.setTop (entryFrame m #[(.ref o0)] 1))
  refine own_of (fun t k => castTop (ef_13c1n8 m o0) k) ?_
  show own_Out p e below _ (s₁.setTop (mkF m 0 #[rv o0] []))
  obtain ⟨T1, X1, e1, st1⟩ := getS2 X0 hx hZ hown (host := "") (Or.inl (w_ hw 19 rfl)) Via.refl e0 S_cs (g := (mkF m 0 #[rv o0] [])) rfl (hb hby d13_0)
  refine own_of st1 ?_
  show own_Out p e below _ (T1.setTop (mkF m 3 #[rv o0] [.int cs]))
  refine o_ifN X1 hx hby d13_3 ((if0 _ _).trans (feq hcs).1) (q := 6) rfl ?_
  refine o_aloadN X1 hx hby d13_6 rfl rfl (q := 7) rfl ?_
  refine o_getF X1 hx hZ hown hby (w_ hw 31 rfl) Via.refl e1 Fc d13_7 (q := 10) rfl fun T2 X2 e2 => ?_
  refine o_ifY X2 hx hby d13_10 ((if0 _ _).trans (feq (by decide : ¬ ((1 : Int32) = (0 : Int32)))).2) (by decide) (q := 17) (by decide) ?_
  refine o_iconst X2 hx hby d13_17 (z := 0) rfl (q := 18) rfl ?_
  exact own_outN X2 hx hlk (t := .boolean) hret (by simp) (hb hby d13_18) (z' := (0 : Int32)) rfl (Q := Q13c1n8 Z o0 ob k b0 b1 b2 b3 b4 b5 b6 b7 cs h0 n0) ⟨rfl, N0, e2⟩ (by decide) (by decide)
theorem d24_0 : decode jdk_52_method_6_code 0 = .ok (.aload_n 0, 1) := by decide +kernel
theorem d24_1 : decode jdk_52_method_6_code 1 = .ok (.arraylength, 1) := by decide +kernel
theorem d24_2 : decode jdk_52_method_6_code 2 = .ok (.iconst 1, 1) := by decide +kernel
theorem d24_3 : decode jdk_52_method_6_code 3 = .ok (.ishr, 1) := by decide +kernel
theorem d24_4 : decode jdk_52_method_6_code 4 = .ok (.ireturn, 1) := by decide +kernel
theorem pn_5 : plainName "java/lang/StringUTF16" = true := by first | (simp [plainName, overriddenIn]; done) | decide +kernel
theorem ef_24c1n8 (m : MethodId) (x0 : Addr) : entryFrame m #[(.ref x0)] 1 = mkF m 0 #[.val (.ref x0)] [] := by first | (simp [entryFrame, mkF, argsToLocals, Value.category]; done) | rfl
def Q24c1n8 (Z : State) (o0 : Addr) (k : ClassId) (b0 b1 b2 b3 b4 b5 b6 b7 : Int32) (h0 : Heap) (n0 : Nat) (v : Option Value) (h : Heap) (L : List Loc) : Prop := v = some (.int 4) ∧ Fr n0 L ∧ h = h0
set_option maxRecDepth 65536 in
set_option maxHeartbeats 40000000 in
theorem rm24c1n8 (l : Launch) (Z : State) (a0 : Array Value) (hw : ∀ d ∈ tables_1, d.before a0 Z = true) (ws : List Jvm.Cond) (o0 : Addr) (k : ClassId) (b0 b1 b2 b3 b4 b5 b6 b7 : Int32) (h0 : Heap) (n0 : Nat) (Z0 : n0 ≤ h0.size) (V : Arv Z h0 o0 k .byte (8 : Int32) [(.int b0), (.int b1), (.int b2), (.int b3), (.int b4), (.int b5), (.int b6), (.int b7)] (.int 0)) :
    MetFree l (⟨"java/lang/StringUTF16", "length", "([B)I"⟩ : MethodName) (head1 (Jvm.Cond.code (⟨"java/lang/StringUTF16", "length", "([B)I"⟩ : MethodName) jdk_52_method_6_code 1 (some .int) :: ws) (⟨0, 0, 0, 0⟩ : Room)) (fun a U => a = #[(.ref o0)] ∧ Z.Warmed39 U.vm ∧ U.heap = h0) (fun _ _ _ _ _ => True) (fun _ U o U' => ∃ v L, o = .returned v ∧ Q24c1n8 Z o0 k b0 b1 b2 b3 b4 b5 b6 b7 h0 n0 v U'.heap L ∧ FrameEnd U o U' L (⟨0, 0, 0, 0⟩ : Room).cells (⟨0, 0, 0, 0⟩ : Room).slots) := by
  refine MetFree.of_bodySF (plainFor_of_name pn_5) hisR ?_
  intro p e s m args below meth c s₁ Bd hml0 hP hK
  obtain ⟨rfl, hZ, hh⟩ := hP
  have hx := Bd.exec
  have hby := Bd.bytes
  have hml : c.maxLocals = 1 := hml0
  have hown : s.vm.findClass "java/lang/StringUTF16" = some m.cls := findClass_of_methodNamed Bd.named
  have hnm := (name_of_methodNamed Bd.named Bd.method).1
  have X0 : Stand p l e (⟨0, 0, 0, 0⟩ : Room) s m #[(.ref o0)] below meth c s₁ [] 0 0 := Stand.of_body Bd
  have e0 : s₁.heap = h0 := by rw [← hh, Bd.state]; rfl
  have N0 := Fr.nil n0
  have hret := Bd.returns
  have hlk := BodyLoose.notSynchronized Bd
  show own_Out p e below (fun o U' => ∃ v L, o = .returned v ∧ Q24c1n8 Z o0 k b0 b1 b2 b3 b4 b5 b6 b7 h0 n0 v U'.heap L ∧ FrameEnd s o U' L (⟨0, 0, 0, 0⟩ : Room).cells (⟨0, 0, 0, 0⟩ : Room).slots) (s₁.setTop (entryFrame m #[(.ref o0)] 1))
  refine own_of (fun t k => castTop (ef_24c1n8 m o0) k) ?_
  show own_Out p e below _ (s₁.setTop (mkF m 0 #[rv o0] []))
  refine o_aloadN X0 hx hby d24_0 rfl rfl (q := 1) rfl ?_
  refine o_lenV X0 hx hby hZ e0 V d24_1 (q := 2) rfl ?_
  refine o_iconst X0 hx hby d24_2 (z := 1) rfl (q := 3) rfl ?_
  refine o_ishr X0 hx hby d24_3 (z := 4) rfl (q := 4) rfl ?_
  exact own_outI X0 hx hlk hret (hb hby d24_4) (Q := Q24c1n8 Z o0 k b0 b1 b2 b3 b4 b5 b6 b7 h0 n0) ⟨rfl, N0, e0⟩ (by decide) (by decide)
theorem pd_5 : parseMethodDescriptor "([B)I" = some ⟨[(.array .byte)], some .int⟩ := by decide +kernel
theorem d23_0 : decode jdk_52_method_91_code 0 = .ok (.iload_n 0, 1) := by decide +kernel
theorem d23_1 : decode jdk_52_method_91_code 1 = .ok (.aload_n 1, 1) := by decide +kernel
theorem d23_2 : decode jdk_52_method_91_code 2 = .ok (.invokestatic 48, 3) := by decide +kernel
theorem d23_5 : decode jdk_52_method_91_code 5 = .ok (.invokestatic 414, 3) := by decide +kernel
theorem d23_8 : decode jdk_52_method_91_code 8 = .ok (.return_, 1) := by decide +kernel
theorem ef_23c1n8i0 (m : MethodId) (x1 : Addr) : entryFrame m #[(.int 0), (.ref x1)] 2 = mkF m 0 #[.val (.int 0), .val (.ref x1)] [] := by first | (simp [entryFrame, mkF, argsToLocals, Value.category]; done) | rfl
def Q23c1n8i0 (Z : State) (o1 : Addr) (k : ClassId) (b0 b1 b2 b3 b4 b5 b6 b7 : Int32) (vf : Value) (h0 : Heap) (n0 : Nat) (v : Option Value) (h : Heap) (L : List Loc) : Prop := v = none ∧ Fr n0 L ∧ h = h0
set_option maxRecDepth 65536 in
set_option maxHeartbeats 40000000 in
theorem rm23c1n8i0 (l : Launch) (Z : State) (a0 : Array Value) (hw : ∀ d ∈ tables_1, d.before a0 Z = true) (ws : List Jvm.Cond) (o1 : Addr) (k : ClassId) (b0 b1 b2 b3 b4 b5 b6 b7 : Int32) (vf : Value) (h0 : Heap) (n0 : Nat) (Z0 : n0 ≤ h0.size) (V : Arv Z h0 o1 k .byte (8 : Int32) [(.int b0), (.int b1), (.int b2), (.int b3), (.int b4), (.int b5), (.int b6), (.int b7)] (.int 0)) (S_f : Sta Z h0 "jdk/internal/util/Preconditions" "SIOOBE_FORMATTER" "Ljava/util/function/BiFunction;" vf) (hvf : vf.isRef = true) :
    MetFree l (⟨"java/lang/StringUTF16", "checkIndex", "(I[B)V"⟩ : MethodName) (head1 (Jvm.Cond.code (⟨"java/lang/StringUTF16", "checkIndex", "(I[B)V"⟩ : MethodName) jdk_52_method_91_code 2 none :: ws) (⟨2, 0, 0, 27⟩ : Room)) (fun a U => a = #[(.int 0), (.ref o1)] ∧ Z.Warmed39 U.vm ∧ U.heap = h0) (fun _ _ _ _ _ => True) (fun _ U o U' => ∃ v L, o = .returned v ∧ Q23c1n8i0 Z o1 k b0 b1 b2 b3 b4 b5 b6 b7 vf h0 n0 v U'.heap L ∧ FrameEnd U o U' L (⟨2, 0, 0, 27⟩ : Room).cells (⟨2, 0, 0, 27⟩ : Room).slots) := by
  refine MetFree.of_bodySF (plainFor_of_name pn_5) hisR ?_
  intro p e s m args below meth c s₁ Bd hml0 hP hK
  obtain ⟨rfl, hZ, hh⟩ := hP
  have hx := Bd.exec
  have hby := Bd.bytes
  have hml : c.maxLocals = 2 := hml0
  have hown : s.vm.findClass "java/lang/StringUTF16" = some m.cls := findClass_of_methodNamed Bd.named
  have hnm := (name_of_methodNamed Bd.named Bd.method).1
  have X0 : Stand p l e (⟨2, 0, 0, 27⟩ : Room) s m #[(.int 0), (.ref o1)] below meth c s₁ [] 0 0 := Stand.of_body Bd
  have e0 : s₁.heap = h0 := by rw [← hh, Bd.state]; rfl
  have N0 := Fr.nil n0
  have hret := Bd.returns
  have hlk := BodyLoose.notSynchronized Bd
  show own_Out p e below (fun o U' => ∃ v L, o = .returned v ∧ Q23c1n8i0 Z o1 k b0 b1 b2 b3 b4 b5 b6 b7 vf h0 n0 v U'.heap L ∧ FrameEnd s o U' L (⟨2, 0, 0, 27⟩ : Room).cells (⟨2, 0, 0, 27⟩ : Room).slots) (s₁.setTop (entryFrame m #[(.int 0), (.ref o1)] 2))
  refine own_of (fun t k => castTop (ef_23c1n8i0 m o1) k) ?_
  show own_Out p e below _ (s₁.setTop (mkF m 0 #[iv 0, rv o1] []))
  refine o_iloadN X0 hx hby d23_0 rfl (q := 1) rfl ?_
  refine o_aloadN X0 hx hby d23_1 rfl rfl (q := 2) rfl ?_
  obtain ⟨_, _, ⟨T1, L1, k1, n1⟩, -, X1, ⟨Lc1, hQ1, l1, y1, z1⟩, st1⟩ := Jvm.LawKit.callS X0 hx (y := (⟨"java/lang/StringUTF16", "length", "([B)I"⟩ : MethodName)) hown (mvT hZ (w_ hw 97 rfl)) (mvT hZ (w_ hw 98 rfl)) (mvT hZ (w_ hw 22 rfl)) (mvT hZ (w_ hw 99 rfl)) (by decide) (backOf (W := 1) (rm24c1n8 l Z a0 hw [] o1 k b0 b1 b2 b3 b4 b5 b6 b7 h0 n0 Z0 V) hZ (w_ hw 99 rfl) (w_ hw 22 rfl) (by decide) (by decide)) (g := (mkF m 2 #[iv 0, rv o1] [.ref o1, .int 0])) rfl (by rw [hml]; rfl) (argsL := [(.ref o1)]) (rest := [(.int 0)]) (lenOf pd_5 rfl) rfl (by show 2 * 0 + _ ≤ _; exact Nat.le_of_eq rfl) (hb hby d23_2) (fun _ _ => ⟨rfl, e0, (by decide : 0 + 0 ≤ _), (by decide : 0 + 0 ≤ _)⟩)
  dsimp only [Pt.U, Pt.locs, Pt.cells, Pt.slots] at X1 l1 y1 z1 st1 hQ1
  subst l1 y1 z1
  obtain ⟨rfl, N1q, hh1⟩ := hQ1
  have N1 := Fr.app N0 N1q
  refine own_of st1 ?_
  show own_Out p e below _ (T1.setTop (mkF m 5 #[iv 0, rv o1] [.int 4, .int 0]))
  obtain ⟨_, _, ⟨T2, L2, k2, n2⟩, -, X2, ⟨Lc2, hQ2, l2, y2, z2⟩, st2⟩ := Jvm.LawKit.callS X1 hx (y := (⟨"java/lang/String", "checkIndex", "(II)V"⟩ : MethodName)) hown (mvT hZ (w_ hw 100 rfl)) (mvT hZ (w_ hw 65 rfl)) (mvT hZ (w_ hw 8 rfl)) (mvT hZ (w_ hw 66 rfl)) (by decide) (backOf (W := 0) (rm15i0n4 l Z a0 hw [] vf h0 n0 Z0 S_f hvf) hZ (w_ hw 66 rfl) (w_ hw 8 rfl) (by decide) (by decide)) (g := (mkF m 5 #[iv 0, rv o1] [.int 4, .int 0])) rfl (by rw [hml]; rfl) (argsL := [(.int 0), (.int 4)]) (rest := []) (lenOf pd_1 rfl) rfl (by show 2 * 0 + _ ≤ _; exact Nat.le_of_eq rfl) (hb hby d23_5) (fun _ _ => ⟨rfl, hh1, (by decide : 0 + 0 ≤ _), (by decide : 0 + 0 ≤ _)⟩)
  dsimp only [Pt.U, Pt.locs, Pt.cells, Pt.slots] at X2 l2 y2 z2 st2 hQ2
  subst l2 y2 z2
  obtain ⟨rfl, N2q, hh2⟩ := hQ2
  have N2 := Fr.app N1 N2q
  refine own_of st2 ?_
  show own_Out p e below _ (T2.setTop (mkF m 8 #[iv 0, rv o1] []))
  exact own_outV X2 hx hlk hret (hb hby d23_8) (Q := Q23c1n8i0 Z o1 k b0 b1 b2 b3 b4 b5 b6 b7 vf h0 n0) ⟨rfl, N2, hh2⟩ (by decide) (by decide)
theorem d21_0 : decode jdk_52_method_5_code 0 = .ok (.getstatic 44, 3) := by decide +kernel
theorem d21_3 : decode jdk_52_method_5_code 3 = .ok (.ifCond .ne 25, 3) := by decide +kernel
theorem d21_28 : decode jdk_52_method_5_code 28 = .ok (.iload_n 1, 1) := by decide +kernel
theorem d21_29 : decode jdk_52_method_5_code 29 = .ok (.iconst 1, 1) := by decide +kernel
theorem d21_30 : decode jdk_52_method_5_code 30 = .ok (.ishl, 1) := by decide +kernel
theorem d21_31 : decode jdk_52_method_5_code 31 = .ok (.istore_n 1, 1) := by decide +kernel
theorem d21_32 : decode jdk_52_method_5_code 32 = .ok (.aload_n 0, 1) := by decide +kernel
theorem d21_33 : decode jdk_52_method_5_code 33 = .ok (.iload_n 1, 1) := by decide +kernel
theorem d21_34 : decode jdk_52_method_5_code 34 = .ok (.iinc 1 1, 3) := by decide +kernel
theorem d21_37 : decode jdk_52_method_5_code 37 = .ok (.baload, 1) := by decide +kernel
theorem d21_38 : decode jdk_52_method_5_code 38 = .ok (.sipush 255, 3) := by decide +kernel
theorem d21_41 : decode jdk_52_method_5_code 41 = .ok (.iand, 1) := by decide +kernel
theorem d21_42 : decode jdk_52_method_5_code 42 = .ok (.getstatic 59, 3) := by decide +kernel
theorem d21_45 : decode jdk_52_method_5_code 45 = .ok (.ishl, 1) := by decide +kernel
theorem d21_46 : decode jdk_52_method_5_code 46 = .ok (.aload_n 0, 1) := by decide +kernel
theorem d21_47 : decode jdk_52_method_5_code 47 = .ok (.iload_n 1, 1) := by decide +kernel
theorem d21_48 : decode jdk_52_method_5_code 48 = .ok (.baload, 1) := by decide +kernel
theorem d21_49 : decode jdk_52_method_5_code 49 = .ok (.sipush 255, 3) := by decide +kernel
theorem d21_52 : decode jdk_52_method_5_code 52 = .ok (.iand, 1) := by decide +kernel
theorem d21_53 : decode jdk_52_method_5_code 53 = .ok (.getstatic 63, 3) := by decide +kernel
theorem d21_56 : decode jdk_52_method_5_code 56 = .ok (.ishl, 1) := by decide +kernel
theorem d21_57 : decode jdk_52_method_5_code 57 = .ok (.ior, 1) := by decide +kernel
theorem d21_58 : decode jdk_52_method_5_code 58 = .ok (.i2c, 1) := by decide +kernel
theorem d21_59 : decode jdk_52_method_5_code 59 = .ok (.ireturn, 1) := by decide +kernel
theorem ef_21c1n8i0 (m : MethodId) (x0 : Addr) : entryFrame m #[(.ref x0), (.int 0)] 2 = mkF m 0 #[.val (.ref x0), .val (.int 0)] [] := by first | (simp [entryFrame, mkF, argsToLocals, Value.category]; done) | rfl
def f_getCharc1n8i0 (b0 b1 b2 b3 b4 b5 b6 b7 : Int32) : Int32 := (((((b0 &&& (255 : Int32)) <<< ((0 : Int32) &&& 31)) ||| ((b1 &&& (255 : Int32)) <<< ((8 : Int32) &&& 31))).toUInt32.toUInt16.toUInt32.toInt32).toUInt32.toUInt16.toUInt32.toInt32)
def Q21c1n8i0 (Z : State) (o0 : Addr) (k : ClassId) (b0 b1 b2 b3 b4 b5 b6 b7 : Int32) (h0 : Heap) (n0 : Nat) (v : Option Value) (h : Heap) (L : List Loc) : Prop := v = some (.int (f_getCharc1n8i0 b0 b1 b2 b3 b4 b5 b6 b7)) ∧ Fr n0 L ∧ h = h0
set_option maxRecDepth 65536 in
set_option maxHeartbeats 40000000 in
theorem rm21c1n8i0 (l : Launch) (Z : State) (a0 : Array Value) (hw : ∀ d ∈ tables_1, d.before a0 Z = true) (ws : List Jvm.Cond) (o0 : Addr) (k : ClassId) (b0 b1 b2 b3 b4 b5 b6 b7 : Int32) (h0 : Heap) (n0 : Nat) (Z0 : n0 ≤ h0.size) (V : Arv Z h0 o0 k .byte (8 : Int32) [(.int b0), (.int b1), (.int b2), (.int b3), (.int b4), (.int b5), (.int b6), (.int b7)] (.int 0)) (S_ad : Sta Z h0 "java/lang/StringUTF16" "$assertionsDisabled" "Z" (.int 1)) (S_hi : Sta Z h0 "java/lang/StringUTF16" "HI_BYTE_SHIFT" "I" (.int 0)) (S_lo : Sta Z h0 "java/lang/StringUTF16" "LO_BYTE_SHIFT" "I" (.int 8)) :
    MetFree l (⟨"java/lang/StringUTF16", "getChar", "([BI)C"⟩ : MethodName) (head1 (Jvm.Cond.code (⟨"java/lang/StringUTF16", "getChar", "([BI)C"⟩ : MethodName) jdk_52_method_5_code 2 (some .char) :: ws) (⟨0, 0, 0, 0⟩ : Room)) (fun a U => a = #[(.ref o0), (.int 0)] ∧ Z.Warmed39 U.vm ∧ U.heap = h0) (fun _ _ _ _ _ => True) (fun _ U o U' => ∃ v L, o = .returned v ∧ Q21c1n8i0 Z o0 k b0 b1 b2 b3 b4 b5 b6 b7 h0 n0 v U'.heap L ∧ FrameEnd U o U' L (⟨0, 0, 0, 0⟩ : Room).cells (⟨0, 0, 0, 0⟩ : Room).slots) := by
  refine MetFree.of_bodySF (plainFor_of_name pn_5) hisR ?_
  intro p e s m args below meth c s₁ Bd hml0 hP hK
  obtain ⟨rfl, hZ, hh⟩ := hP
  have hx := Bd.exec
  have hby := Bd.bytes
  have hml : c.maxLocals = 2 := hml0
  have hown : s.vm.findClass "java/lang/StringUTF16" = some m.cls := findClass_of_methodNamed Bd.named
  have hnm := (name_of_methodNamed Bd.named Bd.method).1
  have X0 : Stand p l e (⟨0, 0, 0, 0⟩ : Room) s m #[(.ref o0), (.int 0)] below meth c s₁ [] 0 0 := Stand.of_body Bd
  have e0 : s₁.heap = h0 := by rw [← hh, Bd.state]; rfl
  have N0 := Fr.nil n0
  have hret := Bd.returns
  have hlk := BodyLoose.notSynchronized Bd
  show own_Out p e below (fun o U' => ∃ v L, o = .returned v ∧ Q21c1n8i0 Z o0 k b0 b1 b2 b3 b4 b5 b6 b7 h0 n0 v U'.heap L ∧ FrameEnd s o U' L (⟨0, 0, 0, 0⟩ : Room).cells (⟨0, 0, 0, 0⟩ : Room).slots) (s₁.setTop (entryFrame m #[(.ref o0), (.int 0)] 2))
  refine own_of (fun t k => castTop (ef_21c1n8i0 m o0) k) ?_
  show own_Out p e below _ (s₁.setTop (mkF m 0 #[rv o0, iv 0] []))
  obtain ⟨T1, X1, e1, st1⟩ := getS2 X0 hx hZ hown (host := "") (Or.inl (w_ hw 85 rfl)) Via.refl e0 S_ad (g := (mkF m 0 #[rv o0, iv 0] [])) rfl (hb hby d21_0)
  refine own_of st1 ?_
  show own_Out p e below _ (T1.setTop (mkF m 3 #[rv o0, iv 0] [.int 1]))
  refine o_ifY X1 hx hby d21_3 ((if0 _ _).trans (feq (by decide : ¬ ((1 : Int32) = (0 : Int32)))).2) (by decide) (q := 28) (by decide) ?_
  refine o_iloadN X1 hx hby d21_28 rfl (q := 29) rfl ?_
  refine o_iconst X1 hx hby d21_29 (z := 1) rfl (q := 30) rfl ?_
  refine o_ishl X1 hx hby d21_30 (z := 0) rfl (q := 31) rfl ?_
  refine o_istoreN X1 hx hby d21_31 (l' := #[rv o0, iv 0]) rfl (q := 32) rfl ?_
  refine o_aloadN X1 hx hby d21_32 rfl rfl (q := 33) rfl ?_
  refine o_iloadN X1 hx hby d21_33 rfl (q := 34) rfl ?_
  refine o_iinc X1 hx hby d21_34 rfl (l' := #[rv o0, iv 1]) rfl (q := 37) rfl ?_
  refine o_baV X1 hx hby hZ e1 V ⟨by decide, by decide⟩ (v := .int b0) rfl d21_37 (q := 38) rfl ?_
  refine o_sipush X1 hx hby d21_38 (z := 255) rfl (q := 41) rfl ?_
  refine o_iand X1 hx hby d21_41 rfl (q := 42) rfl ?_
  obtain ⟨T2, X2, e2, st2⟩ := getS2 X1 hx hZ hown (host := "") (Or.inl (w_ hw 86 rfl)) Via.refl e1 S_hi (g := (mkF m 42 #[rv o0, iv 1] [.int (b0 &&& (255 : Int32))])) rfl (hb hby d21_42)
  refine own_of st2 ?_
  show own_Out p e below _ (T2.setTop (mkF m 45 #[rv o0, iv 1] [.int 0, .int (b0 &&& (255 : Int32))]))
  refine o_ishl X2 hx hby d21_45 rfl (q := 46) rfl ?_
  refine o_aloadN X2 hx hby d21_46 rfl rfl (q := 47) rfl ?_
  refine o_iloadN X2 hx hby d21_47 rfl (q := 48) rfl ?_
  refine o_baV X2 hx hby hZ e2 V ⟨by decide, by decide⟩ (v := .int b1) rfl d21_48 (q := 49) rfl ?_
  refine o_sipush X2 hx hby d21_49 (z := 255) rfl (q := 52) rfl ?_
  refine o_iand X2 hx hby d21_52 rfl (q := 53) rfl ?_
  obtain ⟨T3, X3, e3, st3⟩ := getS2 X2 hx hZ hown (host := "") (Or.inl (w_ hw 87 rfl)) Via.refl e2 S_lo (g := (mkF m 53 #[rv o0, iv 1] [.int (b1 &&& (255 : Int32)), .int ((b0 &&& (255 : Int32)) <<< ((0 : Int32) &&& 31))])) rfl (hb hby d21_53)
  refine own_of st3 ?_
  show own_Out p e below _ (T3.setTop (mkF m 56 #[rv o0, iv 1] [.int 8, .int (b1 &&& (255 : Int32)), .int ((b0 &&& (255 : Int32)) <<< ((0 : Int32) &&& 31))]))
  refine o_ishl X3 hx hby d21_56 rfl (q := 57) rfl ?_
  refine o_ior X3 hx hby d21_57 rfl (q := 58) rfl ?_
  refine o_i2c X3 hx hby d21_58 rfl (q := 59) rfl ?_
  exact own_outN X3 hx hlk (t := .char) hret (by simp) (hb hby d21_59) (z' := (((((b0 &&& (255 : Int32)) <<< ((0 : Int32) &&& 31)) ||| ((b1 &&& (255 : Int32)) <<< ((8 : Int32) &&& 31))).toUInt32.toUInt16.toUInt32.toInt32).toUInt32.toUInt16.toUInt32.toInt32)) rfl (Q := Q21c1n8i0 Z o0 k b0 b1 b2 b3 b4 b5 b6 b7 h0 n0) ⟨by simp only [f_getCharc1n8i0], N0, e3⟩ (by decide) (by decide)
theorem pd_6 : parseMethodDescriptor "(I[B)V" = some ⟨[.int, (.array .byte)], none⟩ := by decide +kernel
theorem d22_0 : decode jdk_52_method_83_code 0 = .ok (.iload_n 1, 1) := by decide +kernel
theorem d22_1 : decode jdk_52_method_83_code 1 = .ok (.aload_n 0, 1) := by decide +kernel
theorem d22_2 : decode jdk_52_method_83_code 2 = .ok (.invokestatic 67, 3) := by decide +kernel
theorem d22_5 : decode jdk_52_method_83_code 5 = .ok (.aload_n 0, 1) := by decide +kernel
theorem d22_6 : decode jdk_52_method_83_code 6 = .ok (.iload_n 1, 1) := by decide +kernel
theorem d22_7 : decode jdk_52_method_83_code 7 = .ok (.invokestatic 71, 3) := by decide +kernel
theorem d22_10 : decode jdk_52_method_83_code 10 = .ok (.ireturn, 1) := by decide +kernel
theorem ef_22c1n8i0 (m : MethodId) (x0 : Addr) : entryFrame m #[(.ref x0), (.int 0)] 2 = mkF m 0 #[.val (.ref x0), .val (.int 0)] [] := by first | (simp [entryFrame, mkF, argsToLocals, Value.category]; done) | rfl
def f_u16charAtc1n8i0 (b0 b1 b2 b3 b4 b5 b6 b7 : Int32) : Int32 := ((f_getCharc1n8i0 b0 b1 b2 b3 b4 b5 b6 b7).toUInt32.toUInt16.toUInt32.toInt32)
def Q22c1n8i0 (Z : State) (o0 : Addr) (k : ClassId) (b0 b1 b2 b3 b4 b5 b6 b7 : Int32) (vf : Value) (h0 : Heap) (n0 : Nat) (v : Option Value) (h : Heap) (L : List Loc) : Prop := v = some (.int (f_u16charAtc1n8i0 b0 b1 b2 b3 b4 b5 b6 b7)) ∧ Fr n0 L ∧ h = h0
set_option maxRecDepth 65536 in
set_option maxHeartbeats 40000000 in
theorem rm22c1n8i0 (l : Launch) (Z : State) (a0 : Array Value) (hw : ∀ d ∈ tables_1, d.before a0 Z = true) (ws : List Jvm.Cond) (o0 : Addr) (k : ClassId) (b0 b1 b2 b3 b4 b5 b6 b7 : Int32) (vf : Value) (h0 : Heap) (n0 : Nat) (Z0 : n0 ≤ h0.size) (V : Arv Z h0 o0 k .byte (8 : Int32) [(.int b0), (.int b1), (.int b2), (.int b3), (.int b4), (.int b5), (.int b6), (.int b7)] (.int 0)) (S_f : Sta Z h0 "jdk/internal/util/Preconditions" "SIOOBE_FORMATTER" "Ljava/util/function/BiFunction;" vf) (hvf : vf.isRef = true) (S_ad : Sta Z h0 "java/lang/StringUTF16" "$assertionsDisabled" "Z" (.int 1)) (S_hi : Sta Z h0 "java/lang/StringUTF16" "HI_BYTE_SHIFT" "I" (.int 0)) (S_lo : Sta Z h0 "java/lang/StringUTF16" "LO_BYTE_SHIFT" "I" (.int 8)) :
    MetFree l (⟨"java/lang/StringUTF16", "charAt", "([BI)C"⟩ : MethodName) (head1 (Jvm.Cond.code (⟨"java/lang/StringUTF16", "charAt", "([BI)C"⟩ : MethodName) jdk_52_method_83_code 2 (some .char) :: ws) (⟨3, 0, 0, 40⟩ : Room)) (fun a U => a = #[(.ref o0), (.int 0)] ∧ Z.Warmed39 U.vm ∧ U.heap = h0) (fun _ _ _ _ _ => True) (fun _ U o U' => ∃ v L, o = .returned v ∧ Q22c1n8i0 Z o0 k b0 b1 b2 b3 b4 b5 b6 b7 vf h0 n0 v U'.heap L ∧ FrameEnd U o U' L (⟨3, 0, 0, 40⟩ : Room).cells (⟨3, 0, 0, 40⟩ : Room).slots) := by
  refine MetFree.of_bodySF (plainFor_of_name pn_5) hisR ?_
  intro p e s m args below meth c s₁ Bd hml0 hP hK
  obtain ⟨rfl, hZ, hh⟩ := hP
  have hx := Bd.exec
  have hby := Bd.bytes
  have hml : c.maxLocals = 2 := hml0
  have hown : s.vm.findClass "java/lang/StringUTF16" = some m.cls := findClass_of_methodNamed Bd.named
  have hnm := (name_of_methodNamed Bd.named Bd.method).1
  have X0 : Stand p l e (⟨3, 0, 0, 40⟩ : Room) s m #[(.ref o0), (.int 0)] below meth c s₁ [] 0 0 := Stand.of_body Bd
  have e0 : s₁.heap = h0 := by rw [← hh, Bd.state]; rfl
  have N0 := Fr.nil n0
  have hret := Bd.returns
  have hlk := BodyLoose.notSynchronized Bd
  show own_Out p e below (fun o U' => ∃ v L, o = .returned v ∧ Q22c1n8i0 Z o0 k b0 b1 b2 b3 b4 b5 b6 b7 vf h0 n0 v U'.heap L ∧ FrameEnd s o U' L (⟨3, 0, 0, 40⟩ : Room).cells (⟨3, 0, 0, 40⟩ : Room).slots) (s₁.setTop (entryFrame m #[(.ref o0), (.int 0)] 2))
  refine own_of (fun t k => castTop (ef_22c1n8i0 m o0) k) ?_
  show own_Out p e below _ (s₁.setTop (mkF m 0 #[rv o0, iv 0] []))
  refine o_iloadN X0 hx hby d22_0 rfl (q := 1) rfl ?_
  refine o_aloadN X0 hx hby d22_1 rfl rfl (q := 2) rfl ?_
  obtain ⟨_, _, ⟨T1, L1, k1, n1⟩, -, X1, ⟨Lc1, hQ1, l1, y1, z1⟩, st1⟩ := Jvm.LawKit.callS X0 hx (y := (⟨"java/lang/StringUTF16", "checkIndex", "(I[B)V"⟩ : MethodName)) hown (mvT hZ (w_ hw 94 rfl)) (mvT hZ (w_ hw 95 rfl)) (mvT hZ (w_ hw 22 rfl)) (mvT hZ (w_ hw 96 rfl)) (by decide) (backOf (W := 0) (rm23c1n8i0 l Z a0 hw [] o0 k b0 b1 b2 b3 b4 b5 b6 b7 vf h0 n0 Z0 V S_f hvf) hZ (w_ hw 96 rfl) (w_ hw 22 rfl) (by decide) (by decide)) (g := (mkF m 2 #[rv o0, iv 0] [.ref o0, .int 0])) rfl (by rw [hml]; rfl) (argsL := [(.int 0), (.ref o0)]) (rest := []) (lenOf pd_6 rfl) rfl (by show 2 * 0 + _ ≤ _; exact Nat.le_of_eq rfl) (hb hby d22_2) (fun _ _ => ⟨rfl, e0, (by decide : 0 + 0 ≤ _), (by decide : 0 + 0 ≤ _)⟩)
  dsimp only [Pt.U, Pt.locs, Pt.cells, Pt.slots] at X1 l1 y1 z1 st1 hQ1
  subst l1 y1 z1
  obtain ⟨rfl, N1q, hh1⟩ := hQ1
  have N1 := Fr.app N0 N1q
  refine own_of st1 ?_
  show own_Out p e below _ (T1.setTop (mkF m 5 #[rv o0, iv 0] []))
  refine o_aloadN X1 hx hby d22_5 rfl rfl (q := 6) rfl ?_
  refine o_iloadN X1 hx hby d22_6 rfl (q := 7) rfl ?_
  obtain ⟨_, _, ⟨T2, L2, k2, n2⟩, -, X2, ⟨Lc2, hQ2, l2, y2, z2⟩, st2⟩ := Jvm.LawKit.callS X1 hx (y := (⟨"java/lang/StringUTF16", "getChar", "([BI)C"⟩ : MethodName)) hown (mvT hZ (w_ hw 88 rfl)) (mvT hZ (w_ hw 89 rfl)) (mvT hZ (w_ hw 22 rfl)) (mvT hZ (w_ hw 90 rfl)) (by decide) (backOf (W := 0) (rm21c1n8i0 l Z a0 hw [] o0 k b0 b1 b2 b3 b4 b5 b6 b7 h0 n0 Z0 V S_ad S_hi S_lo) hZ (w_ hw 90 rfl) (w_ hw 22 rfl) (by decide) (by decide)) (g := (mkF m 7 #[rv o0, iv 0] [.int 0, .ref o0])) rfl (by rw [hml]; rfl) (argsL := [(.ref o0), (.int 0)]) (rest := []) (lenOf pd_3 rfl) rfl (by show 2 * 0 + _ ≤ _; exact Nat.le_of_eq rfl) (hb hby d22_7) (fun _ _ => ⟨rfl, hh1, (by decide : 0 + 0 ≤ _), (by decide : 0 + 0 ≤ _)⟩)
  dsimp only [Pt.U, Pt.locs, Pt.cells, Pt.slots] at X2 l2 y2 z2 st2 hQ2
  subst l2 y2 z2
  obtain ⟨rfl, N2q, hh2⟩ := hQ2
  have N2 := Fr.app N1 N2q
  refine own_of st2 ?_
  show own_Out p e below _ (T2.setTop (mkF m 10 #[rv o0, iv 0] [.int (f_getCharc1n8i0 b0 b1 b2 b3 b4 b5 b6 b7)]))
  exact own_outN X2 hx hlk (t := .char) hret (by simp) (hb hby d22_10) (z' := ((f_getCharc1n8i0 b0 b1 b2 b3 b4 b5 b6 b7).toUInt32.toUInt16.toUInt32.toInt32)) rfl (Q := Q22c1n8i0 Z o0 k b0 b1 b2 b3 b4 b5 b6 b7 vf h0 n0) ⟨by simp only [f_u16charAtc1n8i0], N2, hh2⟩ (by decide) (by decide)
theorem d12_16 : decode jdk_42_method_56_code 16 = .ok (.aload_n 0, 1) := by decide +kernel
theorem d12_17 : decode jdk_42_method_56_code 17 = .ok (.getfield 9, 3) := by decide +kernel
theorem d12_20 : decode jdk_42_method_56_code 20 = .ok (.iload_n 1, 1) := by decide +kernel
theorem d12_21 : decode jdk_42_method_56_code 21 = .ok (.invokestatic 498, 3) := by decide +kernel
theorem d12_24 : decode jdk_42_method_56_code 24 = .ok (.ireturn, 1) := by decide +kernel
theorem ef_12c1n8i0 (m : MethodId) (x0 : Addr) : entryFrame m #[(.ref x0), (.int 0)] 2 = mkF m 0 #[.val (.ref x0), .val (.int 0)] [] := by first | (simp [entryFrame, mkF, argsToLocals, Value.category]; done) | rfl
def f_charAtc1n8i0 (b0 b1 b2 b3 b4 b5 b6 b7 cs : Int32) : Int32 := ((f_u16charAtc1n8i0 b0 b1 b2 b3 b4 b5 b6 b7).toUInt32.toUInt16.toUInt32.toInt32)
def Q12c1n8i0 (Z : State) (o0 ob : Addr) (k : ClassId) (b0 b1 b2 b3 b4 b5 b6 b7 cs : Int32) (vf : Value) (h0 : Heap) (n0 : Nat) (v : Option Value) (h : Heap) (L : List Loc) : Prop := v = some (.int (f_charAtc1n8i0 b0 b1 b2 b3 b4 b5 b6 b7 cs)) ∧ Fr n0 L ∧ h = h0
set_option maxRecDepth 65536 in
set_option maxHeartbeats 40000000 in
theorem rm12c1n8i0 (l : Launch) (Z : State) (a0 : Array Value) (hw : ∀ d ∈ tables_1, d.before a0 Z = true) (ws : List Jvm.Cond) (o0 ob : Addr) (k : ClassId) (b0 b1 b2 b3 b4 b5 b6 b7 cs : Int32) (vf : Value) (h0 : Heap) (n0 : Nat) (Z0 : n0 ≤ h0.size) (E : Exa Z h0 o0 "java/lang/String") (Fv : Fld Z h0 o0 "java/lang/String" "value" "[B" (.ref ob)) (Fc : Fld Z h0 o0 "java/lang/String" "coder" "B" (.int 1)) (V : Arv Z h0 ob k .byte (8 : Int32) [(.int b0), (.int b1), (.int b2), (.int b3), (.int b4), (.int b5), (.int b6), (.int b7)] (.int 0)) (S_cs : Sta Z h0 "java/lang/String" "COMPACT_STRINGS" "Z" (.int cs)) (hcs : ¬ (cs = (0 : Int32))) (S_f : Sta Z h0 "jdk/internal/util/Preconditions" "SIOOBE_FORMATTER" "Ljava/util/function/BiFunction;" vf) (hvf : vf.isRef = true) (S_ad : Sta Z h0 "java/lang/StringUTF16" "$assertionsDisabled" "Z" (.int 1)) (S_hi : Sta Z h0 "java/lang/StringUTF16" "HI_BYTE_SHIFT" "I" (.int 0)) (S_lo : Sta Z h0 "java/lang/StringUTF16" "LO_BYTE_SHIFT" "I" (.int 8)) :
    MetFree l (⟨"java/lang/String", "charAt", "(I)C"⟩ : MethodName) (head1 (Jvm.Cond.code (⟨"java/lang/String", "charAt", "(I)C"⟩ : MethodName) jdk_42_method_56_code 2 (some .char) :: ws) (⟨4, 0, 0, 53⟩ : Room)) (fun a U => a = #[(.ref o0), (.int 0)] ∧ Z.Warmed39 U.vm ∧ U.heap = h0) (fun _ _ _ _ _ => True) (fun _ U o U' => ∃ v L, o = .returned v ∧ Q12c1n8i0 Z o0 ob k b0 b1 b2 b3 b4 b5 b6 b7 cs vf h0 n0 v U'.heap L ∧ FrameEnd U o U' L (⟨4, 0, 0, 53⟩ : Room).cells (⟨4, 0, 0, 53⟩ : Room).slots) := by
  refine MetFree.of_bodySF (plainFor_of_name pn_1) hisR ?_
  intro p e s m args below meth c s₁ Bd hml0 hP hK
  obtain ⟨rfl, hZ, hh⟩ := hP
  have hx := Bd.exec
  have hby := Bd.bytes
  have hml : c.maxLocals = 2 := hml0
  have hown : s.vm.findClass "java/lang/String" = some m.cls := findClass_of_methodNamed Bd.named
  have hnm := (name_of_methodNamed Bd.named Bd.method).1
  have X0 : Stand p l e (⟨4, 0, 0, 53⟩ : Room) s m #[(.ref o0), (.int 0)] below meth c s₁ [] 0 0 := Stand.of_body Bd
  have e0 : s₁.heap = h0 := by rw [← hh, Bd.state]; rfl
  have N0 := Fr.nil n0
  have hret := Bd.returns
  have hlk := BodyLoose.notSynchronized Bd
  show own_Out p e below (fun o U' => ∃ v L, o = .returned v ∧ Q12c1n8i0 Z o0 ob k b0 b1 b2 b3 b4 b5 b6 b7 cs vf h0 n0 v U'.heap L ∧ FrameEnd s o U' L (⟨4, 0, 0, 53⟩ : Room).cells (⟨4, 0, 0, 53⟩ : Room).slots) (s₁.setTop (entryFrame m #[(.ref o0), (.int 0)] 2))
  refine own_of (fun t k => castTop (ef_12c1n8i0 m o0) k) ?_
  show own_Out p e below _ (s₁.setTop (mkF m 0 #[rv o0, iv 0] []))
  refine o_aloadN X0 hx hby d12_0 rfl rfl (q := 1) rfl ?_
  obtain ⟨cq1, kq1, q1a, q1b, q1c⟩ := isOf hZ e0 E
  obtain ⟨_, _, ⟨T1, L1, k1, n1⟩, -, X1, ⟨Lc1, hQ1, l1, y1, z1⟩, st1⟩ := X0.virtualBack hx (y := (⟨"java/lang/String", "isLatin1", "()Z"⟩ : MethodName)) (z := (⟨"java/lang/String", "isLatin1", "()Z"⟩ : MethodName)) hown (mvT hZ (w_ hw 55 rfl)) (mvT hZ (w_ hw 56 rfl)) (notFace_of_selects (args := #[]) (mvT hZ (w_ hw 58 rfl))) (mvT hZ (w_ hw 58 rfl)) (mvT hZ (w_ hw 57 rfl)) (by decide) (backOf (W := 0) (rm13c1n8 l Z a0 hw [] o0 ob k b0 b1 b2 b3 b4 b5 b6 b7 cs h0 n0 Z0 E Fv Fc V S_cs hcs) hZ (w_ hw 59 rfl) (w_ hw 8 rfl) (by decide) (by decide)) q1a q1c (g := (mkF m 1 #[rv o0, iv 0] [.ref o0])) rfl (by rw [hml]; rfl) (Steps.refl _) (argsL := []) (rest := []) (lenOf pd_2 rfl) rfl (by show 2 * 0 + _ ≤ _; exact Nat.le_of_eq rfl) (hb hby d12_1) (fun _ _ => ⟨rfl, e0, (by decide : 0 + 0 ≤ _), (by decide : 0 + 0 ≤ _)⟩)
  dsimp only [Pt.U, Pt.locs, Pt.cells, Pt.slots] at X1 l1 y1 z1 st1 hQ1
  subst l1 y1 z1
  obtain ⟨rfl, N1q, hh1⟩ := hQ1
  have N1 := Fr.app N0 N1q
  refine own_of (fun _ k => st1.trans k) ?_
  show own_Out p e below _ (T1.setTop (mkF m 4 #[rv o0, iv 0] [.int 0]))
  refine o_ifY X1 hx hby d12_4 ((if0 _ _).trans (teq (by decide : (0 : Int32) = (0 : Int32))).1) (by decide) (q := 16) (by decide) ?_
  refine o_aloadN X1 hx hby d12_16 rfl rfl (q := 17) rfl ?_
  refine o_getF X1 hx hZ hown hby (w_ hw 33 rfl) Via.refl hh1 Fv d12_17 (q := 20) rfl fun T2 X2 e2 => ?_
  refine o_iloadN X2 hx hby d12_20 rfl (q := 21) rfl ?_
  obtain ⟨_, _, ⟨T3, L3, k3, n3⟩, -, X3, ⟨Lc3, hQ3, l3, y3, z3⟩, st3⟩ := Jvm.LawKit.callS X2 hx (y := (⟨"java/lang/StringUTF16", "charAt", "([BI)C"⟩ : MethodName)) hown (mvT hZ (w_ hw 91 rfl)) (mvT hZ (w_ hw 92 rfl)) (mvT hZ (w_ hw 22 rfl)) (mvT hZ (w_ hw 93 rfl)) (by decide) (backOf (W := 0) (rm22c1n8i0 l Z a0 hw [] ob k b0 b1 b2 b3 b4 b5 b6 b7 vf h0 n0 Z0 V S_f hvf S_ad S_hi S_lo) hZ (w_ hw 93 rfl) (w_ hw 22 rfl) (by decide) (by decide)) (g := (mkF m 21 #[rv o0, iv 0] [.int 0, .ref ob])) rfl (by rw [hml]; rfl) (argsL := [(.ref ob), (.int 0)]) (rest := []) (lenOf pd_3 rfl) rfl (by show 2 * 0 + _ ≤ _; exact Nat.le_of_eq rfl) (hb hby d12_21) (fun _ _ => ⟨rfl, e2, (by decide : 0 + 0 ≤ _), (by decide : 0 + 0 ≤ _)⟩)
  dsimp only [Pt.U, Pt.locs, Pt.cells, Pt.slots] at X3 l3 y3 z3 st3 hQ3
  subst l3 y3 z3
  obtain ⟨rfl, N3q, hh3⟩ := hQ3
  have N3 := Fr.app N1 N3q
  refine own_of st3 ?_
  show own_Out p e below _ (T3.setTop (mkF m 24 #[rv o0, iv 0] [.int (f_u16charAtc1n8i0 b0 b1 b2 b3 b4 b5 b6 b7)]))
  exact own_outN X3 hx hlk (t := .char) hret (by simp) (hb hby d12_24) (z' := ((f_u16charAtc1n8i0 b0 b1 b2 b3 b4 b5 b6 b7).toUInt32.toUInt16.toUInt32.toInt32)) rfl (Q := Q12c1n8i0 Z o0 ob k b0 b1 b2 b3 b4 b5 b6 b7 cs vf h0 n0) ⟨by simp only [f_charAtc1n8i0, if_neg hcs], N3, hh3⟩ (by decide) (by decide)
theorem ef_23c1n8i1 (m : MethodId) (x1 : Addr) : entryFrame m #[(.int 1), (.ref x1)] 2 = mkF m 0 #[.val (.int 1), .val (.ref x1)] [] := by first | (simp [entryFrame, mkF, argsToLocals, Value.category]; done) | rfl
def Q23c1n8i1 (Z : State) (o1 : Addr) (k : ClassId) (b0 b1 b2 b3 b4 b5 b6 b7 : Int32) (vf : Value) (h0 : Heap) (n0 : Nat) (v : Option Value) (h : Heap) (L : List Loc) : Prop := v = none ∧ Fr n0 L ∧ h = h0
set_option maxRecDepth 65536 in
set_option maxHeartbeats 40000000 in
theorem rm23c1n8i1 (l : Launch) (Z : State) (a0 : Array Value) (hw : ∀ d ∈ tables_1, d.before a0 Z = true) (ws : List Jvm.Cond) (o1 : Addr) (k : ClassId) (b0 b1 b2 b3 b4 b5 b6 b7 : Int32) (vf : Value) (h0 : Heap) (n0 : Nat) (Z0 : n0 ≤ h0.size) (V : Arv Z h0 o1 k .byte (8 : Int32) [(.int b0), (.int b1), (.int b2), (.int b3), (.int b4), (.int b5), (.int b6), (.int b7)] (.int 0)) (S_f : Sta Z h0 "jdk/internal/util/Preconditions" "SIOOBE_FORMATTER" "Ljava/util/function/BiFunction;" vf) (hvf : vf.isRef = true) :
    MetFree l (⟨"java/lang/StringUTF16", "checkIndex", "(I[B)V"⟩ : MethodName) (head1 (Jvm.Cond.code (⟨"java/lang/StringUTF16", "checkIndex", "(I[B)V"⟩ : MethodName) jdk_52_method_91_code 2 none :: ws) (⟨2, 0, 0, 27⟩ : Room)) (fun a U => a = #[(.int 1), (.ref o1)] ∧ Z.Warmed39 U.vm ∧ U.heap = h0) (fun _ _ _ _ _ => True) (fun _ U o U' => ∃ v L, o = .returned v ∧ Q23c1n8i1 Z o1 k b0 b1 b2 b3 b4 b5 b6 b7 vf h0 n0 v U'.heap L ∧ FrameEnd U o U' L (⟨2, 0, 0, 27⟩ : Room).cells (⟨2, 0, 0, 27⟩ : Room).slots) := by
  refine MetFree.of_bodySF (plainFor_of_name pn_5) hisR ?_
  intro p e s m args below meth c s₁ Bd hml0 hP hK
  obtain ⟨rfl, hZ, hh⟩ := hP
  have hx := Bd.exec
  have hby := Bd.bytes
  have hml : c.maxLocals = 2 := hml0
  have hown : s.vm.findClass "java/lang/StringUTF16" = some m.cls := findClass_of_methodNamed Bd.named
  have hnm := (name_of_methodNamed Bd.named Bd.method).1
  have X0 : Stand p l e (⟨2, 0, 0, 27⟩ : Room) s m #[(.int 1), (.ref o1)] below meth c s₁ [] 0 0 := Stand.of_body Bd
  have e0 : s₁.heap = h0 := by rw [← hh, Bd.state]; rfl
  have N0 := Fr.nil n0
  have hret := Bd.returns
  have hlk := BodyLoose.notSynchronized Bd
  show own_Out p e below (fun o U' => ∃ v L, o = .returned v ∧ Q23c1n8i1 Z o1 k b0 b1 b2 b3 b4 b5 b6 b7 vf h0 n0 v U'.heap L ∧ FrameEnd s o U' L (⟨2, 0, 0, 27⟩ : Room).cells (⟨2, 0, 0, 27⟩ : Room).slots) (s₁.setTop (entryFrame m #[(.int 1), (.ref o1)] 2))
  refine own_of (fun t k => castTop (ef_23c1n8i1 m o1) k) ?_
  show own_Out p e below _ (s₁.setTop (mkF m 0 #[iv 1, rv o1] []))
  refine o_iloadN X0 hx hby d23_0 rfl (q := 1) rfl ?_
  refine o_aloadN X0 hx hby d23_1 rfl rfl (q := 2) rfl ?_
  obtain ⟨_, _, ⟨T1, L1, k1, n1⟩, -, X1, ⟨Lc1, hQ1, l1, y1, z1⟩, st1⟩ := Jvm.LawKit.callS X0 hx (y := (⟨"java/lang/StringUTF16", "length", "([B)I"⟩ : MethodName)) hown (mvT hZ (w_ hw 97 rfl)) (mvT hZ (w_ hw 98 rfl)) (mvT hZ (w_ hw 22 rfl)) (mvT hZ (w_ hw 99 rfl)) (by decide) (backOf (W := 1) (rm24c1n8 l Z a0 hw [] o1 k b0 b1 b2 b3 b4 b5 b6 b7 h0 n0 Z0 V) hZ (w_ hw 99 rfl) (w_ hw 22 rfl) (by decide) (by decide)) (g := (mkF m 2 #[iv 1, rv o1] [.ref o1, .int 1])) rfl (by rw [hml]; rfl) (argsL := [(.ref o1)]) (rest := [(.int 1)]) (lenOf pd_5 rfl) rfl (by show 2 * 0 + _ ≤ _; exact Nat.le_of_eq rfl) (hb hby d23_2) (fun _ _ => ⟨rfl, e0, (by decide : 0 + 0 ≤ _), (by decide : 0 + 0 ≤ _)⟩)
  dsimp only [Pt.U, Pt.locs, Pt.cells, Pt.slots] at X1 l1 y1 z1 st1 hQ1
  subst l1 y1 z1
  obtain ⟨rfl, N1q, hh1⟩ := hQ1
  have N1 := Fr.app N0 N1q
  refine own_of st1 ?_
  show own_Out p e below _ (T1.setTop (mkF m 5 #[iv 1, rv o1] [.int 4, .int 1]))
  obtain ⟨_, _, ⟨T2, L2, k2, n2⟩, -, X2, ⟨Lc2, hQ2, l2, y2, z2⟩, st2⟩ := Jvm.LawKit.callS X1 hx (y := (⟨"java/lang/String", "checkIndex", "(II)V"⟩ : MethodName)) hown (mvT hZ (w_ hw 100 rfl)) (mvT hZ (w_ hw 65 rfl)) (mvT hZ (w_ hw 8 rfl)) (mvT hZ (w_ hw 66 rfl)) (by decide) (backOf (W := 0) (rm15i1n4 l Z a0 hw [] vf h0 n0 Z0 S_f hvf) hZ (w_ hw 66 rfl) (w_ hw 8 rfl) (by decide) (by decide)) (g := (mkF m 5 #[iv 1, rv o1] [.int 4, .int 1])) rfl (by rw [hml]; rfl) (argsL := [(.int 1), (.int 4)]) (rest := []) (lenOf pd_1 rfl) rfl (by show 2 * 0 + _ ≤ _; exact Nat.le_of_eq rfl) (hb hby d23_5) (fun _ _ => ⟨rfl, hh1, (by decide : 0 + 0 ≤ _), (by decide : 0 + 0 ≤ _)⟩)
  dsimp only [Pt.U, Pt.locs, Pt.cells, Pt.slots] at X2 l2 y2 z2 st2 hQ2
  subst l2 y2 z2
  obtain ⟨rfl, N2q, hh2⟩ := hQ2
  have N2 := Fr.app N1 N2q
  refine own_of st2 ?_
  show own_Out p e below _ (T2.setTop (mkF m 8 #[iv 1, rv o1] []))
  exact own_outV X2 hx hlk hret (hb hby d23_8) (Q := Q23c1n8i1 Z o1 k b0 b1 b2 b3 b4 b5 b6 b7 vf h0 n0) ⟨rfl, N2, hh2⟩ (by decide) (by decide)
theorem ef_21c1n8i1 (m : MethodId) (x0 : Addr) : entryFrame m #[(.ref x0), (.int 1)] 2 = mkF m 0 #[.val (.ref x0), .val (.int 1)] [] := by first | (simp [entryFrame, mkF, argsToLocals, Value.category]; done) | rfl
def f_getCharc1n8i1 (b0 b1 b2 b3 b4 b5 b6 b7 : Int32) : Int32 := (((((b2 &&& (255 : Int32)) <<< ((0 : Int32) &&& 31)) ||| ((b3 &&& (255 : Int32)) <<< ((8 : Int32) &&& 31))).toUInt32.toUInt16.toUInt32.toInt32).toUInt32.toUInt16.toUInt32.toInt32)
def Q21c1n8i1 (Z : State) (o0 : Addr) (k : ClassId) (b0 b1 b2 b3 b4 b5 b6 b7 : Int32) (h0 : Heap) (n0 : Nat) (v : Option Value) (h : Heap) (L : List Loc) : Prop := v = some (.int (f_getCharc1n8i1 b0 b1 b2 b3 b4 b5 b6 b7)) ∧ Fr n0 L ∧ h = h0
set_option maxRecDepth 65536 in
set_option maxHeartbeats 40000000 in
theorem rm21c1n8i1 (l : Launch) (Z : State) (a0 : Array Value) (hw : ∀ d ∈ tables_1, d.before a0 Z = true) (ws : List Jvm.Cond) (o0 : Addr) (k : ClassId) (b0 b1 b2 b3 b4 b5 b6 b7 : Int32) (h0 : Heap) (n0 : Nat) (Z0 : n0 ≤ h0.size) (V : Arv Z h0 o0 k .byte (8 : Int32) [(.int b0), (.int b1), (.int b2), (.int b3), (.int b4), (.int b5), (.int b6), (.int b7)] (.int 0)) (S_ad : Sta Z h0 "java/lang/StringUTF16" "$assertionsDisabled" "Z" (.int 1)) (S_hi : Sta Z h0 "java/lang/StringUTF16" "HI_BYTE_SHIFT" "I" (.int 0)) (S_lo : Sta Z h0 "java/lang/StringUTF16" "LO_BYTE_SHIFT" "I" (.int 8)) :
    MetFree l (⟨"java/lang/StringUTF16", "getChar", "([BI)C"⟩ : MethodName) (head1 (Jvm.Cond.code (⟨"java/lang/StringUTF16", "getChar", "([BI)C"⟩ : MethodName) jdk_52_method_5_code 2 (some .char) :: ws) (⟨0, 0, 0, 0⟩ : Room)) (fun a U => a = #[(.ref o0), (.int 1)] ∧ Z.Warmed39 U.vm ∧ U.heap = h0) (fun _ _ _ _ _ => True) (fun _ U o U' => ∃ v L, o = .returned v ∧ Q21c1n8i1 Z o0 k b0 b1 b2 b3 b4 b5 b6 b7 h0 n0 v U'.heap L ∧ FrameEnd U o U' L (⟨0, 0, 0, 0⟩ : Room).cells (⟨0, 0, 0, 0⟩ : Room).slots) := by
  refine MetFree.of_bodySF (plainFor_of_name pn_5) hisR ?_
  intro p e s m args below meth c s₁ Bd hml0 hP hK
  obtain ⟨rfl, hZ, hh⟩ := hP
  have hx := Bd.exec
  have hby := Bd.bytes
  have hml : c.maxLocals = 2 := hml0
  have hown : s.vm.findClass "java/lang/StringUTF16" = some m.cls := findClass_of_methodNamed Bd.named
  have hnm := (name_of_methodNamed Bd.named Bd.method).1
  have X0 : Stand p l e (⟨0, 0, 0, 0⟩ : Room) s m #[(.ref o0), (.int 1)] below meth c s₁ [] 0 0 := Stand.of_body Bd
  have e0 : s₁.heap = h0 := by rw [← hh, Bd.state]; rfl
  have N0 := Fr.nil n0
  have hret := Bd.returns
  have hlk := BodyLoose.notSynchronized Bd
  show own_Out p e below (fun o U' => ∃ v L, o = .returned v ∧ Q21c1n8i1 Z o0 k b0 b1 b2 b3 b4 b5 b6 b7 h0 n0 v U'.heap L ∧ FrameEnd s o U' L (⟨0, 0, 0, 0⟩ : Room).cells (⟨0, 0, 0, 0⟩ : Room).slots) (s₁.setTop (entryFrame m #[(.ref o0), (.int 1)] 2))
  refine own_of (fun t k => castTop (ef_21c1n8i1 m o0) k) ?_
  show own_Out p e below _ (s₁.setTop (mkF m 0 #[rv o0, iv 1] []))
  obtain ⟨T1, X1, e1, st1⟩ := getS2 X0 hx hZ hown (host := "") (Or.inl (w_ hw 85 rfl)) Via.refl e0 S_ad (g := (mkF m 0 #[rv o0, iv 1] [])) rfl (hb hby d21_0)
  refine own_of st1 ?_
  show own_Out p e below _ (T1.setTop (mkF m 3 #[rv o0, iv 1] [.int 1]))
  refine o_ifY X1 hx hby d21_3 ((if0 _ _).trans (feq (by decide : ¬ ((1 : Int32) = (0 : Int32)))).2) (by decide) (q := 28) (by decide) ?_
  refine o_iloadN X1 hx hby d21_28 rfl (q := 29) rfl ?_
  refine o_iconst X1 hx hby d21_29 (z := 1) rfl (q := 30) rfl ?_
  refine o_ishl X1 hx hby d21_30 (z := 2) rfl (q := 31) rfl ?_
  refine o_istoreN X1 hx hby d21_31 (l' := #[rv o0, iv 2]) rfl (q := 32) rfl ?_
  refine o_aloadN X1 hx hby d21_32 rfl rfl (q := 33) rfl ?_
  refine o_iloadN X1 hx hby d21_33 rfl (q := 34) rfl ?_
  refine o_iinc X1 hx hby d21_34 rfl (l' := #[rv o0, iv 3]) rfl (q := 37) rfl ?_
  refine o_baV X1 hx hby hZ e1 V ⟨by decide, by decide⟩ (v := .int b2) rfl d21_37 (q := 38) rfl ?_
  refine o_sipush X1 hx hby d21_38 (z := 255) rfl (q := 41) rfl ?_
  refine o_iand X1 hx hby d21_41 rfl (q := 42) rfl ?_
  obtain ⟨T2, X2, e2, st2⟩ := getS2 X1 hx hZ hown (host := "") (Or.inl (w_ hw 86 rfl)) Via.refl e1 S_hi (g := (mkF m 42 #[rv o0, iv 3] [.int (b2 &&& (255 : Int32))])) rfl (hb hby d21_42)
  refine own_of st2 ?_
  show own_Out p e below _ (T2.setTop (mkF m 45 #[rv o0, iv 3] [.int 0, .int (b2 &&& (255 : Int32))]))
  refine o_ishl X2 hx hby d21_45 rfl (q := 46) rfl ?_
  refine o_aloadN X2 hx hby d21_46 rfl rfl (q := 47) rfl ?_
  refine o_iloadN X2 hx hby d21_47 rfl (q := 48) rfl ?_
  refine o_baV X2 hx hby hZ e2 V ⟨by decide, by decide⟩ (v := .int b3) rfl d21_48 (q := 49) rfl ?_
  refine o_sipush X2 hx hby d21_49 (z := 255) rfl (q := 52) rfl ?_
  refine o_iand X2 hx hby d21_52 rfl (q := 53) rfl ?_
  obtain ⟨T3, X3, e3, st3⟩ := getS2 X2 hx hZ hown (host := "") (Or.inl (w_ hw 87 rfl)) Via.refl e2 S_lo (g := (mkF m 53 #[rv o0, iv 3] [.int (b3 &&& (255 : Int32)), .int ((b2 &&& (255 : Int32)) <<< ((0 : Int32) &&& 31))])) rfl (hb hby d21_53)
  refine own_of st3 ?_
  show own_Out p e below _ (T3.setTop (mkF m 56 #[rv o0, iv 3] [.int 8, .int (b3 &&& (255 : Int32)), .int ((b2 &&& (255 : Int32)) <<< ((0 : Int32) &&& 31))]))
  refine o_ishl X3 hx hby d21_56 rfl (q := 57) rfl ?_
  refine o_ior X3 hx hby d21_57 rfl (q := 58) rfl ?_
  refine o_i2c X3 hx hby d21_58 rfl (q := 59) rfl ?_
  exact own_outN X3 hx hlk (t := .char) hret (by simp) (hb hby d21_59) (z' := (((((b2 &&& (255 : Int32)) <<< ((0 : Int32) &&& 31)) ||| ((b3 &&& (255 : Int32)) <<< ((8 : Int32) &&& 31))).toUInt32.toUInt16.toUInt32.toInt32).toUInt32.toUInt16.toUInt32.toInt32)) rfl (Q := Q21c1n8i1 Z o0 k b0 b1 b2 b3 b4 b5 b6 b7 h0 n0) ⟨by simp only [f_getCharc1n8i1], N0, e3⟩ (by decide) (by decide)
theorem ef_22c1n8i1 (m : MethodId) (x0 : Addr) : entryFrame m #[(.ref x0), (.int 1)] 2 = mkF m 0 #[.val (.ref x0), .val (.int 1)] [] := by first | (simp [entryFrame, mkF, argsToLocals, Value.category]; done) | rfl
def f_u16charAtc1n8i1 (b0 b1 b2 b3 b4 b5 b6 b7 : Int32) : Int32 := ((f_getCharc1n8i1 b0 b1 b2 b3 b4 b5 b6 b7).toUInt32.toUInt16.toUInt32.toInt32)
def Q22c1n8i1 (Z : State) (o0 : Addr) (k : ClassId) (b0 b1 b2 b3 b4 b5 b6 b7 : Int32) (vf : Value) (h0 : Heap) (n0 : Nat) (v : Option Value) (h : Heap) (L : List Loc) : Prop := v = some (.int (f_u16charAtc1n8i1 b0 b1 b2 b3 b4 b5 b6 b7)) ∧ Fr n0 L ∧ h = h0
set_option maxRecDepth 65536 in
set_option maxHeartbeats 40000000 in
theorem rm22c1n8i1 (l : Launch) (Z : State) (a0 : Array Value) (hw : ∀ d ∈ tables_1, d.before a0 Z = true) (ws : List Jvm.Cond) (o0 : Addr) (k : ClassId) (b0 b1 b2 b3 b4 b5 b6 b7 : Int32) (vf : Value) (h0 : Heap) (n0 : Nat) (Z0 : n0 ≤ h0.size) (V : Arv Z h0 o0 k .byte (8 : Int32) [(.int b0), (.int b1), (.int b2), (.int b3), (.int b4), (.int b5), (.int b6), (.int b7)] (.int 0)) (S_f : Sta Z h0 "jdk/internal/util/Preconditions" "SIOOBE_FORMATTER" "Ljava/util/function/BiFunction;" vf) (hvf : vf.isRef = true) (S_ad : Sta Z h0 "java/lang/StringUTF16" "$assertionsDisabled" "Z" (.int 1)) (S_hi : Sta Z h0 "java/lang/StringUTF16" "HI_BYTE_SHIFT" "I" (.int 0)) (S_lo : Sta Z h0 "java/lang/StringUTF16" "LO_BYTE_SHIFT" "I" (.int 8)) :
    MetFree l (⟨"java/lang/StringUTF16", "charAt", "([BI)C"⟩ : MethodName) (head1 (Jvm.Cond.code (⟨"java/lang/StringUTF16", "charAt", "([BI)C"⟩ : MethodName) jdk_52_method_83_code 2 (some .char) :: ws) (⟨3, 0, 0, 40⟩ : Room)) (fun a U => a = #[(.ref o0), (.int 1)] ∧ Z.Warmed39 U.vm ∧ U.heap = h0) (fun _ _ _ _ _ => True) (fun _ U o U' => ∃ v L, o = .returned v ∧ Q22c1n8i1 Z o0 k b0 b1 b2 b3 b4 b5 b6 b7 vf h0 n0 v U'.heap L ∧ FrameEnd U o U' L (⟨3, 0, 0, 40⟩ : Room).cells (⟨3, 0, 0, 40⟩ : Room).slots) := by
  refine MetFree.of_bodySF (plainFor_of_name pn_5) hisR ?_
  intro p e s m args below meth c s₁ Bd hml0 hP hK
  obtain ⟨rfl, hZ, hh⟩ := hP
  have hx := Bd.exec
  have hby := Bd.bytes
  have hml : c.maxLocals = 2 := hml0
  have hown : s.vm.findClass "java/lang/StringUTF16" = some m.cls := findClass_of_methodNamed Bd.named
  have hnm := (name_of_methodNamed Bd.named Bd.method).1
  have X0 : Stand p l e (⟨3, 0, 0, 40⟩ : Room) s m #[(.ref o0), (.int 1)] below meth c s₁ [] 0 0 := Stand.of_body Bd
  have e0 : s₁.heap = h0 := by rw [← hh, Bd.state]; rfl
  have N0 := Fr.nil n0
  have hret := Bd.returns
  have hlk := BodyLoose.notSynchronized Bd
  show own_Out p e below (fun o U' => ∃ v L, o = .returned v ∧ Q22c1n8i1 Z o0 k b0 b1 b2 b3 b4 b5 b6 b7 vf h0 n0 v U'.heap L ∧ FrameEnd s o U' L (⟨3, 0, 0, 40⟩ : Room).cells (⟨3, 0, 0, 40⟩ : Room).slots) (s₁.setTop (entryFrame m #[(.ref o0), (.int 1)] 2))
  refine own_of (fun t k => castTop (ef_22c1n8i1 m o0) k) ?_
  show own_Out p e below _ (s₁.setTop (mkF m 0 #[rv o0, iv 1] []))
  refine o_iloadN X0 hx hby d22_0 rfl (q := 1) rfl ?_
  refine o_aloadN X0 hx hby d22_1 rfl rfl (q := 2) rfl ?_
  obtain ⟨_, _, ⟨T1, L1, k1, n1⟩, -, X1, ⟨Lc1, hQ1, l1, y1, z1⟩, st1⟩ := Jvm.LawKit.callS X0 hx (y := (⟨"java/lang/StringUTF16", "checkIndex", "(I[B)V"⟩ : MethodName)) hown (mvT hZ (w_ hw 94 rfl)) (mvT hZ (w_ hw 95 rfl)) (mvT hZ (w_ hw 22 rfl)) (mvT hZ (w_ hw 96 rfl)) (by decide) (backOf (W := 0) (rm23c1n8i1 l Z a0 hw [] o0 k b0 b1 b2 b3 b4 b5 b6 b7 vf h0 n0 Z0 V S_f hvf) hZ (w_ hw 96 rfl) (w_ hw 22 rfl) (by decide) (by decide)) (g := (mkF m 2 #[rv o0, iv 1] [.ref o0, .int 1])) rfl (by rw [hml]; rfl) (argsL := [(.int 1), (.ref o0)]) (rest := []) (lenOf pd_6 rfl) rfl (by show 2 * 0 + _ ≤ _; exact Nat.le_of_eq rfl) (hb hby d22_2) (fun _ _ => ⟨rfl, e0, (by decide : 0 + 0 ≤ _), (by decide : 0 + 0 ≤ _)⟩)
  dsimp only [Pt.U, Pt.locs, Pt.cells, Pt.slots] at X1 l1 y1 z1 st1 hQ1
  subst l1 y1 z1
  obtain ⟨rfl, N1q, hh1⟩ := hQ1
  have N1 := Fr.app N0 N1q
  refine own_of st1 ?_
  show own_Out p e below _ (T1.setTop (mkF m 5 #[rv o0, iv 1] []))
  refine o_aloadN X1 hx hby d22_5 rfl rfl (q := 6) rfl ?_
  refine o_iloadN X1 hx hby d22_6 rfl (q := 7) rfl ?_
  obtain ⟨_, _, ⟨T2, L2, k2, n2⟩, -, X2, ⟨Lc2, hQ2, l2, y2, z2⟩, st2⟩ := Jvm.LawKit.callS X1 hx (y := (⟨"java/lang/StringUTF16", "getChar", "([BI)C"⟩ : MethodName)) hown (mvT hZ (w_ hw 88 rfl)) (mvT hZ (w_ hw 89 rfl)) (mvT hZ (w_ hw 22 rfl)) (mvT hZ (w_ hw 90 rfl)) (by decide) (backOf (W := 0) (rm21c1n8i1 l Z a0 hw [] o0 k b0 b1 b2 b3 b4 b5 b6 b7 h0 n0 Z0 V S_ad S_hi S_lo) hZ (w_ hw 90 rfl) (w_ hw 22 rfl) (by decide) (by decide)) (g := (mkF m 7 #[rv o0, iv 1] [.int 1, .ref o0])) rfl (by rw [hml]; rfl) (argsL := [(.ref o0), (.int 1)]) (rest := []) (lenOf pd_3 rfl) rfl (by show 2 * 0 + _ ≤ _; exact Nat.le_of_eq rfl) (hb hby d22_7) (fun _ _ => ⟨rfl, hh1, (by decide : 0 + 0 ≤ _), (by decide : 0 + 0 ≤ _)⟩)
  dsimp only [Pt.U, Pt.locs, Pt.cells, Pt.slots] at X2 l2 y2 z2 st2 hQ2
  subst l2 y2 z2
  obtain ⟨rfl, N2q, hh2⟩ := hQ2
  have N2 := Fr.app N1 N2q
  refine own_of st2 ?_
  show own_Out p e below _ (T2.setTop (mkF m 10 #[rv o0, iv 1] [.int (f_getCharc1n8i1 b0 b1 b2 b3 b4 b5 b6 b7)]))
  exact own_outN X2 hx hlk (t := .char) hret (by simp) (hb hby d22_10) (z' := ((f_getCharc1n8i1 b0 b1 b2 b3 b4 b5 b6 b7).toUInt32.toUInt16.toUInt32.toInt32)) rfl (Q := Q22c1n8i1 Z o0 k b0 b1 b2 b3 b4 b5 b6 b7 vf h0 n0) ⟨by simp only [f_u16charAtc1n8i1], N2, hh2⟩ (by decide) (by decide)
theorem ef_12c1n8i1 (m : MethodId) (x0 : Addr) : entryFrame m #[(.ref x0), (.int 1)] 2 = mkF m 0 #[.val (.ref x0), .val (.int 1)] [] := by first | (simp [entryFrame, mkF, argsToLocals, Value.category]; done) | rfl
def f_charAtc1n8i1 (b0 b1 b2 b3 b4 b5 b6 b7 cs : Int32) : Int32 := ((f_u16charAtc1n8i1 b0 b1 b2 b3 b4 b5 b6 b7).toUInt32.toUInt16.toUInt32.toInt32)
def Q12c1n8i1 (Z : State) (o0 ob : Addr) (k : ClassId) (b0 b1 b2 b3 b4 b5 b6 b7 cs : Int32) (vf : Value) (h0 : Heap) (n0 : Nat) (v : Option Value) (h : Heap) (L : List Loc) : Prop := v = some (.int (f_charAtc1n8i1 b0 b1 b2 b3 b4 b5 b6 b7 cs)) ∧ Fr n0 L ∧ h = h0
set_option maxRecDepth 65536 in
set_option maxHeartbeats 40000000 in
theorem rm12c1n8i1 (l : Launch) (Z : State) (a0 : Array Value) (hw : ∀ d ∈ tables_1, d.before a0 Z = true) (ws : List Jvm.Cond) (o0 ob : Addr) (k : ClassId) (b0 b1 b2 b3 b4 b5 b6 b7 cs : Int32) (vf : Value) (h0 : Heap) (n0 : Nat) (Z0 : n0 ≤ h0.size) (E : Exa Z h0 o0 "java/lang/String") (Fv : Fld Z h0 o0 "java/lang/String" "value" "[B" (.ref ob)) (Fc : Fld Z h0 o0 "java/lang/String" "coder" "B" (.int 1)) (V : Arv Z h0 ob k .byte (8 : Int32) [(.int b0), (.int b1), (.int b2), (.int b3), (.int b4), (.int b5), (.int b6), (.int b7)] (.int 0)) (S_cs : Sta Z h0 "java/lang/String" "COMPACT_STRINGS" "Z" (.int cs)) (hcs : ¬ (cs = (0 : Int32))) (S_f : Sta Z h0 "jdk/internal/util/Preconditions" "SIOOBE_FORMATTER" "Ljava/util/function/BiFunction;" vf) (hvf : vf.isRef = true) (S_ad : Sta Z h0 "java/lang/StringUTF16" "$assertionsDisabled" "Z" (.int 1)) (S_hi : Sta Z h0 "java/lang/StringUTF16" "HI_BYTE_SHIFT" "I" (.int 0)) (S_lo : Sta Z h0 "java/lang/StringUTF16" "LO_BYTE_SHIFT" "I" (.int 8)) :
    MetFree l (⟨"java/lang/String", "charAt", "(I)C"⟩ : MethodName) (head1 (Jvm.Cond.code (⟨"java/lang/String", "charAt", "(I)C"⟩ : MethodName) jdk_42_method_56_code 2 (some .char) :: ws) (⟨4, 0, 0, 53⟩ : Room)) (fun a U => a = #[(.ref o0), (.int 1)] ∧ Z.Warmed39 U.vm ∧ U.heap = h0) (fun _ _ _ _ _ => True) (fun _ U o U' => ∃ v L, o = .returned v ∧ Q12c1n8i1 Z o0 ob k b0 b1 b2 b3 b4 b5 b6 b7 cs vf h0 n0 v U'.heap L ∧ FrameEnd U o U' L (⟨4, 0, 0, 53⟩ : Room).cells (⟨4, 0, 0, 53⟩ : Room).slots) := by
  refine MetFree.of_bodySF (plainFor_of_name pn_1) hisR ?_
  intro p e s m args below meth c s₁ Bd hml0 hP hK
  obtain ⟨rfl, hZ, hh⟩ := hP
  have hx := Bd.exec
  have hby := Bd.bytes
  have hml : c.maxLocals = 2 := hml0
  have hown : s.vm.findClass "java/lang/String" = some m.cls := findClass_of_methodNamed Bd.named
  have hnm := (name_of_methodNamed Bd.named Bd.method).1
  have X0 : Stand p l e (⟨4, 0, 0, 53⟩ : Room) s m #[(.ref o0), (.int 1)] below meth c s₁ [] 0 0 := Stand.of_body Bd
  have e0 : s₁.heap = h0 := by rw [← hh, Bd.state]; rfl
  have N0 := Fr.nil n0
  have hret := Bd.returns
  have hlk := BodyLoose.notSynchronized Bd
  show own_Out p e below (fun o U' => ∃ v L, o = .returned v ∧ Q12c1n8i1 Z o0 ob k b0 b1 b2 b3 b4 b5 b6 b7 cs vf h0 n0 v U'.heap L ∧ FrameEnd s o U' L (⟨4, 0, 0, 53⟩ : Room).cells (⟨4, 0, 0, 53⟩ : Room).slots) (s₁.setTop (entryFrame m #[(.ref o0), (.int 1)] 2))
  refine own_of (fun t k => castTop (ef_12c1n8i1 m o0) k) ?_
  show own_Out p e below _ (s₁.setTop (mkF m 0 #[rv o0, iv 1] []))
  refine o_aloadN X0 hx hby d12_0 rfl rfl (q := 1) rfl ?_
  obtain ⟨cq1, kq1, q1a, q1b, q1c⟩ := isOf hZ e0 E
  obtain ⟨_, _, ⟨T1, L1, k1, n1⟩, -, X1, ⟨Lc1, hQ1, l1, y1, z1⟩, st1⟩ := X0.virtualBack hx (y := (⟨"java/lang/String", "isLatin1", "()Z"⟩ : MethodName)) (z := (⟨"java/lang/String", "isLatin1", "()Z"⟩ : MethodName)) hown (mvT hZ (w_ hw 55 rfl)) (mvT hZ (w_ hw 56 rfl)) (notFace_of_selects (args := #[]) (mvT hZ (w_ hw 58 rfl))) (mvT hZ (w_ hw 58 rfl)) (mvT hZ (w_ hw 57 rfl)) (by decide) (backOf (W := 0) (rm13c1n8 l Z a0 hw [] o0 ob k b0 b1 b2 b3 b4 b5 b6 b7 cs h0 n0 Z0 E Fv Fc V S_cs hcs) hZ (w_ hw 59 rfl) (w_ hw 8 rfl) (by decide) (by decide)) q1a q1c (g := (mkF m 1 #[rv o0, iv 1] [.ref o0])) rfl (by rw [hml]; rfl) (Steps.refl _) (argsL := []) (rest := []) (lenOf pd_2 rfl) rfl (by show 2 * 0 + _ ≤ _; exact Nat.le_of_eq rfl) (hb hby d12_1) (fun _ _ => ⟨rfl, e0, (by decide : 0 + 0 ≤ _), (by decide : 0 + 0 ≤ _)⟩)
  dsimp only [Pt.U, Pt.locs, Pt.cells, Pt.slots] at X1 l1 y1 z1 st1 hQ1
  subst l1 y1 z1
  obtain ⟨rfl, N1q, hh1⟩ := hQ1
  have N1 := Fr.app N0 N1q
  refine own_of (fun _ k => st1.trans k) ?_
  show own_Out p e below _ (T1.setTop (mkF m 4 #[rv o0, iv 1] [.int 0]))
  refine o_ifY X1 hx hby d12_4 ((if0 _ _).trans (teq (by decide : (0 : Int32) = (0 : Int32))).1) (by decide) (q := 16) (by decide) ?_
  refine o_aloadN X1 hx hby d12_16 rfl rfl (q := 17) rfl ?_
  refine o_getF X1 hx hZ hown hby (w_ hw 33 rfl) Via.refl hh1 Fv d12_17 (q := 20) rfl fun T2 X2 e2 => ?_
  refine o_iloadN X2 hx hby d12_20 rfl (q := 21) rfl ?_
  obtain ⟨_, _, ⟨T3, L3, k3, n3⟩, -, X3, ⟨Lc3, hQ3, l3, y3, z3⟩, st3⟩ := Jvm.LawKit.callS X2 hx (y := (⟨"java/lang/StringUTF16", "charAt", "([BI)C"⟩ : MethodName)) hown (mvT hZ (w_ hw 91 rfl)) (mvT hZ (w_ hw 92 rfl)) (mvT hZ (w_ hw 22 rfl)) (mvT hZ (w_ hw 93 rfl)) (by decide) (backOf (W := 0) (rm22c1n8i1 l Z a0 hw [] ob k b0 b1 b2 b3 b4 b5 b6 b7 vf h0 n0 Z0 V S_f hvf S_ad S_hi S_lo) hZ (w_ hw 93 rfl) (w_ hw 22 rfl) (by decide) (by decide)) (g := (mkF m 21 #[rv o0, iv 1] [.int 1, .ref ob])) rfl (by rw [hml]; rfl) (argsL := [(.ref ob), (.int 1)]) (rest := []) (lenOf pd_3 rfl) rfl (by show 2 * 0 + _ ≤ _; exact Nat.le_of_eq rfl) (hb hby d12_21) (fun _ _ => ⟨rfl, e2, (by decide : 0 + 0 ≤ _), (by decide : 0 + 0 ≤ _)⟩)
  dsimp only [Pt.U, Pt.locs, Pt.cells, Pt.slots] at X3 l3 y3 z3 st3 hQ3
  subst l3 y3 z3
  obtain ⟨rfl, N3q, hh3⟩ := hQ3
  have N3 := Fr.app N1 N3q
  refine own_of st3 ?_
  show own_Out p e below _ (T3.setTop (mkF m 24 #[rv o0, iv 1] [.int (f_u16charAtc1n8i1 b0 b1 b2 b3 b4 b5 b6 b7)]))
  exact own_outN X3 hx hlk (t := .char) hret (by simp) (hb hby d12_24) (z' := ((f_u16charAtc1n8i1 b0 b1 b2 b3 b4 b5 b6 b7).toUInt32.toUInt16.toUInt32.toInt32)) rfl (Q := Q12c1n8i1 Z o0 ob k b0 b1 b2 b3 b4 b5 b6 b7 cs vf h0 n0) ⟨by simp only [f_charAtc1n8i1, if_neg hcs], N3, hh3⟩ (by decide) (by decide)
theorem ef_23c1n8i2 (m : MethodId) (x1 : Addr) : entryFrame m #[(.int 2), (.ref x1)] 2 = mkF m 0 #[.val (.int 2), .val (.ref x1)] [] := by first | (simp [entryFrame, mkF, argsToLocals, Value.category]; done) | rfl
def Q23c1n8i2 (Z : State) (o1 : Addr) (k : ClassId) (b0 b1 b2 b3 b4 b5 b6 b7 : Int32) (vf : Value) (h0 : Heap) (n0 : Nat) (v : Option Value) (h : Heap) (L : List Loc) : Prop := v = none ∧ Fr n0 L ∧ h = h0
set_option maxRecDepth 65536 in
set_option maxHeartbeats 40000000 in
theorem rm23c1n8i2 (l : Launch) (Z : State) (a0 : Array Value) (hw : ∀ d ∈ tables_1, d.before a0 Z = true) (ws : List Jvm.Cond) (o1 : Addr) (k : ClassId) (b0 b1 b2 b3 b4 b5 b6 b7 : Int32) (vf : Value) (h0 : Heap) (n0 : Nat) (Z0 : n0 ≤ h0.size) (V : Arv Z h0 o1 k .byte (8 : Int32) [(.int b0), (.int b1), (.int b2), (.int b3), (.int b4), (.int b5), (.int b6), (.int b7)] (.int 0)) (S_f : Sta Z h0 "jdk/internal/util/Preconditions" "SIOOBE_FORMATTER" "Ljava/util/function/BiFunction;" vf) (hvf : vf.isRef = true) :
    MetFree l (⟨"java/lang/StringUTF16", "checkIndex", "(I[B)V"⟩ : MethodName) (head1 (Jvm.Cond.code (⟨"java/lang/StringUTF16", "checkIndex", "(I[B)V"⟩ : MethodName) jdk_52_method_91_code 2 none :: ws) (⟨2, 0, 0, 27⟩ : Room)) (fun a U => a = #[(.int 2), (.ref o1)] ∧ Z.Warmed39 U.vm ∧ U.heap = h0) (fun _ _ _ _ _ => True) (fun _ U o U' => ∃ v L, o = .returned v ∧ Q23c1n8i2 Z o1 k b0 b1 b2 b3 b4 b5 b6 b7 vf h0 n0 v U'.heap L ∧ FrameEnd U o U' L (⟨2, 0, 0, 27⟩ : Room).cells (⟨2, 0, 0, 27⟩ : Room).slots) := by
  refine MetFree.of_bodySF (plainFor_of_name pn_5) hisR ?_
  intro p e s m args below meth c s₁ Bd hml0 hP hK
  obtain ⟨rfl, hZ, hh⟩ := hP
  have hx := Bd.exec
  have hby := Bd.bytes
  have hml : c.maxLocals = 2 := hml0
  have hown : s.vm.findClass "java/lang/StringUTF16" = some m.cls := findClass_of_methodNamed Bd.named
  have hnm := (name_of_methodNamed Bd.named Bd.method).1
  have X0 : Stand p l e (⟨2, 0, 0, 27⟩ : Room) s m #[(.int 2), (.ref o1)] below meth c s₁ [] 0 0 := Stand.of_body Bd
  have e0 : s₁.heap = h0 := by rw [← hh, Bd.state]; rfl
  have N0 := Fr.nil n0
  have hret := Bd.returns
  have hlk := BodyLoose.notSynchronized Bd
  show own_Out p e below (fun o U' => ∃ v L, o = .returned v ∧ Q23c1n8i2 Z o1 k b0 b1 b2 b3 b4 b5 b6 b7 vf h0 n0 v U'.heap L ∧ FrameEnd s o U' L (⟨2, 0, 0, 27⟩ : Room).cells (⟨2, 0, 0, 27⟩ : Room).slots) (s₁.setTop (entryFrame m #[(.int 2), (.ref o1)] 2))
  refine own_of (fun t k => castTop (ef_23c1n8i2 m o1) k) ?_
  show own_Out p e below _ (s₁.setTop (mkF m 0 #[iv 2, rv o1] []))
  refine o_iloadN X0 hx hby d23_0 rfl (q := 1) rfl ?_
  refine o_aloadN X0 hx hby d23_1 rfl rfl (q := 2) rfl ?_
  obtain ⟨_, _, ⟨T1, L1, k1, n1⟩, -, X1, ⟨Lc1, hQ1, l1, y1, z1⟩, st1⟩ := Jvm.LawKit.callS X0 hx (y := (⟨"java/lang/StringUTF16", "length", "([B)I"⟩ : MethodName)) hown (mvT hZ (w_ hw 97 rfl)) (mvT hZ (w_ hw 98 rfl)) (mvT hZ (w_ hw 22 rfl)) (mvT hZ (w_ hw 99 rfl)) (by decide) (backOf (W := 1) (rm24c1n8 l Z a0 hw [] o1 k b0 b1 b2 b3 b4 b5 b6 b7 h0 n0 Z0 V) hZ (w_ hw 99 rfl) (w_ hw 22 rfl) (by decide) (by decide)) (g := (mkF m 2 #[iv 2, rv o1] [.ref o1, .int 2])) rfl (by rw [hml]; rfl) (argsL := [(.ref o1)]) (rest := [(.int 2)]) (lenOf pd_5 rfl) rfl (by show 2 * 0 + _ ≤ _; exact Nat.le_of_eq rfl) (hb hby d23_2) (fun _ _ => ⟨rfl, e0, (by decide : 0 + 0 ≤ _), (by decide : 0 + 0 ≤ _)⟩)
  dsimp only [Pt.U, Pt.locs, Pt.cells, Pt.slots] at X1 l1 y1 z1 st1 hQ1
  subst l1 y1 z1
  obtain ⟨rfl, N1q, hh1⟩ := hQ1
  have N1 := Fr.app N0 N1q
  refine own_of st1 ?_
  show own_Out p e below _ (T1.setTop (mkF m 5 #[iv 2, rv o1] [.int 4, .int 2]))
  obtain ⟨_, _, ⟨T2, L2, k2, n2⟩, -, X2, ⟨Lc2, hQ2, l2, y2, z2⟩, st2⟩ := Jvm.LawKit.callS X1 hx (y := (⟨"java/lang/String", "checkIndex", "(II)V"⟩ : MethodName)) hown (mvT hZ (w_ hw 100 rfl)) (mvT hZ (w_ hw 65 rfl)) (mvT hZ (w_ hw 8 rfl)) (mvT hZ (w_ hw 66 rfl)) (by decide) (backOf (W := 0) (rm15i2n4 l Z a0 hw [] vf h0 n0 Z0 S_f hvf) hZ (w_ hw 66 rfl) (w_ hw 8 rfl) (by decide) (by decide)) (g := (mkF m 5 #[iv 2, rv o1] [.int 4, .int 2])) rfl (by rw [hml]; rfl) (argsL := [(.int 2), (.int 4)]) (rest := []) (lenOf pd_1 rfl) rfl (by show 2 * 0 + _ ≤ _; exact Nat.le_of_eq rfl) (hb hby d23_5) (fun _ _ => ⟨rfl, hh1, (by decide : 0 + 0 ≤ _), (by decide : 0 + 0 ≤ _)⟩)
  dsimp only [Pt.U, Pt.locs, Pt.cells, Pt.slots] at X2 l2 y2 z2 st2 hQ2
  subst l2 y2 z2
  obtain ⟨rfl, N2q, hh2⟩ := hQ2
  have N2 := Fr.app N1 N2q
  refine own_of st2 ?_
  show own_Out p e below _ (T2.setTop (mkF m 8 #[iv 2, rv o1] []))
  exact own_outV X2 hx hlk hret (hb hby d23_8) (Q := Q23c1n8i2 Z o1 k b0 b1 b2 b3 b4 b5 b6 b7 vf h0 n0) ⟨rfl, N2, hh2⟩ (by decide) (by decide)
theorem ef_21c1n8i2 (m : MethodId) (x0 : Addr) : entryFrame m #[(.ref x0), (.int 2)] 2 = mkF m 0 #[.val (.ref x0), .val (.int 2)] [] := by first | (simp [entryFrame, mkF, argsToLocals, Value.category]; done) | rfl
def f_getCharc1n8i2 (b0 b1 b2 b3 b4 b5 b6 b7 : Int32) : Int32 := (((((b4 &&& (255 : Int32)) <<< ((0 : Int32) &&& 31)) ||| ((b5 &&& (255 : Int32)) <<< ((8 : Int32) &&& 31))).toUInt32.toUInt16.toUInt32.toInt32).toUInt32.toUInt16.toUInt32.toInt32)
def Q21c1n8i2 (Z : State) (o0 : Addr) (k : ClassId) (b0 b1 b2 b3 b4 b5 b6 b7 : Int32) (h0 : Heap) (n0 : Nat) (v : Option Value) (h : Heap) (L : List Loc) : Prop := v = some (.int (f_getCharc1n8i2 b0 b1 b2 b3 b4 b5 b6 b7)) ∧ Fr n0 L ∧ h = h0
set_option maxRecDepth 65536 in
set_option maxHeartbeats 40000000 in
theorem rm21c1n8i2 (l : Launch) (Z : State) (a0 : Array Value) (hw : ∀ d ∈ tables_1, d.before a0 Z = true) (ws : List Jvm.Cond) (o0 : Addr) (k : ClassId) (b0 b1 b2 b3 b4 b5 b6 b7 : Int32) (h0 : Heap) (n0 : Nat) (Z0 : n0 ≤ h0.size) (V : Arv Z h0 o0 k .byte (8 : Int32) [(.int b0), (.int b1), (.int b2), (.int b3), (.int b4), (.int b5), (.int b6), (.int b7)] (.int 0)) (S_ad : Sta Z h0 "java/lang/StringUTF16" "$assertionsDisabled" "Z" (.int 1)) (S_hi : Sta Z h0 "java/lang/StringUTF16" "HI_BYTE_SHIFT" "I" (.int 0)) (S_lo : Sta Z h0 "java/lang/StringUTF16" "LO_BYTE_SHIFT" "I" (.int 8)) :
    MetFree l (⟨"java/lang/StringUTF16", "getChar", "([BI)C"⟩ : MethodName) (head1 (Jvm.Cond.code (⟨"java/lang/StringUTF16", "getChar", "([BI)C"⟩ : MethodName) jdk_52_method_5_code 2 (some .char) :: ws) (⟨0, 0, 0, 0⟩ : Room)) (fun a U => a = #[(.ref o0), (.int 2)] ∧ Z.Warmed39 U.vm ∧ U.heap = h0) (fun _ _ _ _ _ => True) (fun _ U o U' => ∃ v L, o = .returned v ∧ Q21c1n8i2 Z o0 k b0 b1 b2 b3 b4 b5 b6 b7 h0 n0 v U'.heap L ∧ FrameEnd U o U' L (⟨0, 0, 0, 0⟩ : Room).cells (⟨0, 0, 0, 0⟩ : Room).slots) := by
  refine MetFree.of_bodySF (plainFor_of_name pn_5) hisR ?_
  intro p e s m args below meth c s₁ Bd hml0 hP hK
  obtain ⟨rfl, hZ, hh⟩ := hP
  have hx := Bd.exec
  have hby := Bd.bytes
  have hml : c.maxLocals = 2 := hml0
  have hown : s.vm.findClass "java/lang/StringUTF16" = some m.cls := findClass_of_methodNamed Bd.named
  have hnm := (name_of_methodNamed Bd.named Bd.method).1
  have X0 : Stand p l e (⟨0, 0, 0, 0⟩ : Room) s m #[(.ref o0), (.int 2)] below meth c s₁ [] 0 0 := Stand.of_body Bd
  have e0 : s₁.heap = h0 := by rw [← hh, Bd.state]; rfl
  have N0 := Fr.nil n0
  have hret := Bd.returns
  have hlk := BodyLoose.notSynchronized Bd
  show own_Out p e below (fun o U' => ∃ v L, o = .returned v ∧ Q21c1n8i2 Z o0 k b0 b1 b2 b3 b4 b5 b6 b7 h0 n0 v U'.heap L ∧ FrameEnd s o U' L (⟨0, 0, 0, 0⟩ : Room).cells (⟨0, 0, 0, 0⟩ : Room).slots) (s₁.setTop (entryFrame m #[(.ref o0), (.int 2)] 2))
  refine own_of (fun t k => castTop (ef_21c1n8i2 m o0) k) ?_
  show own_Out p e below _ (s₁.setTop (mkF m 0 #[rv o0, iv 2] []))
  obtain ⟨T1, X1, e1, st1⟩ := getS2 X0 hx hZ hown (host := "") (Or.inl (w_ hw 85 rfl)) Via.refl e0 S_ad (g := (mkF m 0 #[rv o0, iv 2] [])) rfl (hb hby d21_0)
  refine own_of st1 ?_
  show own_Out p e below _ (T1.setTop (mkF m 3 #[rv o0, iv 2] [.int 1]))
  refine o_ifY X1 hx hby d21_3 ((if0 _ _).trans (feq (by decide : ¬ ((1 : Int32) = (0 : Int32)))).2) (by decide) (q := 28) (by decide) ?_
  refine o_iloadN X1 hx hby d21_28 rfl (q := 29) rfl ?_
  refine o_iconst X1 hx hby d21_29 (z := 1) rfl (q := 30) rfl ?_
  refine o_ishl X1 hx hby d21_30 (z := 4) rfl (q := 31) rfl ?_
  refine o_istoreN X1 hx hby d21_31 (l' := #[rv o0, iv 4]) rfl (q := 32) rfl ?_
  refine o_aloadN X1 hx hby d21_32 rfl rfl (q := 33) rfl ?_
  refine o_iloadN X1 hx hby d21_33 rfl (q := 34) rfl ?_
  refine o_iinc X1 hx hby d21_34 rfl (l' := #[rv o0, iv 5]) rfl (q := 37) rfl ?_
  refine o_baV X1 hx hby hZ e1 V ⟨by decide, by decide⟩ (v := .int b4) rfl d21_37 (q := 38) rfl ?_
  refine o_sipush X1 hx hby d21_38 (z := 255) rfl (q := 41) rfl ?_
  refine o_iand X1 hx hby d21_41 rfl (q := 42) rfl ?_
  obtain ⟨T2, X2, e2, st2⟩ := getS2 X1 hx hZ hown (host := "") (Or.inl (w_ hw 86 rfl)) Via.refl e1 S_hi (g := (mkF m 42 #[rv o0, iv 5] [.int (b4 &&& (255 : Int32))])) rfl (hb hby d21_42)
  refine own_of st2 ?_
  show own_Out p e below _ (T2.setTop (mkF m 45 #[rv o0, iv 5] [.int 0, .int (b4 &&& (255 : Int32))]))
  refine o_ishl X2 hx hby d21_45 rfl (q := 46) rfl ?_
  refine o_aloadN X2 hx hby d21_46 rfl rfl (q := 47) rfl ?_
  refine o_iloadN X2 hx hby d21_47 rfl (q := 48) rfl ?_
  refine o_baV X2 hx hby hZ e2 V ⟨by decide, by decide⟩ (v := .int b5) rfl d21_48 (q := 49) rfl ?_
  refine o_sipush X2 hx hby d21_49 (z := 255) rfl (q := 52) rfl ?_
  refine o_iand X2 hx hby d21_52 rfl (q := 53) rfl ?_
  obtain ⟨T3, X3, e3, st3⟩ := getS2 X2 hx hZ hown (host := "") (Or.inl (w_ hw 87 rfl)) Via.refl e2 S_lo (g := (mkF m 53 #[rv o0, iv 5] [.int (b5 &&& (255 : Int32)), .int ((b4 &&& (255 : Int32)) <<< ((0 : Int32) &&& 31))])) rfl (hb hby d21_53)
  refine own_of st3 ?_
  show own_Out p e below _ (T3.setTop (mkF m 56 #[rv o0, iv 5] [.int 8, .int (b5 &&& (255 : Int32)), .int ((b4 &&& (255 : Int32)) <<< ((0 : Int32) &&& 31))]))
  refine o_ishl X3 hx hby d21_56 rfl (q := 57) rfl ?_
  refine o_ior X3 hx hby d21_57 rfl (q := 58) rfl ?_
  refine o_i2c X3 hx hby d21_58 rfl (q := 59) rfl ?_
  exact own_outN X3 hx hlk (t := .char) hret (by simp) (hb hby d21_59) (z' := (((((b4 &&& (255 : Int32)) <<< ((0 : Int32) &&& 31)) ||| ((b5 &&& (255 : Int32)) <<< ((8 : Int32) &&& 31))).toUInt32.toUInt16.toUInt32.toInt32).toUInt32.toUInt16.toUInt32.toInt32)) rfl (Q := Q21c1n8i2 Z o0 k b0 b1 b2 b3 b4 b5 b6 b7 h0 n0) ⟨by simp only [f_getCharc1n8i2], N0, e3⟩ (by decide) (by decide)
theorem ef_22c1n8i2 (m : MethodId) (x0 : Addr) : entryFrame m #[(.ref x0), (.int 2)] 2 = mkF m 0 #[.val (.ref x0), .val (.int 2)] [] := by first | (simp [entryFrame, mkF, argsToLocals, Value.category]; done) | rfl
def f_u16charAtc1n8i2 (b0 b1 b2 b3 b4 b5 b6 b7 : Int32) : Int32 := ((f_getCharc1n8i2 b0 b1 b2 b3 b4 b5 b6 b7).toUInt32.toUInt16.toUInt32.toInt32)
def Q22c1n8i2 (Z : State) (o0 : Addr) (k : ClassId) (b0 b1 b2 b3 b4 b5 b6 b7 : Int32) (vf : Value) (h0 : Heap) (n0 : Nat) (v : Option Value) (h : Heap) (L : List Loc) : Prop := v = some (.int (f_u16charAtc1n8i2 b0 b1 b2 b3 b4 b5 b6 b7)) ∧ Fr n0 L ∧ h = h0
set_option maxRecDepth 65536 in
set_option maxHeartbeats 40000000 in
theorem rm22c1n8i2 (l : Launch) (Z : State) (a0 : Array Value) (hw : ∀ d ∈ tables_1, d.before a0 Z = true) (ws : List Jvm.Cond) (o0 : Addr) (k : ClassId) (b0 b1 b2 b3 b4 b5 b6 b7 : Int32) (vf : Value) (h0 : Heap) (n0 : Nat) (Z0 : n0 ≤ h0.size) (V : Arv Z h0 o0 k .byte (8 : Int32) [(.int b0), (.int b1), (.int b2), (.int b3), (.int b4), (.int b5), (.int b6), (.int b7)] (.int 0)) (S_f : Sta Z h0 "jdk/internal/util/Preconditions" "SIOOBE_FORMATTER" "Ljava/util/function/BiFunction;" vf) (hvf : vf.isRef = true) (S_ad : Sta Z h0 "java/lang/StringUTF16" "$assertionsDisabled" "Z" (.int 1)) (S_hi : Sta Z h0 "java/lang/StringUTF16" "HI_BYTE_SHIFT" "I" (.int 0)) (S_lo : Sta Z h0 "java/lang/StringUTF16" "LO_BYTE_SHIFT" "I" (.int 8)) :
    MetFree l (⟨"java/lang/StringUTF16", "charAt", "([BI)C"⟩ : MethodName) (head1 (Jvm.Cond.code (⟨"java/lang/StringUTF16", "charAt", "([BI)C"⟩ : MethodName) jdk_52_method_83_code 2 (some .char) :: ws) (⟨3, 0, 0, 40⟩ : Room)) (fun a U => a = #[(.ref o0), (.int 2)] ∧ Z.Warmed39 U.vm ∧ U.heap = h0) (fun _ _ _ _ _ => True) (fun _ U o U' => ∃ v L, o = .returned v ∧ Q22c1n8i2 Z o0 k b0 b1 b2 b3 b4 b5 b6 b7 vf h0 n0 v U'.heap L ∧ FrameEnd U o U' L (⟨3, 0, 0, 40⟩ : Room).cells (⟨3, 0, 0, 40⟩ : Room).slots) := by
  refine MetFree.of_bodySF (plainFor_of_name pn_5) hisR ?_
  intro p e s m args below meth c s₁ Bd hml0 hP hK
  obtain ⟨rfl, hZ, hh⟩ := hP
  have hx := Bd.exec
  have hby := Bd.bytes
  have hml : c.maxLocals = 2 := hml0
  have hown : s.vm.findClass "java/lang/StringUTF16" = some m.cls := findClass_of_methodNamed Bd.named
  have hnm := (name_of_methodNamed Bd.named Bd.method).1
  have X0 : Stand p l e (⟨3, 0, 0, 40⟩ : Room) s m #[(.ref o0), (.int 2)] below meth c s₁ [] 0 0 := Stand.of_body Bd
  have e0 : s₁.heap = h0 := by rw [← hh, Bd.state]; rfl
  have N0 := Fr.nil n0
  have hret := Bd.returns
  have hlk := BodyLoose.notSynchronized Bd
  show own_Out p e below (fun o U' => ∃ v L, o = .returned v ∧ Q22c1n8i2 Z o0 k b0 b1 b2 b3 b4 b5 b6 b7 vf h0 n0 v U'.heap L ∧ FrameEnd s o U' L (⟨3, 0, 0, 40⟩ : Room).cells (⟨3, 0, 0, 40⟩ : Room).slots) (s₁.setTop (entryFrame m #[(.ref o0), (.int 2)] 2))
  refine own_of (fun t k => castTop (ef_22c1n8i2 m o0) k) ?_
  show own_Out p e below _ (s₁.setTop (mkF m 0 #[rv o0, iv 2] []))
  refine o_iloadN X0 hx hby d22_0 rfl (q := 1) rfl ?_
  refine o_aloadN X0 hx hby d22_1 rfl rfl (q := 2) rfl ?_
  obtain ⟨_, _, ⟨T1, L1, k1, n1⟩, -, X1, ⟨Lc1, hQ1, l1, y1, z1⟩, st1⟩ := Jvm.LawKit.callS X0 hx (y := (⟨"java/lang/StringUTF16", "checkIndex", "(I[B)V"⟩ : MethodName)) hown (mvT hZ (w_ hw 94 rfl)) (mvT hZ (w_ hw 95 rfl)) (mvT hZ (w_ hw 22 rfl)) (mvT hZ (w_ hw 96 rfl)) (by decide) (backOf (W := 0) (rm23c1n8i2 l Z a0 hw [] o0 k b0 b1 b2 b3 b4 b5 b6 b7 vf h0 n0 Z0 V S_f hvf) hZ (w_ hw 96 rfl) (w_ hw 22 rfl) (by decide) (by decide)) (g := (mkF m 2 #[rv o0, iv 2] [.ref o0, .int 2])) rfl (by rw [hml]; rfl) (argsL := [(.int 2), (.ref o0)]) (rest := []) (lenOf pd_6 rfl) rfl (by show 2 * 0 + _ ≤ _; exact Nat.le_of_eq rfl) (hb hby d22_2) (fun _ _ => ⟨rfl, e0, (by decide : 0 + 0 ≤ _), (by decide : 0 + 0 ≤ _)⟩)
  dsimp only [Pt.U, Pt.locs, Pt.cells, Pt.slots] at X1 l1 y1 z1 st1 hQ1
  subst l1 y1 z1
  obtain ⟨rfl, N1q, hh1⟩ := hQ1
  have N1 := Fr.app N0 N1q
  refine own_of st1 ?_
  show own_Out p e below _ (T1.setTop (mkF m 5 #[rv o0, iv 2] []))
  refine o_aloadN X1 hx hby d22_5 rfl rfl (q := 6) rfl ?_
  refine o_iloadN X1 hx hby d22_6 rfl (q := 7) rfl ?_
  obtain ⟨_, _, ⟨T2, L2, k2, n2⟩, -, X2, ⟨Lc2, hQ2, l2, y2, z2⟩, st2⟩ := Jvm.LawKit.callS X1 hx (y := (⟨"java/lang/StringUTF16", "getChar", "([BI)C"⟩ : MethodName)) hown (mvT hZ (w_ hw 88 rfl)) (mvT hZ (w_ hw 89 rfl)) (mvT hZ (w_ hw 22 rfl)) (mvT hZ (w_ hw 90 rfl)) (by decide) (backOf (W := 0) (rm21c1n8i2 l Z a0 hw [] o0 k b0 b1 b2 b3 b4 b5 b6 b7 h0 n0 Z0 V S_ad S_hi S_lo) hZ (w_ hw 90 rfl) (w_ hw 22 rfl) (by decide) (by decide)) (g := (mkF m 7 #[rv o0, iv 2] [.int 2, .ref o0])) rfl (by rw [hml]; rfl) (argsL := [(.ref o0), (.int 2)]) (rest := []) (lenOf pd_3 rfl) rfl (by show 2 * 0 + _ ≤ _; exact Nat.le_of_eq rfl) (hb hby d22_7) (fun _ _ => ⟨rfl, hh1, (by decide : 0 + 0 ≤ _), (by decide : 0 + 0 ≤ _)⟩)
  dsimp only [Pt.U, Pt.locs, Pt.cells, Pt.slots] at X2 l2 y2 z2 st2 hQ2
  subst l2 y2 z2
  obtain ⟨rfl, N2q, hh2⟩ := hQ2
  have N2 := Fr.app N1 N2q
  refine own_of st2 ?_
  show own_Out p e below _ (T2.setTop (mkF m 10 #[rv o0, iv 2] [.int (f_getCharc1n8i2 b0 b1 b2 b3 b4 b5 b6 b7)]))
  exact own_outN X2 hx hlk (t := .char) hret (by simp) (hb hby d22_10) (z' := ((f_getCharc1n8i2 b0 b1 b2 b3 b4 b5 b6 b7).toUInt32.toUInt16.toUInt32.toInt32)) rfl (Q := Q22c1n8i2 Z o0 k b0 b1 b2 b3 b4 b5 b6 b7 vf h0 n0) ⟨by simp only [f_u16charAtc1n8i2], N2, hh2⟩ (by decide) (by decide)
theorem ef_12c1n8i2 (m : MethodId) (x0 : Addr) : entryFrame m #[(.ref x0), (.int 2)] 2 = mkF m 0 #[.val (.ref x0), .val (.int 2)] [] := by first | (simp [entryFrame, mkF, argsToLocals, Value.category]; done) | rfl
def f_charAtc1n8i2 (b0 b1 b2 b3 b4 b5 b6 b7 cs : Int32) : Int32 := ((f_u16charAtc1n8i2 b0 b1 b2 b3 b4 b5 b6 b7).toUInt32.toUInt16.toUInt32.toInt32)
def Q12c1n8i2 (Z : State) (o0 ob : Addr) (k : ClassId) (b0 b1 b2 b3 b4 b5 b6 b7 cs : Int32) (vf : Value) (h0 : Heap) (n0 : Nat) (v : Option Value) (h : Heap) (L : List Loc) : Prop := v = some (.int (f_charAtc1n8i2 b0 b1 b2 b3 b4 b5 b6 b7 cs)) ∧ Fr n0 L ∧ h = h0
set_option maxRecDepth 65536 in
set_option maxHeartbeats 40000000 in
theorem rm12c1n8i2 (l : Launch) (Z : State) (a0 : Array Value) (hw : ∀ d ∈ tables_1, d.before a0 Z = true) (ws : List Jvm.Cond) (o0 ob : Addr) (k : ClassId) (b0 b1 b2 b3 b4 b5 b6 b7 cs : Int32) (vf : Value) (h0 : Heap) (n0 : Nat) (Z0 : n0 ≤ h0.size) (E : Exa Z h0 o0 "java/lang/String") (Fv : Fld Z h0 o0 "java/lang/String" "value" "[B" (.ref ob)) (Fc : Fld Z h0 o0 "java/lang/String" "coder" "B" (.int 1)) (V : Arv Z h0 ob k .byte (8 : Int32) [(.int b0), (.int b1), (.int b2), (.int b3), (.int b4), (.int b5), (.int b6), (.int b7)] (.int 0)) (S_cs : Sta Z h0 "java/lang/String" "COMPACT_STRINGS" "Z" (.int cs)) (hcs : ¬ (cs = (0 : Int32))) (S_f : Sta Z h0 "jdk/internal/util/Preconditions" "SIOOBE_FORMATTER" "Ljava/util/function/BiFunction;" vf) (hvf : vf.isRef = true) (S_ad : Sta Z h0 "java/lang/StringUTF16" "$assertionsDisabled" "Z" (.int 1)) (S_hi : Sta Z h0 "java/lang/StringUTF16" "HI_BYTE_SHIFT" "I" (.int 0)) (S_lo : Sta Z h0 "java/lang/StringUTF16" "LO_BYTE_SHIFT" "I" (.int 8)) :
    MetFree l (⟨"java/lang/String", "charAt", "(I)C"⟩ : MethodName) (head1 (Jvm.Cond.code (⟨"java/lang/String", "charAt", "(I)C"⟩ : MethodName) jdk_42_method_56_code 2 (some .char) :: ws) (⟨4, 0, 0, 53⟩ : Room)) (fun a U => a = #[(.ref o0), (.int 2)] ∧ Z.Warmed39 U.vm ∧ U.heap = h0) (fun _ _ _ _ _ => True) (fun _ U o U' => ∃ v L, o = .returned v ∧ Q12c1n8i2 Z o0 ob k b0 b1 b2 b3 b4 b5 b6 b7 cs vf h0 n0 v U'.heap L ∧ FrameEnd U o U' L (⟨4, 0, 0, 53⟩ : Room).cells (⟨4, 0, 0, 53⟩ : Room).slots) := by
  refine MetFree.of_bodySF (plainFor_of_name pn_1) hisR ?_
  intro p e s m args below meth c s₁ Bd hml0 hP hK
  obtain ⟨rfl, hZ, hh⟩ := hP
  have hx := Bd.exec
  have hby := Bd.bytes
  have hml : c.maxLocals = 2 := hml0
  have hown : s.vm.findClass "java/lang/String" = some m.cls := findClass_of_methodNamed Bd.named
  have hnm := (name_of_methodNamed Bd.named Bd.method).1
  have X0 : Stand p l e (⟨4, 0, 0, 53⟩ : Room) s m #[(.ref o0), (.int 2)] below meth c s₁ [] 0 0 := Stand.of_body Bd
  have e0 : s₁.heap = h0 := by rw [← hh, Bd.state]; rfl
  have N0 := Fr.nil n0
  have hret := Bd.returns
  have hlk := BodyLoose.notSynchronized Bd
  show own_Out p e below (fun o U' => ∃ v L, o = .returned v ∧ Q12c1n8i2 Z o0 ob k b0 b1 b2 b3 b4 b5 b6 b7 cs vf h0 n0 v U'.heap L ∧ FrameEnd s o U' L (⟨4, 0, 0, 53⟩ : Room).cells (⟨4, 0, 0, 53⟩ : Room).slots) (s₁.setTop (entryFrame m #[(.ref o0), (.int 2)] 2))
  refine own_of (fun t k => castTop (ef_12c1n8i2 m o0) k) ?_
  show own_Out p e below _ (s₁.setTop (mkF m 0 #[rv o0, iv 2] []))
  refine o_aloadN X0 hx hby d12_0 rfl rfl (q := 1) rfl ?_
  obtain ⟨cq1, kq1, q1a, q1b, q1c⟩ := isOf hZ e0 E
  obtain ⟨_, _, ⟨T1, L1, k1, n1⟩, -, X1, ⟨Lc1, hQ1, l1, y1, z1⟩, st1⟩ := X0.virtualBack hx (y := (⟨"java/lang/String", "isLatin1", "()Z"⟩ : MethodName)) (z := (⟨"java/lang/String", "isLatin1", "()Z"⟩ : MethodName)) hown (mvT hZ (w_ hw 55 rfl)) (mvT hZ (w_ hw 56 rfl)) (notFace_of_selects (args := #[]) (mvT hZ (w_ hw 58 rfl))) (mvT hZ (w_ hw 58 rfl)) (mvT hZ (w_ hw 57 rfl)) (by decide) (backOf (W := 0) (rm13c1n8 l Z a0 hw [] o0 ob k b0 b1 b2 b3 b4 b5 b6 b7 cs h0 n0 Z0 E Fv Fc V S_cs hcs) hZ (w_ hw 59 rfl) (w_ hw 8 rfl) (by decide) (by decide)) q1a q1c (g := (mkF m 1 #[rv o0, iv 2] [.ref o0])) rfl (by rw [hml]; rfl) (Steps.refl _) (argsL := []) (rest := []) (lenOf pd_2 rfl) rfl (by show 2 * 0 + _ ≤ _; exact Nat.le_of_eq rfl) (hb hby d12_1) (fun _ _ => ⟨rfl, e0, (by decide : 0 + 0 ≤ _), (by decide : 0 + 0 ≤ _)⟩)
  dsimp only [Pt.U, Pt.locs, Pt.cells, Pt.slots] at X1 l1 y1 z1 st1 hQ1
  subst l1 y1 z1
  obtain ⟨rfl, N1q, hh1⟩ := hQ1
  have N1 := Fr.app N0 N1q
  refine own_of (fun _ k => st1.trans k) ?_
  show own_Out p e below _ (T1.setTop (mkF m 4 #[rv o0, iv 2] [.int 0]))
  refine o_ifY X1 hx hby d12_4 ((if0 _ _).trans (teq (by decide : (0 : Int32) = (0 : Int32))).1) (by decide) (q := 16) (by decide) ?_
  refine o_aloadN X1 hx hby d12_16 rfl rfl (q := 17) rfl ?_
  refine o_getF X1 hx hZ hown hby (w_ hw 33 rfl) Via.refl hh1 Fv d12_17 (q := 20) rfl fun T2 X2 e2 => ?_
  refine o_iloadN X2 hx hby d12_20 rfl (q := 21) rfl ?_
  obtain ⟨_, _, ⟨T3, L3, k3, n3⟩, -, X3, ⟨Lc3, hQ3, l3, y3, z3⟩, st3⟩ := Jvm.LawKit.callS X2 hx (y := (⟨"java/lang/StringUTF16", "charAt", "([BI)C"⟩ : MethodName)) hown (mvT hZ (w_ hw 91 rfl)) (mvT hZ (w_ hw 92 rfl)) (mvT hZ (w_ hw 22 rfl)) (mvT hZ (w_ hw 93 rfl)) (by decide) (backOf (W := 0) (rm22c1n8i2 l Z a0 hw [] ob k b0 b1 b2 b3 b4 b5 b6 b7 vf h0 n0 Z0 V S_f hvf S_ad S_hi S_lo) hZ (w_ hw 93 rfl) (w_ hw 22 rfl) (by decide) (by decide)) (g := (mkF m 21 #[rv o0, iv 2] [.int 2, .ref ob])) rfl (by rw [hml]; rfl) (argsL := [(.ref ob), (.int 2)]) (rest := []) (lenOf pd_3 rfl) rfl (by show 2 * 0 + _ ≤ _; exact Nat.le_of_eq rfl) (hb hby d12_21) (fun _ _ => ⟨rfl, e2, (by decide : 0 + 0 ≤ _), (by decide : 0 + 0 ≤ _)⟩)
  dsimp only [Pt.U, Pt.locs, Pt.cells, Pt.slots] at X3 l3 y3 z3 st3 hQ3
  subst l3 y3 z3
  obtain ⟨rfl, N3q, hh3⟩ := hQ3
  have N3 := Fr.app N1 N3q
  refine own_of st3 ?_
  show own_Out p e below _ (T3.setTop (mkF m 24 #[rv o0, iv 2] [.int (f_u16charAtc1n8i2 b0 b1 b2 b3 b4 b5 b6 b7)]))
  exact own_outN X3 hx hlk (t := .char) hret (by simp) (hb hby d12_24) (z' := ((f_u16charAtc1n8i2 b0 b1 b2 b3 b4 b5 b6 b7).toUInt32.toUInt16.toUInt32.toInt32)) rfl (Q := Q12c1n8i2 Z o0 ob k b0 b1 b2 b3 b4 b5 b6 b7 cs vf h0 n0) ⟨by simp only [f_charAtc1n8i2, if_neg hcs], N3, hh3⟩ (by decide) (by decide)
theorem ef_23c1n8i3 (m : MethodId) (x1 : Addr) : entryFrame m #[(.int 3), (.ref x1)] 2 = mkF m 0 #[.val (.int 3), .val (.ref x1)] [] := by first | (simp [entryFrame, mkF, argsToLocals, Value.category]; done) | rfl
def Q23c1n8i3 (Z : State) (o1 : Addr) (k : ClassId) (b0 b1 b2 b3 b4 b5 b6 b7 : Int32) (vf : Value) (h0 : Heap) (n0 : Nat) (v : Option Value) (h : Heap) (L : List Loc) : Prop := v = none ∧ Fr n0 L ∧ h = h0
set_option maxRecDepth 65536 in
set_option maxHeartbeats 40000000 in
theorem rm23c1n8i3 (l : Launch) (Z : State) (a0 : Array Value) (hw : ∀ d ∈ tables_1, d.before a0 Z = true) (ws : List Jvm.Cond) (o1 : Addr) (k : ClassId) (b0 b1 b2 b3 b4 b5 b6 b7 : Int32) (vf : Value) (h0 : Heap) (n0 : Nat) (Z0 : n0 ≤ h0.size) (V : Arv Z h0 o1 k .byte (8 : Int32) [(.int b0), (.int b1), (.int b2), (.int b3), (.int b4), (.int b5), (.int b6), (.int b7)] (.int 0)) (S_f : Sta Z h0 "jdk/internal/util/Preconditions" "SIOOBE_FORMATTER" "Ljava/util/function/BiFunction;" vf) (hvf : vf.isRef = true) :
    MetFree l (⟨"java/lang/StringUTF16", "checkIndex", "(I[B)V"⟩ : MethodName) (head1 (Jvm.Cond.code (⟨"java/lang/StringUTF16", "checkIndex", "(I[B)V"⟩ : MethodName) jdk_52_method_91_code 2 none :: ws) (⟨2, 0, 0, 27⟩ : Room)) (fun a U => a = #[(.int 3), (.ref o1)] ∧ Z.Warmed39 U.vm ∧ U.heap = h0) (fun _ _ _ _ _ => True) (fun _ U o U' => ∃ v L, o = .returned v ∧ Q23c1n8i3 Z o1 k b0 b1 b2 b3 b4 b5 b6 b7 vf h0 n0 v U'.heap L ∧ FrameEnd U o U' L (⟨2, 0, 0, 27⟩ : Room).cells (⟨2, 0, 0, 27⟩ : Room).slots) := by
  refine MetFree.of_bodySF (plainFor_of_name pn_5) hisR ?_
  intro p e s m args below meth c s₁ Bd hml0 hP hK
  obtain ⟨rfl, hZ, hh⟩ := hP
  have hx := Bd.exec
  have hby := Bd.bytes
  have hml : c.maxLocals = 2 := hml0
  have hown : s.vm.findClass "java/lang/StringUTF16" = some m.cls := findClass_of_methodNamed Bd.named
  have hnm := (name_of_methodNamed Bd.named Bd.method).1
  have X0 : Stand p l e (⟨2, 0, 0, 27⟩ : Room) s m #[(.int 3), (.ref o1)] below meth c s₁ [] 0 0 := Stand.of_body Bd
  have e0 : s₁.heap = h0 := by rw [← hh, Bd.state]; rfl
  have N0 := Fr.nil n0
  have hret := Bd.returns
  have hlk := BodyLoose.notSynchronized Bd
  show own_Out p e below (fun o U' => ∃ v L, o = .returned v ∧ Q23c1n8i3 Z o1 k b0 b1 b2 b3 b4 b5 b6 b7 vf h0 n0 v U'.heap L ∧ FrameEnd s o U' L (⟨2, 0, 0, 27⟩ : Room).cells (⟨2, 0, 0, 27⟩ : Room).slots) (s₁.setTop (entryFrame m #[(.int 3), (.ref o1)] 2))
  refine own_of (fun t k => castTop (ef_23c1n8i3 m o1) k) ?_
  show own_Out p e below _ (s₁.setTop (mkF m 0 #[iv 3, rv o1] []))
  refine o_iloadN X0 hx hby d23_0 rfl (q := 1) rfl ?_
  refine o_aloadN X0 hx hby d23_1 rfl rfl (q := 2) rfl ?_
  obtain ⟨_, _, ⟨T1, L1, k1, n1⟩, -, X1, ⟨Lc1, hQ1, l1, y1, z1⟩, st1⟩ := Jvm.LawKit.callS X0 hx (y := (⟨"java/lang/StringUTF16", "length", "([B)I"⟩ : MethodName)) hown (mvT hZ (w_ hw 97 rfl)) (mvT hZ (w_ hw 98 rfl)) (mvT hZ (w_ hw 22 rfl)) (mvT hZ (w_ hw 99 rfl)) (by decide) (backOf (W := 1) (rm24c1n8 l Z a0 hw [] o1 k b0 b1 b2 b3 b4 b5 b6 b7 h0 n0 Z0 V) hZ (w_ hw 99 rfl) (w_ hw 22 rfl) (by decide) (by decide)) (g := (mkF m 2 #[iv 3, rv o1] [.ref o1, .int 3])) rfl (by rw [hml]; rfl) (argsL := [(.ref o1)]) (rest := [(.int 3)]) (lenOf pd_5 rfl) rfl (by show 2 * 0 + _ ≤ _; exact Nat.le_of_eq rfl) (hb hby d23_2) (fun _ _ => ⟨rfl, e0, (by decide : 0 + 0 ≤ _), (by decide : 0 + 0 ≤ _)⟩)
  dsimp only [Pt.U, Pt.locs, Pt.cells, Pt.slots] at X1 l1 y1 z1 st1 hQ1
  subst l1 y1 z1
  obtain ⟨rfl, N1q, hh1⟩ := hQ1
  have N1 := Fr.app N0 N1q
  refine own_of st1 ?_
  show own_Out p e below _ (T1.setTop (mkF m 5 #[iv 3, rv o1] [.int 4, .int 3]))
  obtain ⟨_, _, ⟨T2, L2, k2, n2⟩, -, X2, ⟨Lc2, hQ2, l2, y2, z2⟩, st2⟩ := Jvm.LawKit.callS X1 hx (y := (⟨"java/lang/String", "checkIndex", "(II)V"⟩ : MethodName)) hown (mvT hZ (w_ hw 100 rfl)) (mvT hZ (w_ hw 65 rfl)) (mvT hZ (w_ hw 8 rfl)) (mvT hZ (w_ hw 66 rfl)) (by decide) (backOf (W := 0) (rm15i3n4 l Z a0 hw [] vf h0 n0 Z0 S_f hvf) hZ (w_ hw 66 rfl) (w_ hw 8 rfl) (by decide) (by decide)) (g := (mkF m 5 #[iv 3, rv o1] [.int 4, .int 3])) rfl (by rw [hml]; rfl) (argsL := [(.int 3), (.int 4)]) (rest := []) (lenOf pd_1 rfl) rfl (by show 2 * 0 + _ ≤ _; exact Nat.le_of_eq rfl) (hb hby d23_5) (fun _ _ => ⟨rfl, hh1, (by decide : 0 + 0 ≤ _), (by decide : 0 + 0 ≤ _)⟩)
  dsimp only [Pt.U, Pt.locs, Pt.cells, Pt.slots] at X2 l2 y2 z2 st2 hQ2
  subst l2 y2 z2
  obtain ⟨rfl, N2q, hh2⟩ := hQ2
  have N2 := Fr.app N1 N2q
  refine own_of st2 ?_
  show own_Out p e below _ (T2.setTop (mkF m 8 #[iv 3, rv o1] []))
  exact own_outV X2 hx hlk hret (hb hby d23_8) (Q := Q23c1n8i3 Z o1 k b0 b1 b2 b3 b4 b5 b6 b7 vf h0 n0) ⟨rfl, N2, hh2⟩ (by decide) (by decide)
theorem ef_21c1n8i3 (m : MethodId) (x0 : Addr) : entryFrame m #[(.ref x0), (.int 3)] 2 = mkF m 0 #[.val (.ref x0), .val (.int 3)] [] := by first | (simp [entryFrame, mkF, argsToLocals, Value.category]; done) | rfl
def f_getCharc1n8i3 (b0 b1 b2 b3 b4 b5 b6 b7 : Int32) : Int32 := (((((b6 &&& (255 : Int32)) <<< ((0 : Int32) &&& 31)) ||| ((b7 &&& (255 : Int32)) <<< ((8 : Int32) &&& 31))).toUInt32.toUInt16.toUInt32.toInt32).toUInt32.toUInt16.toUInt32.toInt32)
def Q21c1n8i3 (Z : State) (o0 : Addr) (k : ClassId) (b0 b1 b2 b3 b4 b5 b6 b7 : Int32) (h0 : Heap) (n0 : Nat) (v : Option Value) (h : Heap) (L : List Loc) : Prop := v = some (.int (f_getCharc1n8i3 b0 b1 b2 b3 b4 b5 b6 b7)) ∧ Fr n0 L ∧ h = h0
set_option maxRecDepth 65536 in
set_option maxHeartbeats 40000000 in
theorem rm21c1n8i3 (l : Launch) (Z : State) (a0 : Array Value) (hw : ∀ d ∈ tables_1, d.before a0 Z = true) (ws : List Jvm.Cond) (o0 : Addr) (k : ClassId) (b0 b1 b2 b3 b4 b5 b6 b7 : Int32) (h0 : Heap) (n0 : Nat) (Z0 : n0 ≤ h0.size) (V : Arv Z h0 o0 k .byte (8 : Int32) [(.int b0), (.int b1), (.int b2), (.int b3), (.int b4), (.int b5), (.int b6), (.int b7)] (.int 0)) (S_ad : Sta Z h0 "java/lang/StringUTF16" "$assertionsDisabled" "Z" (.int 1)) (S_hi : Sta Z h0 "java/lang/StringUTF16" "HI_BYTE_SHIFT" "I" (.int 0)) (S_lo : Sta Z h0 "java/lang/StringUTF16" "LO_BYTE_SHIFT" "I" (.int 8)) :
    MetFree l (⟨"java/lang/StringUTF16", "getChar", "([BI)C"⟩ : MethodName) (head1 (Jvm.Cond.code (⟨"java/lang/StringUTF16", "getChar", "([BI)C"⟩ : MethodName) jdk_52_method_5_code 2 (some .char) :: ws) (⟨0, 0, 0, 0⟩ : Room)) (fun a U => a = #[(.ref o0), (.int 3)] ∧ Z.Warmed39 U.vm ∧ U.heap = h0) (fun _ _ _ _ _ => True) (fun _ U o U' => ∃ v L, o = .returned v ∧ Q21c1n8i3 Z o0 k b0 b1 b2 b3 b4 b5 b6 b7 h0 n0 v U'.heap L ∧ FrameEnd U o U' L (⟨0, 0, 0, 0⟩ : Room).cells (⟨0, 0, 0, 0⟩ : Room).slots) := by
  refine MetFree.of_bodySF (plainFor_of_name pn_5) hisR ?_
  intro p e s m args below meth c s₁ Bd hml0 hP hK
  obtain ⟨rfl, hZ, hh⟩ := hP
  have hx := Bd.exec
  have hby := Bd.bytes
  have hml : c.maxLocals = 2 := hml0
  have hown : s.vm.findClass "java/lang/StringUTF16" = some m.cls := findClass_of_methodNamed Bd.named
  have hnm := (name_of_methodNamed Bd.named Bd.method).1
  have X0 : Stand p l e (⟨0, 0, 0, 0⟩ : Room) s m #[(.ref o0), (.int 3)] below meth c s₁ [] 0 0 := Stand.of_body Bd
  have e0 : s₁.heap = h0 := by rw [← hh, Bd.state]; rfl
  have N0 := Fr.nil n0
  have hret := Bd.returns
  have hlk := BodyLoose.notSynchronized Bd
  show own_Out p e below (fun o U' => ∃ v L, o = .returned v ∧ Q21c1n8i3 Z o0 k b0 b1 b2 b3 b4 b5 b6 b7 h0 n0 v U'.heap L ∧ FrameEnd s o U' L (⟨0, 0, 0, 0⟩ : Room).cells (⟨0, 0, 0, 0⟩ : Room).slots) (s₁.setTop (entryFrame m #[(.ref o0), (.int 3)] 2))
  refine own_of (fun t k => castTop (ef_21c1n8i3 m o0) k) ?_
  show own_Out p e below _ (s₁.setTop (mkF m 0 #[rv o0, iv 3] []))
  obtain ⟨T1, X1, e1, st1⟩ := getS2 X0 hx hZ hown (host := "") (Or.inl (w_ hw 85 rfl)) Via.refl e0 S_ad (g := (mkF m 0 #[rv o0, iv 3] [])) rfl (hb hby d21_0)
  refine own_of st1 ?_
  show own_Out p e below _ (T1.setTop (mkF m 3 #[rv o0, iv 3] [.int 1]))
  refine o_ifY X1 hx hby d21_3 ((if0 _ _).trans (feq (by decide : ¬ ((1 : Int32) = (0 : Int32)))).2) (by decide) (q := 28) (by decide) ?_
  refine o_iloadN X1 hx hby d21_28 rfl (q := 29) rfl ?_
  refine o_iconst X1 hx hby d21_29 (z := 1) rfl (q := 30) rfl ?_
  refine o_ishl X1 hx hby d21_30 (z := 6) rfl (q := 31) rfl ?_
  refine o_istoreN X1 hx hby d21_31 (l' := #[rv o0, iv 6]) rfl (q := 32) rfl ?_
  refine o_aloadN X1 hx hby d21_32 rfl rfl (q := 33) rfl ?_
  refine o_iloadN X1 hx hby d21_33 rfl (q := 34) rfl ?_
  refine o_iinc X1 hx hby d21_34 rfl (l' := #[rv o0, iv 7]) rfl (q := 37) rfl ?_
  refine o_baV X1 hx hby hZ e1 V ⟨by decide, by decide⟩ (v := .int b6) rfl d21_37 (q := 38) rfl ?_
  refine o_sipush X1 hx hby d21_38 (z := 255) rfl (q := 41) rfl ?_
  refine o_iand X1 hx hby d21_41 rfl (q := 42) rfl ?_
  obtain ⟨T2, X2, e2, st2⟩ := getS2 X1 hx hZ hown (host := "") (Or.inl (w_ hw 86 rfl)) Via.refl e1 S_hi (g := (mkF m 42 #[rv o0, iv 7] [.int (b6 &&& (255 : Int32))])) rfl (hb hby d21_42)
  refine own_of st2 ?_
  show own_Out p e below _ (T2.setTop (mkF m 45 #[rv o0, iv 7] [.int 0, .int (b6 &&& (255 : Int32))]))
  refine o_ishl X2 hx hby d21_45 rfl (q := 46) rfl ?_
  refine o_aloadN X2 hx hby d21_46 rfl rfl (q := 47) rfl ?_
  refine o_iloadN X2 hx hby d21_47 rfl (q := 48) rfl ?_
  refine o_baV X2 hx hby hZ e2 V ⟨by decide, by decide⟩ (v := .int b7) rfl d21_48 (q := 49) rfl ?_
  refine o_sipush X2 hx hby d21_49 (z := 255) rfl (q := 52) rfl ?_
  refine o_iand X2 hx hby d21_52 rfl (q := 53) rfl ?_
  obtain ⟨T3, X3, e3, st3⟩ := getS2 X2 hx hZ hown (host := "") (Or.inl (w_ hw 87 rfl)) Via.refl e2 S_lo (g := (mkF m 53 #[rv o0, iv 7] [.int (b7 &&& (255 : Int32)), .int ((b6 &&& (255 : Int32)) <<< ((0 : Int32) &&& 31))])) rfl (hb hby d21_53)
  refine own_of st3 ?_
  show own_Out p e below _ (T3.setTop (mkF m 56 #[rv o0, iv 7] [.int 8, .int (b7 &&& (255 : Int32)), .int ((b6 &&& (255 : Int32)) <<< ((0 : Int32) &&& 31))]))
  refine o_ishl X3 hx hby d21_56 rfl (q := 57) rfl ?_
  refine o_ior X3 hx hby d21_57 rfl (q := 58) rfl ?_
  refine o_i2c X3 hx hby d21_58 rfl (q := 59) rfl ?_
  exact own_outN X3 hx hlk (t := .char) hret (by simp) (hb hby d21_59) (z' := (((((b6 &&& (255 : Int32)) <<< ((0 : Int32) &&& 31)) ||| ((b7 &&& (255 : Int32)) <<< ((8 : Int32) &&& 31))).toUInt32.toUInt16.toUInt32.toInt32).toUInt32.toUInt16.toUInt32.toInt32)) rfl (Q := Q21c1n8i3 Z o0 k b0 b1 b2 b3 b4 b5 b6 b7 h0 n0) ⟨by simp only [f_getCharc1n8i3], N0, e3⟩ (by decide) (by decide)
theorem ef_22c1n8i3 (m : MethodId) (x0 : Addr) : entryFrame m #[(.ref x0), (.int 3)] 2 = mkF m 0 #[.val (.ref x0), .val (.int 3)] [] := by first | (simp [entryFrame, mkF, argsToLocals, Value.category]; done) | rfl
def f_u16charAtc1n8i3 (b0 b1 b2 b3 b4 b5 b6 b7 : Int32) : Int32 := ((f_getCharc1n8i3 b0 b1 b2 b3 b4 b5 b6 b7).toUInt32.toUInt16.toUInt32.toInt32)
def Q22c1n8i3 (Z : State) (o0 : Addr) (k : ClassId) (b0 b1 b2 b3 b4 b5 b6 b7 : Int32) (vf : Value) (h0 : Heap) (n0 : Nat) (v : Option Value) (h : Heap) (L : List Loc) : Prop := v = some (.int (f_u16charAtc1n8i3 b0 b1 b2 b3 b4 b5 b6 b7)) ∧ Fr n0 L ∧ h = h0
set_option maxRecDepth 65536 in
set_option maxHeartbeats 40000000 in
theorem rm22c1n8i3 (l : Launch) (Z : State) (a0 : Array Value) (hw : ∀ d ∈ tables_1, d.before a0 Z = true) (ws : List Jvm.Cond) (o0 : Addr) (k : ClassId) (b0 b1 b2 b3 b4 b5 b6 b7 : Int32) (vf : Value) (h0 : Heap) (n0 : Nat) (Z0 : n0 ≤ h0.size) (V : Arv Z h0 o0 k .byte (8 : Int32) [(.int b0), (.int b1), (.int b2), (.int b3), (.int b4), (.int b5), (.int b6), (.int b7)] (.int 0)) (S_f : Sta Z h0 "jdk/internal/util/Preconditions" "SIOOBE_FORMATTER" "Ljava/util/function/BiFunction;" vf) (hvf : vf.isRef = true) (S_ad : Sta Z h0 "java/lang/StringUTF16" "$assertionsDisabled" "Z" (.int 1)) (S_hi : Sta Z h0 "java/lang/StringUTF16" "HI_BYTE_SHIFT" "I" (.int 0)) (S_lo : Sta Z h0 "java/lang/StringUTF16" "LO_BYTE_SHIFT" "I" (.int 8)) :
    MetFree l (⟨"java/lang/StringUTF16", "charAt", "([BI)C"⟩ : MethodName) (head1 (Jvm.Cond.code (⟨"java/lang/StringUTF16", "charAt", "([BI)C"⟩ : MethodName) jdk_52_method_83_code 2 (some .char) :: ws) (⟨3, 0, 0, 40⟩ : Room)) (fun a U => a = #[(.ref o0), (.int 3)] ∧ Z.Warmed39 U.vm ∧ U.heap = h0) (fun _ _ _ _ _ => True) (fun _ U o U' => ∃ v L, o = .returned v ∧ Q22c1n8i3 Z o0 k b0 b1 b2 b3 b4 b5 b6 b7 vf h0 n0 v U'.heap L ∧ FrameEnd U o U' L (⟨3, 0, 0, 40⟩ : Room).cells (⟨3, 0, 0, 40⟩ : Room).slots) := by
  refine MetFree.of_bodySF (plainFor_of_name pn_5) hisR ?_
  intro p e s m args below meth c s₁ Bd hml0 hP hK
  obtain ⟨rfl, hZ, hh⟩ := hP
  have hx := Bd.exec
  have hby := Bd.bytes
  have hml : c.maxLocals = 2 := hml0
  have hown : s.vm.findClass "java/lang/StringUTF16" = some m.cls := findClass_of_methodNamed Bd.named
  have hnm := (name_of_methodNamed Bd.named Bd.method).1
  have X0 : Stand p l e (⟨3, 0, 0, 40⟩ : Room) s m #[(.ref o0), (.int 3)] below meth c s₁ [] 0 0 := Stand.of_body Bd
  have e0 : s₁.heap = h0 := by rw [← hh, Bd.state]; rfl
  have N0 := Fr.nil n0
  have hret := Bd.returns
  have hlk := BodyLoose.notSynchronized Bd
  show own_Out p e below (fun o U' => ∃ v L, o = .returned v ∧ Q22c1n8i3 Z o0 k b0 b1 b2 b3 b4 b5 b6 b7 vf h0 n0 v U'.heap L ∧ FrameEnd s o U' L (⟨3, 0, 0, 40⟩ : Room).cells (⟨3, 0, 0, 40⟩ : Room).slots) (s₁.setTop (entryFrame m #[(.ref o0), (.int 3)] 2))
  refine own_of (fun t k => castTop (ef_22c1n8i3 m o0) k) ?_
  show own_Out p e below _ (s₁.setTop (mkF m 0 #[rv o0, iv 3] []))
  refine o_iloadN X0 hx hby d22_0 rfl (q := 1) rfl ?_
  refine o_aloadN X0 hx hby d22_1 rfl rfl (q := 2) rfl ?_
  obtain ⟨_, _, ⟨T1, L1, k1, n1⟩, -, X1, ⟨Lc1, hQ1, l1, y1, z1⟩, st1⟩ := Jvm.LawKit.callS X0 hx (y := (⟨"java/lang/StringUTF16", "checkIndex", "(I[B)V"⟩ : MethodName)) hown (mvT hZ (w_ hw 94 rfl)) (mvT hZ (w_ hw 95 rfl)) (mvT hZ (w_ hw 22 rfl)) (mvT hZ (w_ hw 96 rfl)) (by decide) (backOf (W := 0) (rm23c1n8i3 l Z a0 hw [] o0 k b0 b1 b2 b3 b4 b5 b6 b7 vf h0 n0 Z0 V S_f hvf) hZ (w_ hw 96 rfl) (w_ hw 22 rfl) (by decide) (by decide)) (g := (mkF m 2 #[rv o0, iv 3] [.ref o0, .int 3])) rfl (by rw [hml]; rfl) (argsL := [(.int 3), (.ref o0)]) (rest := []) (lenOf pd_6 rfl) rfl (by show 2 * 0 + _ ≤ _; exact Nat.le_of_eq rfl) (hb hby d22_2) (fun _ _ => ⟨rfl, e0, (by decide : 0 + 0 ≤ _), (by decide : 0 + 0 ≤ _)⟩)
  dsimp only [Pt.U, Pt.locs, Pt.cells, Pt.slots] at X1 l1 y1 z1 st1 hQ1
  subst l1 y1 z1
  obtain ⟨rfl, N1q, hh1⟩ := hQ1
  have N1 := Fr.app N0 N1q
  refine own_of st1 ?_
  show own_Out p e below _ (T1.setTop (mkF m 5 #[rv o0, iv 3] []))
  refine o_aloadN X1 hx hby d22_5 rfl rfl (q := 6) rfl ?_
  refine o_iloadN X1 hx hby d22_6 rfl (q := 7) rfl ?_
  obtain ⟨_, _, ⟨T2, L2, k2, n2⟩, -, X2, ⟨Lc2, hQ2, l2, y2, z2⟩, st2⟩ := Jvm.LawKit.callS X1 hx (y := (⟨"java/lang/StringUTF16", "getChar", "([BI)C"⟩ : MethodName)) hown (mvT hZ (w_ hw 88 rfl)) (mvT hZ (w_ hw 89 rfl)) (mvT hZ (w_ hw 22 rfl)) (mvT hZ (w_ hw 90 rfl)) (by decide) (backOf (W := 0) (rm21c1n8i3 l Z a0 hw [] o0 k b0 b1 b2 b3 b4 b5 b6 b7 h0 n0 Z0 V S_ad S_hi S_lo) hZ (w_ hw 90 rfl) (w_ hw 22 rfl) (by decide) (by decide)) (g := (mkF m 7 #[rv o0, iv 3] [.int 3, .ref o0])) rfl (by rw [hml]; rfl) (argsL := [(.ref o0), (.int 3)]) (rest := []) (lenOf pd_3 rfl) rfl (by show 2 * 0 + _ ≤ _; exact Nat.le_of_eq rfl) (hb hby d22_7) (fun _ _ => ⟨rfl, hh1, (by decide : 0 + 0 ≤ _), (by decide : 0 + 0 ≤ _)⟩)
  dsimp only [Pt.U, Pt.locs, Pt.cells, Pt.slots] at X2 l2 y2 z2 st2 hQ2
  subst l2 y2 z2
  obtain ⟨rfl, N2q, hh2⟩ := hQ2
  have N2 := Fr.app N1 N2q
  refine own_of st2 ?_
  show own_Out p e below _ (T2.setTop (mkF m 10 #[rv o0, iv 3] [.int (f_getCharc1n8i3 b0 b1 b2 b3 b4 b5 b6 b7)]))
  exact own_outN X2 hx hlk (t := .char) hret (by simp) (hb hby d22_10) (z' := ((f_getCharc1n8i3 b0 b1 b2 b3 b4 b5 b6 b7).toUInt32.toUInt16.toUInt32.toInt32)) rfl (Q := Q22c1n8i3 Z o0 k b0 b1 b2 b3 b4 b5 b6 b7 vf h0 n0) ⟨by simp only [f_u16charAtc1n8i3], N2, hh2⟩ (by decide) (by decide)
theorem ef_12c1n8i3 (m : MethodId) (x0 : Addr) : entryFrame m #[(.ref x0), (.int 3)] 2 = mkF m 0 #[.val (.ref x0), .val (.int 3)] [] := by first | (simp [entryFrame, mkF, argsToLocals, Value.category]; done) | rfl
def f_charAtc1n8i3 (b0 b1 b2 b3 b4 b5 b6 b7 cs : Int32) : Int32 := ((f_u16charAtc1n8i3 b0 b1 b2 b3 b4 b5 b6 b7).toUInt32.toUInt16.toUInt32.toInt32)
def Q12c1n8i3 (Z : State) (o0 ob : Addr) (k : ClassId) (b0 b1 b2 b3 b4 b5 b6 b7 cs : Int32) (vf : Value) (h0 : Heap) (n0 : Nat) (v : Option Value) (h : Heap) (L : List Loc) : Prop := v = some (.int (f_charAtc1n8i3 b0 b1 b2 b3 b4 b5 b6 b7 cs)) ∧ Fr n0 L ∧ h = h0
set_option maxRecDepth 65536 in
set_option maxHeartbeats 40000000 in
theorem rm12c1n8i3 (l : Launch) (Z : State) (a0 : Array Value) (hw : ∀ d ∈ tables_1, d.before a0 Z = true) (ws : List Jvm.Cond) (o0 ob : Addr) (k : ClassId) (b0 b1 b2 b3 b4 b5 b6 b7 cs : Int32) (vf : Value) (h0 : Heap) (n0 : Nat) (Z0 : n0 ≤ h0.size) (E : Exa Z h0 o0 "java/lang/String") (Fv : Fld Z h0 o0 "java/lang/String" "value" "[B" (.ref ob)) (Fc : Fld Z h0 o0 "java/lang/String" "coder" "B" (.int 1)) (V : Arv Z h0 ob k .byte (8 : Int32) [(.int b0), (.int b1), (.int b2), (.int b3), (.int b4), (.int b5), (.int b6), (.int b7)] (.int 0)) (S_cs : Sta Z h0 "java/lang/String" "COMPACT_STRINGS" "Z" (.int cs)) (hcs : ¬ (cs = (0 : Int32))) (S_f : Sta Z h0 "jdk/internal/util/Preconditions" "SIOOBE_FORMATTER" "Ljava/util/function/BiFunction;" vf) (hvf : vf.isRef = true) (S_ad : Sta Z h0 "java/lang/StringUTF16" "$assertionsDisabled" "Z" (.int 1)) (S_hi : Sta Z h0 "java/lang/StringUTF16" "HI_BYTE_SHIFT" "I" (.int 0)) (S_lo : Sta Z h0 "java/lang/StringUTF16" "LO_BYTE_SHIFT" "I" (.int 8)) :
    MetFree l (⟨"java/lang/String", "charAt", "(I)C"⟩ : MethodName) (head1 (Jvm.Cond.code (⟨"java/lang/String", "charAt", "(I)C"⟩ : MethodName) jdk_42_method_56_code 2 (some .char) :: ws) (⟨4, 0, 0, 53⟩ : Room)) (fun a U => a = #[(.ref o0), (.int 3)] ∧ Z.Warmed39 U.vm ∧ U.heap = h0) (fun _ _ _ _ _ => True) (fun _ U o U' => ∃ v L, o = .returned v ∧ Q12c1n8i3 Z o0 ob k b0 b1 b2 b3 b4 b5 b6 b7 cs vf h0 n0 v U'.heap L ∧ FrameEnd U o U' L (⟨4, 0, 0, 53⟩ : Room).cells (⟨4, 0, 0, 53⟩ : Room).slots) := by
  refine MetFree.of_bodySF (plainFor_of_name pn_1) hisR ?_
  intro p e s m args below meth c s₁ Bd hml0 hP hK
  obtain ⟨rfl, hZ, hh⟩ := hP
  have hx := Bd.exec
  have hby := Bd.bytes
  have hml : c.maxLocals = 2 := hml0
  have hown : s.vm.findClass "java/lang/String" = some m.cls := findClass_of_methodNamed Bd.named
  have hnm := (name_of_methodNamed Bd.named Bd.method).1
  have X0 : Stand p l e (⟨4, 0, 0, 53⟩ : Room) s m #[(.ref o0), (.int 3)] below meth c s₁ [] 0 0 := Stand.of_body Bd
  have e0 : s₁.heap = h0 := by rw [← hh, Bd.state]; rfl
  have N0 := Fr.nil n0
  have hret := Bd.returns
  have hlk := BodyLoose.notSynchronized Bd
  show own_Out p e below (fun o U' => ∃ v L, o = .returned v ∧ Q12c1n8i3 Z o0 ob k b0 b1 b2 b3 b4 b5 b6 b7 cs vf h0 n0 v U'.heap L ∧ FrameEnd s o U' L (⟨4, 0, 0, 53⟩ : Room).cells (⟨4, 0, 0, 53⟩ : Room).slots) (s₁.setTop (entryFrame m #[(.ref o0), (.int 3)] 2))
  refine own_of (fun t k => castTop (ef_12c1n8i3 m o0) k) ?_
  show own_Out p e below _ (s₁.setTop (mkF m 0 #[rv o0, iv 3] []))
  refine o_aloadN X0 hx hby d12_0 rfl rfl (q := 1) rfl ?_
  obtain ⟨cq1, kq1, q1a, q1b, q1c⟩ := isOf hZ e0 E
  obtain ⟨_, _, ⟨T1, L1, k1, n1⟩, -, X1, ⟨Lc1, hQ1, l1, y1, z1⟩, st1⟩ := X0.virtualBack hx (y := (⟨"java/lang/String", "isLatin1", "()Z"⟩ : MethodName)) (z := (⟨"java/lang/String", "isLatin1", "()Z"⟩ : MethodName)) hown (mvT hZ (w_ hw 55 rfl)) (mvT hZ (w_ hw 56 rfl)) (notFace_of_selects (args := #[]) (mvT hZ (w_ hw 58 rfl))) (mvT hZ (w_ hw 58 rfl)) (mvT hZ (w_ hw 57 rfl)) (by decide) (backOf (W := 0) (rm13c1n8 l Z a0 hw [] o0 ob k b0 b1 b2 b3 b4 b5 b6 b7 cs h0 n0 Z0 E Fv Fc V S_cs hcs) hZ (w_ hw 59 rfl) (w_ hw 8 rfl) (by decide) (by decide)) q1a q1c (g := (mkF m 1 #[rv o0, iv 3] [.ref o0])) rfl (by rw [hml]; rfl) (Steps.refl _) (argsL := []) (rest := []) (lenOf pd_2 rfl) rfl (by show 2 * 0 + _ ≤ _; exact Nat.le_of_eq rfl) (hb hby d12_1) (fun _ _ => ⟨rfl, e0, (by decide : 0 + 0 ≤ _), (by decide : 0 + 0 ≤ _)⟩)
  dsimp only [Pt.U, Pt.locs, Pt.cells, Pt.slots] at X1 l1 y1 z1 st1 hQ1
  subst l1 y1 z1
  obtain ⟨rfl, N1q, hh1⟩ := hQ1
  have N1 := Fr.app N0 N1q
  refine own_of (fun _ k => st1.trans k) ?_
  show own_Out p e below _ (T1.setTop (mkF m 4 #[rv o0, iv 3] [.int 0]))
  refine o_ifY X1 hx hby d12_4 ((if0 _ _).trans (teq (by decide : (0 : Int32) = (0 : Int32))).1) (by decide) (q := 16) (by decide) ?_
  refine o_aloadN X1 hx hby d12_16 rfl rfl (q := 17) rfl ?_
  refine o_getF X1 hx hZ hown hby (w_ hw 33 rfl) Via.refl hh1 Fv d12_17 (q := 20) rfl fun T2 X2 e2 => ?_
  refine o_iloadN X2 hx hby d12_20 rfl (q := 21) rfl ?_
  obtain ⟨_, _, ⟨T3, L3, k3, n3⟩, -, X3, ⟨Lc3, hQ3, l3, y3, z3⟩, st3⟩ := Jvm.LawKit.callS X2 hx (y := (⟨"java/lang/StringUTF16", "charAt", "([BI)C"⟩ : MethodName)) hown (mvT hZ (w_ hw 91 rfl)) (mvT hZ (w_ hw 92 rfl)) (mvT hZ (w_ hw 22 rfl)) (mvT hZ (w_ hw 93 rfl)) (by decide) (backOf (W := 0) (rm22c1n8i3 l Z a0 hw [] ob k b0 b1 b2 b3 b4 b5 b6 b7 vf h0 n0 Z0 V S_f hvf S_ad S_hi S_lo) hZ (w_ hw 93 rfl) (w_ hw 22 rfl) (by decide) (by decide)) (g := (mkF m 21 #[rv o0, iv 3] [.int 3, .ref ob])) rfl (by rw [hml]; rfl) (argsL := [(.ref ob), (.int 3)]) (rest := []) (lenOf pd_3 rfl) rfl (by show 2 * 0 + _ ≤ _; exact Nat.le_of_eq rfl) (hb hby d12_21) (fun _ _ => ⟨rfl, e2, (by decide : 0 + 0 ≤ _), (by decide : 0 + 0 ≤ _)⟩)
  dsimp only [Pt.U, Pt.locs, Pt.cells, Pt.slots] at X3 l3 y3 z3 st3 hQ3
  subst l3 y3 z3
  obtain ⟨rfl, N3q, hh3⟩ := hQ3
  have N3 := Fr.app N1 N3q
  refine own_of st3 ?_
  show own_Out p e below _ (T3.setTop (mkF m 24 #[rv o0, iv 3] [.int (f_u16charAtc1n8i3 b0 b1 b2 b3 b4 b5 b6 b7)]))
  exact own_outN X3 hx hlk (t := .char) hret (by simp) (hb hby d12_24) (z' := ((f_u16charAtc1n8i3 b0 b1 b2 b3 b4 b5 b6 b7).toUInt32.toUInt16.toUInt32.toInt32)) rfl (Q := Q12c1n8i3 Z o0 ob k b0 b1 b2 b3 b4 b5 b6 b7 cs vf h0 n0) ⟨by simp only [f_charAtc1n8i3, if_neg hcs], N3, hh3⟩ (by decide) (by decide)
theorem ef_11c1n8x00 (m : MethodId) (x0 : Addr) : entryFrame m #[(.ref x0), (.int 0), (.int 0)] 5 = mkF m 0 #[.val (.ref x0), .val (.int 0), .val (.int 0), .unset, .unset] [] := by first | (simp [entryFrame, mkF, argsToLocals, Value.category]; done) | rfl
def fhc1n8x00 (b0 b1 b2 b3 b4 b5 b6 b7 cs : Int32) : Int32 := (1 : Int32)
def Q11c1n8x00 (Z : State) (o0 ob : Addr) (k : ClassId) (b0 b1 b2 b3 b4 b5 b6 b7 cs : Int32) (vf : Value) (h0 : Heap) (n0 : Nat) (v : Option Value) (h : Heap) (L : List Loc) : Prop := v = some (.int (fhc1n8x00 b0 b1 b2 b3 b4 b5 b6 b7 cs)) ∧ Fr n0 L ∧ h = h0
set_option maxRecDepth 65536 in
set_option maxHeartbeats 40000000 in
theorem rm11c1n8x00 (l : Launch) (Z : State) (a0 : Array Value) (hw : ∀ d ∈ tables_1, d.before a0 Z = true) (ws : List Jvm.Cond) (o0 ob : Addr) (k : ClassId) (b0 b1 b2 b3 b4 b5 b6 b7 cs : Int32) (vf : Value) (h0 : Heap) (n0 : Nat) (Z0 : n0 ≤ h0.size) (E : Exa Z h0 o0 "java/lang/String") (Fv : Fld Z h0 o0 "java/lang/String" "value" "[B" (.ref ob)) (Fc : Fld Z h0 o0 "java/lang/String" "coder" "B" (.int 1)) (V : Arv Z h0 ob k .byte (8 : Int32) [(.int b0), (.int b1), (.int b2), (.int b3), (.int b4), (.int b5), (.int b6), (.int b7)] (.int 0)) (S_cs : Sta Z h0 "java/lang/String" "COMPACT_STRINGS" "Z" (.int cs)) (hcs : ¬ (cs = (0 : Int32))) (S_f : Sta Z h0 "jdk/internal/util/Preconditions" "SIOOBE_FORMATTER" "Ljava/util/function/BiFunction;" vf) (hvf : vf.isRef = true) (S_ad : Sta Z h0 "java/lang/StringUTF16" "$assertionsDisabled" "Z" (.int 1)) (S_hi : Sta Z h0 "java/lang/StringUTF16" "HI_BYTE_SHIFT" "I" (.int 0)) (S_lo : Sta Z h0 "java/lang/StringUTF16" "LO_BYTE_SHIFT" "I" (.int 8)) :
    MetFree l (⟨"com/example/fides/fides/ledger/Position", "hasOnlyAsciiDigits", "(Ljava/lang/String;II)Z"⟩ : MethodName) (head1 (Jvm.Cond.code (⟨"com/example/fides/fides/ledger/Position", "hasOnlyAsciiDigits", "(Ljava/lang/String;II)Z"⟩ : MethodName) prog_28_method_5_code 5 (some .boolean) :: ws) (⟨5, 0, 0, 66⟩ : Room)) (fun a U => a = #[(.ref o0), (.int 0), (.int 0)] ∧ Z.Warmed39 U.vm ∧ U.heap = h0) (fun _ _ _ _ _ => True) (fun _ U o U' => ∃ v L, o = .returned v ∧ Q11c1n8x00 Z o0 ob k b0 b1 b2 b3 b4 b5 b6 b7 cs vf h0 n0 v U'.heap L ∧ FrameEnd U o U' L (⟨5, 0, 0, 66⟩ : Room).cells (⟨5, 0, 0, 66⟩ : Room).slots) := by
  refine MetFree.of_bodySF (plainFor_of_name pn_4) hisR ?_
  intro p e s m args below meth c s₁ Bd hml0 hP hK
  obtain ⟨rfl, hZ, hh⟩ := hP
  have hx := Bd.exec
  have hby := Bd.bytes
  have hml : c.maxLocals = 5 := hml0
  have hown : s.vm.findClass "com/example/fides/fides/ledger/Position" = some m.cls := findClass_of_methodNamed Bd.named
  have hnm := (name_of_methodNamed Bd.named Bd.method).1
  have X0 : Stand p l e (⟨5, 0, 0, 66⟩ : Room) s m #[(.ref o0), (.int 0), (.int 0)] below meth c s₁ [] 0 0 := Stand.of_body Bd
  have e0 : s₁.heap = h0 := by rw [← hh, Bd.state]; rfl
  have N0 := Fr.nil n0
  have hret := Bd.returns
  have hlk := BodyLoose.notSynchronized Bd
  show own_Out p e below (fun o U' => ∃ v L, o = .returned v ∧ Q11c1n8x00 Z o0 ob k b0 b1 b2 b3 b4 b5 b6 b7 cs vf h0 n0 v U'.heap L ∧ FrameEnd s o U' L (⟨5, 0, 0, 66⟩ : Room).cells (⟨5, 0, 0, 66⟩ : Room).slots) (s₁.setTop (entryFrame m #[(.ref o0), (.int 0), (.int 0)] 5))
  refine own_of (fun t k => castTop (ef_11c1n8x00 m o0) k) ?_
  show own_Out p e below _ (s₁.setTop (mkF m 0 #[rv o0, iv 0, iv 0, .unset, .unset] []))
  refine o_iloadN X0 hx hby d11_0 rfl (q := 1) rfl ?_
  refine o_istoreN X0 hx hby d11_1 (l' := #[rv o0, iv 0, iv 0, iv 0, .unset]) rfl (q := 2) rfl ?_
  refine o_iloadN X0 hx hby d11_2 rfl (q := 3) rfl ?_
  refine o_iloadN X0 hx hby d11_3 rfl (q := 4) rfl ?_
  refine o_icY X0 hx hby d11_4 (flt (by decide : ¬ ((0 : Int32) < (0 : Int32)))).2.1 (by decide) (q := 36) (by decide) ?_
  refine o_iconst X0 hx hby d11_36 (z := 1) rfl (q := 37) rfl ?_
  exact own_outN X0 hx hlk (t := .boolean) hret (by simp) (hb hby d11_37) (z' := (1 : Int32)) rfl (Q := Q11c1n8x00 Z o0 ob k b0 b1 b2 b3 b4 b5 b6 b7 cs vf h0 n0) ⟨by simp only [fhc1n8x00, if_neg hcs], N0, e0⟩ (by decide) (by decide)
theorem ef_11c1n8x01 (m : MethodId) (x0 : Addr) : entryFrame m #[(.ref x0), (.int 0), (.int 1)] 5 = mkF m 0 #[.val (.ref x0), .val (.int 0), .val (.int 1), .unset, .unset] [] := by first | (simp [entryFrame, mkF, argsToLocals, Value.category]; done) | rfl
def fhc1n8x01 (b0 b1 b2 b3 b4 b5 b6 b7 cs : Int32) : Int32 := if (f_charAtc1n8i0 b0 b1 b2 b3 b4 b5 b6 b7 cs) < (48 : Int32) then (0 : Int32)
  else if (57 : Int32) < (f_charAtc1n8i0 b0 b1 b2 b3 b4 b5 b6 b7 cs) then (0 : Int32)
    else (1 : Int32)
def Q11c1n8x01 (Z : State) (o0 ob : Addr) (k : ClassId) (b0 b1 b2 b3 b4 b5 b6 b7 cs : Int32) (vf : Value) (h0 : Heap) (n0 : Nat) (v : Option Value) (h : Heap) (L : List Loc) : Prop := v = some (.int (fhc1n8x01 b0 b1 b2 b3 b4 b5 b6 b7 cs)) ∧ Fr n0 L ∧ h = h0
set_option maxRecDepth 65536 in
set_option maxHeartbeats 40000000 in
theorem rm11c1n8x01 (l : Launch) (Z : State) (a0 : Array Value) (hw : ∀ d ∈ tables_1, d.before a0 Z = true) (ws : List Jvm.Cond) (o0 ob : Addr) (k : ClassId) (b0 b1 b2 b3 b4 b5 b6 b7 cs : Int32) (vf : Value) (h0 : Heap) (n0 : Nat) (Z0 : n0 ≤ h0.size) (E : Exa Z h0 o0 "java/lang/String") (Fv : Fld Z h0 o0 "java/lang/String" "value" "[B" (.ref ob)) (Fc : Fld Z h0 o0 "java/lang/String" "coder" "B" (.int 1)) (V : Arv Z h0 ob k .byte (8 : Int32) [(.int b0), (.int b1), (.int b2), (.int b3), (.int b4), (.int b5), (.int b6), (.int b7)] (.int 0)) (S_cs : Sta Z h0 "java/lang/String" "COMPACT_STRINGS" "Z" (.int cs)) (hcs : ¬ (cs = (0 : Int32))) (S_f : Sta Z h0 "jdk/internal/util/Preconditions" "SIOOBE_FORMATTER" "Ljava/util/function/BiFunction;" vf) (hvf : vf.isRef = true) (S_ad : Sta Z h0 "java/lang/StringUTF16" "$assertionsDisabled" "Z" (.int 1)) (S_hi : Sta Z h0 "java/lang/StringUTF16" "HI_BYTE_SHIFT" "I" (.int 0)) (S_lo : Sta Z h0 "java/lang/StringUTF16" "LO_BYTE_SHIFT" "I" (.int 8)) :
    MetFree l (⟨"com/example/fides/fides/ledger/Position", "hasOnlyAsciiDigits", "(Ljava/lang/String;II)Z"⟩ : MethodName) (head1 (Jvm.Cond.code (⟨"com/example/fides/fides/ledger/Position", "hasOnlyAsciiDigits", "(Ljava/lang/String;II)Z"⟩ : MethodName) prog_28_method_5_code 5 (some .boolean) :: ws) (⟨5, 0, 0, 66⟩ : Room)) (fun a U => a = #[(.ref o0), (.int 0), (.int 1)] ∧ Z.Warmed39 U.vm ∧ U.heap = h0) (fun _ _ _ _ _ => True) (fun _ U o U' => ∃ v L, o = .returned v ∧ Q11c1n8x01 Z o0 ob k b0 b1 b2 b3 b4 b5 b6 b7 cs vf h0 n0 v U'.heap L ∧ FrameEnd U o U' L (⟨5, 0, 0, 66⟩ : Room).cells (⟨5, 0, 0, 66⟩ : Room).slots) := by
  refine MetFree.of_bodySF (plainFor_of_name pn_4) hisR ?_
  intro p e s m args below meth c s₁ Bd hml0 hP hK
  obtain ⟨rfl, hZ, hh⟩ := hP
  have hx := Bd.exec
  have hby := Bd.bytes
  have hml : c.maxLocals = 5 := hml0
  have hown : s.vm.findClass "com/example/fides/fides/ledger/Position" = some m.cls := findClass_of_methodNamed Bd.named
  have hnm := (name_of_methodNamed Bd.named Bd.method).1
  have X0 : Stand p l e (⟨5, 0, 0, 66⟩ : Room) s m #[(.ref o0), (.int 0), (.int 1)] below meth c s₁ [] 0 0 := Stand.of_body Bd
  have e0 : s₁.heap = h0 := by rw [← hh, Bd.state]; rfl
  have N0 := Fr.nil n0
  have hret := Bd.returns
  have hlk := BodyLoose.notSynchronized Bd
  show own_Out p e below (fun o U' => ∃ v L, o = .returned v ∧ Q11c1n8x01 Z o0 ob k b0 b1 b2 b3 b4 b5 b6 b7 cs vf h0 n0 v U'.heap L ∧ FrameEnd s o U' L (⟨5, 0, 0, 66⟩ : Room).cells (⟨5, 0, 0, 66⟩ : Room).slots) (s₁.setTop (entryFrame m #[(.ref o0), (.int 0), (.int 1)] 5))
  refine own_of (fun t k => castTop (ef_11c1n8x01 m o0) k) ?_
  show own_Out p e below _ (s₁.setTop (mkF m 0 #[rv o0, iv 0, iv 1, .unset, .unset] []))
  refine o_iloadN X0 hx hby d11_0 rfl (q := 1) rfl ?_
  refine o_istoreN X0 hx hby d11_1 (l' := #[rv o0, iv 0, iv 1, iv 0, .unset]) rfl (q := 2) rfl ?_
  refine o_iloadN X0 hx hby d11_2 rfl (q := 3) rfl ?_
  refine o_iloadN X0 hx hby d11_3 rfl (q := 4) rfl ?_
  refine o_icN X0 hx hby d11_4 (tlt (by decide : (0 : Int32) < (1 : Int32))).2.1 (q := 7) rfl ?_
  refine o_aloadN X0 hx hby d11_7 rfl rfl (q := 8) rfl ?_
  refine o_iloadN X0 hx hby d11_8 rfl (q := 9) rfl ?_
  obtain ⟨cq1, kq1, q1a, q1b, q1c⟩ := isOf hZ e0 E
  obtain ⟨_, _, ⟨T1, L1, k1, n1⟩, -, X1, ⟨Lc1, hQ1, l1, y1, z1⟩, st1⟩ := X0.virtualBack hx (y := (⟨"java/lang/String", "charAt", "(I)C"⟩ : MethodName)) (z := (⟨"java/lang/String", "charAt", "(I)C"⟩ : MethodName)) hown (mvT hZ (w_ hw 50 rfl)) (mvT hZ (w_ hw 51 rfl)) (notFace_of_selects (args := #[]) (mvT hZ (w_ hw 53 rfl))) (mvT hZ (w_ hw 53 rfl)) (mvT hZ (w_ hw 52 rfl)) (by decide) (backOf (W := 0) (rm12c1n8i0 l Z a0 hw [] o0 ob k b0 b1 b2 b3 b4 b5 b6 b7 cs vf h0 n0 Z0 E Fv Fc V S_cs hcs S_f hvf S_ad S_hi S_lo) hZ (w_ hw 54 rfl) (w_ hw 8 rfl) (by decide) (by decide)) q1a q1c (g := (mkF m 9 #[rv o0, iv 0, iv 1, iv 0, .unset] [.int 0, .ref o0])) rfl (by rw [hml]; rfl) (Steps.refl _) (argsL := [(.int 0)]) (rest := []) (lenOf pd_4 rfl) rfl (by show 2 * 0 + _ ≤ _; exact Nat.le_of_eq rfl) (hb hby d11_9) (fun _ _ => ⟨rfl, e0, (by decide : 0 + 0 ≤ _), (by decide : 0 + 0 ≤ _)⟩)
  dsimp only [Pt.U, Pt.locs, Pt.cells, Pt.slots] at X1 l1 y1 z1 st1 hQ1
  subst l1 y1 z1
  obtain ⟨rfl, N1q, hh1⟩ := hQ1
  have N1 := Fr.app N0 N1q
  refine own_of (fun _ k => st1.trans k) ?_
  show own_Out p e below _ (T1.setTop (mkF m 12 #[rv o0, iv 0, iv 1, iv 0, .unset] [.int (f_charAtc1n8i0 b0 b1 b2 b3 b4 b5 b6 b7 cs)]))
  refine o_istore X1 hx hby d11_12 (l' := #[rv o0, iv 0, iv 1, iv 0, iv (f_charAtc1n8i0 b0 b1 b2 b3 b4 b5 b6 b7 cs)]) rfl (q := 14) rfl ?_
  refine o_iload X1 hx hby d11_14 rfl (q := 16) rfl ?_
  refine o_bipush X1 hx hby d11_16 (z := 48) rfl (q := 18) rfl ?_
  by_cases hc18_2 : (f_charAtc1n8i0 b0 b1 b2 b3 b4 b5 b6 b7 cs) < (48 : Int32)
  · skip
    refine o_icY X1 hx hby d11_18 (tlt hc18_2).1 (by decide) (q := 28) (by decide) ?_
    refine o_iconst X1 hx hby d11_28 (z := 0) rfl (q := 29) rfl ?_
    exact own_outN X1 hx hlk (t := .boolean) hret (by simp) (hb hby d11_29) (z' := (0 : Int32)) rfl (Q := Q11c1n8x01 Z o0 ob k b0 b1 b2 b3 b4 b5 b6 b7 cs vf h0 n0) ⟨by simp only [fhc1n8x01, if_neg hcs, if_pos hc18_2], N1, hh1⟩ (by decide) (by decide)
  · skip
    refine o_icN X1 hx hby d11_18 (flt hc18_2).1 (q := 21) rfl ?_
    refine o_iload X1 hx hby d11_21 rfl (q := 23) rfl ?_
    refine o_bipush X1 hx hby d11_23 (z := 57) rfl (q := 25) rfl ?_
    by_cases hc25_3 : (57 : Int32) < (f_charAtc1n8i0 b0 b1 b2 b3 b4 b5 b6 b7 cs)
    · skip
      refine o_icN X1 hx hby d11_25 (tlt hc25_3).2.2.2 (q := 28) rfl ?_
      refine o_iconst X1 hx hby d11_28 (z := 0) rfl (q := 29) rfl ?_
      exact own_outN X1 hx hlk (t := .boolean) hret (by simp) (hb hby d11_29) (z' := (0 : Int32)) rfl (Q := Q11c1n8x01 Z o0 ob k b0 b1 b2 b3 b4 b5 b6 b7 cs vf h0 n0) ⟨by simp only [fhc1n8x01, if_neg hcs, if_neg hc18_2, if_pos hc25_3], N1, hh1⟩ (by decide) (by decide)
    · skip
      refine o_icY X1 hx hby d11_25 (flt hc25_3).2.2.2 (by decide) (q := 30) (by decide) ?_
      refine o_iinc X1 hx hby d11_30 rfl (l' := #[rv o0, iv 0, iv 1, iv 1, iv (f_charAtc1n8i0 b0 b1 b2 b3 b4 b5 b6 b7 cs)]) rfl (q := 33) rfl ?_
      refine o_goto X1 hx hby d11_33 (by decide) (q := 2) (by decide) ?_
      refine o_iloadN X1 hx hby d11_2 rfl (q := 3) rfl ?_
      refine o_iloadN X1 hx hby d11_3 rfl (q := 4) rfl ?_
      refine o_icY X1 hx hby d11_4 (flt (by decide : ¬ ((1 : Int32) < (1 : Int32)))).2.1 (by decide) (q := 36) (by decide) ?_
      refine o_iconst X1 hx hby d11_36 (z := 1) rfl (q := 37) rfl ?_
      exact own_outN X1 hx hlk (t := .boolean) hret (by simp) (hb hby d11_37) (z' := (1 : Int32)) rfl (Q := Q11c1n8x01 Z o0 ob k b0 b1 b2 b3 b4 b5 b6 b7 cs vf h0 n0) ⟨by simp only [fhc1n8x01, if_neg hcs, if_neg hc18_2, if_neg hc25_3], N1, hh1⟩ (by decide) (by decide)
theorem ef_11c1n8x02 (m : MethodId) (x0 : Addr) : entryFrame m #[(.ref x0), (.int 0), (.int 2)] 5 = mkF m 0 #[.val (.ref x0), .val (.int 0), .val (.int 2), .unset, .unset] [] := by first | (simp [entryFrame, mkF, argsToLocals, Value.category]; done) | rfl
def fhc1n8x02 (b0 b1 b2 b3 b4 b5 b6 b7 cs : Int32) : Int32 := if (f_charAtc1n8i0 b0 b1 b2 b3 b4 b5 b6 b7 cs) < (48 : Int32) then (0 : Int32)
  else if (57 : Int32) < (f_charAtc1n8i0 b0 b1 b2 b3 b4 b5 b6 b7 cs) then (0 : Int32)
    else if (f_charAtc1n8i1 b0 b1 b2 b3 b4 b5 b6 b7 cs) < (48 : Int32) then (0 : Int32)
      else if (57 : Int32) < (f_charAtc1n8i1 b0 b1 b2 b3 b4 b5 b6 b7 cs) then (0 : Int32)
        else (1 : Int32)
def Q11c1n8x02 (Z : State) (o0 ob : Addr) (k : ClassId) (b0 b1 b2 b3 b4 b5 b6 b7 cs : Int32) (vf : Value) (h0 : Heap) (n0 : Nat) (v : Option Value) (h : Heap) (L : List Loc) : Prop := v = some (.int (fhc1n8x02 b0 b1 b2 b3 b4 b5 b6 b7 cs)) ∧ Fr n0 L ∧ h = h0
set_option maxRecDepth 65536 in
set_option maxHeartbeats 40000000 in
theorem rm11c1n8x02 (l : Launch) (Z : State) (a0 : Array Value) (hw : ∀ d ∈ tables_1, d.before a0 Z = true) (ws : List Jvm.Cond) (o0 ob : Addr) (k : ClassId) (b0 b1 b2 b3 b4 b5 b6 b7 cs : Int32) (vf : Value) (h0 : Heap) (n0 : Nat) (Z0 : n0 ≤ h0.size) (E : Exa Z h0 o0 "java/lang/String") (Fv : Fld Z h0 o0 "java/lang/String" "value" "[B" (.ref ob)) (Fc : Fld Z h0 o0 "java/lang/String" "coder" "B" (.int 1)) (V : Arv Z h0 ob k .byte (8 : Int32) [(.int b0), (.int b1), (.int b2), (.int b3), (.int b4), (.int b5), (.int b6), (.int b7)] (.int 0)) (S_cs : Sta Z h0 "java/lang/String" "COMPACT_STRINGS" "Z" (.int cs)) (hcs : ¬ (cs = (0 : Int32))) (S_f : Sta Z h0 "jdk/internal/util/Preconditions" "SIOOBE_FORMATTER" "Ljava/util/function/BiFunction;" vf) (hvf : vf.isRef = true) (S_ad : Sta Z h0 "java/lang/StringUTF16" "$assertionsDisabled" "Z" (.int 1)) (S_hi : Sta Z h0 "java/lang/StringUTF16" "HI_BYTE_SHIFT" "I" (.int 0)) (S_lo : Sta Z h0 "java/lang/StringUTF16" "LO_BYTE_SHIFT" "I" (.int 8)) :
    MetFree l (⟨"com/example/fides/fides/ledger/Position", "hasOnlyAsciiDigits", "(Ljava/lang/String;II)Z"⟩ : MethodName) (head1 (Jvm.Cond.code (⟨"com/example/fides/fides/ledger/Position", "hasOnlyAsciiDigits", "(Ljava/lang/String;II)Z"⟩ : MethodName) prog_28_method_5_code 5 (some .boolean) :: ws) (⟨5, 0, 0, 66⟩ : Room)) (fun a U => a = #[(.ref o0), (.int 0), (.int 2)] ∧ Z.Warmed39 U.vm ∧ U.heap = h0) (fun _ _ _ _ _ => True) (fun _ U o U' => ∃ v L, o = .returned v ∧ Q11c1n8x02 Z o0 ob k b0 b1 b2 b3 b4 b5 b6 b7 cs vf h0 n0 v U'.heap L ∧ FrameEnd U o U' L (⟨5, 0, 0, 66⟩ : Room).cells (⟨5, 0, 0, 66⟩ : Room).slots) := by
  refine MetFree.of_bodySF (plainFor_of_name pn_4) hisR ?_
  intro p e s m args below meth c s₁ Bd hml0 hP hK
  obtain ⟨rfl, hZ, hh⟩ := hP
  have hx := Bd.exec
  have hby := Bd.bytes
  have hml : c.maxLocals = 5 := hml0
  have hown : s.vm.findClass "com/example/fides/fides/ledger/Position" = some m.cls := findClass_of_methodNamed Bd.named
  have hnm := (name_of_methodNamed Bd.named Bd.method).1
  have X0 : Stand p l e (⟨5, 0, 0, 66⟩ : Room) s m #[(.ref o0), (.int 0), (.int 2)] below meth c s₁ [] 0 0 := Stand.of_body Bd
  have e0 : s₁.heap = h0 := by rw [← hh, Bd.state]; rfl
  have N0 := Fr.nil n0
  have hret := Bd.returns
  have hlk := BodyLoose.notSynchronized Bd
  show own_Out p e below (fun o U' => ∃ v L, o = .returned v ∧ Q11c1n8x02 Z o0 ob k b0 b1 b2 b3 b4 b5 b6 b7 cs vf h0 n0 v U'.heap L ∧ FrameEnd s o U' L (⟨5, 0, 0, 66⟩ : Room).cells (⟨5, 0, 0, 66⟩ : Room).slots) (s₁.setTop (entryFrame m #[(.ref o0), (.int 0), (.int 2)] 5))
  refine own_of (fun t k => castTop (ef_11c1n8x02 m o0) k) ?_
  show own_Out p e below _ (s₁.setTop (mkF m 0 #[rv o0, iv 0, iv 2, .unset, .unset] []))
  refine o_iloadN X0 hx hby d11_0 rfl (q := 1) rfl ?_
  refine o_istoreN X0 hx hby d11_1 (l' := #[rv o0, iv 0, iv 2, iv 0, .unset]) rfl (q := 2) rfl ?_
  refine o_iloadN X0 hx hby d11_2 rfl (q := 3) rfl ?_
  refine o_iloadN X0 hx hby d11_3 rfl (q := 4) rfl ?_
  refine o_icN X0 hx hby d11_4 (tlt (by decide : (0 : Int32) < (2 : Int32))).2.1 (q := 7) rfl ?_
  refine o_aloadN X0 hx hby d11_7 rfl rfl (q := 8) rfl ?_
  refine o_iloadN X0 hx hby d11_8 rfl (q := 9) rfl ?_
  obtain ⟨cq1, kq1, q1a, q1b, q1c⟩ := isOf hZ e0 E
  obtain ⟨_, _, ⟨T1, L1, k1, n1⟩, -, X1, ⟨Lc1, hQ1, l1, y1, z1⟩, st1⟩ := X0.virtualBack hx (y := (⟨"java/lang/String", "charAt", "(I)C"⟩ : MethodName)) (z := (⟨"java/lang/String", "charAt", "(I)C"⟩ : MethodName)) hown (mvT hZ (w_ hw 50 rfl)) (mvT hZ (w_ hw 51 rfl)) (notFace_of_selects (args := #[]) (mvT hZ (w_ hw 53 rfl))) (mvT hZ (w_ hw 53 rfl)) (mvT hZ (w_ hw 52 rfl)) (by decide) (backOf (W := 0) (rm12c1n8i0 l Z a0 hw [] o0 ob k b0 b1 b2 b3 b4 b5 b6 b7 cs vf h0 n0 Z0 E Fv Fc V S_cs hcs S_f hvf S_ad S_hi S_lo) hZ (w_ hw 54 rfl) (w_ hw 8 rfl) (by decide) (by decide)) q1a q1c (g := (mkF m 9 #[rv o0, iv 0, iv 2, iv 0, .unset] [.int 0, .ref o0])) rfl (by rw [hml]; rfl) (Steps.refl _) (argsL := [(.int 0)]) (rest := []) (lenOf pd_4 rfl) rfl (by show 2 * 0 + _ ≤ _; exact Nat.le_of_eq rfl) (hb hby d11_9) (fun _ _ => ⟨rfl, e0, (by decide : 0 + 0 ≤ _), (by decide : 0 + 0 ≤ _)⟩)
  dsimp only [Pt.U, Pt.locs, Pt.cells, Pt.slots] at X1 l1 y1 z1 st1 hQ1
  subst l1 y1 z1
  obtain ⟨rfl, N1q, hh1⟩ := hQ1
  have N1 := Fr.app N0 N1q
  refine own_of (fun _ k => st1.trans k) ?_
  show own_Out p e below _ (T1.setTop (mkF m 12 #[rv o0, iv 0, iv 2, iv 0, .unset] [.int (f_charAtc1n8i0 b0 b1 b2 b3 b4 b5 b6 b7 cs)]))
  refine o_istore X1 hx hby d11_12 (l' := #[rv o0, iv 0, iv 2, iv 0, iv (f_charAtc1n8i0 b0 b1 b2 b3 b4 b5 b6 b7 cs)]) rfl (q := 14) rfl ?_
  refine o_iload X1 hx hby d11_14 rfl (q := 16) rfl ?_
  refine o_bipush X1 hx hby d11_16 (z := 48) rfl (q := 18) rfl ?_
  by_cases hc18_2 : (f_charAtc1n8i0 b0 b1 b2 b3 b4 b5 b6 b7 cs) < (48 : Int32)
  · skip
    refine o_icY X1 hx hby d11_18 (tlt hc18_2).1 (by decide) (q := 28) (by decide) ?_
    refine o_iconst X1 hx hby d11_28 (z := 0) rfl (q := 29) rfl ?_
    exact own_outN X1 hx hlk (t := .boolean) hret (by simp) (hb hby d11_29) (z' := (0 : Int32)) rfl (Q := Q11c1n8x02 Z o0 ob k b0 b1 b2 b3 b4 b5 b6 b7 cs vf h0 n0) ⟨by simp only [fhc1n8x02, if_neg hcs, if_pos hc18_2], N1, hh1⟩ (by decide) (by decide)
  · skip
    refine o_icN X1 hx hby d11_18 (flt hc18_2).1 (q := 21) rfl ?_
    refine o_iload X1 hx hby d11_21 rfl (q := 23) rfl ?_
    refine o_bipush X1 hx hby d11_23 (z := 57) rfl (q := 25) rfl ?_
    by_cases hc25_3 : (57 : Int32) < (f_charAtc1n8i0 b0 b1 b2 b3 b4 b5 b6 b7 cs)
    · skip
      refine o_icN X1 hx hby d11_25 (tlt hc25_3).2.2.2 (q := 28) rfl ?_
      refine o_iconst X1 hx hby d11_28 (z := 0) rfl (q := 29) rfl ?_
      exact own_outN X1 hx hlk (t := .boolean) hret (by simp) (hb hby d11_29) (z' := (0 : Int32)) rfl (Q := Q11c1n8x02 Z o0 ob k b0 b1 b2 b3 b4 b5 b6 b7 cs vf h0 n0) ⟨by simp only [fhc1n8x02, if_neg hcs, if_neg hc18_2, if_pos hc25_3], N1, hh1⟩ (by decide) (by decide)
    · skip
      refine o_icY X1 hx hby d11_25 (flt hc25_3).2.2.2 (by decide) (q := 30) (by decide) ?_
      refine o_iinc X1 hx hby d11_30 rfl (l' := #[rv o0, iv 0, iv 2, iv 1, iv (f_charAtc1n8i0 b0 b1 b2 b3 b4 b5 b6 b7 cs)]) rfl (q := 33) rfl ?_
      refine o_goto X1 hx hby d11_33 (by decide) (q := 2) (by decide) ?_
      refine o_iloadN X1 hx hby d11_2 rfl (q := 3) rfl ?_
      refine o_iloadN X1 hx hby d11_3 rfl (q := 4) rfl ?_
      refine o_icN X1 hx hby d11_4 (tlt (by decide : (1 : Int32) < (2 : Int32))).2.1 (q := 7) rfl ?_
      refine o_aloadN X1 hx hby d11_7 rfl rfl (q := 8) rfl ?_
      refine o_iloadN X1 hx hby d11_8 rfl (q := 9) rfl ?_
      obtain ⟨cq4, kq4, q4a, q4b, q4c⟩ := isOf hZ hh1 E
      obtain ⟨_, _, ⟨T4, L4, k4, n4⟩, -, X4, ⟨Lc4, hQ4, l4, y4, z4⟩, st4⟩ := X1.virtualBack hx (y := (⟨"java/lang/String", "charAt", "(I)C"⟩ : MethodName)) (z := (⟨"java/lang/String", "charAt", "(I)C"⟩ : MethodName)) hown (mvT hZ (w_ hw 50 rfl)) (mvT hZ (w_ hw 51 rfl)) (notFace_of_selects (args := #[]) (mvT hZ (w_ hw 53 rfl))) (mvT hZ (w_ hw 53 rfl)) (mvT hZ (w_ hw 52 rfl)) (by decide) (backOf (W := 0) (rm12c1n8i1 l Z a0 hw [] o0 ob k b0 b1 b2 b3 b4 b5 b6 b7 cs vf h0 n0 Z0 E Fv Fc V S_cs hcs S_f hvf S_ad S_hi S_lo) hZ (w_ hw 54 rfl) (w_ hw 8 rfl) (by decide) (by decide)) q4a q4c (g := (mkF m 9 #[rv o0, iv 0, iv 2, iv 1, iv (f_charAtc1n8i0 b0 b1 b2 b3 b4 b5 b6 b7 cs)] [.int 1, .ref o0])) rfl (by rw [hml]; rfl) (Steps.refl _) (argsL := [(.int 1)]) (rest := []) (lenOf pd_4 rfl) rfl (by show 2 * 0 + _ ≤ _; exact Nat.le_of_eq rfl) (hb hby d11_9) (fun _ _ => ⟨rfl, hh1, (by decide : 0 + 0 ≤ _), (by decide : 0 + 0 ≤ _)⟩)
      dsimp only [Pt.U, Pt.locs, Pt.cells, Pt.slots] at X4 l4 y4 z4 st4 hQ4
      subst l4 y4 z4
      obtain ⟨rfl, N4q, hh4⟩ := hQ4
      have N4 := Fr.app N1 N4q
      refine own_of (fun _ k => st4.trans k) ?_
      show own_Out p e below _ (T4.setTop (mkF m 12 #[rv o0, iv 0, iv 2, iv 1, iv (f_charAtc1n8i0 b0 b1 b2 b3 b4 b5 b6 b7 cs)] [.int (f_charAtc1n8i1 b0 b1 b2 b3 b4 b5 b6 b7 cs)]))
      refine o_istore X4 hx hby d11_12 (l' := #[rv o0, iv 0, iv 2, iv 1, iv (f_charAtc1n8i1 b0 b1 b2 b3 b4 b5 b6 b7 cs)]) rfl (q := 14) rfl ?_
      refine o_iload X4 hx hby d11_14 rfl (q := 16) rfl ?_
      refine o_bipush X4 hx hby d11_16 (z := 48) rfl (q := 18) rfl ?_
      by_cases hc18_5 : (f_charAtc1n8i1 b0 b1 b2 b3 b4 b5 b6 b7 cs) < (48 : Int32)
      · skip
        refine o_icY X4 hx hby d11_18 (tlt hc18_5).1 (by decide) (q := 28) (by decide) ?_
        refine o_iconst X4 hx hby d11_28 (z := 0) rfl (q := 29) rfl ?_
        exact own_outN X4 hx hlk (t := .boolean) hret (by simp) (hb hby d11_29) (z' := (0 : Int32)) rfl (Q := Q11c1n8x02 Z o0 ob k b0 b1 b2 b3 b4 b5 b6 b7 cs vf h0 n0) ⟨by simp only [fhc1n8x02, if_neg hcs, if_neg hc18_2, if_neg hc25_3, if_pos hc18_5], N4, hh4⟩ (by decide) (by decide)
      · skip
        refine o_icN X4 hx hby d11_18 (flt hc18_5).1 (q := 21) rfl ?_
        refine o_iload X4 hx hby d11_21 rfl (q := 23) rfl ?_
        refine o_bipush X4 hx hby d11_23 (z := 57) rfl (q := 25) rfl ?_
        by_cases hc25_6 : (57 : Int32) < (f_charAtc1n8i1 b0 b1 b2 b3 b4 b5 b6 b7 cs)
        · skip
          refine o_icN X4 hx hby d11_25 (tlt hc25_6).2.2.2 (q := 28) rfl ?_
          refine o_iconst X4 hx hby d11_28 (z := 0) rfl (q := 29) rfl ?_
          exact own_outN X4 hx hlk (t := .boolean) hret (by simp) (hb hby d11_29) (z' := (0 : Int32)) rfl (Q := Q11c1n8x02 Z o0 ob k b0 b1 b2 b3 b4 b5 b6 b7 cs vf h0 n0) ⟨by simp only [fhc1n8x02, if_neg hcs, if_neg hc18_2, if_neg hc25_3, if_neg hc18_5, if_pos hc25_6], N4, hh4⟩ (by decide) (by decide)
        · skip
          refine o_icY X4 hx hby d11_25 (flt hc25_6).2.2.2 (by decide) (q := 30) (by decide) ?_
          refine o_iinc X4 hx hby d11_30 rfl (l' := #[rv o0, iv 0, iv 2, iv 2, iv (f_charAtc1n8i1 b0 b1 b2 b3 b4 b5 b6 b7 cs)]) rfl (q := 33) rfl ?_
          refine o_goto X4 hx hby d11_33 (by decide) (q := 2) (by decide) ?_
          refine o_iloadN X4 hx hby d11_2 rfl (q := 3) rfl ?_
          refine o_iloadN X4 hx hby d11_3 rfl (q := 4) rfl ?_
          refine o_icY X4 hx hby d11_4 (flt (by decide : ¬ ((2 : Int32) < (2 : Int32)))).2.1 (by decide) (q := 36) (by decide) ?_
          refine o_iconst X4 hx hby d11_36 (z := 1) rfl (q := 37) rfl ?_
          exact own_outN X4 hx hlk (t := .boolean) hret (by simp) (hb hby d11_37) (z' := (1 : Int32)) rfl (Q := Q11c1n8x02 Z o0 ob k b0 b1 b2 b3 b4 b5 b6 b7 cs vf h0 n0) ⟨by simp only [fhc1n8x02, if_neg hcs, if_neg hc18_2, if_neg hc25_3, if_neg hc18_5, if_neg hc25_6], N4, hh4⟩ (by decide) (by decide)
theorem ef_11c1n8x03 (m : MethodId) (x0 : Addr) : entryFrame m #[(.ref x0), (.int 0), (.int 3)] 5 = mkF m 0 #[.val (.ref x0), .val (.int 0), .val (.int 3), .unset, .unset] [] := by first | (simp [entryFrame, mkF, argsToLocals, Value.category]; done) | rfl
def fhc1n8x03 (b0 b1 b2 b3 b4 b5 b6 b7 cs : Int32) : Int32 := if (f_charAtc1n8i0 b0 b1 b2 b3 b4 b5 b6 b7 cs) < (48 : Int32) then (0 : Int32)
  else if (57 : Int32) < (f_charAtc1n8i0 b0 b1 b2 b3 b4 b5 b6 b7 cs) then (0 : Int32)
    else if (f_charAtc1n8i1 b0 b1 b2 b3 b4 b5 b6 b7 cs) < (48 : Int32) then (0 : Int32)
      else if (57 : Int32) < (f_charAtc1n8i1 b0 b1 b2 b3 b4 b5 b6 b7 cs) then (0 : Int32)
        else if (f_charAtc1n8i2 b0 b1 b2 b3 b4 b5 b6 b7 cs) < (48 : Int32) then (0 : Int32)
          else if (57 : Int32) < (f_charAtc1n8i2 b0 b1 b2 b3 b4 b5 b6 b7 cs) then (0 : Int32)
            else (1 : Int32)
def Q11c1n8x03 (Z : State) (o0 ob : Addr) (k : ClassId) (b0 b1 b2 b3 b4 b5 b6 b7 cs : Int32) (vf : Value) (h0 : Heap) (n0 : Nat) (v : Option Value) (h : Heap) (L : List Loc) : Prop := v = some (.int (fhc1n8x03 b0 b1 b2 b3 b4 b5 b6 b7 cs)) ∧ Fr n0 L ∧ h = h0
set_option maxRecDepth 65536 in
set_option maxHeartbeats 40000000 in
theorem rm11c1n8x03 (l : Launch) (Z : State) (a0 : Array Value) (hw : ∀ d ∈ tables_1, d.before a0 Z = true) (ws : List Jvm.Cond) (o0 ob : Addr) (k : ClassId) (b0 b1 b2 b3 b4 b5 b6 b7 cs : Int32) (vf : Value) (h0 : Heap) (n0 : Nat) (Z0 : n0 ≤ h0.size) (E : Exa Z h0 o0 "java/lang/String") (Fv : Fld Z h0 o0 "java/lang/String" "value" "[B" (.ref ob)) (Fc : Fld Z h0 o0 "java/lang/String" "coder" "B" (.int 1)) (V : Arv Z h0 ob k .byte (8 : Int32) [(.int b0), (.int b1), (.int b2), (.int b3), (.int b4), (.int b5), (.int b6), (.int b7)] (.int 0)) (S_cs : Sta Z h0 "java/lang/String" "COMPACT_STRINGS" "Z" (.int cs)) (hcs : ¬ (cs = (0 : Int32))) (S_f : Sta Z h0 "jdk/internal/util/Preconditions" "SIOOBE_FORMATTER" "Ljava/util/function/BiFunction;" vf) (hvf : vf.isRef = true) (S_ad : Sta Z h0 "java/lang/StringUTF16" "$assertionsDisabled" "Z" (.int 1)) (S_hi : Sta Z h0 "java/lang/StringUTF16" "HI_BYTE_SHIFT" "I" (.int 0)) (S_lo : Sta Z h0 "java/lang/StringUTF16" "LO_BYTE_SHIFT" "I" (.int 8)) :
    MetFree l (⟨"com/example/fides/fides/ledger/Position", "hasOnlyAsciiDigits", "(Ljava/lang/String;II)Z"⟩ : MethodName) (head1 (Jvm.Cond.code (⟨"com/example/fides/fides/ledger/Position", "hasOnlyAsciiDigits", "(Ljava/lang/String;II)Z"⟩ : MethodName) prog_28_method_5_code 5 (some .boolean) :: ws) (⟨5, 0, 0, 66⟩ : Room)) (fun a U => a = #[(.ref o0), (.int 0), (.int 3)] ∧ Z.Warmed39 U.vm ∧ U.heap = h0) (fun _ _ _ _ _ => True) (fun _ U o U' => ∃ v L, o = .returned v ∧ Q11c1n8x03 Z o0 ob k b0 b1 b2 b3 b4 b5 b6 b7 cs vf h0 n0 v U'.heap L ∧ FrameEnd U o U' L (⟨5, 0, 0, 66⟩ : Room).cells (⟨5, 0, 0, 66⟩ : Room).slots) := by
  refine MetFree.of_bodySF (plainFor_of_name pn_4) hisR ?_
  intro p e s m args below meth c s₁ Bd hml0 hP hK
  obtain ⟨rfl, hZ, hh⟩ := hP
  have hx := Bd.exec
  have hby := Bd.bytes
  have hml : c.maxLocals = 5 := hml0
  have hown : s.vm.findClass "com/example/fides/fides/ledger/Position" = some m.cls := findClass_of_methodNamed Bd.named
  have hnm := (name_of_methodNamed Bd.named Bd.method).1
  have X0 : Stand p l e (⟨5, 0, 0, 66⟩ : Room) s m #[(.ref o0), (.int 0), (.int 3)] below meth c s₁ [] 0 0 := Stand.of_body Bd
  have e0 : s₁.heap = h0 := by rw [← hh, Bd.state]; rfl
  have N0 := Fr.nil n0
  have hret := Bd.returns
  have hlk := BodyLoose.notSynchronized Bd
  show own_Out p e below (fun o U' => ∃ v L, o = .returned v ∧ Q11c1n8x03 Z o0 ob k b0 b1 b2 b3 b4 b5 b6 b7 cs vf h0 n0 v U'.heap L ∧ FrameEnd s o U' L (⟨5, 0, 0, 66⟩ : Room).cells (⟨5, 0, 0, 66⟩ : Room).slots) (s₁.setTop (entryFrame m #[(.ref o0), (.int 0), (.int 3)] 5))
  refine own_of (fun t k => castTop (ef_11c1n8x03 m o0) k) ?_
  show own_Out p e below _ (s₁.setTop (mkF m 0 #[rv o0, iv 0, iv 3, .unset, .unset] []))
  refine o_iloadN X0 hx hby d11_0 rfl (q := 1) rfl ?_
  refine o_istoreN X0 hx hby d11_1 (l' := #[rv o0, iv 0, iv 3, iv 0, .unset]) rfl (q := 2) rfl ?_
  refine o_iloadN X0 hx hby d11_2 rfl (q := 3) rfl ?_
  refine o_iloadN X0 hx hby d11_3 rfl (q := 4) rfl ?_
  refine o_icN X0 hx hby d11_4 (tlt (by decide : (0 : Int32) < (3 : Int32))).2.1 (q := 7) rfl ?_
  refine o_aloadN X0 hx hby d11_7 rfl rfl (q := 8) rfl ?_
  refine o_iloadN X0 hx hby d11_8 rfl (q := 9) rfl ?_
  obtain ⟨cq1, kq1, q1a, q1b, q1c⟩ := isOf hZ e0 E
  obtain ⟨_, _, ⟨T1, L1, k1, n1⟩, -, X1, ⟨Lc1, hQ1, l1, y1, z1⟩, st1⟩ := X0.virtualBack hx (y := (⟨"java/lang/String", "charAt", "(I)C"⟩ : MethodName)) (z := (⟨"java/lang/String", "charAt", "(I)C"⟩ : MethodName)) hown (mvT hZ (w_ hw 50 rfl)) (mvT hZ (w_ hw 51 rfl)) (notFace_of_selects (args := #[]) (mvT hZ (w_ hw 53 rfl))) (mvT hZ (w_ hw 53 rfl)) (mvT hZ (w_ hw 52 rfl)) (by decide) (backOf (W := 0) (rm12c1n8i0 l Z a0 hw [] o0 ob k b0 b1 b2 b3 b4 b5 b6 b7 cs vf h0 n0 Z0 E Fv Fc V S_cs hcs S_f hvf S_ad S_hi S_lo) hZ (w_ hw 54 rfl) (w_ hw 8 rfl) (by decide) (by decide)) q1a q1c (g := (mkF m 9 #[rv o0, iv 0, iv 3, iv 0, .unset] [.int 0, .ref o0])) rfl (by rw [hml]; rfl) (Steps.refl _) (argsL := [(.int 0)]) (rest := []) (lenOf pd_4 rfl) rfl (by show 2 * 0 + _ ≤ _; exact Nat.le_of_eq rfl) (hb hby d11_9) (fun _ _ => ⟨rfl, e0, (by decide : 0 + 0 ≤ _), (by decide : 0 + 0 ≤ _)⟩)
  dsimp only [Pt.U, Pt.locs, Pt.cells, Pt.slots] at X1 l1 y1 z1 st1 hQ1
  subst l1 y1 z1
  obtain ⟨rfl, N1q, hh1⟩ := hQ1
  have N1 := Fr.app N0 N1q
  refine own_of (fun _ k => st1.trans k) ?_
  show own_Out p e below _ (T1.setTop (mkF m 12 #[rv o0, iv 0, iv 3, iv 0, .unset] [.int (f_charAtc1n8i0 b0 b1 b2 b3 b4 b5 b6 b7 cs)]))
  refine o_istore X1 hx hby d11_12 (l' := #[rv o0, iv 0, iv 3, iv 0, iv (f_charAtc1n8i0 b0 b1 b2 b3 b4 b5 b6 b7 cs)]) rfl (q := 14) rfl ?_
  refine o_iload X1 hx hby d11_14 rfl (q := 16) rfl ?_
  refine o_bipush X1 hx hby d11_16 (z := 48) rfl (q := 18) rfl ?_
  by_cases hc18_2 : (f_charAtc1n8i0 b0 b1 b2 b3 b4 b5 b6 b7 cs) < (48 : Int32)
  · skip
    refine o_icY X1 hx hby d11_18 (tlt hc18_2).1 (by decide) (q := 28) (by decide) ?_
    refine o_iconst X1 hx hby d11_28 (z := 0) rfl (q := 29) rfl ?_
    exact own_outN X1 hx hlk (t := .boolean) hret (by simp) (hb hby d11_29) (z' := (0 : Int32)) rfl (Q := Q11c1n8x03 Z o0 ob k b0 b1 b2 b3 b4 b5 b6 b7 cs vf h0 n0) ⟨by simp only [fhc1n8x03, if_neg hcs, if_pos hc18_2], N1, hh1⟩ (by decide) (by decide)
  · skip
    refine o_icN X1 hx hby d11_18 (flt hc18_2).1 (q := 21) rfl ?_
    refine o_iload X1 hx hby d11_21 rfl (q := 23) rfl ?_
    refine o_bipush X1 hx hby d11_23 (z := 57) rfl (q := 25) rfl ?_
    by_cases hc25_3 : (57 : Int32) < (f_charAtc1n8i0 b0 b1 b2 b3 b4 b5 b6 b7 cs)
    · skip
      refine o_icN X1 hx hby d11_25 (tlt hc25_3).2.2.2 (q := 28) rfl ?_
      refine o_iconst X1 hx hby d11_28 (z := 0) rfl (q := 29) rfl ?_
      exact own_outN X1 hx hlk (t := .boolean) hret (by simp) (hb hby d11_29) (z' := (0 : Int32)) rfl (Q := Q11c1n8x03 Z o0 ob k b0 b1 b2 b3 b4 b5 b6 b7 cs vf h0 n0) ⟨by simp only [fhc1n8x03, if_neg hcs, if_neg hc18_2, if_pos hc25_3], N1, hh1⟩ (by decide) (by decide)
    · skip
      refine o_icY X1 hx hby d11_25 (flt hc25_3).2.2.2 (by decide) (q := 30) (by decide) ?_
      refine o_iinc X1 hx hby d11_30 rfl (l' := #[rv o0, iv 0, iv 3, iv 1, iv (f_charAtc1n8i0 b0 b1 b2 b3 b4 b5 b6 b7 cs)]) rfl (q := 33) rfl ?_
      refine o_goto X1 hx hby d11_33 (by decide) (q := 2) (by decide) ?_
      refine o_iloadN X1 hx hby d11_2 rfl (q := 3) rfl ?_
      refine o_iloadN X1 hx hby d11_3 rfl (q := 4) rfl ?_
      refine o_icN X1 hx hby d11_4 (tlt (by decide : (1 : Int32) < (3 : Int32))).2.1 (q := 7) rfl ?_
      refine o_aloadN X1 hx hby d11_7 rfl rfl (q := 8) rfl ?_
      refine o_iloadN X1 hx hby d11_8 rfl (q := 9) rfl ?_
      obtain ⟨cq4, kq4, q4a, q4b, q4c⟩ := isOf hZ hh1 E
      obtain ⟨_, _, ⟨T4, L4, k4, n4⟩, -, X4, ⟨Lc4, hQ4, l4, y4, z4⟩, st4⟩ := X1.virtualBack hx (y := (⟨"java/lang/String", "charAt", "(I)C"⟩ : MethodName)) (z := (⟨"java/lang/String", "charAt", "(I)C"⟩ : MethodName)) hown (mvT hZ (w_ hw 50 rfl)) (mvT hZ (w_ hw 51 rfl)) (notFace_of_selects (args := #[]) (mvT hZ (w_ hw 53 rfl))) (mvT hZ (w_ hw 53 rfl)) (mvT hZ (w_ hw 52 rfl)) (by decide) (backOf (W := 0) (rm12c1n8i1 l Z a0 hw [] o0 ob k b0 b1 b2 b3 b4 b5 b6 b7 cs vf h0 n0 Z0 E Fv Fc V S_cs hcs S_f hvf S_ad S_hi S_lo) hZ (w_ hw 54 rfl) (w_ hw 8 rfl) (by decide) (by decide)) q4a q4c (g := (mkF m 9 #[rv o0, iv 0, iv 3, iv 1, iv (f_charAtc1n8i0 b0 b1 b2 b3 b4 b5 b6 b7 cs)] [.int 1, .ref o0])) rfl (by rw [hml]; rfl) (Steps.refl _) (argsL := [(.int 1)]) (rest := []) (lenOf pd_4 rfl) rfl (by show 2 * 0 + _ ≤ _; exact Nat.le_of_eq rfl) (hb hby d11_9) (fun _ _ => ⟨rfl, hh1, (by decide : 0 + 0 ≤ _), (by decide : 0 + 0 ≤ _)⟩)
      dsimp only [Pt.U, Pt.locs, Pt.cells, Pt.slots] at X4 l4 y4 z4 st4 hQ4
      subst l4 y4 z4
      obtain ⟨rfl, N4q, hh4⟩ := hQ4
      have N4 := Fr.app N1 N4q
      refine own_of (fun _ k => st4.trans k) ?_
      show own_Out p e below _ (T4.setTop (mkF m 12 #[rv o0, iv 0, iv 3, iv 1, iv (f_charAtc1n8i0 b0 b1 b2 b3 b4 b5 b6 b7 cs)] [.int (f_charAtc1n8i1 b0 b1 b2 b3 b4 b5 b6 b7 cs)]))
      refine o_istore X4 hx hby d11_12 (l' := #[rv o0, iv 0, iv 3, iv 1, iv (f_charAtc1n8i1 b0 b1 b2 b3 b4 b5 b6 b7 cs)]) rfl (q := 14) rfl ?_
      refine o_iload X4 hx hby d11_14 rfl (q := 16) rfl ?_
      refine o_bipush X4 hx hby d11_16 (z := 48) rfl (q := 18) rfl ?_
      by_cases hc18_5 : (f_charAtc1n8i1 b0 b1 b2 b3 b4 b5 b6 b7 cs) < (48 : Int32)
      · skip
        refine o_icY X4 hx hby d11_18 (tlt hc18_5).1 (by decide) (q := 28) (by decide) ?_
        refine o_iconst X4 hx hby d11_28 (z := 0) rfl (q := 29) rfl ?_
        exact own_outN X4 hx hlk (t := .boolean) hret (by simp) (hb hby d11_29) (z' := (0 : Int32)) rfl (Q := Q11c1n8x03 Z o0 ob k b0 b1 b2 b3 b4 b5 b6 b7 cs vf h0 n0) ⟨by simp only [fhc1n8x03, if_neg hcs, if_neg hc18_2, if_neg hc25_3, if_pos hc18_5], N4, hh4⟩ (by decide) (by decide)
      · skip
        refine o_icN X4 hx hby d11_18 (flt hc18_5).1 (q := 21) rfl ?_
        refine o_iload X4 hx hby d11_21 rfl (q := 23) rfl ?_
        refine o_bipush X4 hx hby d11_23 (z := 57) rfl (q := 25) rfl ?_
        by_cases hc25_6 : (57 : Int32) < (f_charAtc1n8i1 b0 b1 b2 b3 b4 b5 b6 b7 cs)
        · skip
          refine o_icN X4 hx hby d11_25 (tlt hc25_6).2.2.2 (q := 28) rfl ?_
          refine o_iconst X4 hx hby d11_28 (z := 0) rfl (q := 29) rfl ?_
          exact own_outN X4 hx hlk (t := .boolean) hret (by simp) (hb hby d11_29) (z' := (0 : Int32)) rfl (Q := Q11c1n8x03 Z o0 ob k b0 b1 b2 b3 b4 b5 b6 b7 cs vf h0 n0) ⟨by simp only [fhc1n8x03, if_neg hcs, if_neg hc18_2, if_neg hc25_3, if_neg hc18_5, if_pos hc25_6], N4, hh4⟩ (by decide) (by decide)
        · skip
          refine o_icY X4 hx hby d11_25 (flt hc25_6).2.2.2 (by decide) (q := 30) (by decide) ?_
          refine o_iinc X4 hx hby d11_30 rfl (l' := #[rv o0, iv 0, iv 3, iv 2, iv (f_charAtc1n8i1 b0 b1 b2 b3 b4 b5 b6 b7 cs)]) rfl (q := 33) rfl ?_
          refine o_goto X4 hx hby d11_33 (by decide) (q := 2) (by decide) ?_
          refine o_iloadN X4 hx hby d11_2 rfl (q := 3) rfl ?_
          refine o_iloadN X4 hx hby d11_3 rfl (q := 4) rfl ?_
          refine o_icN X4 hx hby d11_4 (tlt (by decide : (2 : Int32) < (3 : Int32))).2.1 (q := 7) rfl ?_
          refine o_aloadN X4 hx hby d11_7 rfl rfl (q := 8) rfl ?_
          refine o_iloadN X4 hx hby d11_8 rfl (q := 9) rfl ?_
          obtain ⟨cq7, kq7, q7a, q7b, q7c⟩ := isOf hZ hh4 E
          obtain ⟨_, _, ⟨T7, L7, k7, n7⟩, -, X7, ⟨Lc7, hQ7, l7, y7, z7⟩, st7⟩ := X4.virtualBack hx (y := (⟨"java/lang/String", "charAt", "(I)C"⟩ : MethodName)) (z := (⟨"java/lang/String", "charAt", "(I)C"⟩ : MethodName)) hown (mvT hZ (w_ hw 50 rfl)) (mvT hZ (w_ hw 51 rfl)) (notFace_of_selects (args := #[]) (mvT hZ (w_ hw 53 rfl))) (mvT hZ (w_ hw 53 rfl)) (mvT hZ (w_ hw 52 rfl)) (by decide) (backOf (W := 0) (rm12c1n8i2 l Z a0 hw [] o0 ob k b0 b1 b2 b3 b4 b5 b6 b7 cs vf h0 n0 Z0 E Fv Fc V S_cs hcs S_f hvf S_ad S_hi S_lo) hZ (w_ hw 54 rfl) (w_ hw 8 rfl) (by decide) (by decide)) q7a q7c (g := (mkF m 9 #[rv o0, iv 0, iv 3, iv 2, iv (f_charAtc1n8i1 b0 b1 b2 b3 b4 b5 b6 b7 cs)] [.int 2, .ref o0])) rfl (by rw [hml]; rfl) (Steps.refl _) (argsL := [(.int 2)]) (rest := []) (lenOf pd_4 rfl) rfl (by show 2 * 0 + _ ≤ _; exact Nat.le_of_eq rfl) (hb hby d11_9) (fun _ _ => ⟨rfl, hh4, (by decide : 0 + 0 ≤ _), (by decide : 0 + 0 ≤ _)⟩)
          dsimp only [Pt.U, Pt.locs, Pt.cells, Pt.slots] at X7 l7 y7 z7 st7 hQ7
          subst l7 y7 z7
          obtain ⟨rfl, N7q, hh7⟩ := hQ7
          have N7 := Fr.app N4 N7q
          refine own_of (fun _ k => st7.trans k) ?_
          show own_Out p e below _ (T7.setTop (mkF m 12 #[rv o0, iv 0, iv 3, iv 2, iv (f_charAtc1n8i1 b0 b1 b2 b3 b4 b5 b6 b7 cs)] [.int (f_charAtc1n8i2 b0 b1 b2 b3 b4 b5 b6 b7 cs)]))
          refine o_istore X7 hx hby d11_12 (l' := #[rv o0, iv 0, iv 3, iv 2, iv (f_charAtc1n8i2 b0 b1 b2 b3 b4 b5 b6 b7 cs)]) rfl (q := 14) rfl ?_
          refine o_iload X7 hx hby d11_14 rfl (q := 16) rfl ?_
          refine o_bipush X7 hx hby d11_16 (z := 48) rfl (q := 18) rfl ?_
          by_cases hc18_8 : (f_charAtc1n8i2 b0 b1 b2 b3 b4 b5 b6 b7 cs) < (48 : Int32)
          · skip
            refine o_icY X7 hx hby d11_18 (tlt hc18_8).1 (by decide) (q := 28) (by decide) ?_
            refine o_iconst X7 hx hby d11_28 (z := 0) rfl (q := 29) rfl ?_
            exact own_outN X7 hx hlk (t := .boolean) hret (by simp) (hb hby d11_29) (z' := (0 : Int32)) rfl (Q := Q11c1n8x03 Z o0 ob k b0 b1 b2 b3 b4 b5 b6 b7 cs vf h0 n0) ⟨by simp only [fhc1n8x03, if_neg hcs, if_neg hc18_2, if_neg hc25_3, if_neg hc18_5, if_neg hc25_6, if_pos hc18_8], N7, hh7⟩ (by decide) (by decide)
          · skip
            refine o_icN X7 hx hby d11_18 (flt hc18_8).1 (q := 21) rfl ?_
            refine o_iload X7 hx hby d11_21 rfl (q := 23) rfl ?_
            refine o_bipush X7 hx hby d11_23 (z := 57) rfl (q := 25) rfl ?_
            by_cases hc25_9 : (57 : Int32) < (f_charAtc1n8i2 b0 b1 b2 b3 b4 b5 b6 b7 cs)
            · skip
              refine o_icN X7 hx hby d11_25 (tlt hc25_9).2.2.2 (q := 28) rfl ?_
              refine o_iconst X7 hx hby d11_28 (z := 0) rfl (q := 29) rfl ?_
              exact own_outN X7 hx hlk (t := .boolean) hret (by simp) (hb hby d11_29) (z' := (0 : Int32)) rfl (Q := Q11c1n8x03 Z o0 ob k b0 b1 b2 b3 b4 b5 b6 b7 cs vf h0 n0) ⟨by simp only [fhc1n8x03, if_neg hcs, if_neg hc18_2, if_neg hc25_3, if_neg hc18_5, if_neg hc25_6, if_neg hc18_8, if_pos hc25_9], N7, hh7⟩ (by decide) (by decide)
            · skip
              refine o_icY X7 hx hby d11_25 (flt hc25_9).2.2.2 (by decide) (q := 30) (by decide) ?_
              refine o_iinc X7 hx hby d11_30 rfl (l' := #[rv o0, iv 0, iv 3, iv 3, iv (f_charAtc1n8i2 b0 b1 b2 b3 b4 b5 b6 b7 cs)]) rfl (q := 33) rfl ?_
              refine o_goto X7 hx hby d11_33 (by decide) (q := 2) (by decide) ?_
              refine o_iloadN X7 hx hby d11_2 rfl (q := 3) rfl ?_
              refine o_iloadN X7 hx hby d11_3 rfl (q := 4) rfl ?_
              refine o_icY X7 hx hby d11_4 (flt (by decide : ¬ ((3 : Int32) < (3 : Int32)))).2.1 (by decide) (q := 36) (by decide) ?_
              refine o_iconst X7 hx hby d11_36 (z := 1) rfl (q := 37) rfl ?_
              exact own_outN X7 hx hlk (t := .boolean) hret (by simp) (hb hby d11_37) (z' := (1 : Int32)) rfl (Q := Q11c1n8x03 Z o0 ob k b0 b1 b2 b3 b4 b5 b6 b7 cs vf h0 n0) ⟨by simp only [fhc1n8x03, if_neg hcs, if_neg hc18_2, if_neg hc25_3, if_neg hc18_5, if_neg hc25_6, if_neg hc18_8, if_neg hc25_9], N7, hh7⟩ (by decide) (by decide)
theorem ef_11c1n8x04 (m : MethodId) (x0 : Addr) : entryFrame m #[(.ref x0), (.int 0), (.int 4)] 5 = mkF m 0 #[.val (.ref x0), .val (.int 0), .val (.int 4), .unset, .unset] [] := by first | (simp [entryFrame, mkF, argsToLocals, Value.category]; done) | rfl
def fhc1n8x04 (b0 b1 b2 b3 b4 b5 b6 b7 cs : Int32) : Int32 := if (f_charAtc1n8i0 b0 b1 b2 b3 b4 b5 b6 b7 cs) < (48 : Int32) then (0 : Int32)
  else if (57 : Int32) < (f_charAtc1n8i0 b0 b1 b2 b3 b4 b5 b6 b7 cs) then (0 : Int32)
    else if (f_charAtc1n8i1 b0 b1 b2 b3 b4 b5 b6 b7 cs) < (48 : Int32) then (0 : Int32)
      else if (57 : Int32) < (f_charAtc1n8i1 b0 b1 b2 b3 b4 b5 b6 b7 cs) then (0 : Int32)
        else if (f_charAtc1n8i2 b0 b1 b2 b3 b4 b5 b6 b7 cs) < (48 : Int32) then (0 : Int32)
          else if (57 : Int32) < (f_charAtc1n8i2 b0 b1 b2 b3 b4 b5 b6 b7 cs) then (0 : Int32)
            else if (f_charAtc1n8i3 b0 b1 b2 b3 b4 b5 b6 b7 cs) < (48 : Int32) then (0 : Int32)
              else if (57 : Int32) < (f_charAtc1n8i3 b0 b1 b2 b3 b4 b5 b6 b7 cs) then (0 : Int32)
                else (1 : Int32)
def Q11c1n8x04 (Z : State) (o0 ob : Addr) (k : ClassId) (b0 b1 b2 b3 b4 b5 b6 b7 cs : Int32) (vf : Value) (h0 : Heap) (n0 : Nat) (v : Option Value) (h : Heap) (L : List Loc) : Prop := v = some (.int (fhc1n8x04 b0 b1 b2 b3 b4 b5 b6 b7 cs)) ∧ Fr n0 L ∧ h = h0
set_option maxRecDepth 65536 in
set_option maxHeartbeats 40000000 in
theorem rm11c1n8x04 (l : Launch) (Z : State) (a0 : Array Value) (hw : ∀ d ∈ tables_1, d.before a0 Z = true) (ws : List Jvm.Cond) (o0 ob : Addr) (k : ClassId) (b0 b1 b2 b3 b4 b5 b6 b7 cs : Int32) (vf : Value) (h0 : Heap) (n0 : Nat) (Z0 : n0 ≤ h0.size) (E : Exa Z h0 o0 "java/lang/String") (Fv : Fld Z h0 o0 "java/lang/String" "value" "[B" (.ref ob)) (Fc : Fld Z h0 o0 "java/lang/String" "coder" "B" (.int 1)) (V : Arv Z h0 ob k .byte (8 : Int32) [(.int b0), (.int b1), (.int b2), (.int b3), (.int b4), (.int b5), (.int b6), (.int b7)] (.int 0)) (S_cs : Sta Z h0 "java/lang/String" "COMPACT_STRINGS" "Z" (.int cs)) (hcs : ¬ (cs = (0 : Int32))) (S_f : Sta Z h0 "jdk/internal/util/Preconditions" "SIOOBE_FORMATTER" "Ljava/util/function/BiFunction;" vf) (hvf : vf.isRef = true) (S_ad : Sta Z h0 "java/lang/StringUTF16" "$assertionsDisabled" "Z" (.int 1)) (S_hi : Sta Z h0 "java/lang/StringUTF16" "HI_BYTE_SHIFT" "I" (.int 0)) (S_lo : Sta Z h0 "java/lang/StringUTF16" "LO_BYTE_SHIFT" "I" (.int 8)) :
    MetFree l (⟨"com/example/fides/fides/ledger/Position", "hasOnlyAsciiDigits", "(Ljava/lang/String;II)Z"⟩ : MethodName) (head1 (Jvm.Cond.code (⟨"com/example/fides/fides/ledger/Position", "hasOnlyAsciiDigits", "(Ljava/lang/String;II)Z"⟩ : MethodName) prog_28_method_5_code 5 (some .boolean) :: ws) (⟨5, 0, 0, 66⟩ : Room)) (fun a U => a = #[(.ref o0), (.int 0), (.int 4)] ∧ Z.Warmed39 U.vm ∧ U.heap = h0) (fun _ _ _ _ _ => True) (fun _ U o U' => ∃ v L, o = .returned v ∧ Q11c1n8x04 Z o0 ob k b0 b1 b2 b3 b4 b5 b6 b7 cs vf h0 n0 v U'.heap L ∧ FrameEnd U o U' L (⟨5, 0, 0, 66⟩ : Room).cells (⟨5, 0, 0, 66⟩ : Room).slots) := by
  refine MetFree.of_bodySF (plainFor_of_name pn_4) hisR ?_
  intro p e s m args below meth c s₁ Bd hml0 hP hK
  obtain ⟨rfl, hZ, hh⟩ := hP
  have hx := Bd.exec
  have hby := Bd.bytes
  have hml : c.maxLocals = 5 := hml0
  have hown : s.vm.findClass "com/example/fides/fides/ledger/Position" = some m.cls := findClass_of_methodNamed Bd.named
  have hnm := (name_of_methodNamed Bd.named Bd.method).1
  have X0 : Stand p l e (⟨5, 0, 0, 66⟩ : Room) s m #[(.ref o0), (.int 0), (.int 4)] below meth c s₁ [] 0 0 := Stand.of_body Bd
  have e0 : s₁.heap = h0 := by rw [← hh, Bd.state]; rfl
  have N0 := Fr.nil n0
  have hret := Bd.returns
  have hlk := BodyLoose.notSynchronized Bd
  show own_Out p e below (fun o U' => ∃ v L, o = .returned v ∧ Q11c1n8x04 Z o0 ob k b0 b1 b2 b3 b4 b5 b6 b7 cs vf h0 n0 v U'.heap L ∧ FrameEnd s o U' L (⟨5, 0, 0, 66⟩ : Room).cells (⟨5, 0, 0, 66⟩ : Room).slots) (s₁.setTop (entryFrame m #[(.ref o0), (.int 0), (.int 4)] 5))
  refine own_of (fun t k => castTop (ef_11c1n8x04 m o0) k) ?_
  show own_Out p e below _ (s₁.setTop (mkF m 0 #[rv o0, iv 0, iv 4, .unset, .unset] []))
  refine o_iloadN X0 hx hby d11_0 rfl (q := 1) rfl ?_
  refine o_istoreN X0 hx hby d11_1 (l' := #[rv o0, iv 0, iv 4, iv 0, .unset]) rfl (q := 2) rfl ?_
  refine o_iloadN X0 hx hby d11_2 rfl (q := 3) rfl ?_
  refine o_iloadN X0 hx hby d11_3 rfl (q := 4) rfl ?_
  refine o_icN X0 hx hby d11_4 (tlt (by decide : (0 : Int32) < (4 : Int32))).2.1 (q := 7) rfl ?_
  refine o_aloadN X0 hx hby d11_7 rfl rfl (q := 8) rfl ?_
  refine o_iloadN X0 hx hby d11_8 rfl (q := 9) rfl ?_
  obtain ⟨cq1, kq1, q1a, q1b, q1c⟩ := isOf hZ e0 E
  obtain ⟨_, _, ⟨T1, L1, k1, n1⟩, -, X1, ⟨Lc1, hQ1, l1, y1, z1⟩, st1⟩ := X0.virtualBack hx (y := (⟨"java/lang/String", "charAt", "(I)C"⟩ : MethodName)) (z := (⟨"java/lang/String", "charAt", "(I)C"⟩ : MethodName)) hown (mvT hZ (w_ hw 50 rfl)) (mvT hZ (w_ hw 51 rfl)) (notFace_of_selects (args := #[]) (mvT hZ (w_ hw 53 rfl))) (mvT hZ (w_ hw 53 rfl)) (mvT hZ (w_ hw 52 rfl)) (by decide) (backOf (W := 0) (rm12c1n8i0 l Z a0 hw [] o0 ob k b0 b1 b2 b3 b4 b5 b6 b7 cs vf h0 n0 Z0 E Fv Fc V S_cs hcs S_f hvf S_ad S_hi S_lo) hZ (w_ hw 54 rfl) (w_ hw 8 rfl) (by decide) (by decide)) q1a q1c (g := (mkF m 9 #[rv o0, iv 0, iv 4, iv 0, .unset] [.int 0, .ref o0])) rfl (by rw [hml]; rfl) (Steps.refl _) (argsL := [(.int 0)]) (rest := []) (lenOf pd_4 rfl) rfl (by show 2 * 0 + _ ≤ _; exact Nat.le_of_eq rfl) (hb hby d11_9) (fun _ _ => ⟨rfl, e0, (by decide : 0 + 0 ≤ _), (by decide : 0 + 0 ≤ _)⟩)
  dsimp only [Pt.U, Pt.locs, Pt.cells, Pt.slots] at X1 l1 y1 z1 st1 hQ1
  subst l1 y1 z1
  obtain ⟨rfl, N1q, hh1⟩ := hQ1
  have N1 := Fr.app N0 N1q
  refine own_of (fun _ k => st1.trans k) ?_
  show own_Out p e below _ (T1.setTop (mkF m 12 #[rv o0, iv 0, iv 4, iv 0, .unset] [.int (f_charAtc1n8i0 b0 b1 b2 b3 b4 b5 b6 b7 cs)]))
  refine o_istore X1 hx hby d11_12 (l' := #[rv o0, iv 0, iv 4, iv 0, iv (f_charAtc1n8i0 b0 b1 b2 b3 b4 b5 b6 b7 cs)]) rfl (q := 14) rfl ?_
  refine o_iload X1 hx hby d11_14 rfl (q := 16) rfl ?_
  refine o_bipush X1 hx hby d11_16 (z := 48) rfl (q := 18) rfl ?_
  by_cases hc18_2 : (f_charAtc1n8i0 b0 b1 b2 b3 b4 b5 b6 b7 cs) < (48 : Int32)
  · skip
    refine o_icY X1 hx hby d11_18 (tlt hc18_2).1 (by decide) (q := 28) (by decide) ?_
    refine o_iconst X1 hx hby d11_28 (z := 0) rfl (q := 29) rfl ?_
    exact own_outN X1 hx hlk (t := .boolean) hret (by simp) (hb hby d11_29) (z' := (0 : Int32)) rfl (Q := Q11c1n8x04 Z o0 ob k b0 b1 b2 b3 b4 b5 b6 b7 cs vf h0 n0) ⟨by simp only [fhc1n8x04, if_neg hcs, if_pos hc18_2], N1, hh1⟩ (by decide) (by decide)
  · skip
    refine o_icN X1 hx hby d11_18 (flt hc18_2).1 (q := 21) rfl ?_
    refine o_iload X1 hx hby d11_21 rfl (q := 23) rfl ?_
    refine o_bipush X1 hx hby d11_23 (z := 57) rfl (q := 25) rfl ?_
    by_cases hc25_3 : (57 : Int32) < (f_charAtc1n8i0 b0 b1 b2 b3 b4 b5 b6 b7 cs)
    · skip
      refine o_icN X1 hx hby d11_25 (tlt hc25_3).2.2.2 (q := 28) rfl ?_
      refine o_iconst X1 hx hby d11_28 (z := 0) rfl (q := 29) rfl ?_
      exact own_outN X1 hx hlk (t := .boolean) hret (by simp) (hb hby d11_29) (z' := (0 : Int32)) rfl (Q := Q11c1n8x04 Z o0 ob k b0 b1 b2 b3 b4 b5 b6 b7 cs vf h0 n0) ⟨by simp only [fhc1n8x04, if_neg hcs, if_neg hc18_2, if_pos hc25_3], N1, hh1⟩ (by decide) (by decide)
    · skip
      refine o_icY X1 hx hby d11_25 (flt hc25_3).2.2.2 (by decide) (q := 30) (by decide) ?_
      refine o_iinc X1 hx hby d11_30 rfl (l' := #[rv o0, iv 0, iv 4, iv 1, iv (f_charAtc1n8i0 b0 b1 b2 b3 b4 b5 b6 b7 cs)]) rfl (q := 33) rfl ?_
      refine o_goto X1 hx hby d11_33 (by decide) (q := 2) (by decide) ?_
      refine o_iloadN X1 hx hby d11_2 rfl (q := 3) rfl ?_
      refine o_iloadN X1 hx hby d11_3 rfl (q := 4) rfl ?_
      refine o_icN X1 hx hby d11_4 (tlt (by decide : (1 : Int32) < (4 : Int32))).2.1 (q := 7) rfl ?_
      refine o_aloadN X1 hx hby d11_7 rfl rfl (q := 8) rfl ?_
      refine o_iloadN X1 hx hby d11_8 rfl (q := 9) rfl ?_
      obtain ⟨cq4, kq4, q4a, q4b, q4c⟩ := isOf hZ hh1 E
      obtain ⟨_, _, ⟨T4, L4, k4, n4⟩, -, X4, ⟨Lc4, hQ4, l4, y4, z4⟩, st4⟩ := X1.virtualBack hx (y := (⟨"java/lang/String", "charAt", "(I)C"⟩ : MethodName)) (z := (⟨"java/lang/String", "charAt", "(I)C"⟩ : MethodName)) hown (mvT hZ (w_ hw 50 rfl)) (mvT hZ (w_ hw 51 rfl)) (notFace_of_selects (args := #[]) (mvT hZ (w_ hw 53 rfl))) (mvT hZ (w_ hw 53 rfl)) (mvT hZ (w_ hw 52 rfl)) (by decide) (backOf (W := 0) (rm12c1n8i1 l Z a0 hw [] o0 ob k b0 b1 b2 b3 b4 b5 b6 b7 cs vf h0 n0 Z0 E Fv Fc V S_cs hcs S_f hvf S_ad S_hi S_lo) hZ (w_ hw 54 rfl) (w_ hw 8 rfl) (by decide) (by decide)) q4a q4c (g := (mkF m 9 #[rv o0, iv 0, iv 4, iv 1, iv (f_charAtc1n8i0 b0 b1 b2 b3 b4 b5 b6 b7 cs)] [.int 1, .ref o0])) rfl (by rw [hml]; rfl) (Steps.refl _) (argsL := [(.int 1)]) (rest := []) (lenOf pd_4 rfl) rfl (by show 2 * 0 + _ ≤ _; exact Nat.le_of_eq rfl) (hb hby d11_9) (fun _ _ => ⟨rfl, hh1, (by decide : 0 + 0 ≤ _), (by decide : 0 + 0 ≤ _)⟩)
      dsimp only [Pt.U, Pt.locs, Pt.cells, Pt.slots] at X4 l4 y4 z4 st4 hQ4
      subst l4 y4 z4
      obtain ⟨rfl, N4q, hh4⟩ := hQ4
      have N4 := Fr.app N1 N4q
      refine own_of (fun _ k => st4.trans k) ?_
      show own_Out p e below _ (T4.setTop (mkF m 12 #[rv o0, iv 0, iv 4, iv 1, iv (f_charAtc1n8i0 b0 b1 b2 b3 b4 b5 b6 b7 cs)] [.int (f_charAtc1n8i1 b0 b1 b2 b3 b4 b5 b6 b7 cs)]))
      refine o_istore X4 hx hby d11_12 (l' := #[rv o0, iv 0, iv 4, iv 1, iv (f_charAtc1n8i1 b0 b1 b2 b3 b4 b5 b6 b7 cs)]) rfl (q := 14) rfl ?_
      refine o_iload X4 hx hby d11_14 rfl (q := 16) rfl ?_
      refine o_bipush X4 hx hby d11_16 (z := 48) rfl (q := 18) rfl ?_
      by_cases hc18_5 : (f_charAtc1n8i1 b0 b1 b2 b3 b4 b5 b6 b7 cs) < (48 : Int32)
      · skip
        refine o_icY X4 hx hby d11_18 (tlt hc18_5).1 (by decide) (q := 28) (by decide) ?_
        refine o_iconst X4 hx hby d11_28 (z := 0) rfl (q := 29) rfl ?_
        exact own_outN X4 hx hlk (t := .boolean) hret (by simp) (hb hby d11_29) (z' := (0 : Int32)) rfl (Q := Q11c1n8x04 Z o0 ob k b0 b1 b2 b3 b4 b5 b6 b7 cs vf h0 n0) ⟨by simp only [fhc1n8x04, if_neg hcs, if_neg hc18_2, if_neg hc25_3, if_pos hc18_5], N4, hh4⟩ (by decide) (by decide)
      · skip
        refine o_icN X4 hx hby d11_18 (flt hc18_5).1 (q := 21) rfl ?_
        refine o_iload X4 hx hby d11_21 rfl (q := 23) rfl ?_
        refine o_bipush X4 hx hby d11_23 (z := 57) rfl (q := 25) rfl ?_
        by_cases hc25_6 : (57 : Int32) < (f_charAtc1n8i1 b0 b1 b2 b3 b4 b5 b6 b7 cs)
        · skip
          refine o_icN X4 hx hby d11_25 (tlt hc25_6).2.2.2 (q := 28) rfl ?_
          refine o_iconst X4 hx hby d11_28 (z := 0) rfl (q := 29) rfl ?_
          exact own_outN X4 hx hlk (t := .boolean) hret (by simp) (hb hby d11_29) (z' := (0 : Int32)) rfl (Q := Q11c1n8x04 Z o0 ob k b0 b1 b2 b3 b4 b5 b6 b7 cs vf h0 n0) ⟨by simp only [fhc1n8x04, if_neg hcs, if_neg hc18_2, if_neg hc25_3, if_neg hc18_5, if_pos hc25_6], N4, hh4⟩ (by decide) (by decide)
        · skip
          refine o_icY X4 hx hby d11_25 (flt hc25_6).2.2.2 (by decide) (q := 30) (by decide) ?_
          refine o_iinc X4 hx hby d11_30 rfl (l' := #[rv o0, iv 0, iv 4, iv 2, iv (f_charAtc1n8i1 b0 b1 b2 b3 b4 b5 b6 b7 cs)]) rfl (q := 33) rfl ?_
          refine o_goto X4 hx hby d11_33 (by decide) (q := 2) (by decide) ?_
          refine o_iloadN X4 hx hby d11_2 rfl (q := 3) rfl ?_
          refine o_iloadN X4 hx hby d11_3 rfl (q := 4) rfl ?_
          refine o_icN X4 hx hby d11_4 (tlt (by decide : (2 : Int32) < (4 : Int32))).2.1 (q := 7) rfl ?_
          refine o_aloadN X4 hx hby d11_7 rfl rfl (q := 8) rfl ?_
          refine o_iloadN X4 hx hby d11_8 rfl (q := 9) rfl ?_
          obtain ⟨cq7, kq7, q7a, q7b, q7c⟩ := isOf hZ hh4 E
          obtain ⟨_, _, ⟨T7, L7, k7, n7⟩, -, X7, ⟨Lc7, hQ7, l7, y7, z7⟩, st7⟩ := X4.virtualBack hx (y := (⟨"java/lang/String", "charAt", "(I)C"⟩ : MethodName)) (z := (⟨"java/lang/String", "charAt", "(I)C"⟩ : MethodName)) hown (mvT hZ (w_ hw 50 rfl)) (mvT hZ (w_ hw 51 rfl)) (notFace_of_selects (args := #[]) (mvT hZ (w_ hw 53 rfl))) (mvT hZ (w_ hw 53 rfl)) (mvT hZ (w_ hw 52 rfl)) (by decide) (backOf (W := 0) (rm12c1n8i2 l Z a0 hw [] o0 ob k b0 b1 b2 b3 b4 b5 b6 b7 cs vf h0 n0 Z0 E Fv Fc V S_cs hcs S_f hvf S_ad S_hi S_lo) hZ (w_ hw 54 rfl) (w_ hw 8 rfl) (by decide) (by decide)) q7a q7c (g := (mkF m 9 #[rv o0, iv 0, iv 4, iv 2, iv (f_charAtc1n8i1 b0 b1 b2 b3 b4 b5 b6 b7 cs)] [.int 2, .ref o0])) rfl (by rw [hml]; rfl) (Steps.refl _) (argsL := [(.int 2)]) (rest := []) (lenOf pd_4 rfl) rfl (by show 2 * 0 + _ ≤ _; exact Nat.le_of_eq rfl) (hb hby d11_9) (fun _ _ => ⟨rfl, hh4, (by decide : 0 + 0 ≤ _), (by decide : 0 + 0 ≤ _)⟩)
          dsimp only [Pt.U, Pt.locs, Pt.cells, Pt.slots] at X7 l7 y7 z7 st7 hQ7
          subst l7 y7 z7
          obtain ⟨rfl, N7q, hh7⟩ := hQ7
          have N7 := Fr.app N4 N7q
          refine own_of (fun _ k => st7.trans k) ?_
          show own_Out p e below _ (T7.setTop (mkF m 12 #[rv o0, iv 0, iv 4, iv 2, iv (f_charAtc1n8i1 b0 b1 b2 b3 b4 b5 b6 b7 cs)] [.int (f_charAtc1n8i2 b0 b1 b2 b3 b4 b5 b6 b7 cs)]))
          refine o_istore X7 hx hby d11_12 (l' := #[rv o0, iv 0, iv 4, iv 2, iv (f_charAtc1n8i2 b0 b1 b2 b3 b4 b5 b6 b7 cs)]) rfl (q := 14) rfl ?_
          refine o_iload X7 hx hby d11_14 rfl (q := 16) rfl ?_
          refine o_bipush X7 hx hby d11_16 (z := 48) rfl (q := 18) rfl ?_
          by_cases hc18_8 : (f_charAtc1n8i2 b0 b1 b2 b3 b4 b5 b6 b7 cs) < (48 : Int32)
          · skip
            refine o_icY X7 hx hby d11_18 (tlt hc18_8).1 (by decide) (q := 28) (by decide) ?_
            refine o_iconst X7 hx hby d11_28 (z := 0) rfl (q := 29) rfl ?_
            exact own_outN X7 hx hlk (t := .boolean) hret (by simp) (hb hby d11_29) (z' := (0 : Int32)) rfl (Q := Q11c1n8x04 Z o0 ob k b0 b1 b2 b3 b4 b5 b6 b7 cs vf h0 n0) ⟨by simp only [fhc1n8x04, if_neg hcs, if_neg hc18_2, if_neg hc25_3, if_neg hc18_5, if_neg hc25_6, if_pos hc18_8], N7, hh7⟩ (by decide) (by decide)
          · skip
            refine o_icN X7 hx hby d11_18 (flt hc18_8).1 (q := 21) rfl ?_
            refine o_iload X7 hx hby d11_21 rfl (q := 23) rfl ?_
            refine o_bipush X7 hx hby d11_23 (z := 57) rfl (q := 25) rfl ?_
            by_cases hc25_9 : (57 : Int32) < (f_charAtc1n8i2 b0 b1 b2 b3 b4 b5 b6 b7 cs)
            · skip
              refine o_icN X7 hx hby d11_25 (tlt hc25_9).2.2.2 (q := 28) rfl ?_
              refine o_iconst X7 hx hby d11_28 (z := 0) rfl (q := 29) rfl ?_
              exact own_outN X7 hx hlk (t := .boolean) hret (by simp) (hb hby d11_29) (z' := (0 : Int32)) rfl (Q := Q11c1n8x04 Z o0 ob k b0 b1 b2 b3 b4 b5 b6 b7 cs vf h0 n0) ⟨by simp only [fhc1n8x04, if_neg hcs, if_neg hc18_2, if_neg hc25_3, if_neg hc18_5, if_neg hc25_6, if_neg hc18_8, if_pos hc25_9], N7, hh7⟩ (by decide) (by decide)
            · skip
              refine o_icY X7 hx hby d11_25 (flt hc25_9).2.2.2 (by decide) (q := 30) (by decide) ?_
              refine o_iinc X7 hx hby d11_30 rfl (l' := #[rv o0, iv 0, iv 4, iv 3, iv (f_charAtc1n8i2 b0 b1 b2 b3 b4 b5 b6 b7 cs)]) rfl (q := 33) rfl ?_
              refine o_goto X7 hx hby d11_33 (by decide) (q := 2) (by decide) ?_
              refine o_iloadN X7 hx hby d11_2 rfl (q := 3) rfl ?_
              refine o_iloadN X7 hx hby d11_3 rfl (q := 4) rfl ?_
              refine o_icN X7 hx hby d11_4 (tlt (by decide : (3 : Int32) < (4 : Int32))).2.1 (q := 7) rfl ?_
              refine o_aloadN X7 hx hby d11_7 rfl rfl (q := 8) rfl ?_
              refine o_iloadN X7 hx hby d11_8 rfl (q := 9) rfl ?_
              obtain ⟨cq10, kq10, q10a, q10b, q10c⟩ := isOf hZ hh7 E
              obtain ⟨_, _, ⟨T10, L10, k10, n10⟩, -, X10, ⟨Lc10, hQ10, l10, y10, z10⟩, st10⟩ := X7.virtualBack hx (y := (⟨"java/lang/String", "charAt", "(I)C"⟩ : MethodName)) (z := (⟨"java/lang/String", "charAt", "(I)C"⟩ : MethodName)) hown (mvT hZ (w_ hw 50 rfl)) (mvT hZ (w_ hw 51 rfl)) (notFace_of_selects (args := #[]) (mvT hZ (w_ hw 53 rfl))) (mvT hZ (w_ hw 53 rfl)) (mvT hZ (w_ hw 52 rfl)) (by decide) (backOf (W := 0) (rm12c1n8i3 l Z a0 hw [] o0 ob k b0 b1 b2 b3 b4 b5 b6 b7 cs vf h0 n0 Z0 E Fv Fc V S_cs hcs S_f hvf S_ad S_hi S_lo) hZ (w_ hw 54 rfl) (w_ hw 8 rfl) (by decide) (by decide)) q10a q10c (g := (mkF m 9 #[rv o0, iv 0, iv 4, iv 3, iv (f_charAtc1n8i2 b0 b1 b2 b3 b4 b5 b6 b7 cs)] [.int 3, .ref o0])) rfl (by rw [hml]; rfl) (Steps.refl _) (argsL := [(.int 3)]) (rest := []) (lenOf pd_4 rfl) rfl (by show 2 * 0 + _ ≤ _; exact Nat.le_of_eq rfl) (hb hby d11_9) (fun _ _ => ⟨rfl, hh7, (by decide : 0 + 0 ≤ _), (by decide : 0 + 0 ≤ _)⟩)
              dsimp only [Pt.U, Pt.locs, Pt.cells, Pt.slots] at X10 l10 y10 z10 st10 hQ10
              subst l10 y10 z10
              obtain ⟨rfl, N10q, hh10⟩ := hQ10
              have N10 := Fr.app N7 N10q
              refine own_of (fun _ k => st10.trans k) ?_
              show own_Out p e below _ (T10.setTop (mkF m 12 #[rv o0, iv 0, iv 4, iv 3, iv (f_charAtc1n8i2 b0 b1 b2 b3 b4 b5 b6 b7 cs)] [.int (f_charAtc1n8i3 b0 b1 b2 b3 b4 b5 b6 b7 cs)]))
              refine o_istore X10 hx hby d11_12 (l' := #[rv o0, iv 0, iv 4, iv 3, iv (f_charAtc1n8i3 b0 b1 b2 b3 b4 b5 b6 b7 cs)]) rfl (q := 14) rfl ?_
              refine o_iload X10 hx hby d11_14 rfl (q := 16) rfl ?_
              refine o_bipush X10 hx hby d11_16 (z := 48) rfl (q := 18) rfl ?_
              by_cases hc18_11 : (f_charAtc1n8i3 b0 b1 b2 b3 b4 b5 b6 b7 cs) < (48 : Int32)
              · skip
                refine o_icY X10 hx hby d11_18 (tlt hc18_11).1 (by decide) (q := 28) (by decide) ?_
                refine o_iconst X10 hx hby d11_28 (z := 0) rfl (q := 29) rfl ?_
                exact own_outN X10 hx hlk (t := .boolean) hret (by simp) (hb hby d11_29) (z' := (0 : Int32)) rfl (Q := Q11c1n8x04 Z o0 ob k b0 b1 b2 b3 b4 b5 b6 b7 cs vf h0 n0) ⟨by simp only [fhc1n8x04, if_neg hcs, if_neg hc18_2, if_neg hc25_3, if_neg hc18_5, if_neg hc25_6, if_neg hc18_8, if_neg hc25_9, if_pos hc18_11], N10, hh10⟩ (by decide) (by decide)
              · skip
                refine o_icN X10 hx hby d11_18 (flt hc18_11).1 (q := 21) rfl ?_
                refine o_iload X10 hx hby d11_21 rfl (q := 23) rfl ?_
                refine o_bipush X10 hx hby d11_23 (z := 57) rfl (q := 25) rfl ?_
                by_cases hc25_12 : (57 : Int32) < (f_charAtc1n8i3 b0 b1 b2 b3 b4 b5 b6 b7 cs)
                · skip
                  refine o_icN X10 hx hby d11_25 (tlt hc25_12).2.2.2 (q := 28) rfl ?_
                  refine o_iconst X10 hx hby d11_28 (z := 0) rfl (q := 29) rfl ?_
                  exact own_outN X10 hx hlk (t := .boolean) hret (by simp) (hb hby d11_29) (z' := (0 : Int32)) rfl (Q := Q11c1n8x04 Z o0 ob k b0 b1 b2 b3 b4 b5 b6 b7 cs vf h0 n0) ⟨by simp only [fhc1n8x04, if_neg hcs, if_neg hc18_2, if_neg hc25_3, if_neg hc18_5, if_neg hc25_6, if_neg hc18_8, if_neg hc25_9, if_neg hc18_11, if_pos hc25_12], N10, hh10⟩ (by decide) (by decide)
                · skip
                  refine o_icY X10 hx hby d11_25 (flt hc25_12).2.2.2 (by decide) (q := 30) (by decide) ?_
                  refine o_iinc X10 hx hby d11_30 rfl (l' := #[rv o0, iv 0, iv 4, iv 4, iv (f_charAtc1n8i3 b0 b1 b2 b3 b4 b5 b6 b7 cs)]) rfl (q := 33) rfl ?_
                  refine o_goto X10 hx hby d11_33 (by decide) (q := 2) (by decide) ?_
                  refine o_iloadN X10 hx hby d11_2 rfl (q := 3) rfl ?_
                  refine o_iloadN X10 hx hby d11_3 rfl (q := 4) rfl ?_
                  refine o_icY X10 hx hby d11_4 (flt (by decide : ¬ ((4 : Int32) < (4 : Int32)))).2.1 (by decide) (q := 36) (by decide) ?_
                  refine o_iconst X10 hx hby d11_36 (z := 1) rfl (q := 37) rfl ?_
                  exact own_outN X10 hx hlk (t := .boolean) hret (by simp) (hb hby d11_37) (z' := (1 : Int32)) rfl (Q := Q11c1n8x04 Z o0 ob k b0 b1 b2 b3 b4 b5 b6 b7 cs vf h0 n0) ⟨by simp only [fhc1n8x04, if_neg hcs, if_neg hc18_2, if_neg hc25_3, if_neg hc18_5, if_neg hc25_6, if_neg hc18_8, if_neg hc25_9, if_neg hc18_11, if_neg hc25_12], N10, hh10⟩ (by decide) (by decide)
theorem ef_11c1n8x11 (m : MethodId) (x0 : Addr) : entryFrame m #[(.ref x0), (.int 1), (.int 1)] 5 = mkF m 0 #[.val (.ref x0), .val (.int 1), .val (.int 1), .unset, .unset] [] := by first | (simp [entryFrame, mkF, argsToLocals, Value.category]; done) | rfl
def fhc1n8x11 (b0 b1 b2 b3 b4 b5 b6 b7 cs : Int32) : Int32 := (1 : Int32)
def Q11c1n8x11 (Z : State) (o0 ob : Addr) (k : ClassId) (b0 b1 b2 b3 b4 b5 b6 b7 cs : Int32) (vf : Value) (h0 : Heap) (n0 : Nat) (v : Option Value) (h : Heap) (L : List Loc) : Prop := v = some (.int (fhc1n8x11 b0 b1 b2 b3 b4 b5 b6 b7 cs)) ∧ Fr n0 L ∧ h = h0
set_option maxRecDepth 65536 in
set_option maxHeartbeats 40000000 in
theorem rm11c1n8x11 (l : Launch) (Z : State) (a0 : Array Value) (hw : ∀ d ∈ tables_1, d.before a0 Z = true) (ws : List Jvm.Cond) (o0 ob : Addr) (k : ClassId) (b0 b1 b2 b3 b4 b5 b6 b7 cs : Int32) (vf : Value) (h0 : Heap) (n0 : Nat) (Z0 : n0 ≤ h0.size) (E : Exa Z h0 o0 "java/lang/String") (Fv : Fld Z h0 o0 "java/lang/String" "value" "[B" (.ref ob)) (Fc : Fld Z h0 o0 "java/lang/String" "coder" "B" (.int 1)) (V : Arv Z h0 ob k .byte (8 : Int32) [(.int b0), (.int b1), (.int b2), (.int b3), (.int b4), (.int b5), (.int b6), (.int b7)] (.int 0)) (S_cs : Sta Z h0 "java/lang/String" "COMPACT_STRINGS" "Z" (.int cs)) (hcs : ¬ (cs = (0 : Int32))) (S_f : Sta Z h0 "jdk/internal/util/Preconditions" "SIOOBE_FORMATTER" "Ljava/util/function/BiFunction;" vf) (hvf : vf.isRef = true) (S_ad : Sta Z h0 "java/lang/StringUTF16" "$assertionsDisabled" "Z" (.int 1)) (S_hi : Sta Z h0 "java/lang/StringUTF16" "HI_BYTE_SHIFT" "I" (.int 0)) (S_lo : Sta Z h0 "java/lang/StringUTF16" "LO_BYTE_SHIFT" "I" (.int 8)) :
    MetFree l (⟨"com/example/fides/fides/ledger/Position", "hasOnlyAsciiDigits", "(Ljava/lang/String;II)Z"⟩ : MethodName) (head1 (Jvm.Cond.code (⟨"com/example/fides/fides/ledger/Position", "hasOnlyAsciiDigits", "(Ljava/lang/String;II)Z"⟩ : MethodName) prog_28_method_5_code 5 (some .boolean) :: ws) (⟨5, 0, 0, 66⟩ : Room)) (fun a U => a = #[(.ref o0), (.int 1), (.int 1)] ∧ Z.Warmed39 U.vm ∧ U.heap = h0) (fun _ _ _ _ _ => True) (fun _ U o U' => ∃ v L, o = .returned v ∧ Q11c1n8x11 Z o0 ob k b0 b1 b2 b3 b4 b5 b6 b7 cs vf h0 n0 v U'.heap L ∧ FrameEnd U o U' L (⟨5, 0, 0, 66⟩ : Room).cells (⟨5, 0, 0, 66⟩ : Room).slots) := by
  refine MetFree.of_bodySF (plainFor_of_name pn_4) hisR ?_
  intro p e s m args below meth c s₁ Bd hml0 hP hK
  obtain ⟨rfl, hZ, hh⟩ := hP
  have hx := Bd.exec
  have hby := Bd.bytes
  have hml : c.maxLocals = 5 := hml0
  have hown : s.vm.findClass "com/example/fides/fides/ledger/Position" = some m.cls := findClass_of_methodNamed Bd.named
  have hnm := (name_of_methodNamed Bd.named Bd.method).1
  have X0 : Stand p l e (⟨5, 0, 0, 66⟩ : Room) s m #[(.ref o0), (.int 1), (.int 1)] below meth c s₁ [] 0 0 := Stand.of_body Bd
  have e0 : s₁.heap = h0 := by rw [← hh, Bd.state]; rfl
  have N0 := Fr.nil n0
  have hret := Bd.returns
  have hlk := BodyLoose.notSynchronized Bd
  show own_Out p e below (fun o U' => ∃ v L, o = .returned v ∧ Q11c1n8x11 Z o0 ob k b0 b1 b2 b3 b4 b5 b6 b7 cs vf h0 n0 v U'.heap L ∧ FrameEnd s o U' L (⟨5, 0, 0, 66⟩ : Room).cells (⟨5, 0, 0, 66⟩ : Room).slots) (s₁.setTop (entryFrame m #[(.ref o0), (.int 1), (.int 1)] 5))
  refine own_of (fun t k => castTop (ef_11c1n8x11 m o0) k) ?_
  show own_Out p e below _ (s₁.setTop (mkF m 0 #[rv o0, iv 1, iv 1, .unset, .unset] []))
  refine o_iloadN X0 hx hby d11_0 rfl (q := 1) rfl ?_
  refine o_istoreN X0 hx hby d11_1 (l' := #[rv o0, iv 1, iv 1, iv 1, .unset]) rfl (q := 2) rfl ?_
  refine o_iloadN X0 hx hby d11_2 rfl (q := 3) rfl ?_
  refine o_iloadN X0 hx hby d11_3 rfl (q := 4) rfl ?_
  refine o_icY X0 hx hby d11_4 (flt (by decide : ¬ ((1 : Int32) < (1 : Int32)))).2.1 (by decide) (q := 36) (by decide) ?_
  refine o_iconst X0 hx hby d11_36 (z := 1) rfl (q := 37) rfl ?_
  exact own_outN X0 hx hlk (t := .boolean) hret (by simp) (hb hby d11_37) (z' := (1 : Int32)) rfl (Q := Q11c1n8x11 Z o0 ob k b0 b1 b2 b3 b4 b5 b6 b7 cs vf h0 n0) ⟨by simp only [fhc1n8x11, if_neg hcs], N0, e0⟩ (by decide) (by decide)
theorem ef_11c1n8x12 (m : MethodId) (x0 : Addr) : entryFrame m #[(.ref x0), (.int 1), (.int 2)] 5 = mkF m 0 #[.val (.ref x0), .val (.int 1), .val (.int 2), .unset, .unset] [] := by first | (simp [entryFrame, mkF, argsToLocals, Value.category]; done) | rfl
def fhc1n8x12 (b0 b1 b2 b3 b4 b5 b6 b7 cs : Int32) : Int32 := if (f_charAtc1n8i1 b0 b1 b2 b3 b4 b5 b6 b7 cs) < (48 : Int32) then (0 : Int32)
  else if (57 : Int32) < (f_charAtc1n8i1 b0 b1 b2 b3 b4 b5 b6 b7 cs) then (0 : Int32)
    else (1 : Int32)
def Q11c1n8x12 (Z : State) (o0 ob : Addr) (k : ClassId) (b0 b1 b2 b3 b4 b5 b6 b7 cs : Int32) (vf : Value) (h0 : Heap) (n0 : Nat) (v : Option Value) (h : Heap) (L : List Loc) : Prop := v = some (.int (fhc1n8x12 b0 b1 b2 b3 b4 b5 b6 b7 cs)) ∧ Fr n0 L ∧ h = h0
set_option maxRecDepth 65536 in
set_option maxHeartbeats 40000000 in
theorem rm11c1n8x12 (l : Launch) (Z : State) (a0 : Array Value) (hw : ∀ d ∈ tables_1, d.before a0 Z = true) (ws : List Jvm.Cond) (o0 ob : Addr) (k : ClassId) (b0 b1 b2 b3 b4 b5 b6 b7 cs : Int32) (vf : Value) (h0 : Heap) (n0 : Nat) (Z0 : n0 ≤ h0.size) (E : Exa Z h0 o0 "java/lang/String") (Fv : Fld Z h0 o0 "java/lang/String" "value" "[B" (.ref ob)) (Fc : Fld Z h0 o0 "java/lang/String" "coder" "B" (.int 1)) (V : Arv Z h0 ob k .byte (8 : Int32) [(.int b0), (.int b1), (.int b2), (.int b3), (.int b4), (.int b5), (.int b6), (.int b7)] (.int 0)) (S_cs : Sta Z h0 "java/lang/String" "COMPACT_STRINGS" "Z" (.int cs)) (hcs : ¬ (cs = (0 : Int32))) (S_f : Sta Z h0 "jdk/internal/util/Preconditions" "SIOOBE_FORMATTER" "Ljava/util/function/BiFunction;" vf) (hvf : vf.isRef = true) (S_ad : Sta Z h0 "java/lang/StringUTF16" "$assertionsDisabled" "Z" (.int 1)) (S_hi : Sta Z h0 "java/lang/StringUTF16" "HI_BYTE_SHIFT" "I" (.int 0)) (S_lo : Sta Z h0 "java/lang/StringUTF16" "LO_BYTE_SHIFT" "I" (.int 8)) :
    MetFree l (⟨"com/example/fides/fides/ledger/Position", "hasOnlyAsciiDigits", "(Ljava/lang/String;II)Z"⟩ : MethodName) (head1 (Jvm.Cond.code (⟨"com/example/fides/fides/ledger/Position", "hasOnlyAsciiDigits", "(Ljava/lang/String;II)Z"⟩ : MethodName) prog_28_method_5_code 5 (some .boolean) :: ws) (⟨5, 0, 0, 66⟩ : Room)) (fun a U => a = #[(.ref o0), (.int 1), (.int 2)] ∧ Z.Warmed39 U.vm ∧ U.heap = h0) (fun _ _ _ _ _ => True) (fun _ U o U' => ∃ v L, o = .returned v ∧ Q11c1n8x12 Z o0 ob k b0 b1 b2 b3 b4 b5 b6 b7 cs vf h0 n0 v U'.heap L ∧ FrameEnd U o U' L (⟨5, 0, 0, 66⟩ : Room).cells (⟨5, 0, 0, 66⟩ : Room).slots) := by
  refine MetFree.of_bodySF (plainFor_of_name pn_4) hisR ?_
  intro p e s m args below meth c s₁ Bd hml0 hP hK
  obtain ⟨rfl, hZ, hh⟩ := hP
  have hx := Bd.exec
  have hby := Bd.bytes
  have hml : c.maxLocals = 5 := hml0
  have hown : s.vm.findClass "com/example/fides/fides/ledger/Position" = some m.cls := findClass_of_methodNamed Bd.named
  have hnm := (name_of_methodNamed Bd.named Bd.method).1
  have X0 : Stand p l e (⟨5, 0, 0, 66⟩ : Room) s m #[(.ref o0), (.int 1), (.int 2)] below meth c s₁ [] 0 0 := Stand.of_body Bd
  have e0 : s₁.heap = h0 := by rw [← hh, Bd.state]; rfl
  have N0 := Fr.nil n0
  have hret := Bd.returns
  have hlk := BodyLoose.notSynchronized Bd
  show own_Out p e below (fun o U' => ∃ v L, o = .returned v ∧ Q11c1n8x12 Z o0 ob k b0 b1 b2 b3 b4 b5 b6 b7 cs vf h0 n0 v U'.heap L ∧ FrameEnd s o U' L (⟨5, 0, 0, 66⟩ : Room).cells (⟨5, 0, 0, 66⟩ : Room).slots) (s₁.setTop (entryFrame m #[(.ref o0), (.int 1), (.int 2)] 5))
  refine own_of (fun t k => castTop (ef_11c1n8x12 m o0) k) ?_
  show own_Out p e below _ (s₁.setTop (mkF m 0 #[rv o0, iv 1, iv 2, .unset, .unset] []))
  refine o_iloadN X0 hx hby d11_0 rfl (q := 1) rfl ?_
  refine o_istoreN X0 hx hby d11_1 (l' := #[rv o0, iv 1, iv 2, iv 1, .unset]) rfl (q := 2) rfl ?_
  refine o_iloadN X0 hx hby d11_2 rfl (q := 3) rfl ?_
  refine o_iloadN X0 hx hby d11_3 rfl (q := 4) rfl ?_
  refine o_icN X0 hx hby d11_4 (tlt (by decide : (1 : Int32) < (2 : Int32))).2.1 (q := 7) rfl ?_
  refine o_aloadN X0 hx hby d11_7 rfl rfl (q := 8) rfl ?_
  refine o_iloadN X0 hx hby d11_8 rfl (q := 9) rfl ?_
  obtain ⟨cq1, kq1, q1a, q1b, q1c⟩ := isOf hZ e0 E
  obtain ⟨_, _, ⟨T1, L1, k1, n1⟩, -, X1, ⟨Lc1, hQ1, l1, y1, z1⟩, st1⟩ := X0.virtualBack hx (y := (⟨"java/lang/String", "charAt", "(I)C"⟩ : MethodName)) (z := (⟨"java/lang/String", "charAt", "(I)C"⟩ : MethodName)) hown (mvT hZ (w_ hw 50 rfl)) (mvT hZ (w_ hw 51 rfl)) (notFace_of_selects (args := #[]) (mvT hZ (w_ hw 53 rfl))) (mvT hZ (w_ hw 53 rfl)) (mvT hZ (w_ hw 52 rfl)) (by decide) (backOf (W := 0) (rm12c1n8i1 l Z a0 hw [] o0 ob k b0 b1 b2 b3 b4 b5 b6 b7 cs vf h0 n0 Z0 E Fv Fc V S_cs hcs S_f hvf S_ad S_hi S_lo) hZ (w_ hw 54 rfl) (w_ hw 8 rfl) (by decide) (by decide)) q1a q1c (g := (mkF m 9 #[rv o0, iv 1, iv 2, iv 1, .unset] [.int 1, .ref o0])) rfl (by rw [hml]; rfl) (Steps.refl _) (argsL := [(.int 1)]) (rest := []) (lenOf pd_4 rfl) rfl (by show 2 * 0 + _ ≤ _; exact Nat.le_of_eq rfl) (hb hby d11_9) (fun _ _ => ⟨rfl, e0, (by decide : 0 + 0 ≤ _), (by decide : 0 + 0 ≤ _)⟩)
  dsimp only [Pt.U, Pt.locs, Pt.cells, Pt.slots] at X1 l1 y1 z1 st1 hQ1
  subst l1 y1 z1
  obtain ⟨rfl, N1q, hh1⟩ := hQ1
  have N1 := Fr.app N0 N1q
  refine own_of (fun _ k => st1.trans k) ?_
  show own_Out p e below _ (T1.setTop (mkF m 12 #[rv o0, iv 1, iv 2, iv 1, .unset] [.int (f_charAtc1n8i1 b0 b1 b2 b3 b4 b5 b6 b7 cs)]))
  refine o_istore X1 hx hby d11_12 (l' := #[rv o0, iv 1, iv 2, iv 1, iv (f_charAtc1n8i1 b0 b1 b2 b3 b4 b5 b6 b7 cs)]) rfl (q := 14) rfl ?_
  refine o_iload X1 hx hby d11_14 rfl (q := 16) rfl ?_
  refine o_bipush X1 hx hby d11_16 (z := 48) rfl (q := 18) rfl ?_
  by_cases hc18_2 : (f_charAtc1n8i1 b0 b1 b2 b3 b4 b5 b6 b7 cs) < (48 : Int32)
  · skip
    refine o_icY X1 hx hby d11_18 (tlt hc18_2).1 (by decide) (q := 28) (by decide) ?_
    refine o_iconst X1 hx hby d11_28 (z := 0) rfl (q := 29) rfl ?_
    exact own_outN X1 hx hlk (t := .boolean) hret (by simp) (hb hby d11_29) (z' := (0 : Int32)) rfl (Q := Q11c1n8x12 Z o0 ob k b0 b1 b2 b3 b4 b5 b6 b7 cs vf h0 n0) ⟨by simp only [fhc1n8x12, if_neg hcs, if_pos hc18_2], N1, hh1⟩ (by decide) (by decide)
  · skip
    refine o_icN X1 hx hby d11_18 (flt hc18_2).1 (q := 21) rfl ?_
    refine o_iload X1 hx hby d11_21 rfl (q := 23) rfl ?_
    refine o_bipush X1 hx hby d11_23 (z := 57) rfl (q := 25) rfl ?_
    by_cases hc25_3 : (57 : Int32) < (f_charAtc1n8i1 b0 b1 b2 b3 b4 b5 b6 b7 cs)
    · skip
      refine o_icN X1 hx hby d11_25 (tlt hc25_3).2.2.2 (q := 28) rfl ?_
      refine o_iconst X1 hx hby d11_28 (z := 0) rfl (q := 29) rfl ?_
      exact own_outN X1 hx hlk (t := .boolean) hret (by simp) (hb hby d11_29) (z' := (0 : Int32)) rfl (Q := Q11c1n8x12 Z o0 ob k b0 b1 b2 b3 b4 b5 b6 b7 cs vf h0 n0) ⟨by simp only [fhc1n8x12, if_neg hcs, if_neg hc18_2, if_pos hc25_3], N1, hh1⟩ (by decide) (by decide)
    · skip
      refine o_icY X1 hx hby d11_25 (flt hc25_3).2.2.2 (by decide) (q := 30) (by decide) ?_
      refine o_iinc X1 hx hby d11_30 rfl (l' := #[rv o0, iv 1, iv 2, iv 2, iv (f_charAtc1n8i1 b0 b1 b2 b3 b4 b5 b6 b7 cs)]) rfl (q := 33) rfl ?_
      refine o_goto X1 hx hby d11_33 (by decide) (q := 2) (by decide) ?_
      refine o_iloadN X1 hx hby d11_2 rfl (q := 3) rfl ?_
      refine o_iloadN X1 hx hby d11_3 rfl (q := 4) rfl ?_
      refine o_icY X1 hx hby d11_4 (flt (by decide : ¬ ((2 : Int32) < (2 : Int32)))).2.1 (by decide) (q := 36) (by decide) ?_
      refine o_iconst X1 hx hby d11_36 (z := 1) rfl (q := 37) rfl ?_
      exact own_outN X1 hx hlk (t := .boolean) hret (by simp) (hb hby d11_37) (z' := (1 : Int32)) rfl (Q := Q11c1n8x12 Z o0 ob k b0 b1 b2 b3 b4 b5 b6 b7 cs vf h0 n0) ⟨by simp only [fhc1n8x12, if_neg hcs, if_neg hc18_2, if_neg hc25_3], N1, hh1⟩ (by decide) (by decide)
theorem ef_11c1n8x13 (m : MethodId) (x0 : Addr) : entryFrame m #[(.ref x0), (.int 1), (.int 3)] 5 = mkF m 0 #[.val (.ref x0), .val (.int 1), .val (.int 3), .unset, .unset] [] := by first | (simp [entryFrame, mkF, argsToLocals, Value.category]; done) | rfl
def fhc1n8x13 (b0 b1 b2 b3 b4 b5 b6 b7 cs : Int32) : Int32 := if (f_charAtc1n8i1 b0 b1 b2 b3 b4 b5 b6 b7 cs) < (48 : Int32) then (0 : Int32)
  else if (57 : Int32) < (f_charAtc1n8i1 b0 b1 b2 b3 b4 b5 b6 b7 cs) then (0 : Int32)
    else if (f_charAtc1n8i2 b0 b1 b2 b3 b4 b5 b6 b7 cs) < (48 : Int32) then (0 : Int32)
      else if (57 : Int32) < (f_charAtc1n8i2 b0 b1 b2 b3 b4 b5 b6 b7 cs) then (0 : Int32)
        else (1 : Int32)
def Q11c1n8x13 (Z : State) (o0 ob : Addr) (k : ClassId) (b0 b1 b2 b3 b4 b5 b6 b7 cs : Int32) (vf : Value) (h0 : Heap) (n0 : Nat) (v : Option Value) (h : Heap) (L : List Loc) : Prop := v = some (.int (fhc1n8x13 b0 b1 b2 b3 b4 b5 b6 b7 cs)) ∧ Fr n0 L ∧ h = h0
set_option maxRecDepth 65536 in
set_option maxHeartbeats 40000000 in
theorem rm11c1n8x13 (l : Launch) (Z : State) (a0 : Array Value) (hw : ∀ d ∈ tables_1, d.before a0 Z = true) (ws : List Jvm.Cond) (o0 ob : Addr) (k : ClassId) (b0 b1 b2 b3 b4 b5 b6 b7 cs : Int32) (vf : Value) (h0 : Heap) (n0 : Nat) (Z0 : n0 ≤ h0.size) (E : Exa Z h0 o0 "java/lang/String") (Fv : Fld Z h0 o0 "java/lang/String" "value" "[B" (.ref ob)) (Fc : Fld Z h0 o0 "java/lang/String" "coder" "B" (.int 1)) (V : Arv Z h0 ob k .byte (8 : Int32) [(.int b0), (.int b1), (.int b2), (.int b3), (.int b4), (.int b5), (.int b6), (.int b7)] (.int 0)) (S_cs : Sta Z h0 "java/lang/String" "COMPACT_STRINGS" "Z" (.int cs)) (hcs : ¬ (cs = (0 : Int32))) (S_f : Sta Z h0 "jdk/internal/util/Preconditions" "SIOOBE_FORMATTER" "Ljava/util/function/BiFunction;" vf) (hvf : vf.isRef = true) (S_ad : Sta Z h0 "java/lang/StringUTF16" "$assertionsDisabled" "Z" (.int 1)) (S_hi : Sta Z h0 "java/lang/StringUTF16" "HI_BYTE_SHIFT" "I" (.int 0)) (S_lo : Sta Z h0 "java/lang/StringUTF16" "LO_BYTE_SHIFT" "I" (.int 8)) :
    MetFree l (⟨"com/example/fides/fides/ledger/Position", "hasOnlyAsciiDigits", "(Ljava/lang/String;II)Z"⟩ : MethodName) (head1 (Jvm.Cond.code (⟨"com/example/fides/fides/ledger/Position", "hasOnlyAsciiDigits", "(Ljava/lang/String;II)Z"⟩ : MethodName) prog_28_method_5_code 5 (some .boolean) :: ws) (⟨5, 0, 0, 66⟩ : Room)) (fun a U => a = #[(.ref o0), (.int 1), (.int 3)] ∧ Z.Warmed39 U.vm ∧ U.heap = h0) (fun _ _ _ _ _ => True) (fun _ U o U' => ∃ v L, o = .returned v ∧ Q11c1n8x13 Z o0 ob k b0 b1 b2 b3 b4 b5 b6 b7 cs vf h0 n0 v U'.heap L ∧ FrameEnd U o U' L (⟨5, 0, 0, 66⟩ : Room).cells (⟨5, 0, 0, 66⟩ : Room).slots) := by
  refine MetFree.of_bodySF (plainFor_of_name pn_4) hisR ?_
  intro p e s m args below meth c s₁ Bd hml0 hP hK
  obtain ⟨rfl, hZ, hh⟩ := hP
  have hx := Bd.exec
  have hby := Bd.bytes
  have hml : c.maxLocals = 5 := hml0
  have hown : s.vm.findClass "com/example/fides/fides/ledger/Position" = some m.cls := findClass_of_methodNamed Bd.named
  have hnm := (name_of_methodNamed Bd.named Bd.method).1
  have X0 : Stand p l e (⟨5, 0, 0, 66⟩ : Room) s m #[(.ref o0), (.int 1), (.int 3)] below meth c s₁ [] 0 0 := Stand.of_body Bd
  have e0 : s₁.heap = h0 := by rw [← hh, Bd.state]; rfl
  have N0 := Fr.nil n0
  have hret := Bd.returns
  have hlk := BodyLoose.notSynchronized Bd
  show own_Out p e below (fun o U' => ∃ v L, o = .returned v ∧ Q11c1n8x13 Z o0 ob k b0 b1 b2 b3 b4 b5 b6 b7 cs vf h0 n0 v U'.heap L ∧ FrameEnd s o U' L (⟨5, 0, 0, 66⟩ : Room).cells (⟨5, 0, 0, 66⟩ : Room).slots) (s₁.setTop (entryFrame m #[(.ref o0), (.int 1), (.int 3)] 5))
  refine own_of (fun t k => castTop (ef_11c1n8x13 m o0) k) ?_
  show own_Out p e below _ (s₁.setTop (mkF m 0 #[rv o0, iv 1, iv 3, .unset, .unset] []))
  refine o_iloadN X0 hx hby d11_0 rfl (q := 1) rfl ?_
  refine o_istoreN X0 hx hby d11_1 (l' := #[rv o0, iv 1, iv 3, iv 1, .unset]) rfl (q := 2) rfl ?_
  refine o_iloadN X0 hx hby d11_2 rfl (q := 3) rfl ?_
  refine o_iloadN X0 hx hby d11_3 rfl (q := 4) rfl ?_
  refine o_icN X0 hx hby d11_4 (tlt (by decide : (1 : Int32) < (3 : Int32))).2.1 (q := 7) rfl ?_
  refine o_aloadN X0 hx hby d11_7 rfl rfl (q := 8) rfl ?_
  refine o_iloadN X0 hx hby d11_8 rfl (q := 9) rfl ?_
  obtain ⟨cq1, kq1, q1a, q1b, q1c⟩ := isOf hZ e0 E
  obtain ⟨_, _, ⟨T1, L1, k1, n1⟩, -, X1, ⟨Lc1, hQ1, l1, y1, z1⟩, st1⟩ := X0.virtualBack hx (y := (⟨"java/lang/String", "charAt", "(I)C"⟩ : MethodName)) (z := (⟨"java/lang/String", "charAt", "(I)C"⟩ : MethodName)) hown (mvT hZ (w_ hw 50 rfl)) (mvT hZ (w_ hw 51 rfl)) (notFace_of_selects (args := #[]) (mvT hZ (w_ hw 53 rfl))) (mvT hZ (w_ hw 53 rfl)) (mvT hZ (w_ hw 52 rfl)) (by decide) (backOf (W := 0) (rm12c1n8i1 l Z a0 hw [] o0 ob k b0 b1 b2 b3 b4 b5 b6 b7 cs vf h0 n0 Z0 E Fv Fc V S_cs hcs S_f hvf S_ad S_hi S_lo) hZ (w_ hw 54 rfl) (w_ hw 8 rfl) (by decide) (by decide)) q1a q1c (g := (mkF m 9 #[rv o0, iv 1, iv 3, iv 1, .unset] [.int 1, .ref o0])) rfl (by rw [hml]; rfl) (Steps.refl _) (argsL := [(.int 1)]) (rest := []) (lenOf pd_4 rfl) rfl (by show 2 * 0 + _ ≤ _; exact Nat.le_of_eq rfl) (hb hby d11_9) (fun _ _ => ⟨rfl, e0, (by decide : 0 + 0 ≤ _), (by decide : 0 + 0 ≤ _)⟩)
  dsimp only [Pt.U, Pt.locs, Pt.cells, Pt.slots] at X1 l1 y1 z1 st1 hQ1
  subst l1 y1 z1
  obtain ⟨rfl, N1q, hh1⟩ := hQ1
  have N1 := Fr.app N0 N1q
  refine own_of (fun _ k => st1.trans k) ?_
  show own_Out p e below _ (T1.setTop (mkF m 12 #[rv o0, iv 1, iv 3, iv 1, .unset] [.int (f_charAtc1n8i1 b0 b1 b2 b3 b4 b5 b6 b7 cs)]))
  refine o_istore X1 hx hby d11_12 (l' := #[rv o0, iv 1, iv 3, iv 1, iv (f_charAtc1n8i1 b0 b1 b2 b3 b4 b5 b6 b7 cs)]) rfl (q := 14) rfl ?_
  refine o_iload X1 hx hby d11_14 rfl (q := 16) rfl ?_
  refine o_bipush X1 hx hby d11_16 (z := 48) rfl (q := 18) rfl ?_
  by_cases hc18_2 : (f_charAtc1n8i1 b0 b1 b2 b3 b4 b5 b6 b7 cs) < (48 : Int32)
  · skip
    refine o_icY X1 hx hby d11_18 (tlt hc18_2).1 (by decide) (q := 28) (by decide) ?_
    refine o_iconst X1 hx hby d11_28 (z := 0) rfl (q := 29) rfl ?_
    exact own_outN X1 hx hlk (t := .boolean) hret (by simp) (hb hby d11_29) (z' := (0 : Int32)) rfl (Q := Q11c1n8x13 Z o0 ob k b0 b1 b2 b3 b4 b5 b6 b7 cs vf h0 n0) ⟨by simp only [fhc1n8x13, if_neg hcs, if_pos hc18_2], N1, hh1⟩ (by decide) (by decide)
  · skip
    refine o_icN X1 hx hby d11_18 (flt hc18_2).1 (q := 21) rfl ?_
    refine o_iload X1 hx hby d11_21 rfl (q := 23) rfl ?_
    refine o_bipush X1 hx hby d11_23 (z := 57) rfl (q := 25) rfl ?_
    by_cases hc25_3 : (57 : Int32) < (f_charAtc1n8i1 b0 b1 b2 b3 b4 b5 b6 b7 cs)
    · skip
      refine o_icN X1 hx hby d11_25 (tlt hc25_3).2.2.2 (q := 28) rfl ?_
      refine o_iconst X1 hx hby d11_28 (z := 0) rfl (q := 29) rfl ?_
      exact own_outN X1 hx hlk (t := .boolean) hret (by simp) (hb hby d11_29) (z' := (0 : Int32)) rfl (Q := Q11c1n8x13 Z o0 ob k b0 b1 b2 b3 b4 b5 b6 b7 cs vf h0 n0) ⟨by simp only [fhc1n8x13, if_neg hcs, if_neg hc18_2, if_pos hc25_3], N1, hh1⟩ (by decide) (by decide)
    · skip
      refine o_icY X1 hx hby d11_25 (flt hc25_3).2.2.2 (by decide) (q := 30) (by decide) ?_
      refine o_iinc X1 hx hby d11_30 rfl (l' := #[rv o0, iv 1, iv 3, iv 2, iv (f_charAtc1n8i1 b0 b1 b2 b3 b4 b5 b6 b7 cs)]) rfl (q := 33) rfl ?_
      refine o_goto X1 hx hby d11_33 (by decide) (q := 2) (by decide) ?_
      refine o_iloadN X1 hx hby d11_2 rfl (q := 3) rfl ?_
      refine o_iloadN X1 hx hby d11_3 rfl (q := 4) rfl ?_
      refine o_icN X1 hx hby d11_4 (tlt (by decide : (2 : Int32) < (3 : Int32))).2.1 (q := 7) rfl ?_
      refine o_aloadN X1 hx hby d11_7 rfl rfl (q := 8) rfl ?_
      refine o_iloadN X1 hx hby d11_8 rfl (q := 9) rfl ?_
      obtain ⟨cq4, kq4, q4a, q4b, q4c⟩ := isOf hZ hh1 E
      obtain ⟨_, _, ⟨T4, L4, k4, n4⟩, -, X4, ⟨Lc4, hQ4, l4, y4, z4⟩, st4⟩ := X1.virtualBack hx (y := (⟨"java/lang/String", "charAt", "(I)C"⟩ : MethodName)) (z := (⟨"java/lang/String", "charAt", "(I)C"⟩ : MethodName)) hown (mvT hZ (w_ hw 50 rfl)) (mvT hZ (w_ hw 51 rfl)) (notFace_of_selects (args := #[]) (mvT hZ (w_ hw 53 rfl))) (mvT hZ (w_ hw 53 rfl)) (mvT hZ (w_ hw 52 rfl)) (by decide) (backOf (W := 0) (rm12c1n8i2 l Z a0 hw [] o0 ob k b0 b1 b2 b3 b4 b5 b6 b7 cs vf h0 n0 Z0 E Fv Fc V S_cs hcs S_f hvf S_ad S_hi S_lo) hZ (w_ hw 54 rfl) (w_ hw 8 rfl) (by decide) (by decide)) q4a q4c (g := (mkF m 9 #[rv o0, iv 1, iv 3, iv 2, iv (f_charAtc1n8i1 b0 b1 b2 b3 b4 b5 b6 b7 cs)] [.int 2, .ref o0])) rfl (by rw [hml]; rfl) (Steps.refl _) (argsL := [(.int 2)]) (rest := []) (lenOf pd_4 rfl) rfl (by show 2 * 0 + _ ≤ _; exact Nat.le_of_eq rfl) (hb hby d11_9) (fun _ _ => ⟨rfl, hh1, (by decide : 0 + 0 ≤ _), (by decide : 0 + 0 ≤ _)⟩)
      dsimp only [Pt.U, Pt.locs, Pt.cells, Pt.slots] at X4 l4 y4 z4 st4 hQ4
      subst l4 y4 z4
      obtain ⟨rfl, N4q, hh4⟩ := hQ4
      have N4 := Fr.app N1 N4q
      refine own_of (fun _ k => st4.trans k) ?_
      show own_Out p e below _ (T4.setTop (mkF m 12 #[rv o0, iv 1, iv 3, iv 2, iv (f_charAtc1n8i1 b0 b1 b2 b3 b4 b5 b6 b7 cs)] [.int (f_charAtc1n8i2 b0 b1 b2 b3 b4 b5 b6 b7 cs)]))
      refine o_istore X4 hx hby d11_12 (l' := #[rv o0, iv 1, iv 3, iv 2, iv (f_charAtc1n8i2 b0 b1 b2 b3 b4 b5 b6 b7 cs)]) rfl (q := 14) rfl ?_
      refine o_iload X4 hx hby d11_14 rfl (q := 16) rfl ?_
      refine o_bipush X4 hx hby d11_16 (z := 48) rfl (q := 18) rfl ?_
      by_cases hc18_5 : (f_charAtc1n8i2 b0 b1 b2 b3 b4 b5 b6 b7 cs) < (48 : Int32)
      · skip
        refine o_icY X4 hx hby d11_18 (tlt hc18_5).1 (by decide) (q := 28) (by decide) ?_
        refine o_iconst X4 hx hby d11_28 (z := 0) rfl (q := 29) rfl ?_
        exact own_outN X4 hx hlk (t := .boolean) hret (by simp) (hb hby d11_29) (z' := (0 : Int32)) rfl (Q := Q11c1n8x13 Z o0 ob k b0 b1 b2 b3 b4 b5 b6 b7 cs vf h0 n0) ⟨by simp only [fhc1n8x13, if_neg hcs, if_neg hc18_2, if_neg hc25_3, if_pos hc18_5], N4, hh4⟩ (by decide) (by decide)
      · skip
        refine o_icN X4 hx hby d11_18 (flt hc18_5).1 (q := 21) rfl ?_
        refine o_iload X4 hx hby d11_21 rfl (q := 23) rfl ?_
        refine o_bipush X4 hx hby d11_23 (z := 57) rfl (q := 25) rfl ?_
        by_cases hc25_6 : (57 : Int32) < (f_charAtc1n8i2 b0 b1 b2 b3 b4 b5 b6 b7 cs)
        · skip
          refine o_icN X4 hx hby d11_25 (tlt hc25_6).2.2.2 (q := 28) rfl ?_
          refine o_iconst X4 hx hby d11_28 (z := 0) rfl (q := 29) rfl ?_
          exact own_outN X4 hx hlk (t := .boolean) hret (by simp) (hb hby d11_29) (z' := (0 : Int32)) rfl (Q := Q11c1n8x13 Z o0 ob k b0 b1 b2 b3 b4 b5 b6 b7 cs vf h0 n0) ⟨by simp only [fhc1n8x13, if_neg hcs, if_neg hc18_2, if_neg hc25_3, if_neg hc18_5, if_pos hc25_6], N4, hh4⟩ (by decide) (by decide)
        · skip
          refine o_icY X4 hx hby d11_25 (flt hc25_6).2.2.2 (by decide) (q := 30) (by decide) ?_
          refine o_iinc X4 hx hby d11_30 rfl (l' := #[rv o0, iv 1, iv 3, iv 3, iv (f_charAtc1n8i2 b0 b1 b2 b3 b4 b5 b6 b7 cs)]) rfl (q := 33) rfl ?_
          refine o_goto X4 hx hby d11_33 (by decide) (q := 2) (by decide) ?_
          refine o_iloadN X4 hx hby d11_2 rfl (q := 3) rfl ?_
          refine o_iloadN X4 hx hby d11_3 rfl (q := 4) rfl ?_
          refine o_icY X4 hx hby d11_4 (flt (by decide : ¬ ((3 : Int32) < (3 : Int32)))).2.1 (by decide) (q := 36) (by decide) ?_
          refine o_iconst X4 hx hby d11_36 (z := 1) rfl (q := 37) rfl ?_
          exact own_outN X4 hx hlk (t := .boolean) hret (by simp) (hb hby d11_37) (z' := (1 : Int32)) rfl (Q := Q11c1n8x13 Z o0 ob k b0 b1 b2 b3 b4 b5 b6 b7 cs vf h0 n0) ⟨by simp only [fhc1n8x13, if_neg hcs, if_neg hc18_2, if_neg hc25_3, if_neg hc18_5, if_neg hc25_6], N4, hh4⟩ (by decide) (by decide)
theorem ef_11c1n8x14 (m : MethodId) (x0 : Addr) : entryFrame m #[(.ref x0), (.int 1), (.int 4)] 5 = mkF m 0 #[.val (.ref x0), .val (.int 1), .val (.int 4), .unset, .unset] [] := by first | (simp [entryFrame, mkF, argsToLocals, Value.category]; done) | rfl
def fhc1n8x14 (b0 b1 b2 b3 b4 b5 b6 b7 cs : Int32) : Int32 := if (f_charAtc1n8i1 b0 b1 b2 b3 b4 b5 b6 b7 cs) < (48 : Int32) then (0 : Int32)
  else if (57 : Int32) < (f_charAtc1n8i1 b0 b1 b2 b3 b4 b5 b6 b7 cs) then (0 : Int32)
    else if (f_charAtc1n8i2 b0 b1 b2 b3 b4 b5 b6 b7 cs) < (48 : Int32) then (0 : Int32)
      else if (57 : Int32) < (f_charAtc1n8i2 b0 b1 b2 b3 b4 b5 b6 b7 cs) then (0 : Int32)
        else if (f_charAtc1n8i3 b0 b1 b2 b3 b4 b5 b6 b7 cs) < (48 : Int32) then (0 : Int32)
          else if (57 : Int32) < (f_charAtc1n8i3 b0 b1 b2 b3 b4 b5 b6 b7 cs) then (0 : Int32)
            else (1 : Int32)
def Q11c1n8x14 (Z : State) (o0 ob : Addr) (k : ClassId) (b0 b1 b2 b3 b4 b5 b6 b7 cs : Int32) (vf : Value) (h0 : Heap) (n0 : Nat) (v : Option Value) (h : Heap) (L : List Loc) : Prop := v = some (.int (fhc1n8x14 b0 b1 b2 b3 b4 b5 b6 b7 cs)) ∧ Fr n0 L ∧ h = h0
set_option maxRecDepth 65536 in
set_option maxHeartbeats 40000000 in
theorem rm11c1n8x14 (l : Launch) (Z : State) (a0 : Array Value) (hw : ∀ d ∈ tables_1, d.before a0 Z = true) (ws : List Jvm.Cond) (o0 ob : Addr) (k : ClassId) (b0 b1 b2 b3 b4 b5 b6 b7 cs : Int32) (vf : Value) (h0 : Heap) (n0 : Nat) (Z0 : n0 ≤ h0.size) (E : Exa Z h0 o0 "java/lang/String") (Fv : Fld Z h0 o0 "java/lang/String" "value" "[B" (.ref ob)) (Fc : Fld Z h0 o0 "java/lang/String" "coder" "B" (.int 1)) (V : Arv Z h0 ob k .byte (8 : Int32) [(.int b0), (.int b1), (.int b2), (.int b3), (.int b4), (.int b5), (.int b6), (.int b7)] (.int 0)) (S_cs : Sta Z h0 "java/lang/String" "COMPACT_STRINGS" "Z" (.int cs)) (hcs : ¬ (cs = (0 : Int32))) (S_f : Sta Z h0 "jdk/internal/util/Preconditions" "SIOOBE_FORMATTER" "Ljava/util/function/BiFunction;" vf) (hvf : vf.isRef = true) (S_ad : Sta Z h0 "java/lang/StringUTF16" "$assertionsDisabled" "Z" (.int 1)) (S_hi : Sta Z h0 "java/lang/StringUTF16" "HI_BYTE_SHIFT" "I" (.int 0)) (S_lo : Sta Z h0 "java/lang/StringUTF16" "LO_BYTE_SHIFT" "I" (.int 8)) :
    MetFree l (⟨"com/example/fides/fides/ledger/Position", "hasOnlyAsciiDigits", "(Ljava/lang/String;II)Z"⟩ : MethodName) (head1 (Jvm.Cond.code (⟨"com/example/fides/fides/ledger/Position", "hasOnlyAsciiDigits", "(Ljava/lang/String;II)Z"⟩ : MethodName) prog_28_method_5_code 5 (some .boolean) :: ws) (⟨5, 0, 0, 66⟩ : Room)) (fun a U => a = #[(.ref o0), (.int 1), (.int 4)] ∧ Z.Warmed39 U.vm ∧ U.heap = h0) (fun _ _ _ _ _ => True) (fun _ U o U' => ∃ v L, o = .returned v ∧ Q11c1n8x14 Z o0 ob k b0 b1 b2 b3 b4 b5 b6 b7 cs vf h0 n0 v U'.heap L ∧ FrameEnd U o U' L (⟨5, 0, 0, 66⟩ : Room).cells (⟨5, 0, 0, 66⟩ : Room).slots) := by
  refine MetFree.of_bodySF (plainFor_of_name pn_4) hisR ?_
  intro p e s m args below meth c s₁ Bd hml0 hP hK
  obtain ⟨rfl, hZ, hh⟩ := hP
  have hx := Bd.exec
  have hby := Bd.bytes
  have hml : c.maxLocals = 5 := hml0
  have hown : s.vm.findClass "com/example/fides/fides/ledger/Position" = some m.cls := findClass_of_methodNamed Bd.named
  have hnm := (name_of_methodNamed Bd.named Bd.method).1
  have X0 : Stand p l e (⟨5, 0, 0, 66⟩ : Room) s m #[(.ref o0), (.int 1), (.int 4)] below meth c s₁ [] 0 0 := Stand.of_body Bd
  have e0 : s₁.heap = h0 := by rw [← hh, Bd.state]; rfl
  have N0 := Fr.nil n0
  have hret := Bd.returns
  have hlk := BodyLoose.notSynchronized Bd
  show own_Out p e below (fun o U' => ∃ v L, o = .returned v ∧ Q11c1n8x14 Z o0 ob k b0 b1 b2 b3 b4 b5 b6 b7 cs vf h0 n0 v U'.heap L ∧ FrameEnd s o U' L (⟨5, 0, 0, 66⟩ : Room).cells (⟨5, 0, 0, 66⟩ : Room).slots) (s₁.setTop (entryFrame m #[(.ref o0), (.int 1), (.int 4)] 5))
  refine own_of (fun t k => castTop (ef_11c1n8x14 m o0) k) ?_
  show own_Out p e below _ (s₁.setTop (mkF m 0 #[rv o0, iv 1, iv 4, .unset, .unset] []))
  refine o_iloadN X0 hx hby d11_0 rfl (q := 1) rfl ?_
  refine o_istoreN X0 hx hby d11_1 (l' := #[rv o0, iv 1, iv 4, iv 1, .unset]) rfl (q := 2) rfl ?_
  refine o_iloadN X0 hx hby d11_2 rfl (q := 3) rfl ?_
  refine o_iloadN X0 hx hby d11_3 rfl (q := 4) rfl ?_
  refine o_icN X0 hx hby d11_4 (tlt (by decide : (1 : Int32) < (4 : Int32))).2.1 (q := 7) rfl ?_
  refine o_aloadN X0 hx hby d11_7 rfl rfl (q := 8) rfl ?_
  refine o_iloadN X0 hx hby d11_8 rfl (q := 9) rfl ?_
  obtain ⟨cq1, kq1, q1a, q1b, q1c⟩ := isOf hZ e0 E
  obtain ⟨_, _, ⟨T1, L1, k1, n1⟩, -, X1, ⟨Lc1, hQ1, l1, y1, z1⟩, st1⟩ := X0.virtualBack hx (y := (⟨"java/lang/String", "charAt", "(I)C"⟩ : MethodName)) (z := (⟨"java/lang/String", "charAt", "(I)C"⟩ : MethodName)) hown (mvT hZ (w_ hw 50 rfl)) (mvT hZ (w_ hw 51 rfl)) (notFace_of_selects (args := #[]) (mvT hZ (w_ hw 53 rfl))) (mvT hZ (w_ hw 53 rfl)) (mvT hZ (w_ hw 52 rfl)) (by decide) (backOf (W := 0) (rm12c1n8i1 l Z a0 hw [] o0 ob k b0 b1 b2 b3 b4 b5 b6 b7 cs vf h0 n0 Z0 E Fv Fc V S_cs hcs S_f hvf S_ad S_hi S_lo) hZ (w_ hw 54 rfl) (w_ hw 8 rfl) (by decide) (by decide)) q1a q1c (g := (mkF m 9 #[rv o0, iv 1, iv 4, iv 1, .unset] [.int 1, .ref o0])) rfl (by rw [hml]; rfl) (Steps.refl _) (argsL := [(.int 1)]) (rest := []) (lenOf pd_4 rfl) rfl (by show 2 * 0 + _ ≤ _; exact Nat.le_of_eq rfl) (hb hby d11_9) (fun _ _ => ⟨rfl, e0, (by decide : 0 + 0 ≤ _), (by decide : 0 + 0 ≤ _)⟩)
  dsimp only [Pt.U, Pt.locs, Pt.cells, Pt.slots] at X1 l1 y1 z1 st1 hQ1
  subst l1 y1 z1
  obtain ⟨rfl, N1q, hh1⟩ := hQ1
  have N1 := Fr.app N0 N1q
  refine own_of (fun _ k => st1.trans k) ?_
  show own_Out p e below _ (T1.setTop (mkF m 12 #[rv o0, iv 1, iv 4, iv 1, .unset] [.int (f_charAtc1n8i1 b0 b1 b2 b3 b4 b5 b6 b7 cs)]))
  refine o_istore X1 hx hby d11_12 (l' := #[rv o0, iv 1, iv 4, iv 1, iv (f_charAtc1n8i1 b0 b1 b2 b3 b4 b5 b6 b7 cs)]) rfl (q := 14) rfl ?_
  refine o_iload X1 hx hby d11_14 rfl (q := 16) rfl ?_
  refine o_bipush X1 hx hby d11_16 (z := 48) rfl (q := 18) rfl ?_
  by_cases hc18_2 : (f_charAtc1n8i1 b0 b1 b2 b3 b4 b5 b6 b7 cs) < (48 : Int32)
  · skip
    refine o_icY X1 hx hby d11_18 (tlt hc18_2).1 (by decide) (q := 28) (by decide) ?_
    refine o_iconst X1 hx hby d11_28 (z := 0) rfl (q := 29) rfl ?_
    exact own_outN X1 hx hlk (t := .boolean) hret (by simp) (hb hby d11_29) (z' := (0 : Int32)) rfl (Q := Q11c1n8x14 Z o0 ob k b0 b1 b2 b3 b4 b5 b6 b7 cs vf h0 n0) ⟨by simp only [fhc1n8x14, if_neg hcs, if_pos hc18_2], N1, hh1⟩ (by decide) (by decide)
  · skip
    refine o_icN X1 hx hby d11_18 (flt hc18_2).1 (q := 21) rfl ?_
    refine o_iload X1 hx hby d11_21 rfl (q := 23) rfl ?_
    refine o_bipush X1 hx hby d11_23 (z := 57) rfl (q := 25) rfl ?_
    by_cases hc25_3 : (57 : Int32) < (f_charAtc1n8i1 b0 b1 b2 b3 b4 b5 b6 b7 cs)
    · skip
      refine o_icN X1 hx hby d11_25 (tlt hc25_3).2.2.2 (q := 28) rfl ?_
      refine o_iconst X1 hx hby d11_28 (z := 0) rfl (q := 29) rfl ?_
      exact own_outN X1 hx hlk (t := .boolean) hret (by simp) (hb hby d11_29) (z' := (0 : Int32)) rfl (Q := Q11c1n8x14 Z o0 ob k b0 b1 b2 b3 b4 b5 b6 b7 cs vf h0 n0) ⟨by simp only [fhc1n8x14, if_neg hcs, if_neg hc18_2, if_pos hc25_3], N1, hh1⟩ (by decide) (by decide)
    · skip
      refine o_icY X1 hx hby d11_25 (flt hc25_3).2.2.2 (by decide) (q := 30) (by decide) ?_
      refine o_iinc X1 hx hby d11_30 rfl (l' := #[rv o0, iv 1, iv 4, iv 2, iv (f_charAtc1n8i1 b0 b1 b2 b3 b4 b5 b6 b7 cs)]) rfl (q := 33) rfl ?_
      refine o_goto X1 hx hby d11_33 (by decide) (q := 2) (by decide) ?_
      refine o_iloadN X1 hx hby d11_2 rfl (q := 3) rfl ?_
      refine o_iloadN X1 hx hby d11_3 rfl (q := 4) rfl ?_
      refine o_icN X1 hx hby d11_4 (tlt (by decide : (2 : Int32) < (4 : Int32))).2.1 (q := 7) rfl ?_
      refine o_aloadN X1 hx hby d11_7 rfl rfl (q := 8) rfl ?_
      refine o_iloadN X1 hx hby d11_8 rfl (q := 9) rfl ?_
      obtain ⟨cq4, kq4, q4a, q4b, q4c⟩ := isOf hZ hh1 E
      obtain ⟨_, _, ⟨T4, L4, k4, n4⟩, -, X4, ⟨Lc4, hQ4, l4, y4, z4⟩, st4⟩ := X1.virtualBack hx (y := (⟨"java/lang/String", "charAt", "(I)C"⟩ : MethodName)) (z := (⟨"java/lang/String", "charAt", "(I)C"⟩ : MethodName)) hown (mvT hZ (w_ hw 50 rfl)) (mvT hZ (w_ hw 51 rfl)) (notFace_of_selects (args := #[]) (mvT hZ (w_ hw 53 rfl))) (mvT hZ (w_ hw 53 rfl)) (mvT hZ (w_ hw 52 rfl)) (by decide) (backOf (W := 0) (rm12c1n8i2 l Z a0 hw [] o0 ob k b0 b1 b2 b3 b4 b5 b6 b7 cs vf h0 n0 Z0 E Fv Fc V S_cs hcs S_f hvf S_ad S_hi S_lo) hZ (w_ hw 54 rfl) (w_ hw 8 rfl) (by decide) (by decide)) q4a q4c (g := (mkF m 9 #[rv o0, iv 1, iv 4, iv 2, iv (f_charAtc1n8i1 b0 b1 b2 b3 b4 b5 b6 b7 cs)] [.int 2, .ref o0])) rfl (by rw [hml]; rfl) (Steps.refl _) (argsL := [(.int 2)]) (rest := []) (lenOf pd_4 rfl) rfl (by show 2 * 0 + _ ≤ _; exact Nat.le_of_eq rfl) (hb hby d11_9) (fun _ _ => ⟨rfl, hh1, (by decide : 0 + 0 ≤ _), (by decide : 0 + 0 ≤ _)⟩)
      dsimp only [Pt.U, Pt.locs, Pt.cells, Pt.slots] at X4 l4 y4 z4 st4 hQ4
      subst l4 y4 z4
      obtain ⟨rfl, N4q, hh4⟩ := hQ4
      have N4 := Fr.app N1 N4q
      refine own_of (fun _ k => st4.trans k) ?_
      show own_Out p e below _ (T4.setTop (mkF m 12 #[rv o0, iv 1, iv 4, iv 2, iv (f_charAtc1n8i1 b0 b1 b2 b3 b4 b5 b6 b7 cs)] [.int (f_charAtc1n8i2 b0 b1 b2 b3 b4 b5 b6 b7 cs)]))
      refine o_istore X4 hx hby d11_12 (l' := #[rv o0, iv 1, iv 4, iv 2, iv (f_charAtc1n8i2 b0 b1 b2 b3 b4 b5 b6 b7 cs)]) rfl (q := 14) rfl ?_
      refine o_iload X4 hx hby d11_14 rfl (q := 16) rfl ?_
      refine o_bipush X4 hx hby d11_16 (z := 48) rfl (q := 18) rfl ?_
      by_cases hc18_5 : (f_charAtc1n8i2 b0 b1 b2 b3 b4 b5 b6 b7 cs) < (48 : Int32)
      · skip
        refine o_icY X4 hx hby d11_18 (tlt hc18_5).1 (by decide) (q := 28) (by decide) ?_
        refine o_iconst X4 hx hby d11_28 (z := 0) rfl (q := 29) rfl ?_
        exact own_outN X4 hx hlk (t := .boolean) hret (by simp) (hb hby d11_29) (z' := (0 : Int32)) rfl (Q := Q11c1n8x14 Z o0 ob k b0 b1 b2 b3 b4 b5 b6 b7 cs vf h0 n0) ⟨by simp only [fhc1n8x14, if_neg hcs, if_neg hc18_2, if_neg hc25_3, if_pos hc18_5], N4, hh4⟩ (by decide) (by decide)
      · skip
        refine o_icN X4 hx hby d11_18 (flt hc18_5).1 (q := 21) rfl ?_
        refine o_iload X4 hx hby d11_21 rfl (q := 23) rfl ?_
        refine o_bipush X4 hx hby d11_23 (z := 57) rfl (q := 25) rfl ?_
        by_cases hc25_6 : (57 : Int32) < (f_charAtc1n8i2 b0 b1 b2 b3 b4 b5 b6 b7 cs)
        · skip
          refine o_icN X4 hx hby d11_25 (tlt hc25_6).2.2.2 (q := 28) rfl ?_
          refine o_iconst X4 hx hby d11_28 (z := 0) rfl (q := 29) rfl ?_
          exact own_outN X4 hx hlk (t := .boolean) hret (by simp) (hb hby d11_29) (z' := (0 : Int32)) rfl (Q := Q11c1n8x14 Z o0 ob k b0 b1 b2 b3 b4 b5 b6 b7 cs vf h0 n0) ⟨by simp only [fhc1n8x14, if_neg hcs, if_neg hc18_2, if_neg hc25_3, if_neg hc18_5, if_pos hc25_6], N4, hh4⟩ (by decide) (by decide)
        · skip
          refine o_icY X4 hx hby d11_25 (flt hc25_6).2.2.2 (by decide) (q := 30) (by decide) ?_
          refine o_iinc X4 hx hby d11_30 rfl (l' := #[rv o0, iv 1, iv 4, iv 3, iv (f_charAtc1n8i2 b0 b1 b2 b3 b4 b5 b6 b7 cs)]) rfl (q := 33) rfl ?_
          refine o_goto X4 hx hby d11_33 (by decide) (q := 2) (by decide) ?_
          refine o_iloadN X4 hx hby d11_2 rfl (q := 3) rfl ?_
          refine o_iloadN X4 hx hby d11_3 rfl (q := 4) rfl ?_
          refine o_icN X4 hx hby d11_4 (tlt (by decide : (3 : Int32) < (4 : Int32))).2.1 (q := 7) rfl ?_
          refine o_aloadN X4 hx hby d11_7 rfl rfl (q := 8) rfl ?_
          refine o_iloadN X4 hx hby d11_8 rfl (q := 9) rfl ?_
          obtain ⟨cq7, kq7, q7a, q7b, q7c⟩ := isOf hZ hh4 E
          obtain ⟨_, _, ⟨T7, L7, k7, n7⟩, -, X7, ⟨Lc7, hQ7, l7, y7, z7⟩, st7⟩ := X4.virtualBack hx (y := (⟨"java/lang/String", "charAt", "(I)C"⟩ : MethodName)) (z := (⟨"java/lang/String", "charAt", "(I)C"⟩ : MethodName)) hown (mvT hZ (w_ hw 50 rfl)) (mvT hZ (w_ hw 51 rfl)) (notFace_of_selects (args := #[]) (mvT hZ (w_ hw 53 rfl))) (mvT hZ (w_ hw 53 rfl)) (mvT hZ (w_ hw 52 rfl)) (by decide) (backOf (W := 0) (rm12c1n8i3 l Z a0 hw [] o0 ob k b0 b1 b2 b3 b4 b5 b6 b7 cs vf h0 n0 Z0 E Fv Fc V S_cs hcs S_f hvf S_ad S_hi S_lo) hZ (w_ hw 54 rfl) (w_ hw 8 rfl) (by decide) (by decide)) q7a q7c (g := (mkF m 9 #[rv o0, iv 1, iv 4, iv 3, iv (f_charAtc1n8i2 b0 b1 b2 b3 b4 b5 b6 b7 cs)] [.int 3, .ref o0])) rfl (by rw [hml]; rfl) (Steps.refl _) (argsL := [(.int 3)]) (rest := []) (lenOf pd_4 rfl) rfl (by show 2 * 0 + _ ≤ _; exact Nat.le_of_eq rfl) (hb hby d11_9) (fun _ _ => ⟨rfl, hh4, (by decide : 0 + 0 ≤ _), (by decide : 0 + 0 ≤ _)⟩)
          dsimp only [Pt.U, Pt.locs, Pt.cells, Pt.slots] at X7 l7 y7 z7 st7 hQ7
          subst l7 y7 z7
          obtain ⟨rfl, N7q, hh7⟩ := hQ7
          have N7 := Fr.app N4 N7q
          refine own_of (fun _ k => st7.trans k) ?_
          show own_Out p e below _ (T7.setTop (mkF m 12 #[rv o0, iv 1, iv 4, iv 3, iv (f_charAtc1n8i2 b0 b1 b2 b3 b4 b5 b6 b7 cs)] [.int (f_charAtc1n8i3 b0 b1 b2 b3 b4 b5 b6 b7 cs)]))
          refine o_istore X7 hx hby d11_12 (l' := #[rv o0, iv 1, iv 4, iv 3, iv (f_charAtc1n8i3 b0 b1 b2 b3 b4 b5 b6 b7 cs)]) rfl (q := 14) rfl ?_
          refine o_iload X7 hx hby d11_14 rfl (q := 16) rfl ?_
          refine o_bipush X7 hx hby d11_16 (z := 48) rfl (q := 18) rfl ?_
          by_cases hc18_8 : (f_charAtc1n8i3 b0 b1 b2 b3 b4 b5 b6 b7 cs) < (48 : Int32)
          · skip
            refine o_icY X7 hx hby d11_18 (tlt hc18_8).1 (by decide) (q := 28) (by decide) ?_
            refine o_iconst X7 hx hby d11_28 (z := 0) rfl (q := 29) rfl ?_
            exact own_outN X7 hx hlk (t := .boolean) hret (by simp) (hb hby d11_29) (z' := (0 : Int32)) rfl (Q := Q11c1n8x14 Z o0 ob k b0 b1 b2 b3 b4 b5 b6 b7 cs vf h0 n0) ⟨by simp only [fhc1n8x14, if_neg hcs, if_neg hc18_2, if_neg hc25_3, if_neg hc18_5, if_neg hc25_6, if_pos hc18_8], N7, hh7⟩ (by decide) (by decide)
          · skip
            refine o_icN X7 hx hby d11_18 (flt hc18_8).1 (q := 21) rfl ?_
            refine o_iload X7 hx hby d11_21 rfl (q := 23) rfl ?_
            refine o_bipush X7 hx hby d11_23 (z := 57) rfl (q := 25) rfl ?_
            by_cases hc25_9 : (57 : Int32) < (f_charAtc1n8i3 b0 b1 b2 b3 b4 b5 b6 b7 cs)
            · skip
              refine o_icN X7 hx hby d11_25 (tlt hc25_9).2.2.2 (q := 28) rfl ?_
              refine o_iconst X7 hx hby d11_28 (z := 0) rfl (q := 29) rfl ?_
              exact own_outN X7 hx hlk (t := .boolean) hret (by simp) (hb hby d11_29) (z' := (0 : Int32)) rfl (Q := Q11c1n8x14 Z o0 ob k b0 b1 b2 b3 b4 b5 b6 b7 cs vf h0 n0) ⟨by simp only [fhc1n8x14, if_neg hcs, if_neg hc18_2, if_neg hc25_3, if_neg hc18_5, if_neg hc25_6, if_neg hc18_8, if_pos hc25_9], N7, hh7⟩ (by decide) (by decide)
            · skip
              refine o_icY X7 hx hby d11_25 (flt hc25_9).2.2.2 (by decide) (q := 30) (by decide) ?_
              refine o_iinc X7 hx hby d11_30 rfl (l' := #[rv o0, iv 1, iv 4, iv 4, iv (f_charAtc1n8i3 b0 b1 b2 b3 b4 b5 b6 b7 cs)]) rfl (q := 33) rfl ?_
              refine o_goto X7 hx hby d11_33 (by decide) (q := 2) (by decide) ?_
              refine o_iloadN X7 hx hby d11_2 rfl (q := 3) rfl ?_
              refine o_iloadN X7 hx hby d11_3 rfl (q := 4) rfl ?_
              refine o_icY X7 hx hby d11_4 (flt (by decide : ¬ ((4 : Int32) < (4 : Int32)))).2.1 (by decide) (q := 36) (by decide) ?_
              refine o_iconst X7 hx hby d11_36 (z := 1) rfl (q := 37) rfl ?_
              exact own_outN X7 hx hlk (t := .boolean) hret (by simp) (hb hby d11_37) (z' := (1 : Int32)) rfl (Q := Q11c1n8x14 Z o0 ob k b0 b1 b2 b3 b4 b5 b6 b7 cs vf h0 n0) ⟨by simp only [fhc1n8x14, if_neg hcs, if_neg hc18_2, if_neg hc25_3, if_neg hc18_5, if_neg hc25_6, if_neg hc18_8, if_neg hc25_9], N7, hh7⟩ (by decide) (by decide)
theorem ef_11c1n8x22 (m : MethodId) (x0 : Addr) : entryFrame m #[(.ref x0), (.int 2), (.int 2)] 5 = mkF m 0 #[.val (.ref x0), .val (.int 2), .val (.int 2), .unset, .unset] [] := by first | (simp [entryFrame, mkF, argsToLocals, Value.category]; done) | rfl
def fhc1n8x22 (b0 b1 b2 b3 b4 b5 b6 b7 cs : Int32) : Int32 := (1 : Int32)
def Q11c1n8x22 (Z : State) (o0 ob : Addr) (k : ClassId) (b0 b1 b2 b3 b4 b5 b6 b7 cs : Int32) (vf : Value) (h0 : Heap) (n0 : Nat) (v : Option Value) (h : Heap) (L : List Loc) : Prop := v = some (.int (fhc1n8x22 b0 b1 b2 b3 b4 b5 b6 b7 cs)) ∧ Fr n0 L ∧ h = h0
set_option maxRecDepth 65536 in
set_option maxHeartbeats 40000000 in
theorem rm11c1n8x22 (l : Launch) (Z : State) (a0 : Array Value) (hw : ∀ d ∈ tables_1, d.before a0 Z = true) (ws : List Jvm.Cond) (o0 ob : Addr) (k : ClassId) (b0 b1 b2 b3 b4 b5 b6 b7 cs : Int32) (vf : Value) (h0 : Heap) (n0 : Nat) (Z0 : n0 ≤ h0.size) (E : Exa Z h0 o0 "java/lang/String") (Fv : Fld Z h0 o0 "java/lang/String" "value" "[B" (.ref ob)) (Fc : Fld Z h0 o0 "java/lang/String" "coder" "B" (.int 1)) (V : Arv Z h0 ob k .byte (8 : Int32) [(.int b0), (.int b1), (.int b2), (.int b3), (.int b4), (.int b5), (.int b6), (.int b7)] (.int 0)) (S_cs : Sta Z h0 "java/lang/String" "COMPACT_STRINGS" "Z" (.int cs)) (hcs : ¬ (cs = (0 : Int32))) (S_f : Sta Z h0 "jdk/internal/util/Preconditions" "SIOOBE_FORMATTER" "Ljava/util/function/BiFunction;" vf) (hvf : vf.isRef = true) (S_ad : Sta Z h0 "java/lang/StringUTF16" "$assertionsDisabled" "Z" (.int 1)) (S_hi : Sta Z h0 "java/lang/StringUTF16" "HI_BYTE_SHIFT" "I" (.int 0)) (S_lo : Sta Z h0 "java/lang/StringUTF16" "LO_BYTE_SHIFT" "I" (.int 8)) :
    MetFree l (⟨"com/example/fides/fides/ledger/Position", "hasOnlyAsciiDigits", "(Ljava/lang/String;II)Z"⟩ : MethodName) (head1 (Jvm.Cond.code (⟨"com/example/fides/fides/ledger/Position", "hasOnlyAsciiDigits", "(Ljava/lang/String;II)Z"⟩ : MethodName) prog_28_method_5_code 5 (some .boolean) :: ws) (⟨5, 0, 0, 66⟩ : Room)) (fun a U => a = #[(.ref o0), (.int 2), (.int 2)] ∧ Z.Warmed39 U.vm ∧ U.heap = h0) (fun _ _ _ _ _ => True) (fun _ U o U' => ∃ v L, o = .returned v ∧ Q11c1n8x22 Z o0 ob k b0 b1 b2 b3 b4 b5 b6 b7 cs vf h0 n0 v U'.heap L ∧ FrameEnd U o U' L (⟨5, 0, 0, 66⟩ : Room).cells (⟨5, 0, 0, 66⟩ : Room).slots) := by
  refine MetFree.of_bodySF (plainFor_of_name pn_4) hisR ?_
  intro p e s m args below meth c s₁ Bd hml0 hP hK
  obtain ⟨rfl, hZ, hh⟩ := hP
  have hx := Bd.exec
  have hby := Bd.bytes
  have hml : c.maxLocals = 5 := hml0
  have hown : s.vm.findClass "com/example/fides/fides/ledger/Position" = some m.cls := findClass_of_methodNamed Bd.named
  have hnm := (name_of_methodNamed Bd.named Bd.method).1
  have X0 : Stand p l e (⟨5, 0, 0, 66⟩ : Room) s m #[(.ref o0), (.int 2), (.int 2)] below meth c s₁ [] 0 0 := Stand.of_body Bd
  have e0 : s₁.heap = h0 := by rw [← hh, Bd.state]; rfl
  have N0 := Fr.nil n0
  have hret := Bd.returns
  have hlk := BodyLoose.notSynchronized Bd
  show own_Out p e below (fun o U' => ∃ v L, o = .returned v ∧ Q11c1n8x22 Z o0 ob k b0 b1 b2 b3 b4 b5 b6 b7 cs vf h0 n0 v U'.heap L ∧ FrameEnd s o U' L (⟨5, 0, 0, 66⟩ : Room).cells (⟨5, 0, 0, 66⟩ : Room).slots) (s₁.setTop (entryFrame m #[(.ref o0), (.int 2), (.int 2)] 5))
  refine own_of (fun t k => castTop (ef_11c1n8x22 m o0) k) ?_
  show own_Out p e below _ (s₁.setTop (mkF m 0 #[rv o0, iv 2, iv 2, .unset, .unset] []))
  refine o_iloadN X0 hx hby d11_0 rfl (q := 1) rfl ?_
  refine o_istoreN X0 hx hby d11_1 (l' := #[rv o0, iv 2, iv 2, iv 2, .unset]) rfl (q := 2) rfl ?_
  refine o_iloadN X0 hx hby d11_2 rfl (q := 3) rfl ?_
  refine o_iloadN X0 hx hby d11_3 rfl (q := 4) rfl ?_
  refine o_icY X0 hx hby d11_4 (flt (by decide : ¬ ((2 : Int32) < (2 : Int32)))).2.1 (by decide) (q := 36) (by decide) ?_
  refine o_iconst X0 hx hby d11_36 (z := 1) rfl (q := 37) rfl ?_
  exact own_outN X0 hx hlk (t := .boolean) hret (by simp) (hb hby d11_37) (z' := (1 : Int32)) rfl (Q := Q11c1n8x22 Z o0 ob k b0 b1 b2 b3 b4 b5 b6 b7 cs vf h0 n0) ⟨by simp only [fhc1n8x22, if_neg hcs], N0, e0⟩ (by decide) (by decide)
theorem ef_11c1n8x23 (m : MethodId) (x0 : Addr) : entryFrame m #[(.ref x0), (.int 2), (.int 3)] 5 = mkF m 0 #[.val (.ref x0), .val (.int 2), .val (.int 3), .unset, .unset] [] := by first | (simp [entryFrame, mkF, argsToLocals, Value.category]; done) | rfl
def fhc1n8x23 (b0 b1 b2 b3 b4 b5 b6 b7 cs : Int32) : Int32 := if (f_charAtc1n8i2 b0 b1 b2 b3 b4 b5 b6 b7 cs) < (48 : Int32) then (0 : Int32)
  else if (57 : Int32) < (f_charAtc1n8i2 b0 b1 b2 b3 b4 b5 b6 b7 cs) then (0 : Int32)
    else (1 : Int32)
def Q11c1n8x23 (Z : State) (o0 ob : Addr) (k : ClassId) (b0 b1 b2 b3 b4 b5 b6 b7 cs : Int32) (vf : Value) (h0 : Heap) (n0 : Nat) (v : Option Value) (h : Heap) (L : List Loc) : Prop := v = some (.int (fhc1n8x23 b0 b1 b2 b3 b4 b5 b6 b7 cs)) ∧ Fr n0 L ∧ h = h0
set_option maxRecDepth 65536 in
set_option maxHeartbeats 40000000 in
theorem rm11c1n8x23 (l : Launch) (Z : State) (a0 : Array Value) (hw : ∀ d ∈ tables_1, d.before a0 Z = true) (ws : List Jvm.Cond) (o0 ob : Addr) (k : ClassId) (b0 b1 b2 b3 b4 b5 b6 b7 cs : Int32) (vf : Value) (h0 : Heap) (n0 : Nat) (Z0 : n0 ≤ h0.size) (E : Exa Z h0 o0 "java/lang/String") (Fv : Fld Z h0 o0 "java/lang/String" "value" "[B" (.ref ob)) (Fc : Fld Z h0 o0 "java/lang/String" "coder" "B" (.int 1)) (V : Arv Z h0 ob k .byte (8 : Int32) [(.int b0), (.int b1), (.int b2), (.int b3), (.int b4), (.int b5), (.int b6), (.int b7)] (.int 0)) (S_cs : Sta Z h0 "java/lang/String" "COMPACT_STRINGS" "Z" (.int cs)) (hcs : ¬ (cs = (0 : Int32))) (S_f : Sta Z h0 "jdk/internal/util/Preconditions" "SIOOBE_FORMATTER" "Ljava/util/function/BiFunction;" vf) (hvf : vf.isRef = true) (S_ad : Sta Z h0 "java/lang/StringUTF16" "$assertionsDisabled" "Z" (.int 1)) (S_hi : Sta Z h0 "java/lang/StringUTF16" "HI_BYTE_SHIFT" "I" (.int 0)) (S_lo : Sta Z h0 "java/lang/StringUTF16" "LO_BYTE_SHIFT" "I" (.int 8)) :
    MetFree l (⟨"com/example/fides/fides/ledger/Position", "hasOnlyAsciiDigits", "(Ljava/lang/String;II)Z"⟩ : MethodName) (head1 (Jvm.Cond.code (⟨"com/example/fides/fides/ledger/Position", "hasOnlyAsciiDigits", "(Ljava/lang/String;II)Z"⟩ : MethodName) prog_28_method_5_code 5 (some .boolean) :: ws) (⟨5, 0, 0, 66⟩ : Room)) (fun a U => a = #[(.ref o0), (.int 2), (.int 3)] ∧ Z.Warmed39 U.vm ∧ U.heap = h0) (fun _ _ _ _ _ => True) (fun _ U o U' => ∃ v L, o = .returned v ∧ Q11c1n8x23 Z o0 ob k b0 b1 b2 b3 b4 b5 b6 b7 cs vf h0 n0 v U'.heap L ∧ FrameEnd U o U' L (⟨5, 0, 0, 66⟩ : Room).cells (⟨5, 0, 0, 66⟩ : Room).slots) := by
  refine MetFree.of_bodySF (plainFor_of_name pn_4) hisR ?_
  intro p e s m args below meth c s₁ Bd hml0 hP hK
  obtain ⟨rfl, hZ, hh⟩ := hP
  have hx := Bd.exec
  have hby := Bd.bytes
  have hml : c.maxLocals = 5 := hml0
  have hown : s.vm.findClass "com/example/fides/fides/ledger/Position" = some m.cls := findClass_of_methodNamed Bd.named
  have hnm := (name_of_methodNamed Bd.named Bd.method).1
  have X0 : Stand p l e (⟨5, 0, 0, 66⟩ : Room) s m #[(.ref o0), (.int 2), (.int 3)] below meth c s₁ [] 0 0 := Stand.of_body Bd
  have e0 : s₁.heap = h0 := by rw [← hh, Bd.state]; rfl
  have N0 := Fr.nil n0
  have hret := Bd.returns
  have hlk := BodyLoose.notSynchronized Bd
  show own_Out p e below (fun o U' => ∃ v L, o = .returned v ∧ Q11c1n8x23 Z o0 ob k b0 b1 b2 b3 b4 b5 b6 b7 cs vf h0 n0 v U'.heap L ∧ FrameEnd s o U' L (⟨5, 0, 0, 66⟩ : Room).cells (⟨5, 0, 0, 66⟩ : Room).slots) (s₁.setTop (entryFrame m #[(.ref o0), (.int 2), (.int 3)] 5))
  refine own_of (fun t k => castTop (ef_11c1n8x23 m o0) k) ?_
  show own_Out p e below _ (s₁.setTop (mkF m 0 #[rv o0, iv 2, iv 3, .unset, .unset] []))
  refine o_iloadN X0 hx hby d11_0 rfl (q := 1) rfl ?_
  refine o_istoreN X0 hx hby d11_1 (l' := #[rv o0, iv 2, iv 3, iv 2, .unset]) rfl (q := 2) rfl ?_
  refine o_iloadN X0 hx hby d11_2 rfl (q := 3) rfl ?_
  refine o_iloadN X0 hx hby d11_3 rfl (q := 4) rfl ?_
  refine o_icN X0 hx hby d11_4 (tlt (by decide : (2 : Int32) < (3 : Int32))).2.1 (q := 7) rfl ?_
  refine o_aloadN X0 hx hby d11_7 rfl rfl (q := 8) rfl ?_
  refine o_iloadN X0 hx hby d11_8 rfl (q := 9) rfl ?_
  obtain ⟨cq1, kq1, q1a, q1b, q1c⟩ := isOf hZ e0 E
  obtain ⟨_, _, ⟨T1, L1, k1, n1⟩, -, X1, ⟨Lc1, hQ1, l1, y1, z1⟩, st1⟩ := X0.virtualBack hx (y := (⟨"java/lang/String", "charAt", "(I)C"⟩ : MethodName)) (z := (⟨"java/lang/String", "charAt", "(I)C"⟩ : MethodName)) hown (mvT hZ (w_ hw 50 rfl)) (mvT hZ (w_ hw 51 rfl)) (notFace_of_selects (args := #[]) (mvT hZ (w_ hw 53 rfl))) (mvT hZ (w_ hw 53 rfl)) (mvT hZ (w_ hw 52 rfl)) (by decide) (backOf (W := 0) (rm12c1n8i2 l Z a0 hw [] o0 ob k b0 b1 b2 b3 b4 b5 b6 b7 cs vf h0 n0 Z0 E Fv Fc V S_cs hcs S_f hvf S_ad S_hi S_lo) hZ (w_ hw 54 rfl) (w_ hw 8 rfl) (by decide) (by decide)) q1a q1c (g := (mkF m 9 #[rv o0, iv 2, iv 3, iv 2, .unset] [.int 2, .ref o0])) rfl (by rw [hml]; rfl) (Steps.refl _) (argsL := [(.int 2)]) (rest := []) (lenOf pd_4 rfl) rfl (by show 2 * 0 + _ ≤ _; exact Nat.le_of_eq rfl) (hb hby d11_9) (fun _ _ => ⟨rfl, e0, (by decide : 0 + 0 ≤ _), (by decide : 0 + 0 ≤ _)⟩)
  dsimp only [Pt.U, Pt.locs, Pt.cells, Pt.slots] at X1 l1 y1 z1 st1 hQ1
  subst l1 y1 z1
  obtain ⟨rfl, N1q, hh1⟩ := hQ1
  have N1 := Fr.app N0 N1q
  refine own_of (fun _ k => st1.trans k) ?_
  show own_Out p e below _ (T1.setTop (mkF m 12 #[rv o0, iv 2, iv 3, iv 2, .unset] [.int (f_charAtc1n8i2 b0 b1 b2 b3 b4 b5 b6 b7 cs)]))
  refine o_istore X1 hx hby d11_12 (l' := #[rv o0, iv 2, iv 3, iv 2, iv (f_charAtc1n8i2 b0 b1 b2 b3 b4 b5 b6 b7 cs)]) rfl (q := 14) rfl ?_
  refine o_iload X1 hx hby d11_14 rfl (q := 16) rfl ?_
  refine o_bipush X1 hx hby d11_16 (z := 48) rfl (q := 18) rfl ?_
  by_cases hc18_2 : (f_charAtc1n8i2 b0 b1 b2 b3 b4 b5 b6 b7 cs) < (48 : Int32)
  · skip
    refine o_icY X1 hx hby d11_18 (tlt hc18_2).1 (by decide) (q := 28) (by decide) ?_
    refine o_iconst X1 hx hby d11_28 (z := 0) rfl (q := 29) rfl ?_
    exact own_outN X1 hx hlk (t := .boolean) hret (by simp) (hb hby d11_29) (z' := (0 : Int32)) rfl (Q := Q11c1n8x23 Z o0 ob k b0 b1 b2 b3 b4 b5 b6 b7 cs vf h0 n0) ⟨by simp only [fhc1n8x23, if_neg hcs, if_pos hc18_2], N1, hh1⟩ (by decide) (by decide)
  · skip
    refine o_icN X1 hx hby d11_18 (flt hc18_2).1 (q := 21) rfl ?_
    refine o_iload X1 hx hby d11_21 rfl (q := 23) rfl ?_
    refine o_bipush X1 hx hby d11_23 (z := 57) rfl (q := 25) rfl ?_
    by_cases hc25_3 : (57 : Int32) < (f_charAtc1n8i2 b0 b1 b2 b3 b4 b5 b6 b7 cs)
    · skip
      refine o_icN X1 hx hby d11_25 (tlt hc25_3).2.2.2 (q := 28) rfl ?_
      refine o_iconst X1 hx hby d11_28 (z := 0) rfl (q := 29) rfl ?_
      exact own_outN X1 hx hlk (t := .boolean) hret (by simp) (hb hby d11_29) (z' := (0 : Int32)) rfl (Q := Q11c1n8x23 Z o0 ob k b0 b1 b2 b3 b4 b5 b6 b7 cs vf h0 n0) ⟨by simp only [fhc1n8x23, if_neg hcs, if_neg hc18_2, if_pos hc25_3], N1, hh1⟩ (by decide) (by decide)
    · skip
      refine o_icY X1 hx hby d11_25 (flt hc25_3).2.2.2 (by decide) (q := 30) (by decide) ?_
      refine o_iinc X1 hx hby d11_30 rfl (l' := #[rv o0, iv 2, iv 3, iv 3, iv (f_charAtc1n8i2 b0 b1 b2 b3 b4 b5 b6 b7 cs)]) rfl (q := 33) rfl ?_
      refine o_goto X1 hx hby d11_33 (by decide) (q := 2) (by decide) ?_
      refine o_iloadN X1 hx hby d11_2 rfl (q := 3) rfl ?_
      refine o_iloadN X1 hx hby d11_3 rfl (q := 4) rfl ?_
      refine o_icY X1 hx hby d11_4 (flt (by decide : ¬ ((3 : Int32) < (3 : Int32)))).2.1 (by decide) (q := 36) (by decide) ?_
      refine o_iconst X1 hx hby d11_36 (z := 1) rfl (q := 37) rfl ?_
      exact own_outN X1 hx hlk (t := .boolean) hret (by simp) (hb hby d11_37) (z' := (1 : Int32)) rfl (Q := Q11c1n8x23 Z o0 ob k b0 b1 b2 b3 b4 b5 b6 b7 cs vf h0 n0) ⟨by simp only [fhc1n8x23, if_neg hcs, if_neg hc18_2, if_neg hc25_3], N1, hh1⟩ (by decide) (by decide)
theorem ef_11c1n8x24 (m : MethodId) (x0 : Addr) : entryFrame m #[(.ref x0), (.int 2), (.int 4)] 5 = mkF m 0 #[.val (.ref x0), .val (.int 2), .val (.int 4), .unset, .unset] [] := by first | (simp [entryFrame, mkF, argsToLocals, Value.category]; done) | rfl
def fhc1n8x24 (b0 b1 b2 b3 b4 b5 b6 b7 cs : Int32) : Int32 := if (f_charAtc1n8i2 b0 b1 b2 b3 b4 b5 b6 b7 cs) < (48 : Int32) then (0 : Int32)
  else if (57 : Int32) < (f_charAtc1n8i2 b0 b1 b2 b3 b4 b5 b6 b7 cs) then (0 : Int32)
    else if (f_charAtc1n8i3 b0 b1 b2 b3 b4 b5 b6 b7 cs) < (48 : Int32) then (0 : Int32)
      else if (57 : Int32) < (f_charAtc1n8i3 b0 b1 b2 b3 b4 b5 b6 b7 cs) then (0 : Int32)
        else (1 : Int32)
def Q11c1n8x24 (Z : State) (o0 ob : Addr) (k : ClassId) (b0 b1 b2 b3 b4 b5 b6 b7 cs : Int32) (vf : Value) (h0 : Heap) (n0 : Nat) (v : Option Value) (h : Heap) (L : List Loc) : Prop := v = some (.int (fhc1n8x24 b0 b1 b2 b3 b4 b5 b6 b7 cs)) ∧ Fr n0 L ∧ h = h0
set_option maxRecDepth 65536 in
set_option maxHeartbeats 40000000 in
theorem rm11c1n8x24 (l : Launch) (Z : State) (a0 : Array Value) (hw : ∀ d ∈ tables_1, d.before a0 Z = true) (ws : List Jvm.Cond) (o0 ob : Addr) (k : ClassId) (b0 b1 b2 b3 b4 b5 b6 b7 cs : Int32) (vf : Value) (h0 : Heap) (n0 : Nat) (Z0 : n0 ≤ h0.size) (E : Exa Z h0 o0 "java/lang/String") (Fv : Fld Z h0 o0 "java/lang/String" "value" "[B" (.ref ob)) (Fc : Fld Z h0 o0 "java/lang/String" "coder" "B" (.int 1)) (V : Arv Z h0 ob k .byte (8 : Int32) [(.int b0), (.int b1), (.int b2), (.int b3), (.int b4), (.int b5), (.int b6), (.int b7)] (.int 0)) (S_cs : Sta Z h0 "java/lang/String" "COMPACT_STRINGS" "Z" (.int cs)) (hcs : ¬ (cs = (0 : Int32))) (S_f : Sta Z h0 "jdk/internal/util/Preconditions" "SIOOBE_FORMATTER" "Ljava/util/function/BiFunction;" vf) (hvf : vf.isRef = true) (S_ad : Sta Z h0 "java/lang/StringUTF16" "$assertionsDisabled" "Z" (.int 1)) (S_hi : Sta Z h0 "java/lang/StringUTF16" "HI_BYTE_SHIFT" "I" (.int 0)) (S_lo : Sta Z h0 "java/lang/StringUTF16" "LO_BYTE_SHIFT" "I" (.int 8)) :
    MetFree l (⟨"com/example/fides/fides/ledger/Position", "hasOnlyAsciiDigits", "(Ljava/lang/String;II)Z"⟩ : MethodName) (head1 (Jvm.Cond.code (⟨"com/example/fides/fides/ledger/Position", "hasOnlyAsciiDigits", "(Ljava/lang/String;II)Z"⟩ : MethodName) prog_28_method_5_code 5 (some .boolean) :: ws) (⟨5, 0, 0, 66⟩ : Room)) (fun a U => a = #[(.ref o0), (.int 2), (.int 4)] ∧ Z.Warmed39 U.vm ∧ U.heap = h0) (fun _ _ _ _ _ => True) (fun _ U o U' => ∃ v L, o = .returned v ∧ Q11c1n8x24 Z o0 ob k b0 b1 b2 b3 b4 b5 b6 b7 cs vf h0 n0 v U'.heap L ∧ FrameEnd U o U' L (⟨5, 0, 0, 66⟩ : Room).cells (⟨5, 0, 0, 66⟩ : Room).slots) := by
  refine MetFree.of_bodySF (plainFor_of_name pn_4) hisR ?_
  intro p e s m args below meth c s₁ Bd hml0 hP hK
  obtain ⟨rfl, hZ, hh⟩ := hP
  have hx := Bd.exec
  have hby := Bd.bytes
  have hml : c.maxLocals = 5 := hml0
  have hown : s.vm.findClass "com/example/fides/fides/ledger/Position" = some m.cls := findClass_of_methodNamed Bd.named
  have hnm := (name_of_methodNamed Bd.named Bd.method).1
  have X0 : Stand p l e (⟨5, 0, 0, 66⟩ : Room) s m #[(.ref o0), (.int 2), (.int 4)] below meth c s₁ [] 0 0 := Stand.of_body Bd
  have e0 : s₁.heap = h0 := by rw [← hh, Bd.state]; rfl
  have N0 := Fr.nil n0
  have hret := Bd.returns
  have hlk := BodyLoose.notSynchronized Bd
  show own_Out p e below (fun o U' => ∃ v L, o = .returned v ∧ Q11c1n8x24 Z o0 ob k b0 b1 b2 b3 b4 b5 b6 b7 cs vf h0 n0 v U'.heap L ∧ FrameEnd s o U' L (⟨5, 0, 0, 66⟩ : Room).cells (⟨5, 0, 0, 66⟩ : Room).slots) (s₁.setTop (entryFrame m #[(.ref o0), (.int 2), (.int 4)] 5))
  refine own_of (fun t k => castTop (ef_11c1n8x24 m o0) k) ?_
  show own_Out p e below _ (s₁.setTop (mkF m 0 #[rv o0, iv 2, iv 4, .unset, .unset] []))
  refine o_iloadN X0 hx hby d11_0 rfl (q := 1) rfl ?_
  refine o_istoreN X0 hx hby d11_1 (l' := #[rv o0, iv 2, iv 4, iv 2, .unset]) rfl (q := 2) rfl ?_
  refine o_iloadN X0 hx hby d11_2 rfl (q := 3) rfl ?_
  refine o_iloadN X0 hx hby d11_3 rfl (q := 4) rfl ?_
  refine o_icN X0 hx hby d11_4 (tlt (by decide : (2 : Int32) < (4 : Int32))).2.1 (q := 7) rfl ?_
  refine o_aloadN X0 hx hby d11_7 rfl rfl (q := 8) rfl ?_
  refine o_iloadN X0 hx hby d11_8 rfl (q := 9) rfl ?_
  obtain ⟨cq1, kq1, q1a, q1b, q1c⟩ := isOf hZ e0 E
  obtain ⟨_, _, ⟨T1, L1, k1, n1⟩, -, X1, ⟨Lc1, hQ1, l1, y1, z1⟩, st1⟩ := X0.virtualBack hx (y := (⟨"java/lang/String", "charAt", "(I)C"⟩ : MethodName)) (z := (⟨"java/lang/String", "charAt", "(I)C"⟩ : MethodName)) hown (mvT hZ (w_ hw 50 rfl)) (mvT hZ (w_ hw 51 rfl)) (notFace_of_selects (args := #[]) (mvT hZ (w_ hw 53 rfl))) (mvT hZ (w_ hw 53 rfl)) (mvT hZ (w_ hw 52 rfl)) (by decide) (backOf (W := 0) (rm12c1n8i2 l Z a0 hw [] o0 ob k b0 b1 b2 b3 b4 b5 b6 b7 cs vf h0 n0 Z0 E Fv Fc V S_cs hcs S_f hvf S_ad S_hi S_lo) hZ (w_ hw 54 rfl) (w_ hw 8 rfl) (by decide) (by decide)) q1a q1c (g := (mkF m 9 #[rv o0, iv 2, iv 4, iv 2, .unset] [.int 2, .ref o0])) rfl (by rw [hml]; rfl) (Steps.refl _) (argsL := [(.int 2)]) (rest := []) (lenOf pd_4 rfl) rfl (by show 2 * 0 + _ ≤ _; exact Nat.le_of_eq rfl) (hb hby d11_9) (fun _ _ => ⟨rfl, e0, (by decide : 0 + 0 ≤ _), (by decide : 0 + 0 ≤ _)⟩)
  dsimp only [Pt.U, Pt.locs, Pt.cells, Pt.slots] at X1 l1 y1 z1 st1 hQ1
  subst l1 y1 z1
  obtain ⟨rfl, N1q, hh1⟩ := hQ1
  have N1 := Fr.app N0 N1q
  refine own_of (fun _ k => st1.trans k) ?_
  show own_Out p e below _ (T1.setTop (mkF m 12 #[rv o0, iv 2, iv 4, iv 2, .unset] [.int (f_charAtc1n8i2 b0 b1 b2 b3 b4 b5 b6 b7 cs)]))
  refine o_istore X1 hx hby d11_12 (l' := #[rv o0, iv 2, iv 4, iv 2, iv (f_charAtc1n8i2 b0 b1 b2 b3 b4 b5 b6 b7 cs)]) rfl (q := 14) rfl ?_
  refine o_iload X1 hx hby d11_14 rfl (q := 16) rfl ?_
  refine o_bipush X1 hx hby d11_16 (z := 48) rfl (q := 18) rfl ?_
  by_cases hc18_2 : (f_charAtc1n8i2 b0 b1 b2 b3 b4 b5 b6 b7 cs) < (48 : Int32)
  · skip
    refine o_icY X1 hx hby d11_18 (tlt hc18_2).1 (by decide) (q := 28) (by decide) ?_
    refine o_iconst X1 hx hby d11_28 (z := 0) rfl (q := 29) rfl ?_
    exact own_outN X1 hx hlk (t := .boolean) hret (by simp) (hb hby d11_29) (z' := (0 : Int32)) rfl (Q := Q11c1n8x24 Z o0 ob k b0 b1 b2 b3 b4 b5 b6 b7 cs vf h0 n0) ⟨by simp only [fhc1n8x24, if_neg hcs, if_pos hc18_2], N1, hh1⟩ (by decide) (by decide)
  · skip
    refine o_icN X1 hx hby d11_18 (flt hc18_2).1 (q := 21) rfl ?_
    refine o_iload X1 hx hby d11_21 rfl (q := 23) rfl ?_
    refine o_bipush X1 hx hby d11_23 (z := 57) rfl (q := 25) rfl ?_
    by_cases hc25_3 : (57 : Int32) < (f_charAtc1n8i2 b0 b1 b2 b3 b4 b5 b6 b7 cs)
    · skip
      refine o_icN X1 hx hby d11_25 (tlt hc25_3).2.2.2 (q := 28) rfl ?_
      refine o_iconst X1 hx hby d11_28 (z := 0) rfl (q := 29) rfl ?_
      exact own_outN X1 hx hlk (t := .boolean) hret (by simp) (hb hby d11_29) (z' := (0 : Int32)) rfl (Q := Q11c1n8x24 Z o0 ob k b0 b1 b2 b3 b4 b5 b6 b7 cs vf h0 n0) ⟨by simp only [fhc1n8x24, if_neg hcs, if_neg hc18_2, if_pos hc25_3], N1, hh1⟩ (by decide) (by decide)
    · skip
      refine o_icY X1 hx hby d11_25 (flt hc25_3).2.2.2 (by decide) (q := 30) (by decide) ?_
      refine o_iinc X1 hx hby d11_30 rfl (l' := #[rv o0, iv 2, iv 4, iv 3, iv (f_charAtc1n8i2 b0 b1 b2 b3 b4 b5 b6 b7 cs)]) rfl (q := 33) rfl ?_
      refine o_goto X1 hx hby d11_33 (by decide) (q := 2) (by decide) ?_
      refine o_iloadN X1 hx hby d11_2 rfl (q := 3) rfl ?_
      refine o_iloadN X1 hx hby d11_3 rfl (q := 4) rfl ?_
      refine o_icN X1 hx hby d11_4 (tlt (by decide : (3 : Int32) < (4 : Int32))).2.1 (q := 7) rfl ?_
      refine o_aloadN X1 hx hby d11_7 rfl rfl (q := 8) rfl ?_
      refine o_iloadN X1 hx hby d11_8 rfl (q := 9) rfl ?_
      obtain ⟨cq4, kq4, q4a, q4b, q4c⟩ := isOf hZ hh1 E
      obtain ⟨_, _, ⟨T4, L4, k4, n4⟩, -, X4, ⟨Lc4, hQ4, l4, y4, z4⟩, st4⟩ := X1.virtualBack hx (y := (⟨"java/lang/String", "charAt", "(I)C"⟩ : MethodName)) (z := (⟨"java/lang/String", "charAt", "(I)C"⟩ : MethodName)) hown (mvT hZ (w_ hw 50 rfl)) (mvT hZ (w_ hw 51 rfl)) (notFace_of_selects (args := #[]) (mvT hZ (w_ hw 53 rfl))) (mvT hZ (w_ hw 53 rfl)) (mvT hZ (w_ hw 52 rfl)) (by decide) (backOf (W := 0) (rm12c1n8i3 l Z a0 hw [] o0 ob k b0 b1 b2 b3 b4 b5 b6 b7 cs vf h0 n0 Z0 E Fv Fc V S_cs hcs S_f hvf S_ad S_hi S_lo) hZ (w_ hw 54 rfl) (w_ hw 8 rfl) (by decide) (by decide)) q4a q4c (g := (mkF m 9 #[rv o0, iv 2, iv 4, iv 3, iv (f_charAtc1n8i2 b0 b1 b2 b3 b4 b5 b6 b7 cs)] [.int 3, .ref o0])) rfl (by rw [hml]; rfl) (Steps.refl _) (argsL := [(.int 3)]) (rest := []) (lenOf pd_4 rfl) rfl (by show 2 * 0 + _ ≤ _; exact Nat.le_of_eq rfl) (hb hby d11_9) (fun _ _ => ⟨rfl, hh1, (by decide : 0 + 0 ≤ _), (by decide : 0 + 0 ≤ _)⟩)
      dsimp only [Pt.U, Pt.locs, Pt.cells, Pt.slots] at X4 l4 y4 z4 st4 hQ4
      subst l4 y4 z4
      obtain ⟨rfl, N4q, hh4⟩ := hQ4
      have N4 := Fr.app N1 N4q
      refine own_of (fun _ k => st4.trans k) ?_
      show own_Out p e below _ (T4.setTop (mkF m 12 #[rv o0, iv 2, iv 4, iv 3, iv (f_charAtc1n8i2 b0 b1 b2 b3 b4 b5 b6 b7 cs)] [.int (f_charAtc1n8i3 b0 b1 b2 b3 b4 b5 b6 b7 cs)]))
      refine o_istore X4 hx hby d11_12 (l' := #[rv o0, iv 2, iv 4, iv 3, iv (f_charAtc1n8i3 b0 b1 b2 b3 b4 b5 b6 b7 cs)]) rfl (q := 14) rfl ?_
      refine o_iload X4 hx hby d11_14 rfl (q := 16) rfl ?_
      refine o_bipush X4 hx hby d11_16 (z := 48) rfl (q := 18) rfl ?_
      by_cases hc18_5 : (f_charAtc1n8i3 b0 b1 b2 b3 b4 b5 b6 b7 cs) < (48 : Int32)
      · skip
        refine o_icY X4 hx hby d11_18 (tlt hc18_5).1 (by decide) (q := 28) (by decide) ?_
        refine o_iconst X4 hx hby d11_28 (z := 0) rfl (q := 29) rfl ?_
        exact own_outN X4 hx hlk (t := .boolean) hret (by simp) (hb hby d11_29) (z' := (0 : Int32)) rfl (Q := Q11c1n8x24 Z o0 ob k b0 b1 b2 b3 b4 b5 b6 b7 cs vf h0 n0) ⟨by simp only [fhc1n8x24, if_neg hcs, if_neg hc18_2, if_neg hc25_3, if_pos hc18_5], N4, hh4⟩ (by decide) (by decide)
      · skip
        refine o_icN X4 hx hby d11_18 (flt hc18_5).1 (q := 21) rfl ?_
        refine o_iload X4 hx hby d11_21 rfl (q := 23) rfl ?_
        refine o_bipush X4 hx hby d11_23 (z := 57) rfl (q := 25) rfl ?_
        by_cases hc25_6 : (57 : Int32) < (f_charAtc1n8i3 b0 b1 b2 b3 b4 b5 b6 b7 cs)
        · skip
          refine o_icN X4 hx hby d11_25 (tlt hc25_6).2.2.2 (q := 28) rfl ?_
          refine o_iconst X4 hx hby d11_28 (z := 0) rfl (q := 29) rfl ?_
          exact own_outN X4 hx hlk (t := .boolean) hret (by simp) (hb hby d11_29) (z' := (0 : Int32)) rfl (Q := Q11c1n8x24 Z o0 ob k b0 b1 b2 b3 b4 b5 b6 b7 cs vf h0 n0) ⟨by simp only [fhc1n8x24, if_neg hcs, if_neg hc18_2, if_neg hc25_3, if_neg hc18_5, if_pos hc25_6], N4, hh4⟩ (by decide) (by decide)
        · skip
          refine o_icY X4 hx hby d11_25 (flt hc25_6).2.2.2 (by decide) (q := 30) (by decide) ?_
          refine o_iinc X4 hx hby d11_30 rfl (l' := #[rv o0, iv 2, iv 4, iv 4, iv (f_charAtc1n8i3 b0 b1 b2 b3 b4 b5 b6 b7 cs)]) rfl (q := 33) rfl ?_
          refine o_goto X4 hx hby d11_33 (by decide) (q := 2) (by decide) ?_
          refine o_iloadN X4 hx hby d11_2 rfl (q := 3) rfl ?_
          refine o_iloadN X4 hx hby d11_3 rfl (q := 4) rfl ?_
          refine o_icY X4 hx hby d11_4 (flt (by decide : ¬ ((4 : Int32) < (4 : Int32)))).2.1 (by decide) (q := 36) (by decide) ?_
          refine o_iconst X4 hx hby d11_36 (z := 1) rfl (q := 37) rfl ?_
          exact own_outN X4 hx hlk (t := .boolean) hret (by simp) (hb hby d11_37) (z' := (1 : Int32)) rfl (Q := Q11c1n8x24 Z o0 ob k b0 b1 b2 b3 b4 b5 b6 b7 cs vf h0 n0) ⟨by simp only [fhc1n8x24, if_neg hcs, if_neg hc18_2, if_neg hc25_3, if_neg hc18_5, if_neg hc25_6], N4, hh4⟩ (by decide) (by decide)
theorem ef_11c1n8x33 (m : MethodId) (x0 : Addr) : entryFrame m #[(.ref x0), (.int 3), (.int 3)] 5 = mkF m 0 #[.val (.ref x0), .val (.int 3), .val (.int 3), .unset, .unset] [] := by first | (simp [entryFrame, mkF, argsToLocals, Value.category]; done) | rfl
def fhc1n8x33 (b0 b1 b2 b3 b4 b5 b6 b7 cs : Int32) : Int32 := (1 : Int32)
def Q11c1n8x33 (Z : State) (o0 ob : Addr) (k : ClassId) (b0 b1 b2 b3 b4 b5 b6 b7 cs : Int32) (vf : Value) (h0 : Heap) (n0 : Nat) (v : Option Value) (h : Heap) (L : List Loc) : Prop := v = some (.int (fhc1n8x33 b0 b1 b2 b3 b4 b5 b6 b7 cs)) ∧ Fr n0 L ∧ h = h0
set_option maxRecDepth 65536 in
set_option maxHeartbeats 40000000 in
theorem rm11c1n8x33 (l : Launch) (Z : State) (a0 : Array Value) (hw : ∀ d ∈ tables_1, d.before a0 Z = true) (ws : List Jvm.Cond) (o0 ob : Addr) (k : ClassId) (b0 b1 b2 b3 b4 b5 b6 b7 cs : Int32) (vf : Value) (h0 : Heap) (n0 : Nat) (Z0 : n0 ≤ h0.size) (E : Exa Z h0 o0 "java/lang/String") (Fv : Fld Z h0 o0 "java/lang/String" "value" "[B" (.ref ob)) (Fc : Fld Z h0 o0 "java/lang/String" "coder" "B" (.int 1)) (V : Arv Z h0 ob k .byte (8 : Int32) [(.int b0), (.int b1), (.int b2), (.int b3), (.int b4), (.int b5), (.int b6), (.int b7)] (.int 0)) (S_cs : Sta Z h0 "java/lang/String" "COMPACT_STRINGS" "Z" (.int cs)) (hcs : ¬ (cs = (0 : Int32))) (S_f : Sta Z h0 "jdk/internal/util/Preconditions" "SIOOBE_FORMATTER" "Ljava/util/function/BiFunction;" vf) (hvf : vf.isRef = true) (S_ad : Sta Z h0 "java/lang/StringUTF16" "$assertionsDisabled" "Z" (.int 1)) (S_hi : Sta Z h0 "java/lang/StringUTF16" "HI_BYTE_SHIFT" "I" (.int 0)) (S_lo : Sta Z h0 "java/lang/StringUTF16" "LO_BYTE_SHIFT" "I" (.int 8)) :
    MetFree l (⟨"com/example/fides/fides/ledger/Position", "hasOnlyAsciiDigits", "(Ljava/lang/String;II)Z"⟩ : MethodName) (head1 (Jvm.Cond.code (⟨"com/example/fides/fides/ledger/Position", "hasOnlyAsciiDigits", "(Ljava/lang/String;II)Z"⟩ : MethodName) prog_28_method_5_code 5 (some .boolean) :: ws) (⟨5, 0, 0, 66⟩ : Room)) (fun a U => a = #[(.ref o0), (.int 3), (.int 3)] ∧ Z.Warmed39 U.vm ∧ U.heap = h0) (fun _ _ _ _ _ => True) (fun _ U o U' => ∃ v L, o = .returned v ∧ Q11c1n8x33 Z o0 ob k b0 b1 b2 b3 b4 b5 b6 b7 cs vf h0 n0 v U'.heap L ∧ FrameEnd U o U' L (⟨5, 0, 0, 66⟩ : Room).cells (⟨5, 0, 0, 66⟩ : Room).slots) := by
  refine MetFree.of_bodySF (plainFor_of_name pn_4) hisR ?_
  intro p e s m args below meth c s₁ Bd hml0 hP hK
  obtain ⟨rfl, hZ, hh⟩ := hP
  have hx := Bd.exec
  have hby := Bd.bytes
  have hml : c.maxLocals = 5 := hml0
  have hown : s.vm.findClass "com/example/fides/fides/ledger/Position" = some m.cls := findClass_of_methodNamed Bd.named
  have hnm := (name_of_methodNamed Bd.named Bd.method).1
  have X0 : Stand p l e (⟨5, 0, 0, 66⟩ : Room) s m #[(.ref o0), (.int 3), (.int 3)] below meth c s₁ [] 0 0 := Stand.of_body Bd
  have e0 : s₁.heap = h0 := by rw [← hh, Bd.state]; rfl
  have N0 := Fr.nil n0
  have hret := Bd.returns
  have hlk := BodyLoose.notSynchronized Bd
  show own_Out p e below (fun o U' => ∃ v L, o = .returned v ∧ Q11c1n8x33 Z o0 ob k b0 b1 b2 b3 b4 b5 b6 b7 cs vf h0 n0 v U'.heap L ∧ FrameEnd s o U' L (⟨5, 0, 0, 66⟩ : Room).cells (⟨5, 0, 0, 66⟩ : Room).slots) (s₁.setTop (entryFrame m #[(.ref o0), (.int 3), (.int 3)] 5))
  refine own_of (fun t k => castTop (ef_11c1n8x33 m o0) k) ?_
  show own_Out p e below _ (s₁.setTop (mkF m 0 #[rv o0, iv 3, iv 3, .unset, .unset] []))
  refine o_iloadN X0 hx hby d11_0 rfl (q := 1) rfl ?_
  refine o_istoreN X0 hx hby d11_1 (l' := #[rv o0, iv 3, iv 3, iv 3, .unset]) rfl (q := 2) rfl ?_
  refine o_iloadN X0 hx hby d11_2 rfl (q := 3) rfl ?_
  refine o_iloadN X0 hx hby d11_3 rfl (q := 4) rfl ?_
  refine o_icY X0 hx hby d11_4 (flt (by decide : ¬ ((3 : Int32) < (3 : Int32)))).2.1 (by decide) (q := 36) (by decide) ?_
  refine o_iconst X0 hx hby d11_36 (z := 1) rfl (q := 37) rfl ?_
  exact own_outN X0 hx hlk (t := .boolean) hret (by simp) (hb hby d11_37) (z' := (1 : Int32)) rfl (Q := Q11c1n8x33 Z o0 ob k b0 b1 b2 b3 b4 b5 b6 b7 cs vf h0 n0) ⟨by simp only [fhc1n8x33, if_neg hcs], N0, e0⟩ (by decide) (by decide)
theorem ef_11c1n8x34 (m : MethodId) (x0 : Addr) : entryFrame m #[(.ref x0), (.int 3), (.int 4)] 5 = mkF m 0 #[.val (.ref x0), .val (.int 3), .val (.int 4), .unset, .unset] [] := by first | (simp [entryFrame, mkF, argsToLocals, Value.category]; done) | rfl
def fhc1n8x34 (b0 b1 b2 b3 b4 b5 b6 b7 cs : Int32) : Int32 := if (f_charAtc1n8i3 b0 b1 b2 b3 b4 b5 b6 b7 cs) < (48 : Int32) then (0 : Int32)
  else if (57 : Int32) < (f_charAtc1n8i3 b0 b1 b2 b3 b4 b5 b6 b7 cs) then (0 : Int32)
    else (1 : Int32)
def Q11c1n8x34 (Z : State) (o0 ob : Addr) (k : ClassId) (b0 b1 b2 b3 b4 b5 b6 b7 cs : Int32) (vf : Value) (h0 : Heap) (n0 : Nat) (v : Option Value) (h : Heap) (L : List Loc) : Prop := v = some (.int (fhc1n8x34 b0 b1 b2 b3 b4 b5 b6 b7 cs)) ∧ Fr n0 L ∧ h = h0
set_option maxRecDepth 65536 in
set_option maxHeartbeats 40000000 in
theorem rm11c1n8x34 (l : Launch) (Z : State) (a0 : Array Value) (hw : ∀ d ∈ tables_1, d.before a0 Z = true) (ws : List Jvm.Cond) (o0 ob : Addr) (k : ClassId) (b0 b1 b2 b3 b4 b5 b6 b7 cs : Int32) (vf : Value) (h0 : Heap) (n0 : Nat) (Z0 : n0 ≤ h0.size) (E : Exa Z h0 o0 "java/lang/String") (Fv : Fld Z h0 o0 "java/lang/String" "value" "[B" (.ref ob)) (Fc : Fld Z h0 o0 "java/lang/String" "coder" "B" (.int 1)) (V : Arv Z h0 ob k .byte (8 : Int32) [(.int b0), (.int b1), (.int b2), (.int b3), (.int b4), (.int b5), (.int b6), (.int b7)] (.int 0)) (S_cs : Sta Z h0 "java/lang/String" "COMPACT_STRINGS" "Z" (.int cs)) (hcs : ¬ (cs = (0 : Int32))) (S_f : Sta Z h0 "jdk/internal/util/Preconditions" "SIOOBE_FORMATTER" "Ljava/util/function/BiFunction;" vf) (hvf : vf.isRef = true) (S_ad : Sta Z h0 "java/lang/StringUTF16" "$assertionsDisabled" "Z" (.int 1)) (S_hi : Sta Z h0 "java/lang/StringUTF16" "HI_BYTE_SHIFT" "I" (.int 0)) (S_lo : Sta Z h0 "java/lang/StringUTF16" "LO_BYTE_SHIFT" "I" (.int 8)) :
    MetFree l (⟨"com/example/fides/fides/ledger/Position", "hasOnlyAsciiDigits", "(Ljava/lang/String;II)Z"⟩ : MethodName) (head1 (Jvm.Cond.code (⟨"com/example/fides/fides/ledger/Position", "hasOnlyAsciiDigits", "(Ljava/lang/String;II)Z"⟩ : MethodName) prog_28_method_5_code 5 (some .boolean) :: ws) (⟨5, 0, 0, 66⟩ : Room)) (fun a U => a = #[(.ref o0), (.int 3), (.int 4)] ∧ Z.Warmed39 U.vm ∧ U.heap = h0) (fun _ _ _ _ _ => True) (fun _ U o U' => ∃ v L, o = .returned v ∧ Q11c1n8x34 Z o0 ob k b0 b1 b2 b3 b4 b5 b6 b7 cs vf h0 n0 v U'.heap L ∧ FrameEnd U o U' L (⟨5, 0, 0, 66⟩ : Room).cells (⟨5, 0, 0, 66⟩ : Room).slots) := by
  refine MetFree.of_bodySF (plainFor_of_name pn_4) hisR ?_
  intro p e s m args below meth c s₁ Bd hml0 hP hK
  obtain ⟨rfl, hZ, hh⟩ := hP
  have hx := Bd.exec
  have hby := Bd.bytes
  have hml : c.maxLocals = 5 := hml0
  have hown : s.vm.findClass "com/example/fides/fides/ledger/Position" = some m.cls := findClass_of_methodNamed Bd.named
  have hnm := (name_of_methodNamed Bd.named Bd.method).1
  have X0 : Stand p l e (⟨5, 0, 0, 66⟩ : Room) s m #[(.ref o0), (.int 3), (.int 4)] below meth c s₁ [] 0 0 := Stand.of_body Bd
  have e0 : s₁.heap = h0 := by rw [← hh, Bd.state]; rfl
  have N0 := Fr.nil n0
  have hret := Bd.returns
  have hlk := BodyLoose.notSynchronized Bd
  show own_Out p e below (fun o U' => ∃ v L, o = .returned v ∧ Q11c1n8x34 Z o0 ob k b0 b1 b2 b3 b4 b5 b6 b7 cs vf h0 n0 v U'.heap L ∧ FrameEnd s o U' L (⟨5, 0, 0, 66⟩ : Room).cells (⟨5, 0, 0, 66⟩ : Room).slots) (s₁.setTop (entryFrame m #[(.ref o0), (.int 3), (.int 4)] 5))
  refine own_of (fun t k => castTop (ef_11c1n8x34 m o0) k) ?_
  show own_Out p e below _ (s₁.setTop (mkF m 0 #[rv o0, iv 3, iv 4, .unset, .unset] []))
  refine o_iloadN X0 hx hby d11_0 rfl (q := 1) rfl ?_
  refine o_istoreN X0 hx hby d11_1 (l' := #[rv o0, iv 3, iv 4, iv 3, .unset]) rfl (q := 2) rfl ?_
  refine o_iloadN X0 hx hby d11_2 rfl (q := 3) rfl ?_
  refine o_iloadN X0 hx hby d11_3 rfl (q := 4) rfl ?_
  refine o_icN X0 hx hby d11_4 (tlt (by decide : (3 : Int32) < (4 : Int32))).2.1 (q := 7) rfl ?_
  refine o_aloadN X0 hx hby d11_7 rfl rfl (q := 8) rfl ?_
  refine o_iloadN X0 hx hby d11_8 rfl (q := 9) rfl ?_
  obtain ⟨cq1, kq1, q1a, q1b, q1c⟩ := isOf hZ e0 E
  obtain ⟨_, _, ⟨T1, L1, k1, n1⟩, -, X1, ⟨Lc1, hQ1, l1, y1, z1⟩, st1⟩ := X0.virtualBack hx (y := (⟨"java/lang/String", "charAt", "(I)C"⟩ : MethodName)) (z := (⟨"java/lang/String", "charAt", "(I)C"⟩ : MethodName)) hown (mvT hZ (w_ hw 50 rfl)) (mvT hZ (w_ hw 51 rfl)) (notFace_of_selects (args := #[]) (mvT hZ (w_ hw 53 rfl))) (mvT hZ (w_ hw 53 rfl)) (mvT hZ (w_ hw 52 rfl)) (by decide) (backOf (W := 0) (rm12c1n8i3 l Z a0 hw [] o0 ob k b0 b1 b2 b3 b4 b5 b6 b7 cs vf h0 n0 Z0 E Fv Fc V S_cs hcs S_f hvf S_ad S_hi S_lo) hZ (w_ hw 54 rfl) (w_ hw 8 rfl) (by decide) (by decide)) q1a q1c (g := (mkF m 9 #[rv o0, iv 3, iv 4, iv 3, .unset] [.int 3, .ref o0])) rfl (by rw [hml]; rfl) (Steps.refl _) (argsL := [(.int 3)]) (rest := []) (lenOf pd_4 rfl) rfl (by show 2 * 0 + _ ≤ _; exact Nat.le_of_eq rfl) (hb hby d11_9) (fun _ _ => ⟨rfl, e0, (by decide : 0 + 0 ≤ _), (by decide : 0 + 0 ≤ _)⟩)
  dsimp only [Pt.U, Pt.locs, Pt.cells, Pt.slots] at X1 l1 y1 z1 st1 hQ1
  subst l1 y1 z1
  obtain ⟨rfl, N1q, hh1⟩ := hQ1
  have N1 := Fr.app N0 N1q
  refine own_of (fun _ k => st1.trans k) ?_
  show own_Out p e below _ (T1.setTop (mkF m 12 #[rv o0, iv 3, iv 4, iv 3, .unset] [.int (f_charAtc1n8i3 b0 b1 b2 b3 b4 b5 b6 b7 cs)]))
  refine o_istore X1 hx hby d11_12 (l' := #[rv o0, iv 3, iv 4, iv 3, iv (f_charAtc1n8i3 b0 b1 b2 b3 b4 b5 b6 b7 cs)]) rfl (q := 14) rfl ?_
  refine o_iload X1 hx hby d11_14 rfl (q := 16) rfl ?_
  refine o_bipush X1 hx hby d11_16 (z := 48) rfl (q := 18) rfl ?_
  by_cases hc18_2 : (f_charAtc1n8i3 b0 b1 b2 b3 b4 b5 b6 b7 cs) < (48 : Int32)
  · skip
    refine o_icY X1 hx hby d11_18 (tlt hc18_2).1 (by decide) (q := 28) (by decide) ?_
    refine o_iconst X1 hx hby d11_28 (z := 0) rfl (q := 29) rfl ?_
    exact own_outN X1 hx hlk (t := .boolean) hret (by simp) (hb hby d11_29) (z' := (0 : Int32)) rfl (Q := Q11c1n8x34 Z o0 ob k b0 b1 b2 b3 b4 b5 b6 b7 cs vf h0 n0) ⟨by simp only [fhc1n8x34, if_neg hcs, if_pos hc18_2], N1, hh1⟩ (by decide) (by decide)
  · skip
    refine o_icN X1 hx hby d11_18 (flt hc18_2).1 (q := 21) rfl ?_
    refine o_iload X1 hx hby d11_21 rfl (q := 23) rfl ?_
    refine o_bipush X1 hx hby d11_23 (z := 57) rfl (q := 25) rfl ?_
    by_cases hc25_3 : (57 : Int32) < (f_charAtc1n8i3 b0 b1 b2 b3 b4 b5 b6 b7 cs)
    · skip
      refine o_icN X1 hx hby d11_25 (tlt hc25_3).2.2.2 (q := 28) rfl ?_
      refine o_iconst X1 hx hby d11_28 (z := 0) rfl (q := 29) rfl ?_
      exact own_outN X1 hx hlk (t := .boolean) hret (by simp) (hb hby d11_29) (z' := (0 : Int32)) rfl (Q := Q11c1n8x34 Z o0 ob k b0 b1 b2 b3 b4 b5 b6 b7 cs vf h0 n0) ⟨by simp only [fhc1n8x34, if_neg hcs, if_neg hc18_2, if_pos hc25_3], N1, hh1⟩ (by decide) (by decide)
    · skip
      refine o_icY X1 hx hby d11_25 (flt hc25_3).2.2.2 (by decide) (q := 30) (by decide) ?_
      refine o_iinc X1 hx hby d11_30 rfl (l' := #[rv o0, iv 3, iv 4, iv 4, iv (f_charAtc1n8i3 b0 b1 b2 b3 b4 b5 b6 b7 cs)]) rfl (q := 33) rfl ?_
      refine o_goto X1 hx hby d11_33 (by decide) (q := 2) (by decide) ?_
      refine o_iloadN X1 hx hby d11_2 rfl (q := 3) rfl ?_
      refine o_iloadN X1 hx hby d11_3 rfl (q := 4) rfl ?_
      refine o_icY X1 hx hby d11_4 (flt (by decide : ¬ ((4 : Int32) < (4 : Int32)))).2.1 (by decide) (q := 36) (by decide) ?_
      refine o_iconst X1 hx hby d11_36 (z := 1) rfl (q := 37) rfl ?_
      exact own_outN X1 hx hlk (t := .boolean) hret (by simp) (hb hby d11_37) (z' := (1 : Int32)) rfl (Q := Q11c1n8x34 Z o0 ob k b0 b1 b2 b3 b4 b5 b6 b7 cs vf h0 n0) ⟨by simp only [fhc1n8x34, if_neg hcs, if_neg hc18_2, if_neg hc25_3], N1, hh1⟩ (by decide) (by decide)
theorem ef_11c1n8x44 (m : MethodId) (x0 : Addr) : entryFrame m #[(.ref x0), (.int 4), (.int 4)] 5 = mkF m 0 #[.val (.ref x0), .val (.int 4), .val (.int 4), .unset, .unset] [] := by first | (simp [entryFrame, mkF, argsToLocals, Value.category]; done) | rfl
def fhc1n8x44 (b0 b1 b2 b3 b4 b5 b6 b7 cs : Int32) : Int32 := (1 : Int32)
def Q11c1n8x44 (Z : State) (o0 ob : Addr) (k : ClassId) (b0 b1 b2 b3 b4 b5 b6 b7 cs : Int32) (vf : Value) (h0 : Heap) (n0 : Nat) (v : Option Value) (h : Heap) (L : List Loc) : Prop := v = some (.int (fhc1n8x44 b0 b1 b2 b3 b4 b5 b6 b7 cs)) ∧ Fr n0 L ∧ h = h0
set_option maxRecDepth 65536 in
set_option maxHeartbeats 40000000 in
theorem rm11c1n8x44 (l : Launch) (Z : State) (a0 : Array Value) (hw : ∀ d ∈ tables_1, d.before a0 Z = true) (ws : List Jvm.Cond) (o0 ob : Addr) (k : ClassId) (b0 b1 b2 b3 b4 b5 b6 b7 cs : Int32) (vf : Value) (h0 : Heap) (n0 : Nat) (Z0 : n0 ≤ h0.size) (E : Exa Z h0 o0 "java/lang/String") (Fv : Fld Z h0 o0 "java/lang/String" "value" "[B" (.ref ob)) (Fc : Fld Z h0 o0 "java/lang/String" "coder" "B" (.int 1)) (V : Arv Z h0 ob k .byte (8 : Int32) [(.int b0), (.int b1), (.int b2), (.int b3), (.int b4), (.int b5), (.int b6), (.int b7)] (.int 0)) (S_cs : Sta Z h0 "java/lang/String" "COMPACT_STRINGS" "Z" (.int cs)) (hcs : ¬ (cs = (0 : Int32))) (S_f : Sta Z h0 "jdk/internal/util/Preconditions" "SIOOBE_FORMATTER" "Ljava/util/function/BiFunction;" vf) (hvf : vf.isRef = true) (S_ad : Sta Z h0 "java/lang/StringUTF16" "$assertionsDisabled" "Z" (.int 1)) (S_hi : Sta Z h0 "java/lang/StringUTF16" "HI_BYTE_SHIFT" "I" (.int 0)) (S_lo : Sta Z h0 "java/lang/StringUTF16" "LO_BYTE_SHIFT" "I" (.int 8)) :
    MetFree l (⟨"com/example/fides/fides/ledger/Position", "hasOnlyAsciiDigits", "(Ljava/lang/String;II)Z"⟩ : MethodName) (head1 (Jvm.Cond.code (⟨"com/example/fides/fides/ledger/Position", "hasOnlyAsciiDigits", "(Ljava/lang/String;II)Z"⟩ : MethodName) prog_28_method_5_code 5 (some .boolean) :: ws) (⟨5, 0, 0, 66⟩ : Room)) (fun a U => a = #[(.ref o0), (.int 4), (.int 4)] ∧ Z.Warmed39 U.vm ∧ U.heap = h0) (fun _ _ _ _ _ => True) (fun _ U o U' => ∃ v L, o = .returned v ∧ Q11c1n8x44 Z o0 ob k b0 b1 b2 b3 b4 b5 b6 b7 cs vf h0 n0 v U'.heap L ∧ FrameEnd U o U' L (⟨5, 0, 0, 66⟩ : Room).cells (⟨5, 0, 0, 66⟩ : Room).slots) := by
  refine MetFree.of_bodySF (plainFor_of_name pn_4) hisR ?_
  intro p e s m args below meth c s₁ Bd hml0 hP hK
  obtain ⟨rfl, hZ, hh⟩ := hP
  have hx := Bd.exec
  have hby := Bd.bytes
  have hml : c.maxLocals = 5 := hml0
  have hown : s.vm.findClass "com/example/fides/fides/ledger/Position" = some m.cls := findClass_of_methodNamed Bd.named
  have hnm := (name_of_methodNamed Bd.named Bd.method).1
  have X0 : Stand p l e (⟨5, 0, 0, 66⟩ : Room) s m #[(.ref o0), (.int 4), (.int 4)] below meth c s₁ [] 0 0 := Stand.of_body Bd
  have e0 : s₁.heap = h0 := by rw [← hh, Bd.state]; rfl
  have N0 := Fr.nil n0
  have hret := Bd.returns
  have hlk := BodyLoose.notSynchronized Bd
  show own_Out p e below (fun o U' => ∃ v L, o = .returned v ∧ Q11c1n8x44 Z o0 ob k b0 b1 b2 b3 b4 b5 b6 b7 cs vf h0 n0 v U'.heap L ∧ FrameEnd s o U' L (⟨5, 0, 0, 66⟩ : Room).cells (⟨5, 0, 0, 66⟩ : Room).slots) (s₁.setTop (entryFrame m #[(.ref o0), (.int 4), (.int 4)] 5))
  refine own_of (fun t k => castTop (ef_11c1n8x44 m o0) k) ?_
  show own_Out p e below _ (s₁.setTop (mkF m 0 #[rv o0, iv 4, iv 4, .unset, .unset] []))
  refine o_iloadN X0 hx hby d11_0 rfl (q := 1) rfl ?_
  refine o_istoreN X0 hx hby d11_1 (l' := #[rv o0, iv 4, iv 4, iv 4, .unset]) rfl (q := 2) rfl ?_
  refine o_iloadN X0 hx hby d11_2 rfl (q := 3) rfl ?_
  refine o_iloadN X0 hx hby d11_3 rfl (q := 4) rfl ?_
  refine o_icY X0 hx hby d11_4 (flt (by decide : ¬ ((4 : Int32) < (4 : Int32)))).2.1 (by decide) (q := 36) (by decide) ?_
  refine o_iconst X0 hx hby d11_36 (z := 1) rfl (q := 37) rfl ?_
  exact own_outN X0 hx hlk (t := .boolean) hret (by simp) (hb hby d11_37) (z' := (1 : Int32)) rfl (Q := Q11c1n8x44 Z o0 ob k b0 b1 b2 b3 b4 b5 b6 b7 cs vf h0 n0) ⟨by simp only [fhc1n8x44, if_neg hcs], N0, e0⟩ (by decide) (by decide)
def fexp (lo hi c0 c1 c2 c3 : Int32) : Int32 := if (fok c0 (0 : Int32) lo hi) = (0 : Int32) then (0 : Int32) else if (fok c1 (1 : Int32) lo hi) = (0 : Int32) then (0 : Int32) else if (fok c2 (2 : Int32) lo hi) = (0 : Int32) then (0 : Int32) else if (fok c3 (3 : Int32) lo hi) = (0 : Int32) then (0 : Int32) else (1 : Int32)
def QR (r : Int32) (h0 : Heap) (n0 : Nat) (v : Option Value) (h : Heap) (L : List Loc) : Prop := v = some (.int r) ∧ Fr n0 L ∧ h = h0
def HasOk (Z : State) (h : Heap) (o0 : Addr) (c0 c1 c2 c3 : Int32) : Prop := ∀ (l : Launch) (a0 : Array Value) (hw : ∀ d ∈ tables_1, d.before a0 Z = true) (ws : List Jvm.Cond) (h1 : Heap) (K : Keep h h1 []) (lo hi cs : Int32) (vf : Value) (n0 : Nat) (Z0 : n0 ≤ h1.size) (hl : 0 ≤ lo.toInt ∧ lo.toInt ≤ hi.toInt ∧ hi.toInt ≤ 4) (S_cs : Sta Z h1 "java/lang/String" "COMPACT_STRINGS" "Z" (.int cs)) (hcs : ¬ (cs = (0 : Int32))) (S_f : Sta Z h1 "jdk/internal/util/Preconditions" "SIOOBE_FORMATTER" "Ljava/util/function/BiFunction;" vf) (hvf : vf.isRef = true) (S_ad : Sta Z h1 "java/lang/StringUTF16" "$assertionsDisabled" "Z" (.int 1)) (S_hi : Sta Z h1 "java/lang/StringUTF16" "HI_BYTE_SHIFT" "I" (.int 0)) (S_lo : Sta Z h1 "java/lang/StringUTF16" "LO_BYTE_SHIFT" "I" (.int 8)), MetFree l (⟨"com/example/fides/fides/ledger/Position", "hasOnlyAsciiDigits", "(Ljava/lang/String;II)Z"⟩ : MethodName) (head1 (Jvm.Cond.code (⟨"com/example/fides/fides/ledger/Position", "hasOnlyAsciiDigits", "(Ljava/lang/String;II)Z"⟩ : MethodName) prog_28_method_5_code 5 (some .boolean) :: ws) (⟨5, 0, 0, 66⟩ : Room)) (fun a U => a = #[(.ref o0), (.int lo), (.int hi)] ∧ Z.Warmed39 U.vm ∧ U.heap = h1) (fun _ _ _ _ _ => True) (fun _ U o U' => ∃ v L, o = .returned v ∧ QR (fexp lo hi c0 c1 c2 c3) h1 n0 v U'.heap L ∧ FrameEnd U o U' L (⟨5, 0, 0, 66⟩ : Room).cells (⟨5, 0, 0, 66⟩ : Room).slots)
theorem has_use {h : Heap} {c0 c1 c2 c3 : Int32} (l : Launch) (Z : State) (a0 : Array Value) (hw : ∀ d ∈ tables_1, d.before a0 Z = true) (ws : List Jvm.Cond) (o0 : Addr) (lo hi cs : Int32) (vf : Value) (h1 : Heap) (n0 : Nat) (Z0 : n0 ≤ h1.size) (H : HasOk Z h o0 c0 c1 c2 c3) (K : Keep h h1 []) (hl : 0 ≤ lo.toInt ∧ lo.toInt ≤ hi.toInt ∧ hi.toInt ≤ 4) (S_cs : Sta Z h1 "java/lang/String" "COMPACT_STRINGS" "Z" (.int cs)) (hcs : ¬ (cs = (0 : Int32))) (S_f : Sta Z h1 "jdk/internal/util/Preconditions" "SIOOBE_FORMATTER" "Ljava/util/function/BiFunction;" vf) (hvf : vf.isRef = true) (S_ad : Sta Z h1 "java/lang/StringUTF16" "$assertionsDisabled" "Z" (.int 1)) (S_hi : Sta Z h1 "java/lang/StringUTF16" "HI_BYTE_SHIFT" "I" (.int 0)) (S_lo : Sta Z h1 "java/lang/StringUTF16" "LO_BYTE_SHIFT" "I" (.int 8)) : MetFree l (⟨"com/example/fides/fides/ledger/Position", "hasOnlyAsciiDigits", "(Ljava/lang/String;II)Z"⟩ : MethodName) (head1 (Jvm.Cond.code (⟨"com/example/fides/fides/ledger/Position", "hasOnlyAsciiDigits", "(Ljava/lang/String;II)Z"⟩ : MethodName) prog_28_method_5_code 5 (some .boolean) :: ws) (⟨5, 0, 0, 66⟩ : Room)) (fun a U => a = #[(.ref o0), (.int lo), (.int hi)] ∧ Z.Warmed39 U.vm ∧ U.heap = h1) (fun _ _ _ _ _ => True) (fun _ U o U' => ∃ v L, o = .returned v ∧ QR (fexp lo hi c0 c1 c2 c3) h1 n0 v U'.heap L ∧ FrameEnd U o U' L (⟨5, 0, 0, 66⟩ : Room).cells (⟨5, 0, 0, 66⟩ : Room).slots) := H l a0 hw ws h1 K lo hi cs vf n0 Z0 hl S_cs hcs S_f hvf S_ad S_hi S_lo
theorem own_l1 {c : Int32} (h : 0 ≤ c.toInt ∧ c.toInt < 256) : (((c.toInt8.toInt32).toInt8.toInt32) &&& (255 : Int32)) = c := by
  apply Int32.toInt_inj.mp
  have a1 := c_i2b c
  have a2 := c_i2b (c.toInt8.toInt32)
  have a3 := c_mask ((c.toInt8.toInt32).toInt8.toInt32) 255 8 (by decide) (by decide)
  omega
theorem own_w {c : Int32} (h : 0 ≤ c.toInt ∧ c.toInt < 256) : 0 ≤ c.toInt ∧ c.toInt < 65536 := ⟨h.1, by omega⟩
theorem own_lohi {lo hi : Int32} (hl : 0 ≤ lo.toInt ∧ lo.toInt ≤ hi.toInt ∧ hi.toInt ≤ 4) : (lo = 0 ∧ hi = 0) ∨ (lo = 0 ∧ hi = 1) ∨ (lo = 0 ∧ hi = 2) ∨ (lo = 0 ∧ hi = 3) ∨ (lo = 0 ∧ hi = 4) ∨ (lo = 1 ∧ hi = 1) ∨ (lo = 1 ∧ hi = 2) ∨ (lo = 1 ∧ hi = 3) ∨ (lo = 1 ∧ hi = 4) ∨ (lo = 2 ∧ hi = 2) ∨ (lo = 2 ∧ hi = 3) ∨ (lo = 2 ∧ hi = 4) ∨ (lo = 3 ∧ hi = 3) ∨ (lo = 3 ∧ hi = 4) ∨ (lo = 4 ∧ hi = 4) := by
  have e : ∀ (z : Int32) (n : Nat), n ≤ 4 → z.toInt = n → z = Int32.ofNat n := fun z n hn q => Int32.toInt_inj.mp (by rw [q]; match n, hn with | 0, _ => rfl | 1, _ => rfl | 2, _ => rfl | 3, _ => rfl | 4, _ => rfl)
  have p : ∀ z : Int32, 0 ≤ z.toInt → z.toInt ≤ 4 → z = 0 ∨ z = 1 ∨ z = 2 ∨ z = 3 ∨ z = 4 := fun z h0 h4 => by
    rcases (by omega : z.toInt = 0 ∨ z.toInt = 1 ∨ z.toInt = 2 ∨ z.toInt = 3 ∨ z.toInt = 4) with q | q | q | q | q
    · exact Or.inl (e z 0 (by decide) q)
    · exact Or.inr (Or.inl (e z 1 (by decide) q))
    · exact Or.inr (Or.inr (Or.inl (e z 2 (by decide) q)))
    · exact Or.inr (Or.inr (Or.inr (Or.inl (e z 3 (by decide) q))))
    · exact Or.inr (Or.inr (Or.inr (Or.inr (e z 4 (by decide) q))))
  rcases p lo hl.1 (by omega) with rfl | rfl | rfl | rfl | rfl <;> rcases p hi (by omega) hl.2.2 with rfl | rfl | rfl | rfl | rfl <;> first | (simp; done) | (exfalso; revert hl; decide)
theorem own_ca_c0n4i0 {c0 c1 c2 c3 cs : Int32} (r : 0 ≤ c0.toInt ∧ c0.toInt < 256) : f_charAtc0n4i0 ((c0.toInt8.toInt32).toInt8.toInt32) ((c1.toInt8.toInt32).toInt8.toInt32) ((c2.toInt8.toInt32).toInt8.toInt32) ((c3.toInt8.toInt32).toInt8.toInt32) cs = c0 := by
  simp only [f_charAtc0n4i0, f_l1charAtc0n4i0, own_l1 r, own_i2c (own_w r)]
theorem own_ca_c0n4i1 {c0 c1 c2 c3 cs : Int32} (r : 0 ≤ c1.toInt ∧ c1.toInt < 256) : f_charAtc0n4i1 ((c0.toInt8.toInt32).toInt8.toInt32) ((c1.toInt8.toInt32).toInt8.toInt32) ((c2.toInt8.toInt32).toInt8.toInt32) ((c3.toInt8.toInt32).toInt8.toInt32) cs = c1 := by
  simp only [f_charAtc0n4i1, f_l1charAtc0n4i1, own_l1 r, own_i2c (own_w r)]
theorem own_ca_c0n4i2 {c0 c1 c2 c3 cs : Int32} (r : 0 ≤ c2.toInt ∧ c2.toInt < 256) : f_charAtc0n4i2 ((c0.toInt8.toInt32).toInt8.toInt32) ((c1.toInt8.toInt32).toInt8.toInt32) ((c2.toInt8.toInt32).toInt8.toInt32) ((c3.toInt8.toInt32).toInt8.toInt32) cs = c2 := by
  simp only [f_charAtc0n4i2, f_l1charAtc0n4i2, own_l1 r, own_i2c (own_w r)]
theorem own_ca_c0n4i3 {c0 c1 c2 c3 cs : Int32} (r : 0 ≤ c3.toInt ∧ c3.toInt < 256) : f_charAtc0n4i3 ((c0.toInt8.toInt32).toInt8.toInt32) ((c1.toInt8.toInt32).toInt8.toInt32) ((c2.toInt8.toInt32).toInt8.toInt32) ((c3.toInt8.toInt32).toInt8.toInt32) cs = c3 := by
  simp only [f_charAtc0n4i3, f_l1charAtc0n4i3, own_l1 r, own_i2c (own_w r)]
theorem pl_l_00 {c0 c1 c2 c3 cs : Int32} (r0 : 0 ≤ c0.toInt ∧ c0.toInt < 256) (r1 : 0 ≤ c1.toInt ∧ c1.toInt < 256) (r2 : 0 ≤ c2.toInt ∧ c2.toInt < 256) (r3 : 0 ≤ c3.toInt ∧ c3.toInt < 256) : fexp (0 : Int32) (0 : Int32) c0 c1 c2 c3 = fhc0n4x00 ((c0.toInt8.toInt32).toInt8.toInt32) ((c1.toInt8.toInt32).toInt8.toInt32) ((c2.toInt8.toInt32).toInt8.toInt32) ((c3.toInt8.toInt32).toInt8.toInt32) cs := by
  simp only [fhc0n4x00, own_ca_c0n4i0 r0, own_ca_c0n4i1 r1, own_ca_c0n4i2 r2, own_ca_c0n4i3 r3]
  simp [fexp, fok]
  try grind
theorem pl_l_01 {c0 c1 c2 c3 cs : Int32} (r0 : 0 ≤ c0.toInt ∧ c0.toInt < 256) (r1 : 0 ≤ c1.toInt ∧ c1.toInt < 256) (r2 : 0 ≤ c2.toInt ∧ c2.toInt < 256) (r3 : 0 ≤ c3.toInt ∧ c3.toInt < 256) : fexp (0 : Int32) (1 : Int32) c0 c1 c2 c3 = fhc0n4x01 ((c0.toInt8.toInt32).toInt8.toInt32) ((c1.toInt8.toInt32).toInt8.toInt32) ((c2.toInt8.toInt32).toInt8.toInt32) ((c3.toInt8.toInt32).toInt8.toInt32) cs := by
  simp only [fhc0n4x01, own_ca_c0n4i0 r0, own_ca_c0n4i1 r1, own_ca_c0n4i2 r2, own_ca_c0n4i3 r3]
  simp [fexp, fok]
  try grind
theorem pl_l_02 {c0 c1 c2 c3 cs : Int32} (r0 : 0 ≤ c0.toInt ∧ c0.toInt < 256) (r1 : 0 ≤ c1.toInt ∧ c1.toInt < 256) (r2 : 0 ≤ c2.toInt ∧ c2.toInt < 256) (r3 : 0 ≤ c3.toInt ∧ c3.toInt < 256) : fexp (0 : Int32) (2 : Int32) c0 c1 c2 c3 = fhc0n4x02 ((c0.toInt8.toInt32).toInt8.toInt32) ((c1.toInt8.toInt32).toInt8.toInt32) ((c2.toInt8.toInt32).toInt8.toInt32) ((c3.toInt8.toInt32).toInt8.toInt32) cs := by
  simp only [fhc0n4x02, own_ca_c0n4i0 r0, own_ca_c0n4i1 r1, own_ca_c0n4i2 r2, own_ca_c0n4i3 r3]
  simp [fexp, fok]
  try grind
theorem pl_l_03 {c0 c1 c2 c3 cs : Int32} (r0 : 0 ≤ c0.toInt ∧ c0.toInt < 256) (r1 : 0 ≤ c1.toInt ∧ c1.toInt < 256) (r2 : 0 ≤ c2.toInt ∧ c2.toInt < 256) (r3 : 0 ≤ c3.toInt ∧ c3.toInt < 256) : fexp (0 : Int32) (3 : Int32) c0 c1 c2 c3 = fhc0n4x03 ((c0.toInt8.toInt32).toInt8.toInt32) ((c1.toInt8.toInt32).toInt8.toInt32) ((c2.toInt8.toInt32).toInt8.toInt32) ((c3.toInt8.toInt32).toInt8.toInt32) cs := by
  simp only [fhc0n4x03, own_ca_c0n4i0 r0, own_ca_c0n4i1 r1, own_ca_c0n4i2 r2, own_ca_c0n4i3 r3]
  simp [fexp, fok]
  try grind
theorem pl_l_04 {c0 c1 c2 c3 cs : Int32} (r0 : 0 ≤ c0.toInt ∧ c0.toInt < 256) (r1 : 0 ≤ c1.toInt ∧ c1.toInt < 256) (r2 : 0 ≤ c2.toInt ∧ c2.toInt < 256) (r3 : 0 ≤ c3.toInt ∧ c3.toInt < 256) : fexp (0 : Int32) (4 : Int32) c0 c1 c2 c3 = fhc0n4x04 ((c0.toInt8.toInt32).toInt8.toInt32) ((c1.toInt8.toInt32).toInt8.toInt32) ((c2.toInt8.toInt32).toInt8.toInt32) ((c3.toInt8.toInt32).toInt8.toInt32) cs := by
  simp only [fhc0n4x04, own_ca_c0n4i0 r0, own_ca_c0n4i1 r1, own_ca_c0n4i2 r2, own_ca_c0n4i3 r3]
  simp [fexp, fok]
  try grind
theorem pl_l_11 {c0 c1 c2 c3 cs : Int32} (r0 : 0 ≤ c0.toInt ∧ c0.toInt < 256) (r1 : 0 ≤ c1.toInt ∧ c1.toInt < 256) (r2 : 0 ≤ c2.toInt ∧ c2.toInt < 256) (r3 : 0 ≤ c3.toInt ∧ c3.toInt < 256) : fexp (1 : Int32) (1 : Int32) c0 c1 c2 c3 = fhc0n4x11 ((c0.toInt8.toInt32).toInt8.toInt32) ((c1.toInt8.toInt32).toInt8.toInt32) ((c2.toInt8.toInt32).toInt8.toInt32) ((c3.toInt8.toInt32).toInt8.toInt32) cs := by
  simp only [fhc0n4x11, own_ca_c0n4i0 r0, own_ca_c0n4i1 r1, own_ca_c0n4i2 r2, own_ca_c0n4i3 r3]
  simp [fexp, fok]
  try grind
theorem pl_l_12 {c0 c1 c2 c3 cs : Int32} (r0 : 0 ≤ c0.toInt ∧ c0.toInt < 256) (r1 : 0 ≤ c1.toInt ∧ c1.toInt < 256) (r2 : 0 ≤ c2.toInt ∧ c2.toInt < 256) (r3 : 0 ≤ c3.toInt ∧ c3.toInt < 256) : fexp (1 : Int32) (2 : Int32) c0 c1 c2 c3 = fhc0n4x12 ((c0.toInt8.toInt32).toInt8.toInt32) ((c1.toInt8.toInt32).toInt8.toInt32) ((c2.toInt8.toInt32).toInt8.toInt32) ((c3.toInt8.toInt32).toInt8.toInt32) cs := by
  simp only [fhc0n4x12, own_ca_c0n4i0 r0, own_ca_c0n4i1 r1, own_ca_c0n4i2 r2, own_ca_c0n4i3 r3]
  simp [fexp, fok]
  try grind
theorem pl_l_13 {c0 c1 c2 c3 cs : Int32} (r0 : 0 ≤ c0.toInt ∧ c0.toInt < 256) (r1 : 0 ≤ c1.toInt ∧ c1.toInt < 256) (r2 : 0 ≤ c2.toInt ∧ c2.toInt < 256) (r3 : 0 ≤ c3.toInt ∧ c3.toInt < 256) : fexp (1 : Int32) (3 : Int32) c0 c1 c2 c3 = fhc0n4x13 ((c0.toInt8.toInt32).toInt8.toInt32) ((c1.toInt8.toInt32).toInt8.toInt32) ((c2.toInt8.toInt32).toInt8.toInt32) ((c3.toInt8.toInt32).toInt8.toInt32) cs := by
  simp only [fhc0n4x13, own_ca_c0n4i0 r0, own_ca_c0n4i1 r1, own_ca_c0n4i2 r2, own_ca_c0n4i3 r3]
  simp [fexp, fok]
  try grind
theorem pl_l_14 {c0 c1 c2 c3 cs : Int32} (r0 : 0 ≤ c0.toInt ∧ c0.toInt < 256) (r1 : 0 ≤ c1.toInt ∧ c1.toInt < 256) (r2 : 0 ≤ c2.toInt ∧ c2.toInt < 256) (r3 : 0 ≤ c3.toInt ∧ c3.toInt < 256) : fexp (1 : Int32) (4 : Int32) c0 c1 c2 c3 = fhc0n4x14 ((c0.toInt8.toInt32).toInt8.toInt32) ((c1.toInt8.toInt32).toInt8.toInt32) ((c2.toInt8.toInt32).toInt8.toInt32) ((c3.toInt8.toInt32).toInt8.toInt32) cs := by
  simp only [fhc0n4x14, own_ca_c0n4i0 r0, own_ca_c0n4i1 r1, own_ca_c0n4i2 r2, own_ca_c0n4i3 r3]
  simp [fexp, fok]
  try grind
theorem pl_l_22 {c0 c1 c2 c3 cs : Int32} (r0 : 0 ≤ c0.toInt ∧ c0.toInt < 256) (r1 : 0 ≤ c1.toInt ∧ c1.toInt < 256) (r2 : 0 ≤ c2.toInt ∧ c2.toInt < 256) (r3 : 0 ≤ c3.toInt ∧ c3.toInt < 256) : fexp (2 : Int32) (2 : Int32) c0 c1 c2 c3 = fhc0n4x22 ((c0.toInt8.toInt32).toInt8.toInt32) ((c1.toInt8.toInt32).toInt8.toInt32) ((c2.toInt8.toInt32).toInt8.toInt32) ((c3.toInt8.toInt32).toInt8.toInt32) cs := by
  simp only [fhc0n4x22, own_ca_c0n4i0 r0, own_ca_c0n4i1 r1, own_ca_c0n4i2 r2, own_ca_c0n4i3 r3]
  simp [fexp, fok]
  try grind
theorem pl_l_23 {c0 c1 c2 c3 cs : Int32} (r0 : 0 ≤ c0.toInt ∧ c0.toInt < 256) (r1 : 0 ≤ c1.toInt ∧ c1.toInt < 256) (r2 : 0 ≤ c2.toInt ∧ c2.toInt < 256) (r3 : 0 ≤ c3.toInt ∧ c3.toInt < 256) : fexp (2 : Int32) (3 : Int32) c0 c1 c2 c3 = fhc0n4x23 ((c0.toInt8.toInt32).toInt8.toInt32) ((c1.toInt8.toInt32).toInt8.toInt32) ((c2.toInt8.toInt32).toInt8.toInt32) ((c3.toInt8.toInt32).toInt8.toInt32) cs := by
  simp only [fhc0n4x23, own_ca_c0n4i0 r0, own_ca_c0n4i1 r1, own_ca_c0n4i2 r2, own_ca_c0n4i3 r3]
  simp [fexp, fok]
  try grind
theorem pl_l_24 {c0 c1 c2 c3 cs : Int32} (r0 : 0 ≤ c0.toInt ∧ c0.toInt < 256) (r1 : 0 ≤ c1.toInt ∧ c1.toInt < 256) (r2 : 0 ≤ c2.toInt ∧ c2.toInt < 256) (r3 : 0 ≤ c3.toInt ∧ c3.toInt < 256) : fexp (2 : Int32) (4 : Int32) c0 c1 c2 c3 = fhc0n4x24 ((c0.toInt8.toInt32).toInt8.toInt32) ((c1.toInt8.toInt32).toInt8.toInt32) ((c2.toInt8.toInt32).toInt8.toInt32) ((c3.toInt8.toInt32).toInt8.toInt32) cs := by
  simp only [fhc0n4x24, own_ca_c0n4i0 r0, own_ca_c0n4i1 r1, own_ca_c0n4i2 r2, own_ca_c0n4i3 r3]
  simp [fexp, fok]
  try grind
theorem pl_l_33 {c0 c1 c2 c3 cs : Int32} (r0 : 0 ≤ c0.toInt ∧ c0.toInt < 256) (r1 : 0 ≤ c1.toInt ∧ c1.toInt < 256) (r2 : 0 ≤ c2.toInt ∧ c2.toInt < 256) (r3 : 0 ≤ c3.toInt ∧ c3.toInt < 256) : fexp (3 : Int32) (3 : Int32) c0 c1 c2 c3 = fhc0n4x33 ((c0.toInt8.toInt32).toInt8.toInt32) ((c1.toInt8.toInt32).toInt8.toInt32) ((c2.toInt8.toInt32).toInt8.toInt32) ((c3.toInt8.toInt32).toInt8.toInt32) cs := by
  simp only [fhc0n4x33, own_ca_c0n4i0 r0, own_ca_c0n4i1 r1, own_ca_c0n4i2 r2, own_ca_c0n4i3 r3]
  simp [fexp, fok]
  try grind
theorem pl_l_34 {c0 c1 c2 c3 cs : Int32} (r0 : 0 ≤ c0.toInt ∧ c0.toInt < 256) (r1 : 0 ≤ c1.toInt ∧ c1.toInt < 256) (r2 : 0 ≤ c2.toInt ∧ c2.toInt < 256) (r3 : 0 ≤ c3.toInt ∧ c3.toInt < 256) : fexp (3 : Int32) (4 : Int32) c0 c1 c2 c3 = fhc0n4x34 ((c0.toInt8.toInt32).toInt8.toInt32) ((c1.toInt8.toInt32).toInt8.toInt32) ((c2.toInt8.toInt32).toInt8.toInt32) ((c3.toInt8.toInt32).toInt8.toInt32) cs := by
  simp only [fhc0n4x34, own_ca_c0n4i0 r0, own_ca_c0n4i1 r1, own_ca_c0n4i2 r2, own_ca_c0n4i3 r3]
  simp [fexp, fok]
  try grind
theorem pl_l_44 {c0 c1 c2 c3 cs : Int32} (r0 : 0 ≤ c0.toInt ∧ c0.toInt < 256) (r1 : 0 ≤ c1.toInt ∧ c1.toInt < 256) (r2 : 0 ≤ c2.toInt ∧ c2.toInt < 256) (r3 : 0 ≤ c3.toInt ∧ c3.toInt < 256) : fexp (4 : Int32) (4 : Int32) c0 c1 c2 c3 = fhc0n4x44 ((c0.toInt8.toInt32).toInt8.toInt32) ((c1.toInt8.toInt32).toInt8.toInt32) ((c2.toInt8.toInt32).toInt8.toInt32) ((c3.toInt8.toInt32).toInt8.toInt32) cs := by
  simp only [fhc0n4x44, own_ca_c0n4i0 r0, own_ca_c0n4i1 r1, own_ca_c0n4i2 r2, own_ca_c0n4i3 r3]
  simp [fexp, fok]
  try grind
theorem has_l {Z : State} {h : Heap} {o0 ob : Addr} {k : ClassId} {c0 c1 c2 c3 : Int32} (r0 : 0 ≤ c0.toInt ∧ c0.toInt < 256) (r1 : 0 ≤ c1.toInt ∧ c1.toInt < 256) (r2 : 0 ≤ c2.toInt ∧ c2.toInt < 256) (r3 : 0 ≤ c3.toInt ∧ c3.toInt < 256) (E : Exa Z h o0 "java/lang/String") (Fv : Fld Z h o0 "java/lang/String" "value" "[B" (.ref ob)) (Fc : Fld Z h o0 "java/lang/String" "coder" "B" (.int 0)) (V : Arv Z h ob k .byte (4 : Int32) [(.int ((c0.toInt8.toInt32).toInt8.toInt32)), (.int ((c1.toInt8.toInt32).toInt8.toInt32)), (.int ((c2.toInt8.toInt32).toInt8.toInt32)), (.int ((c3.toInt8.toInt32).toInt8.toInt32))] (.int 0)) : HasOk Z h o0 c0 c1 c2 c3 := by
  intro l a0 hw ws h1 K lo hi cs vf n0 Z0 hl S_cs hcs S_f hvf S_ad S_hi S_lo
  have E1 := E.keep K
  have Fv1 := Fv.keep K nin0
  have Fc1 := Fc.keep K nin0
  have V1 := V.keep K nin0
  rcases own_lohi hl with ⟨rfl, rfl⟩ | ⟨rfl, rfl⟩ | ⟨rfl, rfl⟩ | ⟨rfl, rfl⟩ | ⟨rfl, rfl⟩ | ⟨rfl, rfl⟩ | ⟨rfl, rfl⟩ | ⟨rfl, rfl⟩ | ⟨rfl, rfl⟩ | ⟨rfl, rfl⟩ | ⟨rfl, rfl⟩ | ⟨rfl, rfl⟩ | ⟨rfl, rfl⟩ | ⟨rfl, rfl⟩ | ⟨rfl, rfl⟩
  · have e := pl_l_00 r0 r1 r2 r3 (cs := cs)
    rw [e]
    exact rm11c0n4x00 l Z a0 hw ws o0 ob k ((c0.toInt8.toInt32).toInt8.toInt32) ((c1.toInt8.toInt32).toInt8.toInt32) ((c2.toInt8.toInt32).toInt8.toInt32) ((c3.toInt8.toInt32).toInt8.toInt32) cs vf h1 n0 Z0 E1 Fv1 Fc1 V1 S_cs hcs S_f hvf
  · have e := pl_l_01 r0 r1 r2 r3 (cs := cs)
    rw [e]
    exact rm11c0n4x01 l Z a0 hw ws o0 ob k ((c0.toInt8.toInt32).toInt8.toInt32) ((c1.toInt8.toInt32).toInt8.toInt32) ((c2.toInt8.toInt32).toInt8.toInt32) ((c3.toInt8.toInt32).toInt8.toInt32) cs vf h1 n0 Z0 E1 Fv1 Fc1 V1 S_cs hcs S_f hvf
  · have e := pl_l_02 r0 r1 r2 r3 (cs := cs)
    rw [e]
    exact rm11c0n4x02 l Z a0 hw ws o0 ob k ((c0.toInt8.toInt32).toInt8.toInt32) ((c1.toInt8.toInt32).toInt8.toInt32) ((c2.toInt8.toInt32).toInt8.toInt32) ((c3.toInt8.toInt32).toInt8.toInt32) cs vf h1 n0 Z0 E1 Fv1 Fc1 V1 S_cs hcs S_f hvf
  · have e := pl_l_03 r0 r1 r2 r3 (cs := cs)
    rw [e]
    exact rm11c0n4x03 l Z a0 hw ws o0 ob k ((c0.toInt8.toInt32).toInt8.toInt32) ((c1.toInt8.toInt32).toInt8.toInt32) ((c2.toInt8.toInt32).toInt8.toInt32) ((c3.toInt8.toInt32).toInt8.toInt32) cs vf h1 n0 Z0 E1 Fv1 Fc1 V1 S_cs hcs S_f hvf
  · have e := pl_l_04 r0 r1 r2 r3 (cs := cs)
    rw [e]
    exact rm11c0n4x04 l Z a0 hw ws o0 ob k ((c0.toInt8.toInt32).toInt8.toInt32) ((c1.toInt8.toInt32).toInt8.toInt32) ((c2.toInt8.toInt32).toInt8.toInt32) ((c3.toInt8.toInt32).toInt8.toInt32) cs vf h1 n0 Z0 E1 Fv1 Fc1 V1 S_cs hcs S_f hvf
  · have e := pl_l_11 r0 r1 r2 r3 (cs := cs)
    rw [e]
    exact rm11c0n4x11 l Z a0 hw ws o0 ob k ((c0.toInt8.toInt32).toInt8.toInt32) ((c1.toInt8.toInt32).toInt8.toInt32) ((c2.toInt8.toInt32).toInt8.toInt32) ((c3.toInt8.toInt32).toInt8.toInt32) cs vf h1 n0 Z0 E1 Fv1 Fc1 V1 S_cs hcs S_f hvf
  · have e := pl_l_12 r0 r1 r2 r3 (cs := cs)
    rw [e]
    exact rm11c0n4x12 l Z a0 hw ws o0 ob k ((c0.toInt8.toInt32).toInt8.toInt32) ((c1.toInt8.toInt32).toInt8.toInt32) ((c2.toInt8.toInt32).toInt8.toInt32) ((c3.toInt8.toInt32).toInt8.toInt32) cs vf h1 n0 Z0 E1 Fv1 Fc1 V1 S_cs hcs S_f hvf
  · have e := pl_l_13 r0 r1 r2 r3 (cs := cs)
    rw [e]
    exact rm11c0n4x13 l Z a0 hw ws o0 ob k ((c0.toInt8.toInt32).toInt8.toInt32) ((c1.toInt8.toInt32).toInt8.toInt32) ((c2.toInt8.toInt32).toInt8.toInt32) ((c3.toInt8.toInt32).toInt8.toInt32) cs vf h1 n0 Z0 E1 Fv1 Fc1 V1 S_cs hcs S_f hvf
  · have e := pl_l_14 r0 r1 r2 r3 (cs := cs)
    rw [e]
    exact rm11c0n4x14 l Z a0 hw ws o0 ob k ((c0.toInt8.toInt32).toInt8.toInt32) ((c1.toInt8.toInt32).toInt8.toInt32) ((c2.toInt8.toInt32).toInt8.toInt32) ((c3.toInt8.toInt32).toInt8.toInt32) cs vf h1 n0 Z0 E1 Fv1 Fc1 V1 S_cs hcs S_f hvf
  · have e := pl_l_22 r0 r1 r2 r3 (cs := cs)
    rw [e]
    exact rm11c0n4x22 l Z a0 hw ws o0 ob k ((c0.toInt8.toInt32).toInt8.toInt32) ((c1.toInt8.toInt32).toInt8.toInt32) ((c2.toInt8.toInt32).toInt8.toInt32) ((c3.toInt8.toInt32).toInt8.toInt32) cs vf h1 n0 Z0 E1 Fv1 Fc1 V1 S_cs hcs S_f hvf
  · have e := pl_l_23 r0 r1 r2 r3 (cs := cs)
    rw [e]
    exact rm11c0n4x23 l Z a0 hw ws o0 ob k ((c0.toInt8.toInt32).toInt8.toInt32) ((c1.toInt8.toInt32).toInt8.toInt32) ((c2.toInt8.toInt32).toInt8.toInt32) ((c3.toInt8.toInt32).toInt8.toInt32) cs vf h1 n0 Z0 E1 Fv1 Fc1 V1 S_cs hcs S_f hvf
  · have e := pl_l_24 r0 r1 r2 r3 (cs := cs)
    rw [e]
    exact rm11c0n4x24 l Z a0 hw ws o0 ob k ((c0.toInt8.toInt32).toInt8.toInt32) ((c1.toInt8.toInt32).toInt8.toInt32) ((c2.toInt8.toInt32).toInt8.toInt32) ((c3.toInt8.toInt32).toInt8.toInt32) cs vf h1 n0 Z0 E1 Fv1 Fc1 V1 S_cs hcs S_f hvf
  · have e := pl_l_33 r0 r1 r2 r3 (cs := cs)
    rw [e]
    exact rm11c0n4x33 l Z a0 hw ws o0 ob k ((c0.toInt8.toInt32).toInt8.toInt32) ((c1.toInt8.toInt32).toInt8.toInt32) ((c2.toInt8.toInt32).toInt8.toInt32) ((c3.toInt8.toInt32).toInt8.toInt32) cs vf h1 n0 Z0 E1 Fv1 Fc1 V1 S_cs hcs S_f hvf
  · have e := pl_l_34 r0 r1 r2 r3 (cs := cs)
    rw [e]
    exact rm11c0n4x34 l Z a0 hw ws o0 ob k ((c0.toInt8.toInt32).toInt8.toInt32) ((c1.toInt8.toInt32).toInt8.toInt32) ((c2.toInt8.toInt32).toInt8.toInt32) ((c3.toInt8.toInt32).toInt8.toInt32) cs vf h1 n0 Z0 E1 Fv1 Fc1 V1 S_cs hcs S_f hvf
  · have e := pl_l_44 r0 r1 r2 r3 (cs := cs)
    rw [e]
    exact rm11c0n4x44 l Z a0 hw ws o0 ob k ((c0.toInt8.toInt32).toInt8.toInt32) ((c1.toInt8.toInt32).toInt8.toInt32) ((c2.toInt8.toInt32).toInt8.toInt32) ((c3.toInt8.toInt32).toInt8.toInt32) cs vf h1 n0 Z0 E1 Fv1 Fc1 V1 S_cs hcs S_f hvf
theorem own_ca_c1n8i0 {c0 c1 c2 c3 cs : Int32} (r : 0 ≤ c0.toInt ∧ c0.toInt < 65536) : f_charAtc1n8i0 (((c0 >>> ((0 : Int32) &&& 31)).toInt8.toInt32).toInt8.toInt32) (((c0 >>> ((8 : Int32) &&& 31)).toInt8.toInt32).toInt8.toInt32) (((c1 >>> ((0 : Int32) &&& 31)).toInt8.toInt32).toInt8.toInt32) (((c1 >>> ((8 : Int32) &&& 31)).toInt8.toInt32).toInt8.toInt32) (((c2 >>> ((0 : Int32) &&& 31)).toInt8.toInt32).toInt8.toInt32) (((c2 >>> ((8 : Int32) &&& 31)).toInt8.toInt32).toInt8.toInt32) (((c3 >>> ((0 : Int32) &&& 31)).toInt8.toInt32).toInt8.toInt32) (((c3 >>> ((8 : Int32) &&& 31)).toInt8.toInt32).toInt8.toInt32) cs = c0 := by
  simp only [f_charAtc1n8i0, f_u16charAtc1n8i0, f_getCharc1n8i0, own_cc r, own_i2c r]
theorem own_ca_c1n8i1 {c0 c1 c2 c3 cs : Int32} (r : 0 ≤ c1.toInt ∧ c1.toInt < 65536) : f_charAtc1n8i1 (((c0 >>> ((0 : Int32) &&& 31)).toInt8.toInt32).toInt8.toInt32) (((c0 >>> ((8 : Int32) &&& 31)).toInt8.toInt32).toInt8.toInt32) (((c1 >>> ((0 : Int32) &&& 31)).toInt8.toInt32).toInt8.toInt32) (((c1 >>> ((8 : Int32) &&& 31)).toInt8.toInt32).toInt8.toInt32) (((c2 >>> ((0 : Int32) &&& 31)).toInt8.toInt32).toInt8.toInt32) (((c2 >>> ((8 : Int32) &&& 31)).toInt8.toInt32).toInt8.toInt32) (((c3 >>> ((0 : Int32) &&& 31)).toInt8.toInt32).toInt8.toInt32) (((c3 >>> ((8 : Int32) &&& 31)).toInt8.toInt32).toInt8.toInt32) cs = c1 := by
  simp only [f_charAtc1n8i1, f_u16charAtc1n8i1, f_getCharc1n8i1, own_cc r, own_i2c r]
theorem own_ca_c1n8i2 {c0 c1 c2 c3 cs : Int32} (r : 0 ≤ c2.toInt ∧ c2.toInt < 65536) : f_charAtc1n8i2 (((c0 >>> ((0 : Int32) &&& 31)).toInt8.toInt32).toInt8.toInt32) (((c0 >>> ((8 : Int32) &&& 31)).toInt8.toInt32).toInt8.toInt32) (((c1 >>> ((0 : Int32) &&& 31)).toInt8.toInt32).toInt8.toInt32) (((c1 >>> ((8 : Int32) &&& 31)).toInt8.toInt32).toInt8.toInt32) (((c2 >>> ((0 : Int32) &&& 31)).toInt8.toInt32).toInt8.toInt32) (((c2 >>> ((8 : Int32) &&& 31)).toInt8.toInt32).toInt8.toInt32) (((c3 >>> ((0 : Int32) &&& 31)).toInt8.toInt32).toInt8.toInt32) (((c3 >>> ((8 : Int32) &&& 31)).toInt8.toInt32).toInt8.toInt32) cs = c2 := by
  simp only [f_charAtc1n8i2, f_u16charAtc1n8i2, f_getCharc1n8i2, own_cc r, own_i2c r]
theorem own_ca_c1n8i3 {c0 c1 c2 c3 cs : Int32} (r : 0 ≤ c3.toInt ∧ c3.toInt < 65536) : f_charAtc1n8i3 (((c0 >>> ((0 : Int32) &&& 31)).toInt8.toInt32).toInt8.toInt32) (((c0 >>> ((8 : Int32) &&& 31)).toInt8.toInt32).toInt8.toInt32) (((c1 >>> ((0 : Int32) &&& 31)).toInt8.toInt32).toInt8.toInt32) (((c1 >>> ((8 : Int32) &&& 31)).toInt8.toInt32).toInt8.toInt32) (((c2 >>> ((0 : Int32) &&& 31)).toInt8.toInt32).toInt8.toInt32) (((c2 >>> ((8 : Int32) &&& 31)).toInt8.toInt32).toInt8.toInt32) (((c3 >>> ((0 : Int32) &&& 31)).toInt8.toInt32).toInt8.toInt32) (((c3 >>> ((8 : Int32) &&& 31)).toInt8.toInt32).toInt8.toInt32) cs = c3 := by
  simp only [f_charAtc1n8i3, f_u16charAtc1n8i3, f_getCharc1n8i3, own_cc r, own_i2c r]
theorem pl_u_00 {c0 c1 c2 c3 cs : Int32} (r0 : 0 ≤ c0.toInt ∧ c0.toInt < 65536) (r1 : 0 ≤ c1.toInt ∧ c1.toInt < 65536) (r2 : 0 ≤ c2.toInt ∧ c2.toInt < 65536) (r3 : 0 ≤ c3.toInt ∧ c3.toInt < 65536) : fexp (0 : Int32) (0 : Int32) c0 c1 c2 c3 = fhc1n8x00 (((c0 >>> ((0 : Int32) &&& 31)).toInt8.toInt32).toInt8.toInt32) (((c0 >>> ((8 : Int32) &&& 31)).toInt8.toInt32).toInt8.toInt32) (((c1 >>> ((0 : Int32) &&& 31)).toInt8.toInt32).toInt8.toInt32) (((c1 >>> ((8 : Int32) &&& 31)).toInt8.toInt32).toInt8.toInt32) (((c2 >>> ((0 : Int32) &&& 31)).toInt8.toInt32).toInt8.toInt32) (((c2 >>> ((8 : Int32) &&& 31)).toInt8.toInt32).toInt8.toInt32) (((c3 >>> ((0 : Int32) &&& 31)).toInt8.toInt32).toInt8.toInt32) (((c3 >>> ((8 : Int32) &&& 31)).toInt8.toInt32).toInt8.toInt32) cs := by
  simp only [fhc1n8x00, own_ca_c1n8i0 r0, own_ca_c1n8i1 r1, own_ca_c1n8i2 r2, own_ca_c1n8i3 r3]
  simp [fexp, fok]
  try grind
theorem pl_u_01 {c0 c1 c2 c3 cs : Int32} (r0 : 0 ≤ c0.toInt ∧ c0.toInt < 65536) (r1 : 0 ≤ c1.toInt ∧ c1.toInt < 65536) (r2 : 0 ≤ c2.toInt ∧ c2.toInt < 65536) (r3 : 0 ≤ c3.toInt ∧ c3.toInt < 65536) : fexp (0 : Int32) (1 : Int32) c0 c1 c2 c3 = fhc1n8x01 (((c0 >>> ((0 : Int32) &&& 31)).toInt8.toInt32).toInt8.toInt32) (((c0 >>> ((8 : Int32) &&& 31)).toInt8.toInt32).toInt8.toInt32) (((c1 >>> ((0 : Int32) &&& 31)).toInt8.toInt32).toInt8.toInt32) (((c1 >>> ((8 : Int32) &&& 31)).toInt8.toInt32).toInt8.toInt32) (((c2 >>> ((0 : Int32) &&& 31)).toInt8.toInt32).toInt8.toInt32) (((c2 >>> ((8 : Int32) &&& 31)).toInt8.toInt32).toInt8.toInt32) (((c3 >>> ((0 : Int32) &&& 31)).toInt8.toInt32).toInt8.toInt32) (((c3 >>> ((8 : Int32) &&& 31)).toInt8.toInt32).toInt8.toInt32) cs := by
  simp only [fhc1n8x01, own_ca_c1n8i0 r0, own_ca_c1n8i1 r1, own_ca_c1n8i2 r2, own_ca_c1n8i3 r3]
  simp [fexp, fok]
  try grind
theorem pl_u_02 {c0 c1 c2 c3 cs : Int32} (r0 : 0 ≤ c0.toInt ∧ c0.toInt < 65536) (r1 : 0 ≤ c1.toInt ∧ c1.toInt < 65536) (r2 : 0 ≤ c2.toInt ∧ c2.toInt < 65536) (r3 : 0 ≤ c3.toInt ∧ c3.toInt < 65536) : fexp (0 : Int32) (2 : Int32) c0 c1 c2 c3 = fhc1n8x02 (((c0 >>> ((0 : Int32) &&& 31)).toInt8.toInt32).toInt8.toInt32) (((c0 >>> ((8 : Int32) &&& 31)).toInt8.toInt32).toInt8.toInt32) (((c1 >>> ((0 : Int32) &&& 31)).toInt8.toInt32).toInt8.toInt32) (((c1 >>> ((8 : Int32) &&& 31)).toInt8.toInt32).toInt8.toInt32) (((c2 >>> ((0 : Int32) &&& 31)).toInt8.toInt32).toInt8.toInt32) (((c2 >>> ((8 : Int32) &&& 31)).toInt8.toInt32).toInt8.toInt32) (((c3 >>> ((0 : Int32) &&& 31)).toInt8.toInt32).toInt8.toInt32) (((c3 >>> ((8 : Int32) &&& 31)).toInt8.toInt32).toInt8.toInt32) cs := by
  simp only [fhc1n8x02, own_ca_c1n8i0 r0, own_ca_c1n8i1 r1, own_ca_c1n8i2 r2, own_ca_c1n8i3 r3]
  simp [fexp, fok]
  try grind
theorem pl_u_03 {c0 c1 c2 c3 cs : Int32} (r0 : 0 ≤ c0.toInt ∧ c0.toInt < 65536) (r1 : 0 ≤ c1.toInt ∧ c1.toInt < 65536) (r2 : 0 ≤ c2.toInt ∧ c2.toInt < 65536) (r3 : 0 ≤ c3.toInt ∧ c3.toInt < 65536) : fexp (0 : Int32) (3 : Int32) c0 c1 c2 c3 = fhc1n8x03 (((c0 >>> ((0 : Int32) &&& 31)).toInt8.toInt32).toInt8.toInt32) (((c0 >>> ((8 : Int32) &&& 31)).toInt8.toInt32).toInt8.toInt32) (((c1 >>> ((0 : Int32) &&& 31)).toInt8.toInt32).toInt8.toInt32) (((c1 >>> ((8 : Int32) &&& 31)).toInt8.toInt32).toInt8.toInt32) (((c2 >>> ((0 : Int32) &&& 31)).toInt8.toInt32).toInt8.toInt32) (((c2 >>> ((8 : Int32) &&& 31)).toInt8.toInt32).toInt8.toInt32) (((c3 >>> ((0 : Int32) &&& 31)).toInt8.toInt32).toInt8.toInt32) (((c3 >>> ((8 : Int32) &&& 31)).toInt8.toInt32).toInt8.toInt32) cs := by
  simp only [fhc1n8x03, own_ca_c1n8i0 r0, own_ca_c1n8i1 r1, own_ca_c1n8i2 r2, own_ca_c1n8i3 r3]
  simp [fexp, fok]
  try grind
theorem pl_u_04 {c0 c1 c2 c3 cs : Int32} (r0 : 0 ≤ c0.toInt ∧ c0.toInt < 65536) (r1 : 0 ≤ c1.toInt ∧ c1.toInt < 65536) (r2 : 0 ≤ c2.toInt ∧ c2.toInt < 65536) (r3 : 0 ≤ c3.toInt ∧ c3.toInt < 65536) : fexp (0 : Int32) (4 : Int32) c0 c1 c2 c3 = fhc1n8x04 (((c0 >>> ((0 : Int32) &&& 31)).toInt8.toInt32).toInt8.toInt32) (((c0 >>> ((8 : Int32) &&& 31)).toInt8.toInt32).toInt8.toInt32) (((c1 >>> ((0 : Int32) &&& 31)).toInt8.toInt32).toInt8.toInt32) (((c1 >>> ((8 : Int32) &&& 31)).toInt8.toInt32).toInt8.toInt32) (((c2 >>> ((0 : Int32) &&& 31)).toInt8.toInt32).toInt8.toInt32) (((c2 >>> ((8 : Int32) &&& 31)).toInt8.toInt32).toInt8.toInt32) (((c3 >>> ((0 : Int32) &&& 31)).toInt8.toInt32).toInt8.toInt32) (((c3 >>> ((8 : Int32) &&& 31)).toInt8.toInt32).toInt8.toInt32) cs := by
  simp only [fhc1n8x04, own_ca_c1n8i0 r0, own_ca_c1n8i1 r1, own_ca_c1n8i2 r2, own_ca_c1n8i3 r3]
  simp [fexp, fok]
  try grind
theorem pl_u_11 {c0 c1 c2 c3 cs : Int32} (r0 : 0 ≤ c0.toInt ∧ c0.toInt < 65536) (r1 : 0 ≤ c1.toInt ∧ c1.toInt < 65536) (r2 : 0 ≤ c2.toInt ∧ c2.toInt < 65536) (r3 : 0 ≤ c3.toInt ∧ c3.toInt < 65536) : fexp (1 : Int32) (1 : Int32) c0 c1 c2 c3 = fhc1n8x11 (((c0 >>> ((0 : Int32) &&& 31)).toInt8.toInt32).toInt8.toInt32) (((c0 >>> ((8 : Int32) &&& 31)).toInt8.toInt32).toInt8.toInt32) (((c1 >>> ((0 : Int32) &&& 31)).toInt8.toInt32).toInt8.toInt32) (((c1 >>> ((8 : Int32) &&& 31)).toInt8.toInt32).toInt8.toInt32) (((c2 >>> ((0 : Int32) &&& 31)).toInt8.toInt32).toInt8.toInt32) (((c2 >>> ((8 : Int32) &&& 31)).toInt8.toInt32).toInt8.toInt32) (((c3 >>> ((0 : Int32) &&& 31)).toInt8.toInt32).toInt8.toInt32) (((c3 >>> ((8 : Int32) &&& 31)).toInt8.toInt32).toInt8.toInt32) cs := by
  simp only [fhc1n8x11, own_ca_c1n8i0 r0, own_ca_c1n8i1 r1, own_ca_c1n8i2 r2, own_ca_c1n8i3 r3]
  simp [fexp, fok]
  try grind
theorem pl_u_12 {c0 c1 c2 c3 cs : Int32} (r0 : 0 ≤ c0.toInt ∧ c0.toInt < 65536) (r1 : 0 ≤ c1.toInt ∧ c1.toInt < 65536) (r2 : 0 ≤ c2.toInt ∧ c2.toInt < 65536) (r3 : 0 ≤ c3.toInt ∧ c3.toInt < 65536) : fexp (1 : Int32) (2 : Int32) c0 c1 c2 c3 = fhc1n8x12 (((c0 >>> ((0 : Int32) &&& 31)).toInt8.toInt32).toInt8.toInt32) (((c0 >>> ((8 : Int32) &&& 31)).toInt8.toInt32).toInt8.toInt32) (((c1 >>> ((0 : Int32) &&& 31)).toInt8.toInt32).toInt8.toInt32) (((c1 >>> ((8 : Int32) &&& 31)).toInt8.toInt32).toInt8.toInt32) (((c2 >>> ((0 : Int32) &&& 31)).toInt8.toInt32).toInt8.toInt32) (((c2 >>> ((8 : Int32) &&& 31)).toInt8.toInt32).toInt8.toInt32) (((c3 >>> ((0 : Int32) &&& 31)).toInt8.toInt32).toInt8.toInt32) (((c3 >>> ((8 : Int32) &&& 31)).toInt8.toInt32).toInt8.toInt32) cs := by
  simp only [fhc1n8x12, own_ca_c1n8i0 r0, own_ca_c1n8i1 r1, own_ca_c1n8i2 r2, own_ca_c1n8i3 r3]
  simp [fexp, fok]
  try grind
theorem pl_u_13 {c0 c1 c2 c3 cs : Int32} (r0 : 0 ≤ c0.toInt ∧ c0.toInt < 65536) (r1 : 0 ≤ c1.toInt ∧ c1.toInt < 65536) (r2 : 0 ≤ c2.toInt ∧ c2.toInt < 65536) (r3 : 0 ≤ c3.toInt ∧ c3.toInt < 65536) : fexp (1 : Int32) (3 : Int32) c0 c1 c2 c3 = fhc1n8x13 (((c0 >>> ((0 : Int32) &&& 31)).toInt8.toInt32).toInt8.toInt32) (((c0 >>> ((8 : Int32) &&& 31)).toInt8.toInt32).toInt8.toInt32) (((c1 >>> ((0 : Int32) &&& 31)).toInt8.toInt32).toInt8.toInt32) (((c1 >>> ((8 : Int32) &&& 31)).toInt8.toInt32).toInt8.toInt32) (((c2 >>> ((0 : Int32) &&& 31)).toInt8.toInt32).toInt8.toInt32) (((c2 >>> ((8 : Int32) &&& 31)).toInt8.toInt32).toInt8.toInt32) (((c3 >>> ((0 : Int32) &&& 31)).toInt8.toInt32).toInt8.toInt32) (((c3 >>> ((8 : Int32) &&& 31)).toInt8.toInt32).toInt8.toInt32) cs := by
  simp only [fhc1n8x13, own_ca_c1n8i0 r0, own_ca_c1n8i1 r1, own_ca_c1n8i2 r2, own_ca_c1n8i3 r3]
  simp [fexp, fok]
  try grind
theorem pl_u_14 {c0 c1 c2 c3 cs : Int32} (r0 : 0 ≤ c0.toInt ∧ c0.toInt < 65536) (r1 : 0 ≤ c1.toInt ∧ c1.toInt < 65536) (r2 : 0 ≤ c2.toInt ∧ c2.toInt < 65536) (r3 : 0 ≤ c3.toInt ∧ c3.toInt < 65536) : fexp (1 : Int32) (4 : Int32) c0 c1 c2 c3 = fhc1n8x14 (((c0 >>> ((0 : Int32) &&& 31)).toInt8.toInt32).toInt8.toInt32) (((c0 >>> ((8 : Int32) &&& 31)).toInt8.toInt32).toInt8.toInt32) (((c1 >>> ((0 : Int32) &&& 31)).toInt8.toInt32).toInt8.toInt32) (((c1 >>> ((8 : Int32) &&& 31)).toInt8.toInt32).toInt8.toInt32) (((c2 >>> ((0 : Int32) &&& 31)).toInt8.toInt32).toInt8.toInt32) (((c2 >>> ((8 : Int32) &&& 31)).toInt8.toInt32).toInt8.toInt32) (((c3 >>> ((0 : Int32) &&& 31)).toInt8.toInt32).toInt8.toInt32) (((c3 >>> ((8 : Int32) &&& 31)).toInt8.toInt32).toInt8.toInt32) cs := by
  simp only [fhc1n8x14, own_ca_c1n8i0 r0, own_ca_c1n8i1 r1, own_ca_c1n8i2 r2, own_ca_c1n8i3 r3]
  simp [fexp, fok]
  try grind
theorem pl_u_22 {c0 c1 c2 c3 cs : Int32} (r0 : 0 ≤ c0.toInt ∧ c0.toInt < 65536) (r1 : 0 ≤ c1.toInt ∧ c1.toInt < 65536) (r2 : 0 ≤ c2.toInt ∧ c2.toInt < 65536) (r3 : 0 ≤ c3.toInt ∧ c3.toInt < 65536) : fexp (2 : Int32) (2 : Int32) c0 c1 c2 c3 = fhc1n8x22 (((c0 >>> ((0 : Int32) &&& 31)).toInt8.toInt32).toInt8.toInt32) (((c0 >>> ((8 : Int32) &&& 31)).toInt8.toInt32).toInt8.toInt32) (((c1 >>> ((0 : Int32) &&& 31)).toInt8.toInt32).toInt8.toInt32) (((c1 >>> ((8 : Int32) &&& 31)).toInt8.toInt32).toInt8.toInt32) (((c2 >>> ((0 : Int32) &&& 31)).toInt8.toInt32).toInt8.toInt32) (((c2 >>> ((8 : Int32) &&& 31)).toInt8.toInt32).toInt8.toInt32) (((c3 >>> ((0 : Int32) &&& 31)).toInt8.toInt32).toInt8.toInt32) (((c3 >>> ((8 : Int32) &&& 31)).toInt8.toInt32).toInt8.toInt32) cs := by
  simp only [fhc1n8x22, own_ca_c1n8i0 r0, own_ca_c1n8i1 r1, own_ca_c1n8i2 r2, own_ca_c1n8i3 r3]
  simp [fexp, fok]
  try grind
theorem pl_u_23 {c0 c1 c2 c3 cs : Int32} (r0 : 0 ≤ c0.toInt ∧ c0.toInt < 65536) (r1 : 0 ≤ c1.toInt ∧ c1.toInt < 65536) (r2 : 0 ≤ c2.toInt ∧ c2.toInt < 65536) (r3 : 0 ≤ c3.toInt ∧ c3.toInt < 65536) : fexp (2 : Int32) (3 : Int32) c0 c1 c2 c3 = fhc1n8x23 (((c0 >>> ((0 : Int32) &&& 31)).toInt8.toInt32).toInt8.toInt32) (((c0 >>> ((8 : Int32) &&& 31)).toInt8.toInt32).toInt8.toInt32) (((c1 >>> ((0 : Int32) &&& 31)).toInt8.toInt32).toInt8.toInt32) (((c1 >>> ((8 : Int32) &&& 31)).toInt8.toInt32).toInt8.toInt32) (((c2 >>> ((0 : Int32) &&& 31)).toInt8.toInt32).toInt8.toInt32) (((c2 >>> ((8 : Int32) &&& 31)).toInt8.toInt32).toInt8.toInt32) (((c3 >>> ((0 : Int32) &&& 31)).toInt8.toInt32).toInt8.toInt32) (((c3 >>> ((8 : Int32) &&& 31)).toInt8.toInt32).toInt8.toInt32) cs := by
  simp only [fhc1n8x23, own_ca_c1n8i0 r0, own_ca_c1n8i1 r1, own_ca_c1n8i2 r2, own_ca_c1n8i3 r3]
  simp [fexp, fok]
  try grind
theorem pl_u_24 {c0 c1 c2 c3 cs : Int32} (r0 : 0 ≤ c0.toInt ∧ c0.toInt < 65536) (r1 : 0 ≤ c1.toInt ∧ c1.toInt < 65536) (r2 : 0 ≤ c2.toInt ∧ c2.toInt < 65536) (r3 : 0 ≤ c3.toInt ∧ c3.toInt < 65536) : fexp (2 : Int32) (4 : Int32) c0 c1 c2 c3 = fhc1n8x24 (((c0 >>> ((0 : Int32) &&& 31)).toInt8.toInt32).toInt8.toInt32) (((c0 >>> ((8 : Int32) &&& 31)).toInt8.toInt32).toInt8.toInt32) (((c1 >>> ((0 : Int32) &&& 31)).toInt8.toInt32).toInt8.toInt32) (((c1 >>> ((8 : Int32) &&& 31)).toInt8.toInt32).toInt8.toInt32) (((c2 >>> ((0 : Int32) &&& 31)).toInt8.toInt32).toInt8.toInt32) (((c2 >>> ((8 : Int32) &&& 31)).toInt8.toInt32).toInt8.toInt32) (((c3 >>> ((0 : Int32) &&& 31)).toInt8.toInt32).toInt8.toInt32) (((c3 >>> ((8 : Int32) &&& 31)).toInt8.toInt32).toInt8.toInt32) cs := by
  simp only [fhc1n8x24, own_ca_c1n8i0 r0, own_ca_c1n8i1 r1, own_ca_c1n8i2 r2, own_ca_c1n8i3 r3]
  simp [fexp, fok]
  try grind
theorem pl_u_33 {c0 c1 c2 c3 cs : Int32} (r0 : 0 ≤ c0.toInt ∧ c0.toInt < 65536) (r1 : 0 ≤ c1.toInt ∧ c1.toInt < 65536) (r2 : 0 ≤ c2.toInt ∧ c2.toInt < 65536) (r3 : 0 ≤ c3.toInt ∧ c3.toInt < 65536) : fexp (3 : Int32) (3 : Int32) c0 c1 c2 c3 = fhc1n8x33 (((c0 >>> ((0 : Int32) &&& 31)).toInt8.toInt32).toInt8.toInt32) (((c0 >>> ((8 : Int32) &&& 31)).toInt8.toInt32).toInt8.toInt32) (((c1 >>> ((0 : Int32) &&& 31)).toInt8.toInt32).toInt8.toInt32) (((c1 >>> ((8 : Int32) &&& 31)).toInt8.toInt32).toInt8.toInt32) (((c2 >>> ((0 : Int32) &&& 31)).toInt8.toInt32).toInt8.toInt32) (((c2 >>> ((8 : Int32) &&& 31)).toInt8.toInt32).toInt8.toInt32) (((c3 >>> ((0 : Int32) &&& 31)).toInt8.toInt32).toInt8.toInt32) (((c3 >>> ((8 : Int32) &&& 31)).toInt8.toInt32).toInt8.toInt32) cs := by
  simp only [fhc1n8x33, own_ca_c1n8i0 r0, own_ca_c1n8i1 r1, own_ca_c1n8i2 r2, own_ca_c1n8i3 r3]
  simp [fexp, fok]
  try grind
theorem pl_u_34 {c0 c1 c2 c3 cs : Int32} (r0 : 0 ≤ c0.toInt ∧ c0.toInt < 65536) (r1 : 0 ≤ c1.toInt ∧ c1.toInt < 65536) (r2 : 0 ≤ c2.toInt ∧ c2.toInt < 65536) (r3 : 0 ≤ c3.toInt ∧ c3.toInt < 65536) : fexp (3 : Int32) (4 : Int32) c0 c1 c2 c3 = fhc1n8x34 (((c0 >>> ((0 : Int32) &&& 31)).toInt8.toInt32).toInt8.toInt32) (((c0 >>> ((8 : Int32) &&& 31)).toInt8.toInt32).toInt8.toInt32) (((c1 >>> ((0 : Int32) &&& 31)).toInt8.toInt32).toInt8.toInt32) (((c1 >>> ((8 : Int32) &&& 31)).toInt8.toInt32).toInt8.toInt32) (((c2 >>> ((0 : Int32) &&& 31)).toInt8.toInt32).toInt8.toInt32) (((c2 >>> ((8 : Int32) &&& 31)).toInt8.toInt32).toInt8.toInt32) (((c3 >>> ((0 : Int32) &&& 31)).toInt8.toInt32).toInt8.toInt32) (((c3 >>> ((8 : Int32) &&& 31)).toInt8.toInt32).toInt8.toInt32) cs := by
  simp only [fhc1n8x34, own_ca_c1n8i0 r0, own_ca_c1n8i1 r1, own_ca_c1n8i2 r2, own_ca_c1n8i3 r3]
  simp [fexp, fok]
  try grind
theorem pl_u_44 {c0 c1 c2 c3 cs : Int32} (r0 : 0 ≤ c0.toInt ∧ c0.toInt < 65536) (r1 : 0 ≤ c1.toInt ∧ c1.toInt < 65536) (r2 : 0 ≤ c2.toInt ∧ c2.toInt < 65536) (r3 : 0 ≤ c3.toInt ∧ c3.toInt < 65536) : fexp (4 : Int32) (4 : Int32) c0 c1 c2 c3 = fhc1n8x44 (((c0 >>> ((0 : Int32) &&& 31)).toInt8.toInt32).toInt8.toInt32) (((c0 >>> ((8 : Int32) &&& 31)).toInt8.toInt32).toInt8.toInt32) (((c1 >>> ((0 : Int32) &&& 31)).toInt8.toInt32).toInt8.toInt32) (((c1 >>> ((8 : Int32) &&& 31)).toInt8.toInt32).toInt8.toInt32) (((c2 >>> ((0 : Int32) &&& 31)).toInt8.toInt32).toInt8.toInt32) (((c2 >>> ((8 : Int32) &&& 31)).toInt8.toInt32).toInt8.toInt32) (((c3 >>> ((0 : Int32) &&& 31)).toInt8.toInt32).toInt8.toInt32) (((c3 >>> ((8 : Int32) &&& 31)).toInt8.toInt32).toInt8.toInt32) cs := by
  simp only [fhc1n8x44, own_ca_c1n8i0 r0, own_ca_c1n8i1 r1, own_ca_c1n8i2 r2, own_ca_c1n8i3 r3]
  simp [fexp, fok]
  try grind
theorem has_u {Z : State} {h : Heap} {o0 ob : Addr} {k : ClassId} {c0 c1 c2 c3 : Int32} (r0 : 0 ≤ c0.toInt ∧ c0.toInt < 65536) (r1 : 0 ≤ c1.toInt ∧ c1.toInt < 65536) (r2 : 0 ≤ c2.toInt ∧ c2.toInt < 65536) (r3 : 0 ≤ c3.toInt ∧ c3.toInt < 65536) (E : Exa Z h o0 "java/lang/String") (Fv : Fld Z h o0 "java/lang/String" "value" "[B" (.ref ob)) (Fc : Fld Z h o0 "java/lang/String" "coder" "B" (.int 1)) (V : Arv Z h ob k .byte (8 : Int32) [(.int (((c0 >>> ((0 : Int32) &&& 31)).toInt8.toInt32).toInt8.toInt32)), (.int (((c0 >>> ((8 : Int32) &&& 31)).toInt8.toInt32).toInt8.toInt32)), (.int (((c1 >>> ((0 : Int32) &&& 31)).toInt8.toInt32).toInt8.toInt32)), (.int (((c1 >>> ((8 : Int32) &&& 31)).toInt8.toInt32).toInt8.toInt32)), (.int (((c2 >>> ((0 : Int32) &&& 31)).toInt8.toInt32).toInt8.toInt32)), (.int (((c2 >>> ((8 : Int32) &&& 31)).toInt8.toInt32).toInt8.toInt32)), (.int (((c3 >>> ((0 : Int32) &&& 31)).toInt8.toInt32).toInt8.toInt32)), (.int (((c3 >>> ((8 : Int32) &&& 31)).toInt8.toInt32).toInt8.toInt32))] (.int 0)) : HasOk Z h o0 c0 c1 c2 c3 := by
  intro l a0 hw ws h1 K lo hi cs vf n0 Z0 hl S_cs hcs S_f hvf S_ad S_hi S_lo
  have E1 := E.keep K
  have Fv1 := Fv.keep K nin0
  have Fc1 := Fc.keep K nin0
  have V1 := V.keep K nin0
  rcases own_lohi hl with ⟨rfl, rfl⟩ | ⟨rfl, rfl⟩ | ⟨rfl, rfl⟩ | ⟨rfl, rfl⟩ | ⟨rfl, rfl⟩ | ⟨rfl, rfl⟩ | ⟨rfl, rfl⟩ | ⟨rfl, rfl⟩ | ⟨rfl, rfl⟩ | ⟨rfl, rfl⟩ | ⟨rfl, rfl⟩ | ⟨rfl, rfl⟩ | ⟨rfl, rfl⟩ | ⟨rfl, rfl⟩ | ⟨rfl, rfl⟩
  · have e := pl_u_00 r0 r1 r2 r3 (cs := cs)
    rw [e]
    exact rm11c1n8x00 l Z a0 hw ws o0 ob k (((c0 >>> ((0 : Int32) &&& 31)).toInt8.toInt32).toInt8.toInt32) (((c0 >>> ((8 : Int32) &&& 31)).toInt8.toInt32).toInt8.toInt32) (((c1 >>> ((0 : Int32) &&& 31)).toInt8.toInt32).toInt8.toInt32) (((c1 >>> ((8 : Int32) &&& 31)).toInt8.toInt32).toInt8.toInt32) (((c2 >>> ((0 : Int32) &&& 31)).toInt8.toInt32).toInt8.toInt32) (((c2 >>> ((8 : Int32) &&& 31)).toInt8.toInt32).toInt8.toInt32) (((c3 >>> ((0 : Int32) &&& 31)).toInt8.toInt32).toInt8.toInt32) (((c3 >>> ((8 : Int32) &&& 31)).toInt8.toInt32).toInt8.toInt32) cs vf h1 n0 Z0 E1 Fv1 Fc1 V1 S_cs hcs S_f hvf S_ad S_hi S_lo
  · have e := pl_u_01 r0 r1 r2 r3 (cs := cs)
    rw [e]
    exact rm11c1n8x01 l Z a0 hw ws o0 ob k (((c0 >>> ((0 : Int32) &&& 31)).toInt8.toInt32).toInt8.toInt32) (((c0 >>> ((8 : Int32) &&& 31)).toInt8.toInt32).toInt8.toInt32) (((c1 >>> ((0 : Int32) &&& 31)).toInt8.toInt32).toInt8.toInt32) (((c1 >>> ((8 : Int32) &&& 31)).toInt8.toInt32).toInt8.toInt32) (((c2 >>> ((0 : Int32) &&& 31)).toInt8.toInt32).toInt8.toInt32) (((c2 >>> ((8 : Int32) &&& 31)).toInt8.toInt32).toInt8.toInt32) (((c3 >>> ((0 : Int32) &&& 31)).toInt8.toInt32).toInt8.toInt32) (((c3 >>> ((8 : Int32) &&& 31)).toInt8.toInt32).toInt8.toInt32) cs vf h1 n0 Z0 E1 Fv1 Fc1 V1 S_cs hcs S_f hvf S_ad S_hi S_lo
  · have e := pl_u_02 r0 r1 r2 r3 (cs := cs)
    rw [e]
    exact rm11c1n8x02 l Z a0 hw ws o0 ob k (((c0 >>> ((0 : Int32) &&& 31)).toInt8.toInt32).toInt8.toInt32) (((c0 >>> ((8 : Int32) &&& 31)).toInt8.toInt32).toInt8.toInt32) (((c1 >>> ((0 : Int32) &&& 31)).toInt8.toInt32).toInt8.toInt32) (((c1 >>> ((8 : Int32) &&& 31)).toInt8.toInt32).toInt8.toInt32) (((c2 >>> ((0 : Int32) &&& 31)).toInt8.toInt32).toInt8.toInt32) (((c2 >>> ((8 : Int32) &&& 31)).toInt8.toInt32).toInt8.toInt32) (((c3 >>> ((0 : Int32) &&& 31)).toInt8.toInt32).toInt8.toInt32) (((c3 >>> ((8 : Int32) &&& 31)).toInt8.toInt32).toInt8.toInt32) cs vf h1 n0 Z0 E1 Fv1 Fc1 V1 S_cs hcs S_f hvf S_ad S_hi S_lo
  · have e := pl_u_03 r0 r1 r2 r3 (cs := cs)
    rw [e]
    exact rm11c1n8x03 l Z a0 hw ws o0 ob k (((c0 >>> ((0 : Int32) &&& 31)).toInt8.toInt32).toInt8.toInt32) (((c0 >>> ((8 : Int32) &&& 31)).toInt8.toInt32).toInt8.toInt32) (((c1 >>> ((0 : Int32) &&& 31)).toInt8.toInt32).toInt8.toInt32) (((c1 >>> ((8 : Int32) &&& 31)).toInt8.toInt32).toInt8.toInt32) (((c2 >>> ((0 : Int32) &&& 31)).toInt8.toInt32).toInt8.toInt32) (((c2 >>> ((8 : Int32) &&& 31)).toInt8.toInt32).toInt8.toInt32) (((c3 >>> ((0 : Int32) &&& 31)).toInt8.toInt32).toInt8.toInt32) (((c3 >>> ((8 : Int32) &&& 31)).toInt8.toInt32).toInt8.toInt32) cs vf h1 n0 Z0 E1 Fv1 Fc1 V1 S_cs hcs S_f hvf S_ad S_hi S_lo
  · have e := pl_u_04 r0 r1 r2 r3 (cs := cs)
    rw [e]
    exact rm11c1n8x04 l Z a0 hw ws o0 ob k (((c0 >>> ((0 : Int32) &&& 31)).toInt8.toInt32).toInt8.toInt32) (((c0 >>> ((8 : Int32) &&& 31)).toInt8.toInt32).toInt8.toInt32) (((c1 >>> ((0 : Int32) &&& 31)).toInt8.toInt32).toInt8.toInt32) (((c1 >>> ((8 : Int32) &&& 31)).toInt8.toInt32).toInt8.toInt32) (((c2 >>> ((0 : Int32) &&& 31)).toInt8.toInt32).toInt8.toInt32) (((c2 >>> ((8 : Int32) &&& 31)).toInt8.toInt32).toInt8.toInt32) (((c3 >>> ((0 : Int32) &&& 31)).toInt8.toInt32).toInt8.toInt32) (((c3 >>> ((8 : Int32) &&& 31)).toInt8.toInt32).toInt8.toInt32) cs vf h1 n0 Z0 E1 Fv1 Fc1 V1 S_cs hcs S_f hvf S_ad S_hi S_lo
  · have e := pl_u_11 r0 r1 r2 r3 (cs := cs)
    rw [e]
    exact rm11c1n8x11 l Z a0 hw ws o0 ob k (((c0 >>> ((0 : Int32) &&& 31)).toInt8.toInt32).toInt8.toInt32) (((c0 >>> ((8 : Int32) &&& 31)).toInt8.toInt32).toInt8.toInt32) (((c1 >>> ((0 : Int32) &&& 31)).toInt8.toInt32).toInt8.toInt32) (((c1 >>> ((8 : Int32) &&& 31)).toInt8.toInt32).toInt8.toInt32) (((c2 >>> ((0 : Int32) &&& 31)).toInt8.toInt32).toInt8.toInt32) (((c2 >>> ((8 : Int32) &&& 31)).toInt8.toInt32).toInt8.toInt32) (((c3 >>> ((0 : Int32) &&& 31)).toInt8.toInt32).toInt8.toInt32) (((c3 >>> ((8 : Int32) &&& 31)).toInt8.toInt32).toInt8.toInt32) cs vf h1 n0 Z0 E1 Fv1 Fc1 V1 S_cs hcs S_f hvf S_ad S_hi S_lo
  · have e := pl_u_12 r0 r1 r2 r3 (cs := cs)
    rw [e]
    exact rm11c1n8x12 l Z a0 hw ws o0 ob k (((c0 >>> ((0 : Int32) &&& 31)).toInt8.toInt32).toInt8.toInt32) (((c0 >>> ((8 : Int32) &&& 31)).toInt8.toInt32).toInt8.toInt32) (((c1 >>> ((0 : Int32) &&& 31)).toInt8.toInt32).toInt8.toInt32) (((c1 >>> ((8 : Int32) &&& 31)).toInt8.toInt32).toInt8.toInt32) (((c2 >>> ((0 : Int32) &&& 31)).toInt8.toInt32).toInt8.toInt32) (((c2 >>> ((8 : Int32) &&& 31)).toInt8.toInt32).toInt8.toInt32) (((c3 >>> ((0 : Int32) &&& 31)).toInt8.toInt32).toInt8.toInt32) (((c3 >>> ((8 : Int32) &&& 31)).toInt8.toInt32).toInt8.toInt32) cs vf h1 n0 Z0 E1 Fv1 Fc1 V1 S_cs hcs S_f hvf S_ad S_hi S_lo
  · have e := pl_u_13 r0 r1 r2 r3 (cs := cs)
    rw [e]
    exact rm11c1n8x13 l Z a0 hw ws o0 ob k (((c0 >>> ((0 : Int32) &&& 31)).toInt8.toInt32).toInt8.toInt32) (((c0 >>> ((8 : Int32) &&& 31)).toInt8.toInt32).toInt8.toInt32) (((c1 >>> ((0 : Int32) &&& 31)).toInt8.toInt32).toInt8.toInt32) (((c1 >>> ((8 : Int32) &&& 31)).toInt8.toInt32).toInt8.toInt32) (((c2 >>> ((0 : Int32) &&& 31)).toInt8.toInt32).toInt8.toInt32) (((c2 >>> ((8 : Int32) &&& 31)).toInt8.toInt32).toInt8.toInt32) (((c3 >>> ((0 : Int32) &&& 31)).toInt8.toInt32).toInt8.toInt32) (((c3 >>> ((8 : Int32) &&& 31)).toInt8.toInt32).toInt8.toInt32) cs vf h1 n0 Z0 E1 Fv1 Fc1 V1 S_cs hcs S_f hvf S_ad S_hi S_lo
  · have e := pl_u_14 r0 r1 r2 r3 (cs := cs)
    rw [e]
    exact rm11c1n8x14 l Z a0 hw ws o0 ob k (((c0 >>> ((0 : Int32) &&& 31)).toInt8.toInt32).toInt8.toInt32) (((c0 >>> ((8 : Int32) &&& 31)).toInt8.toInt32).toInt8.toInt32) (((c1 >>> ((0 : Int32) &&& 31)).toInt8.toInt32).toInt8.toInt32) (((c1 >>> ((8 : Int32) &&& 31)).toInt8.toInt32).toInt8.toInt32) (((c2 >>> ((0 : Int32) &&& 31)).toInt8.toInt32).toInt8.toInt32) (((c2 >>> ((8 : Int32) &&& 31)).toInt8.toInt32).toInt8.toInt32) (((c3 >>> ((0 : Int32) &&& 31)).toInt8.toInt32).toInt8.toInt32) (((c3 >>> ((8 : Int32) &&& 31)).toInt8.toInt32).toInt8.toInt32) cs vf h1 n0 Z0 E1 Fv1 Fc1 V1 S_cs hcs S_f hvf S_ad S_hi S_lo
  · have e := pl_u_22 r0 r1 r2 r3 (cs := cs)
    rw [e]
    exact rm11c1n8x22 l Z a0 hw ws o0 ob k (((c0 >>> ((0 : Int32) &&& 31)).toInt8.toInt32).toInt8.toInt32) (((c0 >>> ((8 : Int32) &&& 31)).toInt8.toInt32).toInt8.toInt32) (((c1 >>> ((0 : Int32) &&& 31)).toInt8.toInt32).toInt8.toInt32) (((c1 >>> ((8 : Int32) &&& 31)).toInt8.toInt32).toInt8.toInt32) (((c2 >>> ((0 : Int32) &&& 31)).toInt8.toInt32).toInt8.toInt32) (((c2 >>> ((8 : Int32) &&& 31)).toInt8.toInt32).toInt8.toInt32) (((c3 >>> ((0 : Int32) &&& 31)).toInt8.toInt32).toInt8.toInt32) (((c3 >>> ((8 : Int32) &&& 31)).toInt8.toInt32).toInt8.toInt32) cs vf h1 n0 Z0 E1 Fv1 Fc1 V1 S_cs hcs S_f hvf S_ad S_hi S_lo
  · have e := pl_u_23 r0 r1 r2 r3 (cs := cs)
    rw [e]
    exact rm11c1n8x23 l Z a0 hw ws o0 ob k (((c0 >>> ((0 : Int32) &&& 31)).toInt8.toInt32).toInt8.toInt32) (((c0 >>> ((8 : Int32) &&& 31)).toInt8.toInt32).toInt8.toInt32) (((c1 >>> ((0 : Int32) &&& 31)).toInt8.toInt32).toInt8.toInt32) (((c1 >>> ((8 : Int32) &&& 31)).toInt8.toInt32).toInt8.toInt32) (((c2 >>> ((0 : Int32) &&& 31)).toInt8.toInt32).toInt8.toInt32) (((c2 >>> ((8 : Int32) &&& 31)).toInt8.toInt32).toInt8.toInt32) (((c3 >>> ((0 : Int32) &&& 31)).toInt8.toInt32).toInt8.toInt32) (((c3 >>> ((8 : Int32) &&& 31)).toInt8.toInt32).toInt8.toInt32) cs vf h1 n0 Z0 E1 Fv1 Fc1 V1 S_cs hcs S_f hvf S_ad S_hi S_lo
  · have e := pl_u_24 r0 r1 r2 r3 (cs := cs)
    rw [e]
    exact rm11c1n8x24 l Z a0 hw ws o0 ob k (((c0 >>> ((0 : Int32) &&& 31)).toInt8.toInt32).toInt8.toInt32) (((c0 >>> ((8 : Int32) &&& 31)).toInt8.toInt32).toInt8.toInt32) (((c1 >>> ((0 : Int32) &&& 31)).toInt8.toInt32).toInt8.toInt32) (((c1 >>> ((8 : Int32) &&& 31)).toInt8.toInt32).toInt8.toInt32) (((c2 >>> ((0 : Int32) &&& 31)).toInt8.toInt32).toInt8.toInt32) (((c2 >>> ((8 : Int32) &&& 31)).toInt8.toInt32).toInt8.toInt32) (((c3 >>> ((0 : Int32) &&& 31)).toInt8.toInt32).toInt8.toInt32) (((c3 >>> ((8 : Int32) &&& 31)).toInt8.toInt32).toInt8.toInt32) cs vf h1 n0 Z0 E1 Fv1 Fc1 V1 S_cs hcs S_f hvf S_ad S_hi S_lo
  · have e := pl_u_33 r0 r1 r2 r3 (cs := cs)
    rw [e]
    exact rm11c1n8x33 l Z a0 hw ws o0 ob k (((c0 >>> ((0 : Int32) &&& 31)).toInt8.toInt32).toInt8.toInt32) (((c0 >>> ((8 : Int32) &&& 31)).toInt8.toInt32).toInt8.toInt32) (((c1 >>> ((0 : Int32) &&& 31)).toInt8.toInt32).toInt8.toInt32) (((c1 >>> ((8 : Int32) &&& 31)).toInt8.toInt32).toInt8.toInt32) (((c2 >>> ((0 : Int32) &&& 31)).toInt8.toInt32).toInt8.toInt32) (((c2 >>> ((8 : Int32) &&& 31)).toInt8.toInt32).toInt8.toInt32) (((c3 >>> ((0 : Int32) &&& 31)).toInt8.toInt32).toInt8.toInt32) (((c3 >>> ((8 : Int32) &&& 31)).toInt8.toInt32).toInt8.toInt32) cs vf h1 n0 Z0 E1 Fv1 Fc1 V1 S_cs hcs S_f hvf S_ad S_hi S_lo
  · have e := pl_u_34 r0 r1 r2 r3 (cs := cs)
    rw [e]
    exact rm11c1n8x34 l Z a0 hw ws o0 ob k (((c0 >>> ((0 : Int32) &&& 31)).toInt8.toInt32).toInt8.toInt32) (((c0 >>> ((8 : Int32) &&& 31)).toInt8.toInt32).toInt8.toInt32) (((c1 >>> ((0 : Int32) &&& 31)).toInt8.toInt32).toInt8.toInt32) (((c1 >>> ((8 : Int32) &&& 31)).toInt8.toInt32).toInt8.toInt32) (((c2 >>> ((0 : Int32) &&& 31)).toInt8.toInt32).toInt8.toInt32) (((c2 >>> ((8 : Int32) &&& 31)).toInt8.toInt32).toInt8.toInt32) (((c3 >>> ((0 : Int32) &&& 31)).toInt8.toInt32).toInt8.toInt32) (((c3 >>> ((8 : Int32) &&& 31)).toInt8.toInt32).toInt8.toInt32) cs vf h1 n0 Z0 E1 Fv1 Fc1 V1 S_cs hcs S_f hvf S_ad S_hi S_lo
  · have e := pl_u_44 r0 r1 r2 r3 (cs := cs)
    rw [e]
    exact rm11c1n8x44 l Z a0 hw ws o0 ob k (((c0 >>> ((0 : Int32) &&& 31)).toInt8.toInt32).toInt8.toInt32) (((c0 >>> ((8 : Int32) &&& 31)).toInt8.toInt32).toInt8.toInt32) (((c1 >>> ((0 : Int32) &&& 31)).toInt8.toInt32).toInt8.toInt32) (((c1 >>> ((8 : Int32) &&& 31)).toInt8.toInt32).toInt8.toInt32) (((c2 >>> ((0 : Int32) &&& 31)).toInt8.toInt32).toInt8.toInt32) (((c2 >>> ((8 : Int32) &&& 31)).toInt8.toInt32).toInt8.toInt32) (((c3 >>> ((0 : Int32) &&& 31)).toInt8.toInt32).toInt8.toInt32) (((c3 >>> ((8 : Int32) &&& 31)).toInt8.toInt32).toInt8.toInt32) cs vf h1 n0 Z0 E1 Fv1 Fc1 V1 S_cs hcs S_f hvf S_ad S_hi S_lo
theorem own_r255 {c : Int32} (h : 0 ≤ c.toInt ∧ c.toInt < 65536) (g : ¬ ((255 : Int32) < c)) : 0 ≤ c.toInt ∧ c.toInt < 256 := by
  have n255 : (255 : Int32).toInt = 255 := rfl
  rw [Int32.lt_iff_toInt_lt] at g; omega
theorem d6_0 : decode jdk_52_method_21_code 0 = .ok (.iconst 0, 1) := by decide +kernel
theorem d6_1 : decode jdk_52_method_21_code 1 = .ok (.istore 5, 2) := by decide +kernel
theorem d6_3 : decode jdk_52_method_21_code 3 = .ok (.iload 5, 2) := by decide +kernel
theorem d6_5 : decode jdk_52_method_21_code 5 = .ok (.iload 4, 2) := by decide +kernel
theorem d6_7 : decode jdk_52_method_21_code 7 = .ok (.if_icmp .ge 37, 3) := by decide +kernel
theorem d6_10 : decode jdk_52_method_21_code 10 = .ok (.aload_n 0, 1) := by decide +kernel
theorem d6_11 : decode jdk_52_method_21_code 11 = .ok (.iload_n 1, 1) := by decide +kernel
theorem d6_12 : decode jdk_52_method_21_code 12 = .ok (.caload, 1) := by decide +kernel
theorem d6_13 : decode jdk_52_method_21_code 13 = .ok (.istore 6, 2) := by decide +kernel
theorem d6_15 : decode jdk_52_method_21_code 15 = .ok (.iload 6, 2) := by decide +kernel
theorem d6_17 : decode jdk_52_method_21_code 17 = .ok (.sipush 255, 3) := by decide +kernel
theorem d6_20 : decode jdk_52_method_21_code 20 = .ok (.if_icmp .le 6, 3) := by decide +kernel
theorem d6_26 : decode jdk_52_method_21_code 26 = .ok (.aload_n 2, 1) := by decide +kernel
theorem d6_27 : decode jdk_52_method_21_code 27 = .ok (.iload_n 3, 1) := by decide +kernel
theorem d6_28 : decode jdk_52_method_21_code 28 = .ok (.iload 6, 2) := by decide +kernel
theorem d6_30 : decode jdk_52_method_21_code 30 = .ok (.i2b, 1) := by decide +kernel
theorem d6_31 : decode jdk_52_method_21_code 31 = .ok (.bastore, 1) := by decide +kernel
theorem d6_32 : decode jdk_52_method_21_code 32 = .ok (.iinc 1 1, 3) := by decide +kernel
theorem d6_35 : decode jdk_52_method_21_code 35 = .ok (.iinc 3 1, 3) := by decide +kernel
theorem d6_38 : decode jdk_52_method_21_code 38 = .ok (.iinc 5 1, 3) := by decide +kernel
theorem d6_41 : decode jdk_52_method_21_code 41 = .ok (.goto (-38), 3) := by decide +kernel
theorem d6_44 : decode jdk_52_method_21_code 44 = .ok (.iload 4, 2) := by decide +kernel
theorem d6_46 : decode jdk_52_method_21_code 46 = .ok (.ireturn, 1) := by decide +kernel
theorem ef_6n4l (m : MethodId) (x0 x2 : Addr) : entryFrame m #[(.ref x0), (.int 0), (.ref x2), (.int 0), (.int 4)] 7 = mkF m 0 #[.val (.ref x0), .val (.int 0), .val (.ref x2), .val (.int 0), .val (.int 4), .unset, .unset] [] := by first | (simp [entryFrame, mkF, argsToLocals, Value.category]; done) | rfl
def Q6n4l (Z : State) (o0 o2 : Addr) (k0 k2 : ClassId) (c0 c1 c2 c3 : Int32) (h0 : Heap) (n0 : Nat) (v : Option Value) (h : Heap) (L : List Loc) : Prop := v = some (.int 4) ∧ Fr n0 L ∧ Keep h0 h [o2] ∧ Arv Z h o2 k2 .byte (4 : Int32) [(.int ((c0.toInt8.toInt32).toInt8.toInt32)), (.int ((c1.toInt8.toInt32).toInt8.toInt32)), (.int ((c2.toInt8.toInt32).toInt8.toInt32)), (.int ((c3.toInt8.toInt32).toInt8.toInt32))] (.int 0)
set_option maxRecDepth 65536 in
set_option maxHeartbeats 40000000 in
theorem rm6n4l (l : Launch) (Z : State) (a0 : Array Value) (hw : ∀ d ∈ tables_1, d.before a0 Z = true) (ws : List Jvm.Cond) (o0 o2 : Addr) (k0 k2 : ClassId) (c0 c1 c2 c3 : Int32) (h0 : Heap) (n0 : Nat) (Z0 : n0 ≤ h0.size) (V0 : Arv Z h0 o0 k0 .char (4 : Int32) [(.int c0), (.int c1), (.int c2), (.int c3)] (.int 0)) (V2 : Arv Z h0 o2 k2 .byte (4 : Int32) [(.int 0), (.int 0), (.int 0), (.int 0)] (.int 0)) (g_o2 : n0 ≤ o2) (n02 : o0 ≠ o2) (hb0 : ¬ ((255 : Int32) < c0)) (hb1 : ¬ ((255 : Int32) < c1)) (hb2 : ¬ ((255 : Int32) < c2)) (hb3 : ¬ ((255 : Int32) < c3)) :
    MetFree l (⟨"java/lang/StringUTF16", "compress", "([CI[BII)I"⟩ : MethodName) (head1 (Jvm.Cond.code (⟨"java/lang/StringUTF16", "compress", "([CI[BII)I"⟩ : MethodName) jdk_52_method_21_code 7 (some .int) :: ws) (⟨0, 0, 0, 0⟩ : Room)) (fun a U => a = #[(.ref o0), (.int 0), (.ref o2), (.int 0), (.int 4)] ∧ Z.Warmed39 U.vm ∧ U.heap = h0) (fun _ _ _ _ _ => True) (fun _ U o U' => ∃ v L, o = .returned v ∧ Q6n4l Z o0 o2 k0 k2 c0 c1 c2 c3 h0 n0 v U'.heap L ∧ FrameEnd U o U' L (⟨0, 0, 0, 0⟩ : Room).cells (⟨0, 0, 0, 0⟩ : Room).slots) := by
  refine MetFree.of_bodySF (plainFor_of_name pn_5) hisR ?_
  intro p e s m args below meth c s₁ Bd hml0 hP hK
  obtain ⟨rfl, hZ, hh⟩ := hP
  have hx := Bd.exec
  have hby := Bd.bytes
  have hml : c.maxLocals = 7 := hml0
  have hown : s.vm.findClass "java/lang/StringUTF16" = some m.cls := findClass_of_methodNamed Bd.named
  have hnm := (name_of_methodNamed Bd.named Bd.method).1
  have X0 : Stand p l e (⟨0, 0, 0, 0⟩ : Room) s m #[(.ref o0), (.int 0), (.ref o2), (.int 0), (.int 4)] below meth c s₁ [] 0 0 := Stand.of_body Bd
  have e0 : s₁.heap = h0 := by rw [← hh, Bd.state]; rfl
  have N0 := Fr.nil n0
  have hret := Bd.returns
  have hlk := BodyLoose.notSynchronized Bd
  show own_Out p e below (fun o U' => ∃ v L, o = .returned v ∧ Q6n4l Z o0 o2 k0 k2 c0 c1 c2 c3 h0 n0 v U'.heap L ∧ FrameEnd s o U' L (⟨0, 0, 0, 0⟩ : Room).cells (⟨0, 0, 0, 0⟩ : Room).slots) (s₁.setTop (entryFrame m #[(.ref o0), (.int 0), (.ref o2), (.int 0), (.int 4)] 7))
  refine own_of (fun t k => castTop (ef_6n4l m o0 o2) k) ?_
  show own_Out p e below _ (s₁.setTop (mkF m 0 #[rv o0, iv 0, rv o2, iv 0, iv 4, .unset, .unset] []))
  refine o_iconst X0 hx hby d6_0 (z := 0) rfl (q := 1) rfl ?_
  refine o_istore X0 hx hby d6_1 (l' := #[rv o0, iv 0, rv o2, iv 0, iv 4, iv 0, .unset]) rfl (q := 3) rfl ?_
  refine o_iload X0 hx hby d6_3 rfl (q := 5) rfl ?_
  refine o_iload X0 hx hby d6_5 rfl (q := 7) rfl ?_
  refine o_icN X0 hx hby d6_7 (tlt (by decide : (0 : Int32) < (4 : Int32))).2.1 (q := 10) rfl ?_
  refine o_aloadN X0 hx hby d6_10 rfl rfl (q := 11) rfl ?_
  refine o_iloadN X0 hx hby d6_11 rfl (q := 12) rfl ?_
  refine o_caV X0 hx hby hZ e0 V0 ⟨by decide, by decide⟩ (v := .int c0) rfl d6_12 (q := 13) rfl ?_
  refine o_istore X0 hx hby d6_13 (l' := #[rv o0, iv 0, rv o2, iv 0, iv 4, iv 0, iv c0]) rfl (q := 15) rfl ?_
  refine o_iload X0 hx hby d6_15 rfl (q := 17) rfl ?_
  refine o_sipush X0 hx hby d6_17 (z := 255) rfl (q := 20) rfl ?_
  refine o_icY X0 hx hby d6_20 (flt hb0).2.2.2 (by decide) (q := 26) (by decide) ?_
  refine o_aloadN X0 hx hby d6_26 rfl rfl (q := 27) rfl ?_
  refine o_iloadN X0 hx hby d6_27 rfl (q := 28) rfl ?_
  refine o_iload X0 hx hby d6_28 rfl (q := 30) rfl ?_
  refine o_i2b X0 hx hby d6_30 rfl (q := 31) rfl ?_
  obtain ⟨cl1, Ar1, q1, S1, N1', H1, G1⟩ := id V2
  have hin2 : ¬ ((0 : Int32) < 0 ∨ cl1.slots.size ≤ ((0 : Int32)).toNatClampNeg) := inb_of S1 ⟨by decide, by decide⟩
  obtain ⟨T2, h2, X2, e2, W2, st2⟩ := stB X0 hx hZ e0 Ar1 (j := (0 : Int32)) hin2 (g := (mkF m 31 #[rv o0, iv 0, rv o2, iv 0, iv 4, iv 0, iv c0] [.int (c0.toInt8.toInt32), .int 0, .ref o2])) rfl rfl (hb hby d6_31)
  have V2 := Arv.set Ar1 q1 S1 N1' H1 G1 (fits_nar_byte _) W2 0 rfl (Nat.le_of_ble_eq_true rfl)
  refine own_of st2 ?_
  show own_Out p e below _ (T2.setTop (mkF m 32 #[rv o0, iv 0, rv o2, iv 0, iv 4, iv 0, iv c0] []))
  refine o_iinc X2 hx hby d6_32 rfl (l' := #[rv o0, iv 1, rv o2, iv 0, iv 4, iv 0, iv c0]) rfl (q := 35) rfl ?_
  refine o_iinc X2 hx hby d6_35 rfl (l' := #[rv o0, iv 1, rv o2, iv 1, iv 4, iv 0, iv c0]) rfl (q := 38) rfl ?_
  refine o_iinc X2 hx hby d6_38 rfl (l' := #[rv o0, iv 1, rv o2, iv 1, iv 4, iv 1, iv c0]) rfl (q := 41) rfl ?_
  refine o_goto X2 hx hby d6_41 (by decide) (q := 3) (by decide) ?_
  refine o_iload X2 hx hby d6_3 rfl (q := 5) rfl ?_
  refine o_iload X2 hx hby d6_5 rfl (q := 7) rfl ?_
  refine o_icN X2 hx hby d6_7 (tlt (by decide : (1 : Int32) < (4 : Int32))).2.1 (q := 10) rfl ?_
  refine o_aloadN X2 hx hby d6_10 rfl rfl (q := 11) rfl ?_
  refine o_iloadN X2 hx hby d6_11 rfl (q := 12) rfl ?_
  have qz3 := (V0.other W2 n02)
  refine o_caV X2 hx hby hZ e2 qz3 ⟨by decide, by decide⟩ (v := .int c1) rfl d6_12 (q := 13) rfl ?_
  refine o_istore X2 hx hby d6_13 (l' := #[rv o0, iv 1, rv o2, iv 1, iv 4, iv 1, iv c1]) rfl (q := 15) rfl ?_
  refine o_iload X2 hx hby d6_15 rfl (q := 17) rfl ?_
  refine o_sipush X2 hx hby d6_17 (z := 255) rfl (q := 20) rfl ?_
  refine o_icY X2 hx hby d6_20 (flt hb1).2.2.2 (by decide) (q := 26) (by decide) ?_
  refine o_aloadN X2 hx hby d6_26 rfl rfl (q := 27) rfl ?_
  refine o_iloadN X2 hx hby d6_27 rfl (q := 28) rfl ?_
  refine o_iload X2 hx hby d6_28 rfl (q := 30) rfl ?_
  refine o_i2b X2 hx hby d6_30 rfl (q := 31) rfl ?_
  obtain ⟨cl4, Ar4, q4, S4, N4', H4, G4⟩ := id V2
  have hin5 : ¬ ((1 : Int32) < 0 ∨ cl4.slots.size ≤ ((1 : Int32)).toNatClampNeg) := inb_of S4 ⟨by decide, by decide⟩
  obtain ⟨T5, h5, X5, e5, W5, st5⟩ := stB X2 hx hZ e2 Ar4 (j := (1 : Int32)) hin5 (g := (mkF m 31 #[rv o0, iv 1, rv o2, iv 1, iv 4, iv 1, iv c1] [.int (c1.toInt8.toInt32), .int 1, .ref o2])) rfl rfl (hb hby d6_31)
  have V5 := Arv.set Ar4 q4 S4 N4' H4 G4 (fits_nar_byte _) W5 1 rfl (Nat.le_of_ble_eq_true rfl)
  refine own_of st5 ?_
  show own_Out p e below _ (T5.setTop (mkF m 32 #[rv o0, iv 1, rv o2, iv 1, iv 4, iv 1, iv c1] []))
  refine o_iinc X5 hx hby d6_32 rfl (l' := #[rv o0, iv 2, rv o2, iv 1, iv 4, iv 1, iv c1]) rfl (q := 35) rfl ?_
  refine o_iinc X5 hx hby d6_35 rfl (l' := #[rv o0, iv 2, rv o2, iv 2, iv 4, iv 1, iv c1]) rfl (q := 38) rfl ?_
  refine o_iinc X5 hx hby d6_38 rfl (l' := #[rv o0, iv 2, rv o2, iv 2, iv 4, iv 2, iv c1]) rfl (q := 41) rfl ?_
  refine o_goto X5 hx hby d6_41 (by decide) (q := 3) (by decide) ?_
  refine o_iload X5 hx hby d6_3 rfl (q := 5) rfl ?_
  refine o_iload X5 hx hby d6_5 rfl (q := 7) rfl ?_
  refine o_icN X5 hx hby d6_7 (tlt (by decide : (2 : Int32) < (4 : Int32))).2.1 (q := 10) rfl ?_
  refine o_aloadN X5 hx hby d6_10 rfl rfl (q := 11) rfl ?_
  refine o_iloadN X5 hx hby d6_11 rfl (q := 12) rfl ?_
  have qz6 := (qz3.other W5 n02)
  refine o_caV X5 hx hby hZ e5 qz6 ⟨by decide, by decide⟩ (v := .int c2) rfl d6_12 (q := 13) rfl ?_
  refine o_istore X5 hx hby d6_13 (l' := #[rv o0, iv 2, rv o2, iv 2, iv 4, iv 2, iv c2]) rfl (q := 15) rfl ?_
  refine o_iload X5 hx hby d6_15 rfl (q := 17) rfl ?_
  refine o_sipush X5 hx hby d6_17 (z := 255) rfl (q := 20) rfl ?_
  refine o_icY X5 hx hby d6_20 (flt hb2).2.2.2 (by decide) (q := 26) (by decide) ?_
  refine o_aloadN X5 hx hby d6_26 rfl rfl (q := 27) rfl ?_
  refine o_iloadN X5 hx hby d6_27 rfl (q := 28) rfl ?_
  refine o_iload X5 hx hby d6_28 rfl (q := 30) rfl ?_
  refine o_i2b X5 hx hby d6_30 rfl (q := 31) rfl ?_
  obtain ⟨cl7, Ar7, q7, S7, N7', H7, G7⟩ := id V5
  have hin8 : ¬ ((2 : Int32) < 0 ∨ cl7.slots.size ≤ ((2 : Int32)).toNatClampNeg) := inb_of S7 ⟨by decide, by decide⟩
  obtain ⟨T8, h8, X8, e8, W8, st8⟩ := stB X5 hx hZ e5 Ar7 (j := (2 : Int32)) hin8 (g := (mkF m 31 #[rv o0, iv 2, rv o2, iv 2, iv 4, iv 2, iv c2] [.int (c2.toInt8.toInt32), .int 2, .ref o2])) rfl rfl (hb hby d6_31)
  have V8 := Arv.set Ar7 q7 S7 N7' H7 G7 (fits_nar_byte _) W8 2 rfl (Nat.le_of_ble_eq_true rfl)
  refine own_of st8 ?_
  show own_Out p e below _ (T8.setTop (mkF m 32 #[rv o0, iv 2, rv o2, iv 2, iv 4, iv 2, iv c2] []))
  refine o_iinc X8 hx hby d6_32 rfl (l' := #[rv o0, iv 3, rv o2, iv 2, iv 4, iv 2, iv c2]) rfl (q := 35) rfl ?_
  refine o_iinc X8 hx hby d6_35 rfl (l' := #[rv o0, iv 3, rv o2, iv 3, iv 4, iv 2, iv c2]) rfl (q := 38) rfl ?_
  refine o_iinc X8 hx hby d6_38 rfl (l' := #[rv o0, iv 3, rv o2, iv 3, iv 4, iv 3, iv c2]) rfl (q := 41) rfl ?_
  refine o_goto X8 hx hby d6_41 (by decide) (q := 3) (by decide) ?_
  refine o_iload X8 hx hby d6_3 rfl (q := 5) rfl ?_
  refine o_iload X8 hx hby d6_5 rfl (q := 7) rfl ?_
  refine o_icN X8 hx hby d6_7 (tlt (by decide : (3 : Int32) < (4 : Int32))).2.1 (q := 10) rfl ?_
  refine o_aloadN X8 hx hby d6_10 rfl rfl (q := 11) rfl ?_
  refine o_iloadN X8 hx hby d6_11 rfl (q := 12) rfl ?_
  have qz9 := (qz6.other W8 n02)
  refine o_caV X8 hx hby hZ e8 qz9 ⟨by decide, by decide⟩ (v := .int c3) rfl d6_12 (q := 13) rfl ?_
  refine o_istore X8 hx hby d6_13 (l' := #[rv o0, iv 3, rv o2, iv 3, iv 4, iv 3, iv c3]) rfl (q := 15) rfl ?_
  refine o_iload X8 hx hby d6_15 rfl (q := 17) rfl ?_
  refine o_sipush X8 hx hby d6_17 (z := 255) rfl (q := 20) rfl ?_
  refine o_icY X8 hx hby d6_20 (flt hb3).2.2.2 (by decide) (q := 26) (by decide) ?_
  refine o_aloadN X8 hx hby d6_26 rfl rfl (q := 27) rfl ?_
  refine o_iloadN X8 hx hby d6_27 rfl (q := 28) rfl ?_
  refine o_iload X8 hx hby d6_28 rfl (q := 30) rfl ?_
  refine o_i2b X8 hx hby d6_30 rfl (q := 31) rfl ?_
  obtain ⟨cl10, Ar10, q10, S10, N10', H10, G10⟩ := id V8
  have hin11 : ¬ ((3 : Int32) < 0 ∨ cl10.slots.size ≤ ((3 : Int32)).toNatClampNeg) := inb_of S10 ⟨by decide, by decide⟩
  obtain ⟨T11, h11, X11, e11, W11, st11⟩ := stB X8 hx hZ e8 Ar10 (j := (3 : Int32)) hin11 (g := (mkF m 31 #[rv o0, iv 3, rv o2, iv 3, iv 4, iv 3, iv c3] [.int (c3.toInt8.toInt32), .int 3, .ref o2])) rfl rfl (hb hby d6_31)
  have V11 := Arv.set Ar10 q10 S10 N10' H10 G10 (fits_nar_byte _) W11 3 rfl (Nat.le_of_ble_eq_true rfl)
  refine own_of st11 ?_
  show own_Out p e below _ (T11.setTop (mkF m 32 #[rv o0, iv 3, rv o2, iv 3, iv 4, iv 3, iv c3] []))
  refine o_iinc X11 hx hby d6_32 rfl (l' := #[rv o0, iv 4, rv o2, iv 3, iv 4, iv 3, iv c3]) rfl (q := 35) rfl ?_
  refine o_iinc X11 hx hby d6_35 rfl (l' := #[rv o0, iv 4, rv o2, iv 4, iv 4, iv 3, iv c3]) rfl (q := 38) rfl ?_
  refine o_iinc X11 hx hby d6_38 rfl (l' := #[rv o0, iv 4, rv o2, iv 4, iv 4, iv 4, iv c3]) rfl (q := 41) rfl ?_
  refine o_goto X11 hx hby d6_41 (by decide) (q := 3) (by decide) ?_
  refine o_iload X11 hx hby d6_3 rfl (q := 5) rfl ?_
  refine o_iload X11 hx hby d6_5 rfl (q := 7) rfl ?_
  refine o_icY X11 hx hby d6_7 (flt (by decide : ¬ ((4 : Int32) < (4 : Int32)))).2.1 (by decide) (q := 44) (by decide) ?_
  refine o_iload X11 hx hby d6_44 rfl (q := 46) rfl ?_
  have qz12 := (((((Keep.refl h0 [o2]).wr W2 (Or.inl (List.mem_of_getElem? (i := 0) rfl))).wr W5 (Or.inl (List.mem_of_getElem? (i := 0) rfl))).wr W8 (Or.inl (List.mem_of_getElem? (i := 0) rfl))).wr W11 (Or.inl (List.mem_of_getElem? (i := 0) rfl)))
  exact own_outI X11 hx hlk hret (hb hby d6_46) (Q := Q6n4l Z o0 o2 k0 k2 c0 c1 c2 c3 h0 n0) (by rw [e11]; exact ⟨rfl, (Fr.snoc X11 (Fr.snoc X8 (Fr.snoc X5 (Fr.snoc X2 N0 g_o2) g_o2) g_o2) g_o2), qz12, V11⟩) (by decide) (by decide)
theorem pd_7 : parseMethodDescriptor "([CI[BII)I" = some ⟨[(.array .char), .int, (.array .byte), .int, .int], some .int⟩ := by decide +kernel
theorem d5_0 : decode jdk_52_method_16_code 0 = .ok (.iload_n 2, 1) := by decide +kernel
theorem d5_1 : decode jdk_52_method_16_code 1 = .ok (.newarray .byte, 2) := by decide +kernel
theorem d5_3 : decode jdk_52_method_16_code 3 = .ok (.astore_n 3, 1) := by decide +kernel
theorem d5_4 : decode jdk_52_method_16_code 4 = .ok (.aload_n 0, 1) := by decide +kernel
theorem d5_5 : decode jdk_52_method_16_code 5 = .ok (.iload_n 1, 1) := by decide +kernel
theorem d5_6 : decode jdk_52_method_16_code 6 = .ok (.aload_n 3, 1) := by decide +kernel
theorem d5_7 : decode jdk_52_method_16_code 7 = .ok (.iconst 0, 1) := by decide +kernel
theorem d5_8 : decode jdk_52_method_16_code 8 = .ok (.iload_n 2, 1) := by decide +kernel
theorem d5_9 : decode jdk_52_method_16_code 9 = .ok (.invokestatic 115, 3) := by decide +kernel
theorem d5_12 : decode jdk_52_method_16_code 12 = .ok (.istore 4, 2) := by decide +kernel
theorem d5_14 : decode jdk_52_method_16_code 14 = .ok (.iload 4, 2) := by decide +kernel
theorem d5_16 : decode jdk_52_method_16_code 16 = .ok (.iload_n 2, 1) := by decide +kernel
theorem d5_17 : decode jdk_52_method_16_code 17 = .ok (.if_icmp .eq 40, 3) := by decide +kernel
theorem d5_57 : decode jdk_52_method_16_code 57 = .ok (.aload_n 3, 1) := by decide +kernel
theorem d5_58 : decode jdk_52_method_16_code 58 = .ok (.areturn, 1) := by decide +kernel
theorem ef_5n4l (m : MethodId) (x0 : Addr) : entryFrame m #[(.ref x0), (.int 0), (.int 4)] 6 = mkF m 0 #[.val (.ref x0), .val (.int 0), .val (.int 4), .unset, .unset, .unset] [] := by first | (simp [entryFrame, mkF, argsToLocals, Value.category]; done) | rfl
def Q5n4l (Z : State) (o0 : Addr) (k0 : ClassId) (c0 c1 c2 c3 : Int32) (h0 : Heap) (n0 : Nat) (v : Option Value) (h : Heap) (L : List Loc) : Prop := ∃ (b : Addr) (k : ClassId), v = some (.ref b) ∧ Fr n0 L ∧ Keep h0 h [] ∧ Arv Z h b k .byte (4 : Int32) [(.int ((c0.toInt8.toInt32).toInt8.toInt32)), (.int ((c1.toInt8.toInt32).toInt8.toInt32)), (.int ((c2.toInt8.toInt32).toInt8.toInt32)), (.int ((c3.toInt8.toInt32).toInt8.toInt32))] (.int 0) ∧ n0 ≤ b ∧ h0.size ≤ b
set_option maxRecDepth 65536 in
set_option maxHeartbeats 40000000 in
theorem rm5n4l (l : Launch) (Z : State) (a0 : Array Value) (hw : ∀ d ∈ tables_1, d.before a0 Z = true) (ws : List Jvm.Cond) (o0 : Addr) (k0 : ClassId) (c0 c1 c2 c3 : Int32) (h0 : Heap) (n0 : Nat) (Z0 : n0 ≤ h0.size) (V0 : Arv Z h0 o0 k0 .char (4 : Int32) [(.int c0), (.int c1), (.int c2), (.int c3)] (.int 0)) (hb0 : ¬ ((255 : Int32) < c0)) (hb1 : ¬ ((255 : Int32) < c1)) (hb2 : ¬ ((255 : Int32) < c2)) (hb3 : ¬ ((255 : Int32) < c3)) (hr0 : 0 ≤ c0.toInt ∧ c0.toInt < 65536) (hr1 : 0 ≤ c1.toInt ∧ c1.toInt < 65536) (hr2 : 0 ≤ c2.toInt ∧ c2.toInt < 65536) (hr3 : 0 ≤ c3.toInt ∧ c3.toInt < 65536) :
    MetFree l (⟨"java/lang/StringUTF16", "compress", "([CII)[B"⟩ : MethodName) (head1 (Jvm.Cond.code (⟨"java/lang/StringUTF16", "compress", "([CII)[B"⟩ : MethodName) jdk_52_method_16_code 6 (some (.array .byte)) :: ws) (⟨1, 1, 4, 18⟩ : Room)) (fun a U => a = #[(.ref o0), (.int 0), (.int 4)] ∧ Z.Warmed39 U.vm ∧ U.heap = h0) (fun _ _ _ _ _ => True) (fun _ U o U' => ∃ v L, o = .returned v ∧ Q5n4l Z o0 k0 c0 c1 c2 c3 h0 n0 v U'.heap L ∧ FrameEnd U o U' L (⟨1, 1, 4, 18⟩ : Room).cells (⟨1, 1, 4, 18⟩ : Room).slots) := by
  refine MetFree.of_bodySF (plainFor_of_name pn_5) hisR ?_
  intro p e s m args below meth c s₁ Bd hml0 hP hK
  obtain ⟨rfl, hZ, hh⟩ := hP
  have hx := Bd.exec
  have hby := Bd.bytes
  have hml : c.maxLocals = 6 := hml0
  have hown : s.vm.findClass "java/lang/StringUTF16" = some m.cls := findClass_of_methodNamed Bd.named
  have hnm := (name_of_methodNamed Bd.named Bd.method).1
  have X0 : Stand p l e (⟨1, 1, 4, 18⟩ : Room) s m #[(.ref o0), (.int 0), (.int 4)] below meth c s₁ [] 0 0 := Stand.of_body Bd
  have e0 : s₁.heap = h0 := by rw [← hh, Bd.state]; rfl
  have N0 := Fr.nil n0
  have hret := Bd.returns
  have hlk := BodyLoose.notSynchronized Bd
  show own_Out p e below (fun o U' => ∃ v L, o = .returned v ∧ Q5n4l Z o0 k0 c0 c1 c2 c3 h0 n0 v U'.heap L ∧ FrameEnd s o U' L (⟨1, 1, 4, 18⟩ : Room).cells (⟨1, 1, 4, 18⟩ : Room).slots) (s₁.setTop (entryFrame m #[(.ref o0), (.int 0), (.int 4)] 6))
  refine own_of (fun t k => castTop (ef_5n4l m o0) k) ?_
  show own_Out p e below _ (s₁.setTop (mkF m 0 #[rv o0, iv 0, iv 4, .unset, .unset, .unset] []))
  refine o_iloadN X0 hx hby d5_0 rfl (q := 1) rfl ?_
  obtain ⟨T1, h1, k1, X1, e1, E1, A1, st1⟩ := newP X0 hx hZ (w_ hw 24 rfl) e0 (g := (mkF m 1 #[rv o0, iv 0, iv 4, .unset, .unset, .unset] [.int 4])) rfl (hb hby d5_1) rfl (by decide) (cap := 4) (by decide) (by decide) (by decide) (by decide)
  obtain ⟨b1, g1⟩ : ∃ z, z = h0.size := ⟨_, rfl⟩
  rw [← g1] at A1 st1
  have g_b1 : n0 ≤ b1 := Nat.le_trans Z0 (Nat.le_of_eq g1.symm)
  have sz_b1 : h0.size ≤ b1 := Nat.le_trans (Nat.le_refl h0.size) (Nat.le_of_eq g1.symm)
  have V_b1 : Arv Z h1 b1 k1 .byte (4 : Int32) [(.int 0), (.int 0), (.int 0), (.int 0)] (.int 0) := (Arv.new A1 (by decide)).pad (pad_rep [] (.int 0) 4)
  refine own_of st1 ?_
  show own_Out p e below _ (T1.setTop (mkF m 3 #[rv o0, iv 0, iv 4, .unset, .unset, .unset] [.ref b1]))
  refine o_astoreN X1 hx hby d5_3 rfl (l' := #[rv o0, iv 0, iv 4, rv b1, .unset, .unset]) rfl (q := 4) rfl ?_
  refine o_aloadN X1 hx hby d5_4 rfl rfl (q := 5) rfl ?_
  refine o_iloadN X1 hx hby d5_5 rfl (q := 6) rfl ?_
  refine o_aloadN X1 hx hby d5_6 rfl rfl (q := 7) rfl ?_
  refine o_iconst X1 hx hby d5_7 (z := 0) rfl (q := 8) rfl ?_
  refine o_iloadN X1 hx hby d5_8 rfl (q := 9) rfl ?_
  have ne_o0_b1 : o0 ≠ b1 := Nat.ne_of_lt (Nat.lt_of_lt_of_le V0.lt sz_b1)
  have qz3 := (V0.ext E1)
  have qz4 := (Nat.le_trans Z0 E1.1)
  obtain ⟨_, _, ⟨T2, L2, k2, n2⟩, -, X2, ⟨Lc2, hQ2, l2, y2, z2⟩, st2⟩ := Jvm.LawKit.callS X1 hx (y := (⟨"java/lang/StringUTF16", "compress", "([CI[BII)I"⟩ : MethodName)) hown (mvT hZ (w_ hw 25 rfl)) (mvT hZ (w_ hw 26 rfl)) (mvT hZ (w_ hw 22 rfl)) (mvT hZ (w_ hw 27 rfl)) (by decide) (backOf (W := 0) (rm6n4l l Z a0 hw [] o0 b1 k0 k1 c0 c1 c2 c3 h1 n0 qz4 qz3 V_b1 g_b1 ne_o0_b1 hb0 hb1 hb2 hb3) hZ (w_ hw 27 rfl) (w_ hw 22 rfl) (by decide) (by decide)) (g := (mkF m 9 #[rv o0, iv 0, iv 4, rv b1, .unset, .unset] [.int 4, .int 0, .ref b1, .int 0, .ref o0])) rfl (by rw [hml]; rfl) (argsL := [(.ref o0), (.int 0), (.ref b1), (.int 0), (.int 4)]) (rest := []) (lenOf pd_7 rfl) rfl (by show 2 * 0 + _ ≤ _; exact Nat.le_of_eq rfl) (hb hby d5_9) (fun _ _ => ⟨rfl, e1, (by decide : 1 + 0 ≤ _), (by decide : 4 + 0 ≤ _)⟩)
  dsimp only [Pt.U, Pt.locs, Pt.cells, Pt.slots] at X2 l2 y2 z2 st2 hQ2
  subst l2 y2 z2
  obtain ⟨rfl, N2q, K2, V2⟩ := hQ2
  have N2 := Fr.app N0 N2q
  refine own_of st2 ?_
  show own_Out p e below _ (T2.setTop (mkF m 12 #[rv o0, iv 0, iv 4, rv b1, .unset, .unset] [.int 4]))
  refine o_istore X2 hx hby d5_12 (l' := #[rv o0, iv 0, iv 4, rv b1, iv 4, .unset]) rfl (q := 14) rfl ?_
  refine o_iload X2 hx hby d5_14 rfl (q := 16) rfl ?_
  refine o_iloadN X2 hx hby d5_16 rfl (q := 17) rfl ?_
  refine o_icY X2 hx hby d5_17 (teq (by decide : (4 : Int32) = (4 : Int32))).1 (by decide) (q := 57) (by decide) ?_
  refine o_aloadN X2 hx hby d5_57 rfl rfl (q := 58) rfl ?_
  have qz5 := (((Keep.refl h0 []).ext E1).trans K2 (allS (Or.inr sz_b1) all0))
  exact own_outR X2 hx hlk hret rfl rfl rfl (hb hby d5_58) (Q := Q5n4l Z o0 k0 c0 c1 c2 c3 h0 n0) ⟨b1, k1, rfl, N2, qz5, V2, g_b1, sz_b1⟩ (by decide) (by decide)
theorem d7_0 : decode jdk_52_method_15_code 0 = .ok (.iload_n 1, 1) := by decide +kernel
theorem d7_1 : decode jdk_52_method_15_code 1 = .ok (.aload_n 0, 1) := by decide +kernel
theorem d7_2 : decode jdk_52_method_15_code 2 = .ok (.arraylength, 1) := by decide +kernel
theorem d7_3 : decode jdk_52_method_15_code 3 = .ok (.isub, 1) := by decide +kernel
theorem d7_4 : decode jdk_52_method_15_code 4 = .ok (.bipush 31, 2) := by decide +kernel
theorem d7_6 : decode jdk_52_method_15_code 6 = .ok (.iushr, 1) := by decide +kernel
theorem d7_7 : decode jdk_52_method_15_code 7 = .ok (.i2b, 1) := by decide +kernel
theorem d7_8 : decode jdk_52_method_15_code 8 = .ok (.ireturn, 1) := by decide +kernel
theorem ef_7v0n4 (m : MethodId) (x0 : Addr) : entryFrame m #[(.ref x0), (.int 4)] 2 = mkF m 0 #[.val (.ref x0), .val (.int 4)] [] := by first | (simp [entryFrame, mkF, argsToLocals, Value.category]; done) | rfl
def Q7v0n4 (Z : State) (o0 : Addr) (k : ClassId) (u0 u1 u2 u3 : Int32) (h0 : Heap) (n0 : Nat) (v : Option Value) (h : Heap) (L : List Loc) : Prop := v = some (.int 0) ∧ Fr n0 L ∧ h = h0
set_option maxRecDepth 65536 in
set_option maxHeartbeats 40000000 in
theorem rm7v0n4 (l : Launch) (Z : State) (a0 : Array Value) (hw : ∀ d ∈ tables_1, d.before a0 Z = true) (ws : List Jvm.Cond) (o0 : Addr) (k : ClassId) (u0 u1 u2 u3 : Int32) (h0 : Heap) (n0 : Nat) (Z0 : n0 ≤ h0.size) (V : Arv Z h0 o0 k .byte (4 : Int32) [(.int u0), (.int u1), (.int u2), (.int u3)] (.int 0)) :
    MetFree l (⟨"java/lang/StringUTF16", "coderFromArrayLen", "([BI)B"⟩ : MethodName) (head1 (Jvm.Cond.code (⟨"java/lang/StringUTF16", "coderFromArrayLen", "([BI)B"⟩ : MethodName) jdk_52_method_15_code 2 (some .byte) :: ws) (⟨0, 0, 0, 0⟩ : Room)) (fun a U => a = #[(.ref o0), (.int 4)] ∧ Z.Warmed39 U.vm ∧ U.heap = h0) (fun _ _ _ _ _ => True) (fun _ U o U' => ∃ v L, o = .returned v ∧ Q7v0n4 Z o0 k u0 u1 u2 u3 h0 n0 v U'.heap L ∧ FrameEnd U o U' L (⟨0, 0, 0, 0⟩ : Room).cells (⟨0, 0, 0, 0⟩ : Room).slots) := by
  refine MetFree.of_bodySF (plainFor_of_name pn_5) hisR ?_
  intro p e s m args below meth c s₁ Bd hml0 hP hK
  obtain ⟨rfl, hZ, hh⟩ := hP
  have hx := Bd.exec
  have hby := Bd.bytes
  have hml : c.maxLocals = 2 := hml0
  have hown : s.vm.findClass "java/lang/StringUTF16" = some m.cls := findClass_of_methodNamed Bd.named
  have hnm := (name_of_methodNamed Bd.named Bd.method).1
  have X0 : Stand p l e (⟨0, 0, 0, 0⟩ : Room) s m #[(.ref o0), (.int 4)] below meth c s₁ [] 0 0 := Stand.of_body Bd
  have e0 : s₁.heap = h0 := by rw [← hh, Bd.state]; rfl
  have N0 := Fr.nil n0
  have hret := Bd.returns
  have hlk := BodyLoose.notSynchronized Bd
  show own_Out p e below (fun o U' => ∃ v L, o = .returned v ∧ Q7v0n4 Z o0 k u0 u1 u2 u3 h0 n0 v U'.heap L ∧ FrameEnd s o U' L (⟨0, 0, 0, 0⟩ : Room).cells (⟨0, 0, 0, 0⟩ : Room).slots) (s₁.setTop (entryFrame m #[(.ref o0), (.int 4)] 2))
  refine own_of (fun t k => castTop (ef_7v0n4 m o0) k) ?_
  show own_Out p e below _ (s₁.setTop (mkF m 0 #[rv o0, iv 4] []))
  refine o_iloadN X0 hx hby d7_0 rfl (q := 1) rfl ?_
  refine o_aloadN X0 hx hby d7_1 rfl rfl (q := 2) rfl ?_
  refine o_lenV X0 hx hby hZ e0 V d7_2 (q := 3) rfl ?_
  refine o_isub X0 hx hby d7_3 (z := 0) rfl (q := 4) rfl ?_
  refine o_bipush X0 hx hby d7_4 (z := 31) rfl (q := 6) rfl ?_
  refine o_iushr X0 hx hby d7_6 (z := 0) rfl (q := 7) rfl ?_
  refine o_i2b X0 hx hby d7_7 (z := 0) rfl (q := 8) rfl ?_
  exact own_outN X0 hx hlk (t := .byte) hret (by simp) (hb hby d7_8) (z' := (0 : Int32)) rfl (Q := Q7v0n4 Z o0 k u0 u1 u2 u3 h0 n0) ⟨rfl, N0, e0⟩ (by decide) (by decide)
theorem pd_8 : parseMethodDescriptor "([CII)[B" = some ⟨[(.array .char), .int, .int], some (.array .byte)⟩ := by decide +kernel
theorem pd_9 : parseMethodDescriptor "([BI)B" = some ⟨[(.array .byte), .int], some .byte⟩ := by decide +kernel
theorem d3_0 : decode jdk_42_method_149_code 0 = .ok (.aload_n 0, 1) := by decide +kernel
theorem d3_1 : decode jdk_42_method_149_code 1 = .ok (.invokespecial 1, 3) := by decide +kernel
theorem d3_4 : decode jdk_42_method_149_code 4 = .ok (.iload_n 3, 1) := by decide +kernel
theorem d3_5 : decode jdk_42_method_149_code 5 = .ok (.ifCond .ne 22, 3) := by decide +kernel
theorem d3_27 : decode jdk_42_method_149_code 27 = .ok (.getstatic 38, 3) := by decide +kernel
theorem d3_30 : decode jdk_42_method_149_code 30 = .ok (.ifCond .eq 28, 3) := by decide +kernel
theorem d3_33 : decode jdk_42_method_149_code 33 = .ok (.aload_n 1, 1) := by decide +kernel
theorem d3_34 : decode jdk_42_method_149_code 34 = .ok (.iload_n 2, 1) := by decide +kernel
theorem d3_35 : decode jdk_42_method_149_code 35 = .ok (.iload_n 3, 1) := by decide +kernel
theorem d3_36 : decode jdk_42_method_149_code 36 = .ok (.invokestatic 177, 3) := by decide +kernel
theorem d3_39 : decode jdk_42_method_149_code 39 = .ok (.astore 5, 2) := by decide +kernel
theorem d3_41 : decode jdk_42_method_149_code 41 = .ok (.aload_n 0, 1) := by decide +kernel
theorem d3_42 : decode jdk_42_method_149_code 42 = .ok (.aload 5, 2) := by decide +kernel
theorem d3_44 : decode jdk_42_method_149_code 44 = .ok (.iload_n 3, 1) := by decide +kernel
theorem d3_45 : decode jdk_42_method_149_code 45 = .ok (.invokestatic 47, 3) := by decide +kernel
theorem d3_48 : decode jdk_42_method_149_code 48 = .ok (.putfield 15, 3) := by decide +kernel
theorem d3_51 : decode jdk_42_method_149_code 51 = .ok (.aload_n 0, 1) := by decide +kernel
theorem d3_52 : decode jdk_42_method_149_code 52 = .ok (.aload 5, 2) := by decide +kernel
theorem d3_54 : decode jdk_42_method_149_code 54 = .ok (.putfield 9, 3) := by decide +kernel
theorem d3_57 : decode jdk_42_method_149_code 57 = .ok (.return_, 1) := by decide +kernel
theorem ef_3n4l (m : MethodId) (x0 x1 : Addr) : entryFrame m #[(.ref x0), (.ref x1), (.int 0), (.int 4), .null] 6 = mkF m 0 #[.val (.ref x0), .val (.ref x1), .val (.int 0), .val (.int 4), .val .null, .unset] [] := by first | (simp [entryFrame, mkF, argsToLocals, Value.category]; done) | rfl
def Q3n4l (Z : State) (o0 o1 : Addr) (k1 : ClassId) (c0 c1 c2 c3 cs : Int32) (h0 : Heap) (n0 : Nat) (v : Option Value) (h : Heap) (L : List Loc) : Prop := ∃ (b : Addr) (k : ClassId), v = none ∧ Fr n0 L ∧ Keep h0 h [o0] ∧ Exa Z h o0 "java/lang/String" ∧ Fld Z h o0 "java/lang/String" "value" "[B" (.ref b) ∧ Fld Z h o0 "java/lang/String" "coder" "B" (.int 0) ∧ Arv Z h b k .byte (4 : Int32) [(.int ((c0.toInt8.toInt32).toInt8.toInt32)), (.int ((c1.toInt8.toInt32).toInt8.toInt32)), (.int ((c2.toInt8.toInt32).toInt8.toInt32)), (.int ((c3.toInt8.toInt32).toInt8.toInt32))] (.int 0) ∧ n0 ≤ b ∧ h0.size ≤ b
set_option maxRecDepth 65536 in
set_option maxHeartbeats 40000000 in
theorem rm3n4l (l : Launch) (Z : State) (a0 : Array Value) (hw : ∀ d ∈ tables_1, d.before a0 Z = true) (ws : List Jvm.Cond) (o0 o1 : Addr) (k1 : ClassId) (c0 c1 c2 c3 cs : Int32) (h0 : Heap) (n0 : Nat) (Z0 : n0 ≤ h0.size) (E : Exa Z h0 o0 "java/lang/String") (F_value : Fld Z h0 o0 "java/lang/String" "value" "[B" .null) (F_coder : Fld Z h0 o0 "java/lang/String" "coder" "B" (.int 0)) (g_o0 : n0 ≤ o0) (V1 : Arv Z h0 o1 k1 .char (4 : Int32) [(.int c0), (.int c1), (.int c2), (.int c3)] (.int 0)) (n10 : o1 ≠ o0) (S_cs : Sta Z h0 "java/lang/String" "COMPACT_STRINGS" "Z" (.int cs)) (hcs : ¬ (cs = (0 : Int32))) (hb0 : ¬ ((255 : Int32) < c0)) (hb1 : ¬ ((255 : Int32) < c1)) (hb2 : ¬ ((255 : Int32) < c2)) (hb3 : ¬ ((255 : Int32) < c3)) (hr0 : 0 ≤ c0.toInt ∧ c0.toInt < 65536) (hr1 : 0 ≤ c1.toInt ∧ c1.toInt < 65536) (hr2 : 0 ≤ c2.toInt ∧ c2.toInt < 65536) (hr3 : 0 ≤ c3.toInt ∧ c3.toInt < 65536) :
    MetFree l (⟨"java/lang/String", "<init>", "([CIILjava/lang/Void;)V"⟩ : MethodName) (head1 (Jvm.Cond.code (⟨"java/lang/String", "<init>", "([CIILjava/lang/Void;)V"⟩ : MethodName) jdk_42_method_149_code 6 none :: ws) (⟨2, 1, 4, 35⟩ : Room)) (fun a U => a = #[(.ref o0), (.ref o1), (.int 0), (.int 4), .null] ∧ Z.Warmed39 U.vm ∧ U.heap = h0) (fun _ _ _ _ _ => True) (fun _ U o U' => ∃ v L, o = .returned v ∧ Q3n4l Z o0 o1 k1 c0 c1 c2 c3 cs h0 n0 v U'.heap L ∧ FrameEnd U o U' L (⟨2, 1, 4, 35⟩ : Room).cells (⟨2, 1, 4, 35⟩ : Room).slots) := by
  refine MetFree.of_bodySF (plainFor_of_name pn_1) hisR ?_
  intro p e s m args below meth c s₁ Bd hml0 hP hK
  obtain ⟨rfl, hZ, hh⟩ := hP
  have hx := Bd.exec
  have hby := Bd.bytes
  have hml : c.maxLocals = 6 := hml0
  have hown : s.vm.findClass "java/lang/String" = some m.cls := findClass_of_methodNamed Bd.named
  have hnm := (name_of_methodNamed Bd.named Bd.method).1
  have X0 : Stand p l e (⟨2, 1, 4, 35⟩ : Room) s m #[(.ref o0), (.ref o1), (.int 0), (.int 4), .null] below meth c s₁ [] 0 0 := Stand.of_body Bd
  have e0 : s₁.heap = h0 := by rw [← hh, Bd.state]; rfl
  have N0 := Fr.nil n0
  have hret := Bd.returns
  have hlk := BodyLoose.notSynchronized Bd
  show own_Out p e below (fun o U' => ∃ v L, o = .returned v ∧ Q3n4l Z o0 o1 k1 c0 c1 c2 c3 cs h0 n0 v U'.heap L ∧ FrameEnd s o U' L (⟨2, 1, 4, 35⟩ : Room).cells (⟨2, 1, 4, 35⟩ : Room).slots) (s₁.setTop (entryFrame m #[(.ref o0), (.ref o1), (.int 0), (.int 4), .null] 6))
  refine own_of (fun t k => castTop (ef_3n4l m o0 o1) k) ?_
  show own_Out p e below _ (s₁.setTop (mkF m 0 #[rv o0, rv o1, iv 0, iv 4, .val (.null), .unset] []))
  refine o_aloadN X0 hx hby d3_0 rfl rfl (q := 1) rfl ?_
  obtain ⟨T1, X1, e1, st1⟩ := initO X0 hx hZ hown (w_ hw 16 rfl) (w_ hw 17 rfl) (w_ hw 18 rfl) e0 (g := (mkF m 1 #[rv o0, rv o1, iv 0, iv 4, .val (.null), .unset] [.ref o0])) rfl (by rw [hml]; rfl) rfl (hb hby d3_1) (by decide) (W := 0) (by show 2 * 0 + _ ≤ _; exact Nat.le_of_eq rfl) (by decide)
  refine own_of st1 ?_
  show own_Out p e below _ (T1.setTop (mkF m 4 #[rv o0, rv o1, iv 0, iv 4, .val (.null), .unset] []))
  refine o_iloadN X1 hx hby d3_4 rfl (q := 5) rfl ?_
  refine o_ifY X1 hx hby d3_5 ((if0 _ _).trans (feq (by decide : ¬ ((4 : Int32) = (0 : Int32)))).2) (by decide) (q := 27) (by decide) ?_
  obtain ⟨T2, X2, e2, st2⟩ := getS2 X1 hx hZ hown (host := "") (Or.inl (w_ hw 19 rfl)) Via.refl e1 S_cs (g := (mkF m 27 #[rv o0, rv o1, iv 0, iv 4, .val (.null), .unset] [])) rfl (hb hby d3_27)
  refine own_of st2 ?_
  show own_Out p e below _ (T2.setTop (mkF m 30 #[rv o0, rv o1, iv 0, iv 4, .val (.null), .unset] [.int cs]))
  refine o_ifN X2 hx hby d3_30 ((if0 _ _).trans (feq hcs).1) (q := 33) rfl ?_
  refine o_aloadN X2 hx hby d3_33 rfl rfl (q := 34) rfl ?_
  refine o_iloadN X2 hx hby d3_34 rfl (q := 35) rfl ?_
  refine o_iloadN X2 hx hby d3_35 rfl (q := 36) rfl ?_
  obtain ⟨_, _, ⟨T3, L3, k3, n3⟩, -, X3, ⟨Lc3, hQ3, l3, y3, z3⟩, st3⟩ := Jvm.LawKit.callS X2 hx (y := (⟨"java/lang/StringUTF16", "compress", "([CII)[B"⟩ : MethodName)) hown (mvT hZ (w_ hw 20 rfl)) (mvT hZ (w_ hw 21 rfl)) (mvT hZ (w_ hw 22 rfl)) (mvT hZ (w_ hw 23 rfl)) (by decide) (backOf (W := 0) (rm5n4l l Z a0 hw [] o1 k1 c0 c1 c2 c3 h0 n0 Z0 V1 hb0 hb1 hb2 hb3 hr0 hr1 hr2 hr3) hZ (w_ hw 23 rfl) (w_ hw 22 rfl) (by decide) (by decide)) (g := (mkF m 36 #[rv o0, rv o1, iv 0, iv 4, .val (.null), .unset] [.int 4, .int 0, .ref o1])) rfl (by rw [hml]; rfl) (argsL := [(.ref o1), (.int 0), (.int 4)]) (rest := []) (lenOf pd_8 rfl) rfl (by show 2 * 0 + _ ≤ _; exact Nat.le_of_eq rfl) (hb hby d3_36) (fun _ _ => ⟨rfl, e2, (by decide : 0 + 1 ≤ _), (by decide : 0 + 4 ≤ _)⟩)
  dsimp only [Pt.U, Pt.locs, Pt.cells, Pt.slots] at X3 l3 y3 z3 st3 hQ3
  subst l3 y3 z3
  obtain ⟨b3, k3, rfl, N3q, K3, V3, hgb_3, hsb_3⟩ := hQ3
  have N3 := Fr.app N0 N3q
  have sz_b3 : h0.size ≤ b3 := Nat.le_trans (Nat.le_refl h0.size) hsb_3
  refine own_of st3 ?_
  show own_Out p e below _ (T3.setTop (mkF m 39 #[rv o0, rv o1, iv 0, iv 4, .val (.null), .unset] [.ref b3]))
  refine o_astore X3 hx hby d3_39 rfl (l' := #[rv o0, rv o1, iv 0, iv 4, .val (.null), rv b3]) rfl (q := 41) rfl ?_
  refine o_aloadN X3 hx hby d3_41 rfl rfl (q := 42) rfl ?_
  refine o_aload X3 hx hby d3_42 rfl rfl (q := 44) rfl ?_
  refine o_iloadN X3 hx hby d3_44 rfl (q := 45) rfl ?_
  have qz5 := (Nat.le_trans Z0 K3.1)
  obtain ⟨_, _, ⟨T4, L4, k4, n4⟩, -, X4, ⟨Lc4, hQ4, l4, y4, z4⟩, st4⟩ := Jvm.LawKit.callS X3 hx (y := (⟨"java/lang/StringUTF16", "coderFromArrayLen", "([BI)B"⟩ : MethodName)) hown (mvT hZ (w_ hw 28 rfl)) (mvT hZ (w_ hw 29 rfl)) (mvT hZ (w_ hw 22 rfl)) (mvT hZ (w_ hw 30 rfl)) (by decide) (backOf (W := 1) (rm7v0n4 l Z a0 hw [] b3 k3 ((c0.toInt8.toInt32).toInt8.toInt32) ((c1.toInt8.toInt32).toInt8.toInt32) ((c2.toInt8.toInt32).toInt8.toInt32) ((c3.toInt8.toInt32).toInt8.toInt32) T3.heap n0 qz5 V3) hZ (w_ hw 30 rfl) (w_ hw 22 rfl) (by decide) (by decide)) (g := (mkF m 45 #[rv o0, rv o1, iv 0, iv 4, .val (.null), rv b3] [.int 4, .ref b3, .ref o0])) rfl (by rw [hml]; rfl) (argsL := [(.ref b3), (.int 4)]) (rest := [(.ref o0)]) (lenOf pd_9 rfl) rfl (by show 2 * 0 + _ ≤ _; exact Nat.le_of_eq rfl) (hb hby d3_45) (fun _ _ => ⟨rfl, rfl, (by decide : 1 + 0 ≤ _), (by decide : 4 + 0 ≤ _)⟩)
  dsimp only [Pt.U, Pt.locs, Pt.cells, Pt.slots] at X4 l4 y4 z4 st4 hQ4
  subst l4 y4 z4
  obtain ⟨rfl, N4q, hh4⟩ := hQ4
  have N4 := Fr.app N3 N4q
  refine own_of st4 ?_
  show own_Out p e below _ (T4.setTop (mkF m 48 #[rv o0, rv o1, iv 0, iv 4, .val (.null), rv b3] [.int 0, .ref o0]))
  have qz7 := (F_coder.keep K3 nin0)
  have qz8 := (E.keep K3)
  obtain ⟨T6, h6, X6, e6, W6, st6⟩ := putFN X4 hx hZ hown (w_ hw 31 rfl) Via.refl hh4 qz7 qz8 (Or.inr ⟨(w_ hw 32 rfl), rfl, hnm⟩) (w_ hw 7 rfl) (ty := .byte) (v' := (.int 0)) (by decide) rfl rfl (g := (mkF m 48 #[rv o0, rv o1, iv 0, iv 4, .val (.null), rv b3] [.int 0, .ref o0])) rfl rfl (hb hby d3_48)
  have qz9 := (F_coder.keep K3 nin0)
  have Fw6 := qz9.same W6
  refine own_of st6 ?_
  show own_Out p e below _ (T6.setTop (mkF m 51 #[rv o0, rv o1, iv 0, iv 4, .val (.null), rv b3] []))
  refine o_aloadN X6 hx hby d3_51 rfl rfl (q := 52) rfl ?_
  refine o_aload X6 hx hby d3_52 rfl rfl (q := 54) rfl ?_
  have qz11 := ((F_value.keep K3 nin0).other W6 (Or.inr (slot_ne (Or.inr (w_ hw 34 rfl)) (Or.inr (w_ hw 32 rfl)) (by decide) (t := (.array .byte)) (t' := .byte) (by decide) (by decide))))
  have qz12 := (qz8.wr W6)
  obtain ⟨T10, h10, X10, e10, W10, st10⟩ := putF X6 hx hZ hown (host := "") (Or.inl (w_ hw 33 rfl)) Via.refl e6 qz11 qz12 (Or.inr ⟨(w_ hw 34 rfl), rfl, hnm⟩) (w_ hw 7 rfl) (ty := (.array .byte)) (by decide) rfl rfl (g := (mkF m 54 #[rv o0, rv o1, iv 0, iv 4, .val (.null), rv b3] [.ref b3, .ref o0])) rfl rfl (hb hby d3_54)
  have qz13 := ((F_value.keep K3 nin0).other W6 (Or.inr (slot_ne (Or.inr (w_ hw 34 rfl)) (Or.inr (w_ hw 32 rfl)) (by decide) (t := (.array .byte)) (t' := .byte) (by decide) (by decide))))
  have Fw10 := qz13.same W10
  refine own_of st10 ?_
  show own_Out p e below _ (T10.setTop (mkF m 57 #[rv o0, rv o1, iv 0, iv 4, .val (.null), rv b3] []))
  have qz14 := ((((Keep.refl h0 [o0]).trans K3 all0).wr W6 (Or.inl (List.mem_of_getElem? (i := 0) rfl))).wr W10 (Or.inl (List.mem_of_getElem? (i := 0) rfl)))
  have qz15 := (qz12.wr W10)
  have qz16 := (Fw6.other W10 (Or.inr (slot_ne (Or.inr (w_ hw 32 rfl)) (Or.inr (w_ hw 34 rfl)) (by decide) (t := .byte) (t' := (.array .byte)) (by decide) (by decide))))
  have ne_o0_b3 : o0 ≠ b3 := Nat.ne_of_lt (Nat.lt_of_lt_of_le E.lt sz_b3)
  have qz17 := ((V3.other W6 (Ne.symm ne_o0_b3)).other W10 (Ne.symm ne_o0_b3))
  exact own_outV X10 hx hlk hret (hb hby d3_57) (Q := Q3n4l Z o0 o1 k1 c0 c1 c2 c3 cs h0 n0) (by rw [e10]; exact ⟨b3, k3, rfl, (Fr.snoc X10 (Fr.snoc X6 N4 g_o0) g_o0), qz14, qz15, Fw10, qz16, qz17, hgb_3, sz_b3⟩) (by decide) (by decide)
theorem pd_10 : parseMethodDescriptor "([CIILjava/lang/Void;)V" = some ⟨[(.array .char), .int, .int, (.object "java/lang/Void")], none⟩ := by decide +kernel
theorem d2_0 : decode jdk_42_method_3_code 0 = .ok (.aload_n 0, 1) := by decide +kernel
theorem d2_1 : decode jdk_42_method_3_code 1 = .ok (.aload_n 1, 1) := by decide +kernel
theorem d2_2 : decode jdk_42_method_3_code 2 = .ok (.iconst 0, 1) := by decide +kernel
theorem d2_3 : decode jdk_42_method_3_code 3 = .ok (.aload_n 1, 1) := by decide +kernel
theorem d2_4 : decode jdk_42_method_3_code 4 = .ok (.arraylength, 1) := by decide +kernel
theorem d2_5 : decode jdk_42_method_3_code 5 = .ok (.aconst_null, 1) := by decide +kernel
theorem d2_6 : decode jdk_42_method_3_code 6 = .ok (.invokespecial 27, 3) := by decide +kernel
theorem d2_9 : decode jdk_42_method_3_code 9 = .ok (.return_, 1) := by decide +kernel
theorem ef_2n4l (m : MethodId) (x0 x1 : Addr) : entryFrame m #[(.ref x0), (.ref x1)] 2 = mkF m 0 #[.val (.ref x0), .val (.ref x1)] [] := by first | (simp [entryFrame, mkF, argsToLocals, Value.category]; done) | rfl
def Q2n4l (Z : State) (o0 o1 : Addr) (k1 : ClassId) (c0 c1 c2 c3 cs : Int32) (h0 : Heap) (n0 : Nat) (v : Option Value) (h : Heap) (L : List Loc) : Prop := v = none ∧ Fr n0 L ∧ Keep h0 h [o0] ∧ Exa Z h o0 "java/lang/String" ∧ HasOk Z h o0 c0 c1 c2 c3
set_option maxRecDepth 65536 in
set_option maxHeartbeats 40000000 in
theorem rm2n4l (l : Launch) (Z : State) (a0 : Array Value) (hw : ∀ d ∈ tables_1, d.before a0 Z = true) (ws : List Jvm.Cond) (o0 o1 : Addr) (k1 : ClassId) (c0 c1 c2 c3 cs : Int32) (h0 : Heap) (n0 : Nat) (Z0 : n0 ≤ h0.size) (E : Exa Z h0 o0 "java/lang/String") (F_value : Fld Z h0 o0 "java/lang/String" "value" "[B" .null) (F_coder : Fld Z h0 o0 "java/lang/String" "coder" "B" (.int 0)) (g_o0 : n0 ≤ o0) (V1 : Arv Z h0 o1 k1 .char (4 : Int32) [(.int c0), (.int c1), (.int c2), (.int c3)] (.int 0)) (n10 : o1 ≠ o0) (S_cs : Sta Z h0 "java/lang/String" "COMPACT_STRINGS" "Z" (.int cs)) (hcs : ¬ (cs = (0 : Int32))) (hb0 : ¬ ((255 : Int32) < c0)) (hb1 : ¬ ((255 : Int32) < c1)) (hb2 : ¬ ((255 : Int32) < c2)) (hb3 : ¬ ((255 : Int32) < c3)) (hr0 : 0 ≤ c0.toInt ∧ c0.toInt < 65536) (hr1 : 0 ≤ c1.toInt ∧ c1.toInt < 65536) (hr2 : 0 ≤ c2.toInt ∧ c2.toInt < 65536) (hr3 : 0 ≤ c3.toInt ∧ c3.toInt < 65536) :
    MetFree l (⟨"java/lang/String", "<init>", "([C)V"⟩ : MethodName) (head1 (Jvm.Cond.code (⟨"java/lang/String", "<init>", "([C)V"⟩ : MethodName) jdk_42_method_3_code 2 none :: ws) (⟨6, 2, 12, 90⟩ : Room)) (fun a U => a = #[(.ref o0), (.ref o1)] ∧ Z.Warmed39 U.vm ∧ U.heap = h0) (fun _ _ _ _ _ => True) (fun _ U o U' => ∃ v L, o = .returned v ∧ Q2n4l Z o0 o1 k1 c0 c1 c2 c3 cs h0 n0 v U'.heap L ∧ FrameEnd U o U' L (⟨6, 2, 12, 90⟩ : Room).cells (⟨6, 2, 12, 90⟩ : Room).slots) := by
  refine MetFree.of_bodySF (plainFor_of_name pn_1) hisR ?_
  intro p e s m args below meth c s₁ Bd hml0 hP hK
  obtain ⟨rfl, hZ, hh⟩ := hP
  have hx := Bd.exec
  have hby := Bd.bytes
  have hml : c.maxLocals = 2 := hml0
  have hown : s.vm.findClass "java/lang/String" = some m.cls := findClass_of_methodNamed Bd.named
  have hnm := (name_of_methodNamed Bd.named Bd.method).1
  have X0 : Stand p l e (⟨6, 2, 12, 90⟩ : Room) s m #[(.ref o0), (.ref o1)] below meth c s₁ [] 0 0 := Stand.of_body Bd
  have e0 : s₁.heap = h0 := by rw [← hh, Bd.state]; rfl
  have N0 := Fr.nil n0
  have hret := Bd.returns
  have hlk := BodyLoose.notSynchronized Bd
  show own_Out p e below (fun o U' => ∃ v L, o = .returned v ∧ Q2n4l Z o0 o1 k1 c0 c1 c2 c3 cs h0 n0 v U'.heap L ∧ FrameEnd s o U' L (⟨6, 2, 12, 90⟩ : Room).cells (⟨6, 2, 12, 90⟩ : Room).slots) (s₁.setTop (entryFrame m #[(.ref o0), (.ref o1)] 2))
  refine own_of (fun t k => castTop (ef_2n4l m o0 o1) k) ?_
  show own_Out p e below _ (s₁.setTop (mkF m 0 #[rv o0, rv o1] []))
  refine o_aloadN X0 hx hby d2_0 rfl rfl (q := 1) rfl ?_
  refine o_aloadN X0 hx hby d2_1 rfl rfl (q := 2) rfl ?_
  refine o_iconst X0 hx hby d2_2 (z := 0) rfl (q := 3) rfl ?_
  refine o_aloadN X0 hx hby d2_3 rfl rfl (q := 4) rfl ?_
  refine o_lenV X0 hx hby hZ e0 V1 d2_4 (q := 5) rfl ?_
  refine o_aconst_null X0 hx hby d2_5 (q := 6) rfl ?_
  obtain ⟨_, _, ⟨T1, L1, k1, n1⟩, -, X1, ⟨Lc1, hQ1, l1, y1, z1⟩, st1⟩ := X0.specialBack hx (y := (⟨"java/lang/String", "<init>", "([CIILjava/lang/Void;)V"⟩ : MethodName)) rfl hown (mvT hZ (w_ hw 12 rfl)) (mvT hZ (w_ hw 13 rfl)) (mvT hZ (w_ hw 15 rfl)) (by decide) (backOf (W := 0) (rm3n4l l Z a0 hw [] o0 o1 k1 c0 c1 c2 c3 cs h0 n0 Z0 E F_value F_coder g_o0 V1 n10 S_cs hcs hb0 hb1 hb2 hb3 hr0 hr1 hr2 hr3) hZ (w_ hw 15 rfl) (w_ hw 8 rfl) (by decide) (by decide)) (g := (mkF m 6 #[rv o0, rv o1] [.null, .int 4, .int 0, .ref o1, .ref o0])) rfl (by rw [hml]; rfl) (Steps.refl _) (a := o0) (argsL := [(.ref o1), (.int 0), (.int 4), .null]) (rest := []) (lenOf pd_10 rfl) rfl (by show 2 * 0 + _ ≤ _; exact Nat.le_of_eq rfl) (hb hby d2_6) (fun _ _ => ⟨rfl, e0, (by decide : 0 + 1 ≤ _), (by decide : 0 + 4 ≤ _)⟩)
  dsimp only [Pt.U, Pt.locs, Pt.cells, Pt.slots] at X1 l1 y1 z1 st1 hQ1
  subst l1 y1 z1
  obtain ⟨b1, k1, rfl, N1q, K1, E1, Fv1, Fc1, V1, hgb_1, hsb_1⟩ := hQ1
  have N1 := Fr.app N0 N1q
  have sz_b1 : h0.size ≤ b1 := Nat.le_trans (Nat.le_refl h0.size) hsb_1
  refine own_of (fun _ k => st1.trans k) ?_
  show own_Out p e below _ (T1.setTop (mkF m 9 #[rv o0, rv o1] []))
  have qz2 := ((Keep.refl h0 [o0]).trans K1 (allS (Or.inl (List.mem_of_getElem? (i := 0) rfl)) all0))
  exact own_outV X1 hx hlk hret (hb hby d2_9) (Q := Q2n4l Z o0 o1 k1 c0 c1 c2 c3 cs h0 n0) ⟨rfl, N1, qz2, E1, (has_l (own_r255 hr0 hb0) (own_r255 hr1 hb1) (own_r255 hr2 hb2) (own_r255 hr3 hb3) E1 Fv1 Fc1 V1)⟩ (by decide) (by decide)
theorem d6_23 : decode jdk_52_method_21_code 23 = .ok (.iload 5, 2) := by decide +kernel
theorem d6_25 : decode jdk_52_method_21_code 25 = .ok (.ireturn, 1) := by decide +kernel
theorem ef_6n4u0 (m : MethodId) (x0 x2 : Addr) : entryFrame m #[(.ref x0), (.int 0), (.ref x2), (.int 0), (.int 4)] 7 = mkF m 0 #[.val (.ref x0), .val (.int 0), .val (.ref x2), .val (.int 0), .val (.int 4), .unset, .unset] [] := by first | (simp [entryFrame, mkF, argsToLocals, Value.category]; done) | rfl
def Q6n4u0 (Z : State) (o0 o2 : Addr) (k0 k2 : ClassId) (c0 c1 c2 c3 : Int32) (h0 : Heap) (n0 : Nat) (v : Option Value) (h : Heap) (L : List Loc) : Prop := v = some (.int 0) ∧ Fr n0 L ∧ Keep h0 h [o2] ∧ Arv Z h o2 k2 .byte (4 : Int32) [(.int 0), (.int 0), (.int 0), (.int 0)] (.int 0)
set_option maxRecDepth 65536 in
set_option maxHeartbeats 40000000 in
theorem rm6n4u0 (l : Launch) (Z : State) (a0 : Array Value) (hw : ∀ d ∈ tables_1, d.before a0 Z = true) (ws : List Jvm.Cond) (o0 o2 : Addr) (k0 k2 : ClassId) (c0 c1 c2 c3 : Int32) (h0 : Heap) (n0 : Nat) (Z0 : n0 ≤ h0.size) (V0 : Arv Z h0 o0 k0 .char (4 : Int32) [(.int c0), (.int c1), (.int c2), (.int c3)] (.int 0)) (V2 : Arv Z h0 o2 k2 .byte (4 : Int32) [(.int 0), (.int 0), (.int 0), (.int 0)] (.int 0)) (g_o2 : n0 ≤ o2) (n02 : o0 ≠ o2) (hb0 : (255 : Int32) < c0) :
    MetFree l (⟨"java/lang/StringUTF16", "compress", "([CI[BII)I"⟩ : MethodName) (head1 (Jvm.Cond.code (⟨"java/lang/StringUTF16", "compress", "([CI[BII)I"⟩ : MethodName) jdk_52_method_21_code 7 (some .int) :: ws) (⟨0, 0, 0, 0⟩ : Room)) (fun a U => a = #[(.ref o0), (.int 0), (.ref o2), (.int 0), (.int 4)] ∧ Z.Warmed39 U.vm ∧ U.heap = h0) (fun _ _ _ _ _ => True) (fun _ U o U' => ∃ v L, o = .returned v ∧ Q6n4u0 Z o0 o2 k0 k2 c0 c1 c2 c3 h0 n0 v U'.heap L ∧ FrameEnd U o U' L (⟨0, 0, 0, 0⟩ : Room).cells (⟨0, 0, 0, 0⟩ : Room).slots) := by
  refine MetFree.of_bodySF (plainFor_of_name pn_5) hisR ?_
  intro p e s m args below meth c s₁ Bd hml0 hP hK
  obtain ⟨rfl, hZ, hh⟩ := hP
  have hx := Bd.exec
  have hby := Bd.bytes
  have hml : c.maxLocals = 7 := hml0
  have hown : s.vm.findClass "java/lang/StringUTF16" = some m.cls := findClass_of_methodNamed Bd.named
  have hnm := (name_of_methodNamed Bd.named Bd.method).1
  have X0 : Stand p l e (⟨0, 0, 0, 0⟩ : Room) s m #[(.ref o0), (.int 0), (.ref o2), (.int 0), (.int 4)] below meth c s₁ [] 0 0 := Stand.of_body Bd
  have e0 : s₁.heap = h0 := by rw [← hh, Bd.state]; rfl
  have N0 := Fr.nil n0
  have hret := Bd.returns
  have hlk := BodyLoose.notSynchronized Bd
  show own_Out p e below (fun o U' => ∃ v L, o = .returned v ∧ Q6n4u0 Z o0 o2 k0 k2 c0 c1 c2 c3 h0 n0 v U'.heap L ∧ FrameEnd s o U' L (⟨0, 0, 0, 0⟩ : Room).cells (⟨0, 0, 0, 0⟩ : Room).slots) (s₁.setTop (entryFrame m #[(.ref o0), (.int 0), (.ref o2), (.int 0), (.int 4)] 7))
  refine own_of (fun t k => castTop (ef_6n4u0 m o0 o2) k) ?_
  show own_Out p e below _ (s₁.setTop (mkF m 0 #[rv o0, iv 0, rv o2, iv 0, iv 4, .unset, .unset] []))
  refine o_iconst X0 hx hby d6_0 (z := 0) rfl (q := 1) rfl ?_
  refine o_istore X0 hx hby d6_1 (l' := #[rv o0, iv 0, rv o2, iv 0, iv 4, iv 0, .unset]) rfl (q := 3) rfl ?_
  refine o_iload X0 hx hby d6_3 rfl (q := 5) rfl ?_
  refine o_iload X0 hx hby d6_5 rfl (q := 7) rfl ?_
  refine o_icN X0 hx hby d6_7 (tlt (by decide : (0 : Int32) < (4 : Int32))).2.1 (q := 10) rfl ?_
  refine o_aloadN X0 hx hby d6_10 rfl rfl (q := 11) rfl ?_
  refine o_iloadN X0 hx hby d6_11 rfl (q := 12) rfl ?_
  refine o_caV X0 hx hby hZ e0 V0 ⟨by decide, by decide⟩ (v := .int c0) rfl d6_12 (q := 13) rfl ?_
  refine o_istore X0 hx hby d6_13 (l' := #[rv o0, iv 0, rv o2, iv 0, iv 4, iv 0, iv c0]) rfl (q := 15) rfl ?_
  refine o_iload X0 hx hby d6_15 rfl (q := 17) rfl ?_
  refine o_sipush X0 hx hby d6_17 (z := 255) rfl (q := 20) rfl ?_
  refine o_icN X0 hx hby d6_20 (tlt hb0).2.2.2 (q := 23) rfl ?_
  refine o_iload X0 hx hby d6_23 rfl (q := 25) rfl ?_
  exact own_outI X0 hx hlk hret (hb hby d6_25) (Q := Q6n4u0 Z o0 o2 k0 k2 c0 c1 c2 c3 h0 n0) (by rw [e0]; exact ⟨rfl, N0, (Keep.refl h0 [o2]), V2⟩) (by decide) (by decide)
theorem d20_0 : decode jdk_52_method_4_code 0 = .ok (.getstatic 44, 3) := by decide +kernel
theorem d20_3 : decode jdk_52_method_4_code 3 = .ok (.ifCond .ne 25, 3) := by decide +kernel
theorem d20_28 : decode jdk_52_method_4_code 28 = .ok (.iload_n 1, 1) := by decide +kernel
theorem d20_29 : decode jdk_52_method_4_code 29 = .ok (.iconst 1, 1) := by decide +kernel
theorem d20_30 : decode jdk_52_method_4_code 30 = .ok (.ishl, 1) := by decide +kernel
theorem d20_31 : decode jdk_52_method_4_code 31 = .ok (.istore_n 1, 1) := by decide +kernel
theorem d20_32 : decode jdk_52_method_4_code 32 = .ok (.aload_n 0, 1) := by decide +kernel
theorem d20_33 : decode jdk_52_method_4_code 33 = .ok (.iload_n 1, 1) := by decide +kernel
theorem d20_34 : decode jdk_52_method_4_code 34 = .ok (.iinc 1 1, 3) := by decide +kernel
theorem d20_37 : decode jdk_52_method_4_code 37 = .ok (.iload_n 2, 1) := by decide +kernel
theorem d20_38 : decode jdk_52_method_4_code 38 = .ok (.getstatic 59, 3) := by decide +kernel
theorem d20_41 : decode jdk_52_method_4_code 41 = .ok (.ishr, 1) := by decide +kernel
theorem d20_42 : decode jdk_52_method_4_code 42 = .ok (.i2b, 1) := by decide +kernel
theorem d20_43 : decode jdk_52_method_4_code 43 = .ok (.bastore, 1) := by decide +kernel
theorem d20_44 : decode jdk_52_method_4_code 44 = .ok (.aload_n 0, 1) := by decide +kernel
theorem d20_45 : decode jdk_52_method_4_code 45 = .ok (.iload_n 1, 1) := by decide +kernel
theorem d20_46 : decode jdk_52_method_4_code 46 = .ok (.iload_n 2, 1) := by decide +kernel
theorem d20_47 : decode jdk_52_method_4_code 47 = .ok (.getstatic 63, 3) := by decide +kernel
theorem d20_50 : decode jdk_52_method_4_code 50 = .ok (.ishr, 1) := by decide +kernel
theorem d20_51 : decode jdk_52_method_4_code 51 = .ok (.i2b, 1) := by decide +kernel
theorem d20_52 : decode jdk_52_method_4_code 52 = .ok (.bastore, 1) := by decide +kernel
theorem d20_53 : decode jdk_52_method_4_code 53 = .ok (.return_, 1) := by decide +kernel
theorem ef_20i0 (m : MethodId) (x0 : Addr) (x2 : Int32) : entryFrame m #[(.ref x0), (.int 0), (.int x2)] 3 = mkF m 0 #[.val (.ref x0), .val (.int 0), .val (.int x2)] [] := by first | (simp [entryFrame, mkF, argsToLocals, Value.category]; done) | rfl
def Q20i0 (Z : State) (o0 : Addr) (p2 : Int32) (k : ClassId) (u0 u1 u2 u3 u4 u5 u6 u7 : Int32) (h0 : Heap) (n0 : Nat) (v : Option Value) (h : Heap) (L : List Loc) : Prop := v = none ∧ Fr n0 L ∧ Keep h0 h [o0] ∧ Arv Z h o0 k .byte (8 : Int32) [(.int (((p2 >>> ((0 : Int32) &&& 31)).toInt8.toInt32).toInt8.toInt32)), (.int (((p2 >>> ((8 : Int32) &&& 31)).toInt8.toInt32).toInt8.toInt32)), (.int u2), (.int u3), (.int u4), (.int u5), (.int u6), (.int u7)] (.int 0)
set_option maxRecDepth 65536 in
set_option maxHeartbeats 40000000 in
theorem rm20i0 (l : Launch) (Z : State) (a0 : Array Value) (hw : ∀ d ∈ tables_1, d.before a0 Z = true) (ws : List Jvm.Cond) (o0 : Addr) (p2 : Int32) (k : ClassId) (u0 u1 u2 u3 u4 u5 u6 u7 : Int32) (h0 : Heap) (n0 : Nat) (Z0 : n0 ≤ h0.size) (V : Arv Z h0 o0 k .byte (8 : Int32) [(.int u0), (.int u1), (.int u2), (.int u3), (.int u4), (.int u5), (.int u6), (.int u7)] (.int 0)) (g_o0 : n0 ≤ o0) (S_ad : Sta Z h0 "java/lang/StringUTF16" "$assertionsDisabled" "Z" (.int 1)) (S_hi : Sta Z h0 "java/lang/StringUTF16" "HI_BYTE_SHIFT" "I" (.int 0)) (S_lo : Sta Z h0 "java/lang/StringUTF16" "LO_BYTE_SHIFT" "I" (.int 8)) :
    MetFree l (⟨"java/lang/StringUTF16", "putChar", "([BII)V"⟩ : MethodName) (head1 (Jvm.Cond.code (⟨"java/lang/StringUTF16", "putChar", "([BII)V"⟩ : MethodName) jdk_52_method_4_code 3 none :: ws) (⟨0, 0, 0, 0⟩ : Room)) (fun a U => a = #[(.ref o0), (.int 0), (.int p2)] ∧ Z.Warmed39 U.vm ∧ U.heap = h0) (fun _ _ _ _ _ => True) (fun _ U o U' => ∃ v L, o = .returned v ∧ Q20i0 Z o0 p2 k u0 u1 u2 u3 u4 u5 u6 u7 h0 n0 v U'.heap L ∧ FrameEnd U o U' L (⟨0, 0, 0, 0⟩ : Room).cells (⟨0, 0, 0, 0⟩ : Room).slots) := by
  refine MetFree.of_bodySF (plainFor_of_name pn_5) hisR ?_
  intro p e s m args below meth c s₁ Bd hml0 hP hK
  obtain ⟨rfl, hZ, hh⟩ := hP
  have hx := Bd.exec
  have hby := Bd.bytes
  have hml : c.maxLocals = 3 := hml0
  have hown : s.vm.findClass "java/lang/StringUTF16" = some m.cls := findClass_of_methodNamed Bd.named
  have hnm := (name_of_methodNamed Bd.named Bd.method).1
  have X0 : Stand p l e (⟨0, 0, 0, 0⟩ : Room) s m #[(.ref o0), (.int 0), (.int p2)] below meth c s₁ [] 0 0 := Stand.of_body Bd
  have e0 : s₁.heap = h0 := by rw [← hh, Bd.state]; rfl
  have N0 := Fr.nil n0
  have hret := Bd.returns
  have hlk := BodyLoose.notSynchronized Bd
  show own_Out p e below (fun o U' => ∃ v L, o = .returned v ∧ Q20i0 Z o0 p2 k u0 u1 u2 u3 u4 u5 u6 u7 h0 n0 v U'.heap L ∧ FrameEnd s o U' L (⟨0, 0, 0, 0⟩ : Room).cells (⟨0, 0, 0, 0⟩ : Room).slots) (s₁.setTop (entryFrame m #[(.ref o0), (.int 0), (.int p2)] 3))
  refine own_of (fun t k => castTop (ef_20i0 m o0 p2) k) ?_
  show own_Out p e below _ (s₁.setTop (mkF m 0 #[rv o0, iv 0, iv p2] []))
  obtain ⟨T1, X1, e1, st1⟩ := getS2 X0 hx hZ hown (host := "") (Or.inl (w_ hw 85 rfl)) Via.refl e0 S_ad (g := (mkF m 0 #[rv o0, iv 0, iv p2] [])) rfl (hb hby d20_0)
  refine own_of st1 ?_
  show own_Out p e below _ (T1.setTop (mkF m 3 #[rv o0, iv 0, iv p2] [.int 1]))
  refine o_ifY X1 hx hby d20_3 ((if0 _ _).trans (feq (by decide : ¬ ((1 : Int32) = (0 : Int32)))).2) (by decide) (q := 28) (by decide) ?_
  refine o_iloadN X1 hx hby d20_28 rfl (q := 29) rfl ?_
  refine o_iconst X1 hx hby d20_29 (z := 1) rfl (q := 30) rfl ?_
  refine o_ishl X1 hx hby d20_30 (z := 0) rfl (q := 31) rfl ?_
  refine o_istoreN X1 hx hby d20_31 (l' := #[rv o0, iv 0, iv p2]) rfl (q := 32) rfl ?_
  refine o_aloadN X1 hx hby d20_32 rfl rfl (q := 33) rfl ?_
  refine o_iloadN X1 hx hby d20_33 rfl (q := 34) rfl ?_
  refine o_iinc X1 hx hby d20_34 rfl (l' := #[rv o0, iv 1, iv p2]) rfl (q := 37) rfl ?_
  refine o_iloadN X1 hx hby d20_37 rfl (q := 38) rfl ?_
  obtain ⟨T2, X2, e2, st2⟩ := getS2 X1 hx hZ hown (host := "") (Or.inl (w_ hw 86 rfl)) Via.refl e1 S_hi (g := (mkF m 38 #[rv o0, iv 1, iv p2] [.int p2, .int 0, .ref o0])) rfl (hb hby d20_38)
  refine own_of st2 ?_
  show own_Out p e below _ (T2.setTop (mkF m 41 #[rv o0, iv 1, iv p2] [.int 0, .int p2, .int 0, .ref o0]))
  refine o_ishr X2 hx hby d20_41 rfl (q := 42) rfl ?_
  refine o_i2b X2 hx hby d20_42 rfl (q := 43) rfl ?_
  obtain ⟨cl3, Ar3, q3, S3, N3', H3, G3⟩ := id V
  have hin4 : ¬ ((0 : Int32) < 0 ∨ cl3.slots.size ≤ ((0 : Int32)).toNatClampNeg) := inb_of S3 ⟨by decide, by decide⟩
  obtain ⟨T4, h4, X4, e4, W4, st4⟩ := stB X2 hx hZ e2 Ar3 (j := (0 : Int32)) hin4 (g := (mkF m 43 #[rv o0, iv 1, iv p2] [.int ((p2 >>> ((0 : Int32) &&& 31)).toInt8.toInt32), .int 0, .ref o0])) rfl rfl (hb hby d20_43)
  have V4 := Arv.set Ar3 q3 S3 N3' H3 G3 (fits_nar_byte _) W4 0 rfl (Nat.le_of_ble_eq_true rfl)
  refine own_of st4 ?_
  show own_Out p e below _ (T4.setTop (mkF m 44 #[rv o0, iv 1, iv p2] []))
  refine o_aloadN X4 hx hby d20_44 rfl rfl (q := 45) rfl ?_
  refine o_iloadN X4 hx hby d20_45 rfl (q := 46) rfl ?_
  refine o_iloadN X4 hx hby d20_46 rfl (q := 47) rfl ?_
  have qz6 := (S_lo.wr W4)
  obtain ⟨T5, X5, e5, st5⟩ := getS2 X4 hx hZ hown (host := "") (Or.inl (w_ hw 87 rfl)) Via.refl e4 qz6 (g := (mkF m 47 #[rv o0, iv 1, iv p2] [.int p2, .int 1, .ref o0])) rfl (hb hby d20_47)
  refine own_of st5 ?_
  show own_Out p e below _ (T5.setTop (mkF m 50 #[rv o0, iv 1, iv p2] [.int 8, .int p2, .int 1, .ref o0]))
  refine o_ishr X5 hx hby d20_50 rfl (q := 51) rfl ?_
  refine o_i2b X5 hx hby d20_51 rfl (q := 52) rfl ?_
  obtain ⟨cl7, Ar7, q7, S7, N7', H7, G7⟩ := id V4
  have hin8 : ¬ ((1 : Int32) < 0 ∨ cl7.slots.size ≤ ((1 : Int32)).toNatClampNeg) := inb_of S7 ⟨by decide, by decide⟩
  obtain ⟨T8, h8, X8, e8, W8, st8⟩ := stB X5 hx hZ e5 Ar7 (j := (1 : Int32)) hin8 (g := (mkF m 52 #[rv o0, iv 1, iv p2] [.int ((p2 >>> ((8 : Int32) &&& 31)).toInt8.toInt32), .int 1, .ref o0])) rfl rfl (hb hby d20_52)
  have V8 := Arv.set Ar7 q7 S7 N7' H7 G7 (fits_nar_byte _) W8 1 rfl (Nat.le_of_ble_eq_true rfl)
  refine own_of st8 ?_
  show own_Out p e below _ (T8.setTop (mkF m 53 #[rv o0, iv 1, iv p2] []))
  have qz9 := (((Keep.refl h0 [o0]).wr W4 (Or.inl (List.mem_of_getElem? (i := 0) rfl))).wr W8 (Or.inl (List.mem_of_getElem? (i := 0) rfl)))
  exact own_outV X8 hx hlk hret (hb hby d20_53) (Q := Q20i0 Z o0 p2 k u0 u1 u2 u3 u4 u5 u6 u7 h0 n0) (by rw [e8]; exact ⟨rfl, (Fr.snoc X8 (Fr.snoc X4 N0 g_o0) g_o0), qz9, V8⟩) (by decide) (by decide)
theorem ef_20i1 (m : MethodId) (x0 : Addr) (x2 : Int32) : entryFrame m #[(.ref x0), (.int 1), (.int x2)] 3 = mkF m 0 #[.val (.ref x0), .val (.int 1), .val (.int x2)] [] := by first | (simp [entryFrame, mkF, argsToLocals, Value.category]; done) | rfl
def Q20i1 (Z : State) (o0 : Addr) (p2 : Int32) (k : ClassId) (u0 u1 u2 u3 u4 u5 u6 u7 : Int32) (h0 : Heap) (n0 : Nat) (v : Option Value) (h : Heap) (L : List Loc) : Prop := v = none ∧ Fr n0 L ∧ Keep h0 h [o0] ∧ Arv Z h o0 k .byte (8 : Int32) [(.int u0), (.int u1), (.int (((p2 >>> ((0 : Int32) &&& 31)).toInt8.toInt32).toInt8.toInt32)), (.int (((p2 >>> ((8 : Int32) &&& 31)).toInt8.toInt32).toInt8.toInt32)), (.int u4), (.int u5), (.int u6), (.int u7)] (.int 0)
set_option maxRecDepth 65536 in
set_option maxHeartbeats 40000000 in
theorem rm20i1 (l : Launch) (Z : State) (a0 : Array Value) (hw : ∀ d ∈ tables_1, d.before a0 Z = true) (ws : List Jvm.Cond) (o0 : Addr) (p2 : Int32) (k : ClassId) (u0 u1 u2 u3 u4 u5 u6 u7 : Int32) (h0 : Heap) (n0 : Nat) (Z0 : n0 ≤ h0.size) (V : Arv Z h0 o0 k .byte (8 : Int32) [(.int u0), (.int u1), (.int u2), (.int u3), (.int u4), (.int u5), (.int u6), (.int u7)] (.int 0)) (g_o0 : n0 ≤ o0) (S_ad : Sta Z h0 "java/lang/StringUTF16" "$assertionsDisabled" "Z" (.int 1)) (S_hi : Sta Z h0 "java/lang/StringUTF16" "HI_BYTE_SHIFT" "I" (.int 0)) (S_lo : Sta Z h0 "java/lang/StringUTF16" "LO_BYTE_SHIFT" "I" (.int 8)) :
    MetFree l (⟨"java/lang/StringUTF16", "putChar", "([BII)V"⟩ : MethodName) (head1 (Jvm.Cond.code (⟨"java/lang/StringUTF16", "putChar", "([BII)V"⟩ : MethodName) jdk_52_method_4_code 3 none :: ws) (⟨0, 0, 0, 0⟩ : Room)) (fun a U => a = #[(.ref o0), (.int 1), (.int p2)] ∧ Z.Warmed39 U.vm ∧ U.heap = h0) (fun _ _ _ _ _ => True) (fun _ U o U' => ∃ v L, o = .returned v ∧ Q20i1 Z o0 p2 k u0 u1 u2 u3 u4 u5 u6 u7 h0 n0 v U'.heap L ∧ FrameEnd U o U' L (⟨0, 0, 0, 0⟩ : Room).cells (⟨0, 0, 0, 0⟩ : Room).slots) := by
  refine MetFree.of_bodySF (plainFor_of_name pn_5) hisR ?_
  intro p e s m args below meth c s₁ Bd hml0 hP hK
  obtain ⟨rfl, hZ, hh⟩ := hP
  have hx := Bd.exec
  have hby := Bd.bytes
  have hml : c.maxLocals = 3 := hml0
  have hown : s.vm.findClass "java/lang/StringUTF16" = some m.cls := findClass_of_methodNamed Bd.named
  have hnm := (name_of_methodNamed Bd.named Bd.method).1
  have X0 : Stand p l e (⟨0, 0, 0, 0⟩ : Room) s m #[(.ref o0), (.int 1), (.int p2)] below meth c s₁ [] 0 0 := Stand.of_body Bd
  have e0 : s₁.heap = h0 := by rw [← hh, Bd.state]; rfl
  have N0 := Fr.nil n0
  have hret := Bd.returns
  have hlk := BodyLoose.notSynchronized Bd
  show own_Out p e below (fun o U' => ∃ v L, o = .returned v ∧ Q20i1 Z o0 p2 k u0 u1 u2 u3 u4 u5 u6 u7 h0 n0 v U'.heap L ∧ FrameEnd s o U' L (⟨0, 0, 0, 0⟩ : Room).cells (⟨0, 0, 0, 0⟩ : Room).slots) (s₁.setTop (entryFrame m #[(.ref o0), (.int 1), (.int p2)] 3))
  refine own_of (fun t k => castTop (ef_20i1 m o0 p2) k) ?_
  show own_Out p e below _ (s₁.setTop (mkF m 0 #[rv o0, iv 1, iv p2] []))
  obtain ⟨T1, X1, e1, st1⟩ := getS2 X0 hx hZ hown (host := "") (Or.inl (w_ hw 85 rfl)) Via.refl e0 S_ad (g := (mkF m 0 #[rv o0, iv 1, iv p2] [])) rfl (hb hby d20_0)
  refine own_of st1 ?_
  show own_Out p e below _ (T1.setTop (mkF m 3 #[rv o0, iv 1, iv p2] [.int 1]))
  refine o_ifY X1 hx hby d20_3 ((if0 _ _).trans (feq (by decide : ¬ ((1 : Int32) = (0 : Int32)))).2) (by decide) (q := 28) (by decide) ?_
  refine o_iloadN X1 hx hby d20_28 rfl (q := 29) rfl ?_
  refine o_iconst X1 hx hby d20_29 (z := 1) rfl (q := 30) rfl ?_
  refine o_ishl X1 hx hby d20_30 (z := 2) rfl (q := 31) rfl ?_
  refine o_istoreN X1 hx hby d20_31 (l' := #[rv o0, iv 2, iv p2]) rfl (q := 32) rfl ?_
  refine o_aloadN X1 hx hby d20_32 rfl rfl (q := 33) rfl ?_
  refine o_iloadN X1 hx hby d20_33 rfl (q := 34) rfl ?_
  refine o_iinc X1 hx hby d20_34 rfl (l' := #[rv o0, iv 3, iv p2]) rfl (q := 37) rfl ?_
  refine o_iloadN X1 hx hby d20_37 rfl (q := 38) rfl ?_
  obtain ⟨T2, X2, e2, st2⟩ := getS2 X1 hx hZ hown (host := "") (Or.inl (w_ hw 86 rfl)) Via.refl e1 S_hi (g := (mkF m 38 #[rv o0, iv 3, iv p2] [.int p2, .int 2, .ref o0])) rfl (hb hby d20_38)
  refine own_of st2 ?_
  show own_Out p e below _ (T2.setTop (mkF m 41 #[rv o0, iv 3, iv p2] [.int 0, .int p2, .int 2, .ref o0]))
  refine o_ishr X2 hx hby d20_41 rfl (q := 42) rfl ?_
  refine o_i2b X2 hx hby d20_42 rfl (q := 43) rfl ?_
  obtain ⟨cl3, Ar3, q3, S3, N3', H3, G3⟩ := id V
  have hin4 : ¬ ((2 : Int32) < 0 ∨ cl3.slots.size ≤ ((2 : Int32)).toNatClampNeg) := inb_of S3 ⟨by decide, by decide⟩
  obtain ⟨T4, h4, X4, e4, W4, st4⟩ := stB X2 hx hZ e2 Ar3 (j := (2 : Int32)) hin4 (g := (mkF m 43 #[rv o0, iv 3, iv p2] [.int ((p2 >>> ((0 : Int32) &&& 31)).toInt8.toInt32), .int 2, .ref o0])) rfl rfl (hb hby d20_43)
  have V4 := Arv.set Ar3 q3 S3 N3' H3 G3 (fits_nar_byte _) W4 2 rfl (Nat.le_of_ble_eq_true rfl)
  refine own_of st4 ?_
  show own_Out p e below _ (T4.setTop (mkF m 44 #[rv o0, iv 3, iv p2] []))
  refine o_aloadN X4 hx hby d20_44 rfl rfl (q := 45) rfl ?_
  refine o_iloadN X4 hx hby d20_45 rfl (q := 46) rfl ?_
  refine o_iloadN X4 hx hby d20_46 rfl (q := 47) rfl ?_
  have qz6 := (S_lo.wr W4)
  obtain ⟨T5, X5, e5, st5⟩ := getS2 X4 hx hZ hown (host := "") (Or.inl (w_ hw 87 rfl)) Via.refl e4 qz6 (g := (mkF m 47 #[rv o0, iv 3, iv p2] [.int p2, .int 3, .ref o0])) rfl (hb hby d20_47)
  refine own_of st5 ?_
  show own_Out p e below _ (T5.setTop (mkF m 50 #[rv o0, iv 3, iv p2] [.int 8, .int p2, .int 3, .ref o0]))
  refine o_ishr X5 hx hby d20_50 rfl (q := 51) rfl ?_
  refine o_i2b X5 hx hby d20_51 rfl (q := 52) rfl ?_
  obtain ⟨cl7, Ar7, q7, S7, N7', H7, G7⟩ := id V4
  have hin8 : ¬ ((3 : Int32) < 0 ∨ cl7.slots.size ≤ ((3 : Int32)).toNatClampNeg) := inb_of S7 ⟨by decide, by decide⟩
  obtain ⟨T8, h8, X8, e8, W8, st8⟩ := stB X5 hx hZ e5 Ar7 (j := (3 : Int32)) hin8 (g := (mkF m 52 #[rv o0, iv 3, iv p2] [.int ((p2 >>> ((8 : Int32) &&& 31)).toInt8.toInt32), .int 3, .ref o0])) rfl rfl (hb hby d20_52)
  have V8 := Arv.set Ar7 q7 S7 N7' H7 G7 (fits_nar_byte _) W8 3 rfl (Nat.le_of_ble_eq_true rfl)
  refine own_of st8 ?_
  show own_Out p e below _ (T8.setTop (mkF m 53 #[rv o0, iv 3, iv p2] []))
  have qz9 := (((Keep.refl h0 [o0]).wr W4 (Or.inl (List.mem_of_getElem? (i := 0) rfl))).wr W8 (Or.inl (List.mem_of_getElem? (i := 0) rfl)))
  exact own_outV X8 hx hlk hret (hb hby d20_53) (Q := Q20i1 Z o0 p2 k u0 u1 u2 u3 u4 u5 u6 u7 h0 n0) (by rw [e8]; exact ⟨rfl, (Fr.snoc X8 (Fr.snoc X4 N0 g_o0) g_o0), qz9, V8⟩) (by decide) (by decide)
theorem ef_20i2 (m : MethodId) (x0 : Addr) (x2 : Int32) : entryFrame m #[(.ref x0), (.int 2), (.int x2)] 3 = mkF m 0 #[.val (.ref x0), .val (.int 2), .val (.int x2)] [] := by first | (simp [entryFrame, mkF, argsToLocals, Value.category]; done) | rfl
def Q20i2 (Z : State) (o0 : Addr) (p2 : Int32) (k : ClassId) (u0 u1 u2 u3 u4 u5 u6 u7 : Int32) (h0 : Heap) (n0 : Nat) (v : Option Value) (h : Heap) (L : List Loc) : Prop := v = none ∧ Fr n0 L ∧ Keep h0 h [o0] ∧ Arv Z h o0 k .byte (8 : Int32) [(.int u0), (.int u1), (.int u2), (.int u3), (.int (((p2 >>> ((0 : Int32) &&& 31)).toInt8.toInt32).toInt8.toInt32)), (.int (((p2 >>> ((8 : Int32) &&& 31)).toInt8.toInt32).toInt8.toInt32)), (.int u6), (.int u7)] (.int 0)
set_option maxRecDepth 65536 in
set_option maxHeartbeats 40000000 in
theorem rm20i2 (l : Launch) (Z : State) (a0 : Array Value) (hw : ∀ d ∈ tables_1, d.before a0 Z = true) (ws : List Jvm.Cond) (o0 : Addr) (p2 : Int32) (k : ClassId) (u0 u1 u2 u3 u4 u5 u6 u7 : Int32) (h0 : Heap) (n0 : Nat) (Z0 : n0 ≤ h0.size) (V : Arv Z h0 o0 k .byte (8 : Int32) [(.int u0), (.int u1), (.int u2), (.int u3), (.int u4), (.int u5), (.int u6), (.int u7)] (.int 0)) (g_o0 : n0 ≤ o0) (S_ad : Sta Z h0 "java/lang/StringUTF16" "$assertionsDisabled" "Z" (.int 1)) (S_hi : Sta Z h0 "java/lang/StringUTF16" "HI_BYTE_SHIFT" "I" (.int 0)) (S_lo : Sta Z h0 "java/lang/StringUTF16" "LO_BYTE_SHIFT" "I" (.int 8)) :
    MetFree l (⟨"java/lang/StringUTF16", "putChar", "([BII)V"⟩ : MethodName) (head1 (Jvm.Cond.code (⟨"java/lang/StringUTF16", "putChar", "([BII)V"⟩ : MethodName) jdk_52_method_4_code 3 none :: ws) (⟨0, 0, 0, 0⟩ : Room)) (fun a U => a = #[(.ref o0), (.int 2), (.int p2)] ∧ Z.Warmed39 U.vm ∧ U.heap = h0) (fun _ _ _ _ _ => True) (fun _ U o U' => ∃ v L, o = .returned v ∧ Q20i2 Z o0 p2 k u0 u1 u2 u3 u4 u5 u6 u7 h0 n0 v U'.heap L ∧ FrameEnd U o U' L (⟨0, 0, 0, 0⟩ : Room).cells (⟨0, 0, 0, 0⟩ : Room).slots) := by
  refine MetFree.of_bodySF (plainFor_of_name pn_5) hisR ?_
  intro p e s m args below meth c s₁ Bd hml0 hP hK
  obtain ⟨rfl, hZ, hh⟩ := hP
  have hx := Bd.exec
  have hby := Bd.bytes
  have hml : c.maxLocals = 3 := hml0
  have hown : s.vm.findClass "java/lang/StringUTF16" = some m.cls := findClass_of_methodNamed Bd.named
  have hnm := (name_of_methodNamed Bd.named Bd.method).1
  have X0 : Stand p l e (⟨0, 0, 0, 0⟩ : Room) s m #[(.ref o0), (.int 2), (.int p2)] below meth c s₁ [] 0 0 := Stand.of_body Bd
  have e0 : s₁.heap = h0 := by rw [← hh, Bd.state]; rfl
  have N0 := Fr.nil n0
  have hret := Bd.returns
  have hlk := BodyLoose.notSynchronized Bd
  show own_Out p e below (fun o U' => ∃ v L, o = .returned v ∧ Q20i2 Z o0 p2 k u0 u1 u2 u3 u4 u5 u6 u7 h0 n0 v U'.heap L ∧ FrameEnd s o U' L (⟨0, 0, 0, 0⟩ : Room).cells (⟨0, 0, 0, 0⟩ : Room).slots) (s₁.setTop (entryFrame m #[(.ref o0), (.int 2), (.int p2)] 3))
  refine own_of (fun t k => castTop (ef_20i2 m o0 p2) k) ?_
  show own_Out p e below _ (s₁.setTop (mkF m 0 #[rv o0, iv 2, iv p2] []))
  obtain ⟨T1, X1, e1, st1⟩ := getS2 X0 hx hZ hown (host := "") (Or.inl (w_ hw 85 rfl)) Via.refl e0 S_ad (g := (mkF m 0 #[rv o0, iv 2, iv p2] [])) rfl (hb hby d20_0)
  refine own_of st1 ?_
  show own_Out p e below _ (T1.setTop (mkF m 3 #[rv o0, iv 2, iv p2] [.int 1]))
  refine o_ifY X1 hx hby d20_3 ((if0 _ _).trans (feq (by decide : ¬ ((1 : Int32) = (0 : Int32)))).2) (by decide) (q := 28) (by decide) ?_
  refine o_iloadN X1 hx hby d20_28 rfl (q := 29) rfl ?_
  refine o_iconst X1 hx hby d20_29 (z := 1) rfl (q := 30) rfl ?_
  refine o_ishl X1 hx hby d20_30 (z := 4) rfl (q := 31) rfl ?_
  refine o_istoreN X1 hx hby d20_31 (l' := #[rv o0, iv 4, iv p2]) rfl (q := 32) rfl ?_
  refine o_aloadN X1 hx hby d20_32 rfl rfl (q := 33) rfl ?_
  refine o_iloadN X1 hx hby d20_33 rfl (q := 34) rfl ?_
  refine o_iinc X1 hx hby d20_34 rfl (l' := #[rv o0, iv 5, iv p2]) rfl (q := 37) rfl ?_
  refine o_iloadN X1 hx hby d20_37 rfl (q := 38) rfl ?_
  obtain ⟨T2, X2, e2, st2⟩ := getS2 X1 hx hZ hown (host := "") (Or.inl (w_ hw 86 rfl)) Via.refl e1 S_hi (g := (mkF m 38 #[rv o0, iv 5, iv p2] [.int p2, .int 4, .ref o0])) rfl (hb hby d20_38)
  refine own_of st2 ?_
  show own_Out p e below _ (T2.setTop (mkF m 41 #[rv o0, iv 5, iv p2] [.int 0, .int p2, .int 4, .ref o0]))
  refine o_ishr X2 hx hby d20_41 rfl (q := 42) rfl ?_
  refine o_i2b X2 hx hby d20_42 rfl (q := 43) rfl ?_
  obtain ⟨cl3, Ar3, q3, S3, N3', H3, G3⟩ := id V
  have hin4 : ¬ ((4 : Int32) < 0 ∨ cl3.slots.size ≤ ((4 : Int32)).toNatClampNeg) := inb_of S3 ⟨by decide, by decide⟩
  obtain ⟨T4, h4, X4, e4, W4, st4⟩ := stB X2 hx hZ e2 Ar3 (j := (4 : Int32)) hin4 (g := (mkF m 43 #[rv o0, iv 5, iv p2] [.int ((p2 >>> ((0 : Int32) &&& 31)).toInt8.toInt32), .int 4, .ref o0])) rfl rfl (hb hby d20_43)
  have V4 := Arv.set Ar3 q3 S3 N3' H3 G3 (fits_nar_byte _) W4 4 rfl (Nat.le_of_ble_eq_true rfl)
  refine own_of st4 ?_
  show own_Out p e below _ (T4.setTop (mkF m 44 #[rv o0, iv 5, iv p2] []))
  refine o_aloadN X4 hx hby d20_44 rfl rfl (q := 45) rfl ?_
  refine o_iloadN X4 hx hby d20_45 rfl (q := 46) rfl ?_
  refine o_iloadN X4 hx hby d20_46 rfl (q := 47) rfl ?_
  have qz6 := (S_lo.wr W4)
  obtain ⟨T5, X5, e5, st5⟩ := getS2 X4 hx hZ hown (host := "") (Or.inl (w_ hw 87 rfl)) Via.refl e4 qz6 (g := (mkF m 47 #[rv o0, iv 5, iv p2] [.int p2, .int 5, .ref o0])) rfl (hb hby d20_47)
  refine own_of st5 ?_
  show own_Out p e below _ (T5.setTop (mkF m 50 #[rv o0, iv 5, iv p2] [.int 8, .int p2, .int 5, .ref o0]))
  refine o_ishr X5 hx hby d20_50 rfl (q := 51) rfl ?_
  refine o_i2b X5 hx hby d20_51 rfl (q := 52) rfl ?_
  obtain ⟨cl7, Ar7, q7, S7, N7', H7, G7⟩ := id V4
  have hin8 : ¬ ((5 : Int32) < 0 ∨ cl7.slots.size ≤ ((5 : Int32)).toNatClampNeg) := inb_of S7 ⟨by decide, by decide⟩
  obtain ⟨T8, h8, X8, e8, W8, st8⟩ := stB X5 hx hZ e5 Ar7 (j := (5 : Int32)) hin8 (g := (mkF m 52 #[rv o0, iv 5, iv p2] [.int ((p2 >>> ((8 : Int32) &&& 31)).toInt8.toInt32), .int 5, .ref o0])) rfl rfl (hb hby d20_52)
  have V8 := Arv.set Ar7 q7 S7 N7' H7 G7 (fits_nar_byte _) W8 5 rfl (Nat.le_of_ble_eq_true rfl)
  refine own_of st8 ?_
  show own_Out p e below _ (T8.setTop (mkF m 53 #[rv o0, iv 5, iv p2] []))
  have qz9 := (((Keep.refl h0 [o0]).wr W4 (Or.inl (List.mem_of_getElem? (i := 0) rfl))).wr W8 (Or.inl (List.mem_of_getElem? (i := 0) rfl)))
  exact own_outV X8 hx hlk hret (hb hby d20_53) (Q := Q20i2 Z o0 p2 k u0 u1 u2 u3 u4 u5 u6 u7 h0 n0) (by rw [e8]; exact ⟨rfl, (Fr.snoc X8 (Fr.snoc X4 N0 g_o0) g_o0), qz9, V8⟩) (by decide) (by decide)
theorem ef_20i3 (m : MethodId) (x0 : Addr) (x2 : Int32) : entryFrame m #[(.ref x0), (.int 3), (.int x2)] 3 = mkF m 0 #[.val (.ref x0), .val (.int 3), .val (.int x2)] [] := by first | (simp [entryFrame, mkF, argsToLocals, Value.category]; done) | rfl
def Q20i3 (Z : State) (o0 : Addr) (p2 : Int32) (k : ClassId) (u0 u1 u2 u3 u4 u5 u6 u7 : Int32) (h0 : Heap) (n0 : Nat) (v : Option Value) (h : Heap) (L : List Loc) : Prop := v = none ∧ Fr n0 L ∧ Keep h0 h [o0] ∧ Arv Z h o0 k .byte (8 : Int32) [(.int u0), (.int u1), (.int u2), (.int u3), (.int u4), (.int u5), (.int (((p2 >>> ((0 : Int32) &&& 31)).toInt8.toInt32).toInt8.toInt32)), (.int (((p2 >>> ((8 : Int32) &&& 31)).toInt8.toInt32).toInt8.toInt32))] (.int 0)
set_option maxRecDepth 65536 in
set_option maxHeartbeats 40000000 in
theorem rm20i3 (l : Launch) (Z : State) (a0 : Array Value) (hw : ∀ d ∈ tables_1, d.before a0 Z = true) (ws : List Jvm.Cond) (o0 : Addr) (p2 : Int32) (k : ClassId) (u0 u1 u2 u3 u4 u5 u6 u7 : Int32) (h0 : Heap) (n0 : Nat) (Z0 : n0 ≤ h0.size) (V : Arv Z h0 o0 k .byte (8 : Int32) [(.int u0), (.int u1), (.int u2), (.int u3), (.int u4), (.int u5), (.int u6), (.int u7)] (.int 0)) (g_o0 : n0 ≤ o0) (S_ad : Sta Z h0 "java/lang/StringUTF16" "$assertionsDisabled" "Z" (.int 1)) (S_hi : Sta Z h0 "java/lang/StringUTF16" "HI_BYTE_SHIFT" "I" (.int 0)) (S_lo : Sta Z h0 "java/lang/StringUTF16" "LO_BYTE_SHIFT" "I" (.int 8)) :
    MetFree l (⟨"java/lang/StringUTF16", "putChar", "([BII)V"⟩ : MethodName) (head1 (Jvm.Cond.code (⟨"java/lang/StringUTF16", "putChar", "([BII)V"⟩ : MethodName) jdk_52_method_4_code 3 none :: ws) (⟨0, 0, 0, 0⟩ : Room)) (fun a U => a = #[(.ref o0), (.int 3), (.int p2)] ∧ Z.Warmed39 U.vm ∧ U.heap = h0) (fun _ _ _ _ _ => True) (fun _ U o U' => ∃ v L, o = .returned v ∧ Q20i3 Z o0 p2 k u0 u1 u2 u3 u4 u5 u6 u7 h0 n0 v U'.heap L ∧ FrameEnd U o U' L (⟨0, 0, 0, 0⟩ : Room).cells (⟨0, 0, 0, 0⟩ : Room).slots) := by
  refine MetFree.of_bodySF (plainFor_of_name pn_5) hisR ?_
  intro p e s m args below meth c s₁ Bd hml0 hP hK
  obtain ⟨rfl, hZ, hh⟩ := hP
  have hx := Bd.exec
  have hby := Bd.bytes
  have hml : c.maxLocals = 3 := hml0
  have hown : s.vm.findClass "java/lang/StringUTF16" = some m.cls := findClass_of_methodNamed Bd.named
  have hnm := (name_of_methodNamed Bd.named Bd.method).1
  have X0 : Stand p l e (⟨0, 0, 0, 0⟩ : Room) s m #[(.ref o0), (.int 3), (.int p2)] below meth c s₁ [] 0 0 := Stand.of_body Bd
  have e0 : s₁.heap = h0 := by rw [← hh, Bd.state]; rfl
  have N0 := Fr.nil n0
  have hret := Bd.returns
  have hlk := BodyLoose.notSynchronized Bd
  show own_Out p e below (fun o U' => ∃ v L, o = .returned v ∧ Q20i3 Z o0 p2 k u0 u1 u2 u3 u4 u5 u6 u7 h0 n0 v U'.heap L ∧ FrameEnd s o U' L (⟨0, 0, 0, 0⟩ : Room).cells (⟨0, 0, 0, 0⟩ : Room).slots) (s₁.setTop (entryFrame m #[(.ref o0), (.int 3), (.int p2)] 3))
  refine own_of (fun t k => castTop (ef_20i3 m o0 p2) k) ?_
  show own_Out p e below _ (s₁.setTop (mkF m 0 #[rv o0, iv 3, iv p2] []))
  obtain ⟨T1, X1, e1, st1⟩ := getS2 X0 hx hZ hown (host := "") (Or.inl (w_ hw 85 rfl)) Via.refl e0 S_ad (g := (mkF m 0 #[rv o0, iv 3, iv p2] [])) rfl (hb hby d20_0)
  refine own_of st1 ?_
  show own_Out p e below _ (T1.setTop (mkF m 3 #[rv o0, iv 3, iv p2] [.int 1]))
  refine o_ifY X1 hx hby d20_3 ((if0 _ _).trans (feq (by decide : ¬ ((1 : Int32) = (0 : Int32)))).2) (by decide) (q := 28) (by decide) ?_
  refine o_iloadN X1 hx hby d20_28 rfl (q := 29) rfl ?_
  refine o_iconst X1 hx hby d20_29 (z := 1) rfl (q := 30) rfl ?_
  refine o_ishl X1 hx hby d20_30 (z := 6) rfl (q := 31) rfl ?_
  refine o_istoreN X1 hx hby d20_31 (l' := #[rv o0, iv 6, iv p2]) rfl (q := 32) rfl ?_
  refine o_aloadN X1 hx hby d20_32 rfl rfl (q := 33) rfl ?_
  refine o_iloadN X1 hx hby d20_33 rfl (q := 34) rfl ?_
  refine o_iinc X1 hx hby d20_34 rfl (l' := #[rv o0, iv 7, iv p2]) rfl (q := 37) rfl ?_
  refine o_iloadN X1 hx hby d20_37 rfl (q := 38) rfl ?_
  obtain ⟨T2, X2, e2, st2⟩ := getS2 X1 hx hZ hown (host := "") (Or.inl (w_ hw 86 rfl)) Via.refl e1 S_hi (g := (mkF m 38 #[rv o0, iv 7, iv p2] [.int p2, .int 6, .ref o0])) rfl (hb hby d20_38)
  refine own_of st2 ?_
  show own_Out p e below _ (T2.setTop (mkF m 41 #[rv o0, iv 7, iv p2] [.int 0, .int p2, .int 6, .ref o0]))
  refine o_ishr X2 hx hby d20_41 rfl (q := 42) rfl ?_
  refine o_i2b X2 hx hby d20_42 rfl (q := 43) rfl ?_
  obtain ⟨cl3, Ar3, q3, S3, N3', H3, G3⟩ := id V
  have hin4 : ¬ ((6 : Int32) < 0 ∨ cl3.slots.size ≤ ((6 : Int32)).toNatClampNeg) := inb_of S3 ⟨by decide, by decide⟩
  obtain ⟨T4, h4, X4, e4, W4, st4⟩ := stB X2 hx hZ e2 Ar3 (j := (6 : Int32)) hin4 (g := (mkF m 43 #[rv o0, iv 7, iv p2] [.int ((p2 >>> ((0 : Int32) &&& 31)).toInt8.toInt32), .int 6, .ref o0])) rfl rfl (hb hby d20_43)
  have V4 := Arv.set Ar3 q3 S3 N3' H3 G3 (fits_nar_byte _) W4 6 rfl (Nat.le_of_ble_eq_true rfl)
  refine own_of st4 ?_
  show own_Out p e below _ (T4.setTop (mkF m 44 #[rv o0, iv 7, iv p2] []))
  refine o_aloadN X4 hx hby d20_44 rfl rfl (q := 45) rfl ?_
  refine o_iloadN X4 hx hby d20_45 rfl (q := 46) rfl ?_
  refine o_iloadN X4 hx hby d20_46 rfl (q := 47) rfl ?_
  have qz6 := (S_lo.wr W4)
  obtain ⟨T5, X5, e5, st5⟩ := getS2 X4 hx hZ hown (host := "") (Or.inl (w_ hw 87 rfl)) Via.refl e4 qz6 (g := (mkF m 47 #[rv o0, iv 7, iv p2] [.int p2, .int 7, .ref o0])) rfl (hb hby d20_47)
  refine own_of st5 ?_
  show own_Out p e below _ (T5.setTop (mkF m 50 #[rv o0, iv 7, iv p2] [.int 8, .int p2, .int 7, .ref o0]))
  refine o_ishr X5 hx hby d20_50 rfl (q := 51) rfl ?_
  refine o_i2b X5 hx hby d20_51 rfl (q := 52) rfl ?_
  obtain ⟨cl7, Ar7, q7, S7, N7', H7, G7⟩ := id V4
  have hin8 : ¬ ((7 : Int32) < 0 ∨ cl7.slots.size ≤ ((7 : Int32)).toNatClampNeg) := inb_of S7 ⟨by decide, by decide⟩
  obtain ⟨T8, h8, X8, e8, W8, st8⟩ := stB X5 hx hZ e5 Ar7 (j := (7 : Int32)) hin8 (g := (mkF m 52 #[rv o0, iv 7, iv p2] [.int ((p2 >>> ((8 : Int32) &&& 31)).toInt8.toInt32), .int 7, .ref o0])) rfl rfl (hb hby d20_52)
  have V8 := Arv.set Ar7 q7 S7 N7' H7 G7 (fits_nar_byte _) W8 7 rfl (Nat.le_of_ble_eq_true rfl)
  refine own_of st8 ?_
  show own_Out p e below _ (T8.setTop (mkF m 53 #[rv o0, iv 7, iv p2] []))
  have qz9 := (((Keep.refl h0 [o0]).wr W4 (Or.inl (List.mem_of_getElem? (i := 0) rfl))).wr W8 (Or.inl (List.mem_of_getElem? (i := 0) rfl)))
  exact own_outV X8 hx hlk hret (hb hby d20_53) (Q := Q20i3 Z o0 p2 k u0 u1 u2 u3 u4 u5 u6 u7 h0 n0) (by rw [e8]; exact ⟨rfl, (Fr.snoc X8 (Fr.snoc X4 N0 g_o0) g_o0), qz9, V8⟩) (by decide) (by decide)
theorem d19_0 : decode jdk_52_method_3_code 0 = .ok (.iload_n 0, 1) := by decide +kernel
theorem d19_1 : decode jdk_52_method_3_code 1 = .ok (.ifCond .ge 11, 3) := by decide +kernel
theorem d19_12 : decode jdk_52_method_3_code 12 = .ok (.iload_n 0, 1) := by decide +kernel
theorem d19_13 : decode jdk_52_method_3_code 13 = .ok (.ldc 20, 2) := by decide +kernel
theorem d19_15 : decode jdk_52_method_3_code 15 = .ok (.if_icmp .lt 40, 3) := by decide +kernel
theorem d19_55 : decode jdk_52_method_3_code 55 = .ok (.iload_n 0, 1) := by decide +kernel
theorem d19_56 : decode jdk_52_method_3_code 56 = .ok (.iconst 1, 1) := by decide +kernel
theorem d19_57 : decode jdk_52_method_3_code 57 = .ok (.ishl, 1) := by decide +kernel
theorem d19_58 : decode jdk_52_method_3_code 58 = .ok (.ireturn, 1) := by decide +kernel
theorem ef_19 (m : MethodId)  : entryFrame m #[(.int 4)] 1 = mkF m 0 #[.val (.int 4)] [] := by first | (simp [entryFrame, mkF, argsToLocals, Value.category]; done) | rfl
def Q19 (Z : State)  (h0 : Heap) (n0 : Nat) (v : Option Value) (h : Heap) (L : List Loc) : Prop := v = some (.int 8) ∧ Fr n0 L ∧ h = h0
set_option maxRecDepth 65536 in
set_option maxHeartbeats 40000000 in
theorem rm19 (l : Launch) (Z : State) (a0 : Array Value) (hw : ∀ d ∈ tables_1, d.before a0 Z = true) (ws : List Jvm.Cond)  (h0 : Heap) (n0 : Nat) (Z0 : n0 ≤ h0.size) :
    MetFree l (⟨"java/lang/StringUTF16", "newBytesLength", "(I)I"⟩ : MethodName) (head1 (Jvm.Cond.code (⟨"java/lang/StringUTF16", "newBytesLength", "(I)I"⟩ : MethodName) jdk_52_method_3_code 1 (some .int) :: ws) (⟨0, 0, 0, 0⟩ : Room)) (fun a U => a = #[(.int 4)] ∧ Z.Warmed39 U.vm ∧ U.heap = h0) (fun _ _ _ _ _ => True) (fun _ U o U' => ∃ v L, o = .returned v ∧ Q19 Z  h0 n0 v U'.heap L ∧ FrameEnd U o U' L (⟨0, 0, 0, 0⟩ : Room).cells (⟨0, 0, 0, 0⟩ : Room).slots) := by
  refine MetFree.of_bodySF (plainFor_of_name pn_5) hisR ?_
  intro p e s m args below meth c s₁ Bd hml0 hP hK
  obtain ⟨rfl, hZ, hh⟩ := hP
  have hx := Bd.exec
  have hby := Bd.bytes
  have hml : c.maxLocals = 1 := hml0
  have hown : s.vm.findClass "java/lang/StringUTF16" = some m.cls := findClass_of_methodNamed Bd.named
  have hnm := (name_of_methodNamed Bd.named Bd.method).1
  have X0 : Stand p l e (⟨0, 0, 0, 0⟩ : Room) s m #[(.int 4)] below meth c s₁ [] 0 0 := Stand.of_body Bd
  have e0 : s₁.heap = h0 := by rw [← hh, Bd.state]; rfl
  have N0 := Fr.nil n0
  have hret := Bd.returns
  have hlk := BodyLoose.notSynchronized Bd
  show own_Out p e below (fun o U' => ∃ v L, o = .returned v ∧ Q19 Z  h0 n0 v U'.heap L ∧ FrameEnd s o U' L (⟨0, 0, 0, 0⟩ : Room).cells (⟨0, 0, 0, 0⟩ : Room).slots) (s₁.setTop (entryFrame m #[(.int 4)] 1))
  refine own_of (fun t k => castTop (ef_19 m ) k) ?_
  show own_Out p e below _ (s₁.setTop (mkF m 0 #[iv 4] []))
  refine o_iloadN X0 hx hby d19_0 rfl (q := 1) rfl ?_
  refine o_ifY X0 hx hby d19_1 ((if0 _ _).trans (flt (by decide : ¬ ((4 : Int32) < (0 : Int32)))).2.1) (by decide) (q := 12) (by decide) ?_
  refine o_iloadN X0 hx hby d19_12 rfl (q := 13) rfl ?_
  refine o_ldcI X0 hx hZ hown hby (w_ hw 81 rfl) d19_13 (q := 15) rfl ?_
  refine o_icY X0 hx hby d19_15 (tlt (by decide : (4 : Int32) < (1073741823 : Int32))).1 (by decide) (q := 55) (by decide) ?_
  refine o_iloadN X0 hx hby d19_55 rfl (q := 56) rfl ?_
  refine o_iconst X0 hx hby d19_56 (z := 1) rfl (q := 57) rfl ?_
  refine o_ishl X0 hx hby d19_57 (z := 8) rfl (q := 58) rfl ?_
  exact own_outI X0 hx hlk hret (hb hby d19_58) (Q := Q19 Z  h0 n0) ⟨rfl, N0, e0⟩ (by decide) (by decide)
theorem pd_11 : parseMethodDescriptor "(I)I" = some ⟨[.int], some .int⟩ := by decide +kernel
theorem d18_0 : decode jdk_52_method_2_code 0 = .ok (.iload_n 0, 1) := by decide +kernel
theorem d18_1 : decode jdk_52_method_2_code 1 = .ok (.invokestatic 11, 3) := by decide +kernel
theorem d18_4 : decode jdk_52_method_2_code 4 = .ok (.newarray .byte, 2) := by decide +kernel
theorem d18_6 : decode jdk_52_method_2_code 6 = .ok (.areturn, 1) := by decide +kernel
theorem ef_18 (m : MethodId)  : entryFrame m #[(.int 4)] 1 = mkF m 0 #[.val (.int 4)] [] := by first | (simp [entryFrame, mkF, argsToLocals, Value.category]; done) | rfl
def Q18 (Z : State)  (h0 : Heap) (n0 : Nat) (v : Option Value) (h : Heap) (L : List Loc) : Prop := ∃ (b : Addr) (k : ClassId), v = some (.ref b) ∧ Fr n0 L ∧ Keep h0 h [] ∧ Arv Z h b k .byte (8 : Int32) [(.int 0), (.int 0), (.int 0), (.int 0), (.int 0), (.int 0), (.int 0), (.int 0)] (.int 0) ∧ n0 ≤ b ∧ h0.size ≤ b
set_option maxRecDepth 65536 in
set_option maxHeartbeats 40000000 in
theorem rm18 (l : Launch) (Z : State) (a0 : Array Value) (hw : ∀ d ∈ tables_1, d.before a0 Z = true) (ws : List Jvm.Cond)  (h0 : Heap) (n0 : Nat) (Z0 : n0 ≤ h0.size) :
    MetFree l (⟨"java/lang/StringUTF16", "newBytesFor", "(I)[B"⟩ : MethodName) (head1 (Jvm.Cond.code (⟨"java/lang/StringUTF16", "newBytesFor", "(I)[B"⟩ : MethodName) jdk_52_method_2_code 1 (some (.array .byte)) :: ws) (⟨1, 1, 8, 12⟩ : Room)) (fun a U => a = #[(.int 4)] ∧ Z.Warmed39 U.vm ∧ U.heap = h0) (fun _ _ _ _ _ => True) (fun _ U o U' => ∃ v L, o = .returned v ∧ Q18 Z  h0 n0 v U'.heap L ∧ FrameEnd U o U' L (⟨1, 1, 8, 12⟩ : Room).cells (⟨1, 1, 8, 12⟩ : Room).slots) := by
  refine MetFree.of_bodySF (plainFor_of_name pn_5) hisR ?_
  intro p e s m args below meth c s₁ Bd hml0 hP hK
  obtain ⟨rfl, hZ, hh⟩ := hP
  have hx := Bd.exec
  have hby := Bd.bytes
  have hml : c.maxLocals = 1 := hml0
  have hown : s.vm.findClass "java/lang/StringUTF16" = some m.cls := findClass_of_methodNamed Bd.named
  have hnm := (name_of_methodNamed Bd.named Bd.method).1
  have X0 : Stand p l e (⟨1, 1, 8, 12⟩ : Room) s m #[(.int 4)] below meth c s₁ [] 0 0 := Stand.of_body Bd
  have e0 : s₁.heap = h0 := by rw [← hh, Bd.state]; rfl
  have N0 := Fr.nil n0
  have hret := Bd.returns
  have hlk := BodyLoose.notSynchronized Bd
  show own_Out p e below (fun o U' => ∃ v L, o = .returned v ∧ Q18 Z  h0 n0 v U'.heap L ∧ FrameEnd s o U' L (⟨1, 1, 8, 12⟩ : Room).cells (⟨1, 1, 8, 12⟩ : Room).slots) (s₁.setTop (entryFrame m #[(.int 4)] 1))
  refine own_of (fun t k => castTop (ef_18 m ) k) ?_
  show own_Out p e below _ (s₁.setTop (mkF m 0 #[iv 4] []))
  refine o_iloadN X0 hx hby d18_0 rfl (q := 1) rfl ?_
  obtain ⟨_, _, ⟨T1, L1, k1, n1⟩, -, X1, ⟨Lc1, hQ1, l1, y1, z1⟩, st1⟩ := Jvm.LawKit.callS X0 hx (y := (⟨"java/lang/StringUTF16", "newBytesLength", "(I)I"⟩ : MethodName)) hown (mvT hZ (w_ hw 78 rfl)) (mvT hZ (w_ hw 79 rfl)) (mvT hZ (w_ hw 22 rfl)) (mvT hZ (w_ hw 80 rfl)) (by decide) (backOf (W := 0) (rm19 l Z a0 hw []  h0 n0 Z0 ) hZ (w_ hw 80 rfl) (w_ hw 22 rfl) (by decide) (by decide)) (g := (mkF m 1 #[iv 4] [.int 4])) rfl (by rw [hml]; rfl) (argsL := [(.int 4)]) (rest := []) (lenOf pd_11 rfl) rfl (by show 2 * 0 + _ ≤ _; exact Nat.le_of_eq rfl) (hb hby d18_1) (fun _ _ => ⟨rfl, e0, (by decide : 0 + 0 ≤ _), (by decide : 0 + 0 ≤ _)⟩)
  dsimp only [Pt.U, Pt.locs, Pt.cells, Pt.slots] at X1 l1 y1 z1 st1 hQ1
  subst l1 y1 z1
  obtain ⟨rfl, N1q, hh1⟩ := hQ1
  have N1 := Fr.app N0 N1q
  refine own_of st1 ?_
  show own_Out p e below _ (T1.setTop (mkF m 4 #[iv 4] [.int 8]))
  obtain ⟨T2, h2, k2, X2, e2, E2, A2, st2⟩ := newP X1 hx hZ (w_ hw 24 rfl) hh1 (g := (mkF m 4 #[iv 4] [.int 8])) rfl (hb hby d18_4) rfl (by decide) (cap := 8) (by decide) (by decide) (by decide) (by decide)
  obtain ⟨b2, g2⟩ : ∃ z, z = h0.size := ⟨_, rfl⟩
  rw [← g2] at A2 st2
  have g_b2 : n0 ≤ b2 := Nat.le_trans Z0 (Nat.le_of_eq g2.symm)
  have sz_b2 : h0.size ≤ b2 := Nat.le_trans (Nat.le_refl h0.size) (Nat.le_of_eq g2.symm)
  have V_b2 : Arv Z h2 b2 k2 .byte (8 : Int32) [(.int 0), (.int 0), (.int 0), (.int 0), (.int 0), (.int 0), (.int 0), (.int 0)] (.int 0) := (Arv.new A2 (by decide)).pad (pad_rep [] (.int 0) 8)
  refine own_of st2 ?_
  show own_Out p e below _ (T2.setTop (mkF m 6 #[iv 4] [.ref b2]))
  have qz3 := ((Keep.refl h0 []).ext E2)
  exact own_outR X2 hx hlk hret rfl rfl rfl (hb hby d18_6) (Q := Q18 Z  h0 n0) (by rw [e2]; exact ⟨b2, k2, rfl, N1, qz3, V_b2, g_b2, sz_b2⟩) (by decide) (by decide)
theorem pd_12 : parseMethodDescriptor "(I)[B" = some ⟨[.int], some (.array .byte)⟩ := by decide +kernel
theorem pd_13 : parseMethodDescriptor "([BII)V" = some ⟨[(.array .byte), .int, .int], none⟩ := by decide +kernel
theorem d17_0 : decode jdk_52_method_14_code 0 = .ok (.iload_n 2, 1) := by decide +kernel
theorem d17_1 : decode jdk_52_method_14_code 1 = .ok (.invokestatic 107, 3) := by decide +kernel
theorem d17_4 : decode jdk_52_method_14_code 4 = .ok (.astore_n 3, 1) := by decide +kernel
theorem d17_5 : decode jdk_52_method_14_code 5 = .ok (.iconst 0, 1) := by decide +kernel
theorem d17_6 : decode jdk_52_method_14_code 6 = .ok (.istore 4, 2) := by decide +kernel
theorem d17_8 : decode jdk_52_method_14_code 8 = .ok (.iload 4, 2) := by decide +kernel
theorem d17_10 : decode jdk_52_method_14_code 10 = .ok (.iload_n 2, 1) := by decide +kernel
theorem d17_11 : decode jdk_52_method_14_code 11 = .ok (.if_icmp .ge 21, 3) := by decide +kernel
theorem d17_14 : decode jdk_52_method_14_code 14 = .ok (.aload_n 3, 1) := by decide +kernel
theorem d17_15 : decode jdk_52_method_14_code 15 = .ok (.iload 4, 2) := by decide +kernel
theorem d17_17 : decode jdk_52_method_14_code 17 = .ok (.aload_n 0, 1) := by decide +kernel
theorem d17_18 : decode jdk_52_method_14_code 18 = .ok (.iload_n 1, 1) := by decide +kernel
theorem d17_19 : decode jdk_52_method_14_code 19 = .ok (.caload, 1) := by decide +kernel
theorem d17_20 : decode jdk_52_method_14_code 20 = .ok (.invokestatic 111, 3) := by decide +kernel
theorem d17_23 : decode jdk_52_method_14_code 23 = .ok (.iinc 1 1, 3) := by decide +kernel
theorem d17_26 : decode jdk_52_method_14_code 26 = .ok (.iinc 4 1, 3) := by decide +kernel
theorem d17_29 : decode jdk_52_method_14_code 29 = .ok (.goto (-21), 3) := by decide +kernel
theorem d17_32 : decode jdk_52_method_14_code 32 = .ok (.aload_n 3, 1) := by decide +kernel
theorem d17_33 : decode jdk_52_method_14_code 33 = .ok (.areturn, 1) := by decide +kernel
theorem ef_17 (m : MethodId) (x0 : Addr) : entryFrame m #[(.ref x0), (.int 0), (.int 4)] 5 = mkF m 0 #[.val (.ref x0), .val (.int 0), .val (.int 4), .unset, .unset] [] := by first | (simp [entryFrame, mkF, argsToLocals, Value.category]; done) | rfl
def Q17 (Z : State) (o0 : Addr) (k0 : ClassId) (c0 c1 c2 c3 : Int32) (h0 : Heap) (n0 : Nat) (v : Option Value) (h : Heap) (L : List Loc) : Prop := ∃ (b : Addr) (k : ClassId), v = some (.ref b) ∧ Fr n0 L ∧ Keep h0 h [] ∧ Arv Z h b k .byte (8 : Int32) [(.int (((c0 >>> ((0 : Int32) &&& 31)).toInt8.toInt32).toInt8.toInt32)), (.int (((c0 >>> ((8 : Int32) &&& 31)).toInt8.toInt32).toInt8.toInt32)), (.int (((c1 >>> ((0 : Int32) &&& 31)).toInt8.toInt32).toInt8.toInt32)), (.int (((c1 >>> ((8 : Int32) &&& 31)).toInt8.toInt32).toInt8.toInt32)), (.int (((c2 >>> ((0 : Int32) &&& 31)).toInt8.toInt32).toInt8.toInt32)), (.int (((c2 >>> ((8 : Int32) &&& 31)).toInt8.toInt32).toInt8.toInt32)), (.int (((c3 >>> ((0 : Int32) &&& 31)).toInt8.toInt32).toInt8.toInt32)), (.int (((c3 >>> ((8 : Int32) &&& 31)).toInt8.toInt32).toInt8.toInt32))] (.int 0) ∧ n0 ≤ b ∧ h0.size ≤ b
set_option maxRecDepth 65536 in
set_option maxHeartbeats 40000000 in
theorem rm17 (l : Launch) (Z : State) (a0 : Array Value) (hw : ∀ d ∈ tables_1, d.before a0 Z = true) (ws : List Jvm.Cond) (o0 : Addr) (k0 : ClassId) (c0 c1 c2 c3 : Int32) (h0 : Heap) (n0 : Nat) (Z0 : n0 ≤ h0.size) (V0 : Arv Z h0 o0 k0 .char (4 : Int32) [(.int c0), (.int c1), (.int c2), (.int c3)] (.int 0)) (S_ad : Sta Z h0 "java/lang/StringUTF16" "$assertionsDisabled" "Z" (.int 1)) (S_hi : Sta Z h0 "java/lang/StringUTF16" "HI_BYTE_SHIFT" "I" (.int 0)) (S_lo : Sta Z h0 "java/lang/StringUTF16" "LO_BYTE_SHIFT" "I" (.int 8)) :
    MetFree l (⟨"java/lang/StringUTF16", "toBytes", "([CII)[B"⟩ : MethodName) (head1 (Jvm.Cond.code (⟨"java/lang/StringUTF16", "toBytes", "([CII)[B"⟩ : MethodName) jdk_52_method_14_code 5 (some (.array .byte)) :: ws) (⟨2, 1, 8, 24⟩ : Room)) (fun a U => a = #[(.ref o0), (.int 0), (.int 4)] ∧ Z.Warmed39 U.vm ∧ U.heap = h0) (fun _ _ _ _ _ => True) (fun _ U o U' => ∃ v L, o = .returned v ∧ Q17 Z o0 k0 c0 c1 c2 c3 h0 n0 v U'.heap L ∧ FrameEnd U o U' L (⟨2, 1, 8, 24⟩ : Room).cells (⟨2, 1, 8, 24⟩ : Room).slots) := by
  refine MetFree.of_bodySF (plainFor_of_name pn_5) hisR ?_
  intro p e s m args below meth c s₁ Bd hml0 hP hK
  obtain ⟨rfl, hZ, hh⟩ := hP
  have hx := Bd.exec
  have hby := Bd.bytes
  have hml : c.maxLocals = 5 := hml0
  have hown : s.vm.findClass "java/lang/StringUTF16" = some m.cls := findClass_of_methodNamed Bd.named
  have hnm := (name_of_methodNamed Bd.named Bd.method).1
  have X0 : Stand p l e (⟨2, 1, 8, 24⟩ : Room) s m #[(.ref o0), (.int 0), (.int 4)] below meth c s₁ [] 0 0 := Stand.of_body Bd
  have e0 : s₁.heap = h0 := by rw [← hh, Bd.state]; rfl
  have N0 := Fr.nil n0
  have hret := Bd.returns
  have hlk := BodyLoose.notSynchronized Bd
  show own_Out p e below (fun o U' => ∃ v L, o = .returned v ∧ Q17 Z o0 k0 c0 c1 c2 c3 h0 n0 v U'.heap L ∧ FrameEnd s o U' L (⟨2, 1, 8, 24⟩ : Room).cells (⟨2, 1, 8, 24⟩ : Room).slots) (s₁.setTop (entryFrame m #[(.ref o0), (.int 0), (.int 4)] 5))
  refine own_of (fun t k => castTop (ef_17 m o0) k) ?_
  show own_Out p e below _ (s₁.setTop (mkF m 0 #[rv o0, iv 0, iv 4, .unset, .unset] []))
  refine o_iloadN X0 hx hby d17_0 rfl (q := 1) rfl ?_
  obtain ⟨_, _, ⟨T1, L1, k1, n1⟩, -, X1, ⟨Lc1, hQ1, l1, y1, z1⟩, st1⟩ := Jvm.LawKit.callS X0 hx (y := (⟨"java/lang/StringUTF16", "newBytesFor", "(I)[B"⟩ : MethodName)) hown (mvT hZ (w_ hw 75 rfl)) (mvT hZ (w_ hw 76 rfl)) (mvT hZ (w_ hw 22 rfl)) (mvT hZ (w_ hw 77 rfl)) (by decide) (backOf (W := 0) (rm18 l Z a0 hw []  h0 n0 Z0 ) hZ (w_ hw 77 rfl) (w_ hw 22 rfl) (by decide) (by decide)) (g := (mkF m 1 #[rv o0, iv 0, iv 4, .unset, .unset] [.int 4])) rfl (by rw [hml]; rfl) (argsL := [(.int 4)]) (rest := []) (lenOf pd_12 rfl) rfl (by show 2 * 0 + _ ≤ _; exact Nat.le_of_eq rfl) (hb hby d17_1) (fun _ _ => ⟨rfl, e0, (by decide : 0 + 1 ≤ _), (by decide : 0 + 8 ≤ _)⟩)
  dsimp only [Pt.U, Pt.locs, Pt.cells, Pt.slots] at X1 l1 y1 z1 st1 hQ1
  subst l1 y1 z1
  obtain ⟨b1, k1, rfl, N1q, K1, V1, hgb_1, hsb_1⟩ := hQ1
  have N1 := Fr.app N0 N1q
  have sz_b1 : h0.size ≤ b1 := Nat.le_trans (Nat.le_refl h0.size) hsb_1
  refine own_of st1 ?_
  show own_Out p e below _ (T1.setTop (mkF m 4 #[rv o0, iv 0, iv 4, .unset, .unset] [.ref b1]))
  refine o_astoreN X1 hx hby d17_4 rfl (l' := #[rv o0, iv 0, iv 4, rv b1, .unset]) rfl (q := 5) rfl ?_
  refine o_iconst X1 hx hby d17_5 (z := 0) rfl (q := 6) rfl ?_
  refine o_istore X1 hx hby d17_6 (l' := #[rv o0, iv 0, iv 4, rv b1, iv 0]) rfl (q := 8) rfl ?_
  refine o_iload X1 hx hby d17_8 rfl (q := 10) rfl ?_
  refine o_iloadN X1 hx hby d17_10 rfl (q := 11) rfl ?_
  refine o_icN X1 hx hby d17_11 (tlt (by decide : (0 : Int32) < (4 : Int32))).2.1 (q := 14) rfl ?_
  refine o_aloadN X1 hx hby d17_14 rfl rfl (q := 15) rfl ?_
  refine o_iload X1 hx hby d17_15 rfl (q := 17) rfl ?_
  refine o_aloadN X1 hx hby d17_17 rfl rfl (q := 18) rfl ?_
  refine o_iloadN X1 hx hby d17_18 rfl (q := 19) rfl ?_
  have qz2 := (V0.keep K1 nin0)
  refine o_caV X1 hx hby hZ rfl qz2 ⟨by decide, by decide⟩ (v := .int c0) rfl d17_19 (q := 20) rfl ?_
  have qz4 := (own_staK0 S_ad K1)
  have qz5 := (own_staK0 S_hi K1)
  have qz6 := (own_staK0 S_lo K1)
  have qz7 := (Nat.le_trans Z0 K1.1)
  obtain ⟨_, _, ⟨T3, L3, k3, n3⟩, -, X3, ⟨Lc3, hQ3, l3, y3, z3⟩, st3⟩ := Jvm.LawKit.callS X1 hx (y := (⟨"java/lang/StringUTF16", "putChar", "([BII)V"⟩ : MethodName)) hown (mvT hZ (w_ hw 82 rfl)) (mvT hZ (w_ hw 83 rfl)) (mvT hZ (w_ hw 22 rfl)) (mvT hZ (w_ hw 84 rfl)) (by decide) (backOf (W := 0) (rm20i0 l Z a0 hw [] b1 c0 k1 (0 : Int32) (0 : Int32) (0 : Int32) (0 : Int32) (0 : Int32) (0 : Int32) (0 : Int32) (0 : Int32) T1.heap n0 qz7 V1 hgb_1 qz4 qz5 qz6) hZ (w_ hw 84 rfl) (w_ hw 22 rfl) (by decide) (by decide)) (g := (mkF m 20 #[rv o0, iv 0, iv 4, rv b1, iv 0] [.int c0, .int 0, .ref b1])) rfl (by rw [hml]; rfl) (argsL := [(.ref b1), (.int 0), (.int c0)]) (rest := []) (lenOf pd_13 rfl) rfl (by show 2 * 0 + _ ≤ _; exact Nat.le_of_eq rfl) (hb hby d17_20) (fun _ _ => ⟨rfl, rfl, (by decide : 1 + 0 ≤ _), (by decide : 8 + 0 ≤ _)⟩)
  dsimp only [Pt.U, Pt.locs, Pt.cells, Pt.slots] at X3 l3 y3 z3 st3 hQ3
  subst l3 y3 z3
  obtain ⟨rfl, N3q, K3, V3⟩ := hQ3
  have N3 := Fr.app N1 N3q
  refine own_of st3 ?_
  show own_Out p e below _ (T3.setTop (mkF m 23 #[rv o0, iv 0, iv 4, rv b1, iv 0] []))
  refine o_iinc X3 hx hby d17_23 rfl (l' := #[rv o0, iv 1, iv 4, rv b1, iv 0]) rfl (q := 26) rfl ?_
  refine o_iinc X3 hx hby d17_26 rfl (l' := #[rv o0, iv 1, iv 4, rv b1, iv 1]) rfl (q := 29) rfl ?_
  refine o_goto X3 hx hby d17_29 (by decide) (q := 8) (by decide) ?_
  refine o_iload X3 hx hby d17_8 rfl (q := 10) rfl ?_
  refine o_iloadN X3 hx hby d17_10 rfl (q := 11) rfl ?_
  refine o_icN X3 hx hby d17_11 (tlt (by decide : (1 : Int32) < (4 : Int32))).2.1 (q := 14) rfl ?_
  refine o_aloadN X3 hx hby d17_14 rfl rfl (q := 15) rfl ?_
  refine o_iload X3 hx hby d17_15 rfl (q := 17) rfl ?_
  refine o_aloadN X3 hx hby d17_17 rfl rfl (q := 18) rfl ?_
  refine o_iloadN X3 hx hby d17_18 rfl (q := 19) rfl ?_
  have ne_o0_b1 : o0 ≠ b1 := Nat.ne_of_lt (Nat.lt_of_lt_of_le V0.lt sz_b1)
  have qz8 := (qz2.keep K3 (ninS ne_o0_b1 nin0))
  refine o_caV X3 hx hby hZ rfl qz8 ⟨by decide, by decide⟩ (v := .int c1) rfl d17_19 (q := 20) rfl ?_
  have qz10 := (own_staK1 qz4 K3 (own_plainV V1))
  have qz11 := (own_staK1 qz5 K3 (own_plainV V1))
  have qz12 := (own_staK1 qz6 K3 (own_plainV V1))
  have qz13 := (Nat.le_trans qz7 K3.1)
  obtain ⟨_, _, ⟨T9, L9, k9, n9⟩, -, X9, ⟨Lc9, hQ9, l9, y9, z9⟩, st9⟩ := Jvm.LawKit.callS X3 hx (y := (⟨"java/lang/StringUTF16", "putChar", "([BII)V"⟩ : MethodName)) hown (mvT hZ (w_ hw 82 rfl)) (mvT hZ (w_ hw 83 rfl)) (mvT hZ (w_ hw 22 rfl)) (mvT hZ (w_ hw 84 rfl)) (by decide) (backOf (W := 0) (rm20i1 l Z a0 hw [] b1 c1 k1 (((c0 >>> ((0 : Int32) &&& 31)).toInt8.toInt32).toInt8.toInt32) (((c0 >>> ((8 : Int32) &&& 31)).toInt8.toInt32).toInt8.toInt32) (0 : Int32) (0 : Int32) (0 : Int32) (0 : Int32) (0 : Int32) (0 : Int32) T3.heap n0 qz13 V3 hgb_1 qz10 qz11 qz12) hZ (w_ hw 84 rfl) (w_ hw 22 rfl) (by decide) (by decide)) (g := (mkF m 20 #[rv o0, iv 1, iv 4, rv b1, iv 1] [.int c1, .int 1, .ref b1])) rfl (by rw [hml]; rfl) (argsL := [(.ref b1), (.int 1), (.int c1)]) (rest := []) (lenOf pd_13 rfl) rfl (by show 2 * 0 + _ ≤ _; exact Nat.le_of_eq rfl) (hb hby d17_20) (fun _ _ => ⟨rfl, rfl, (by decide : 1 + 0 ≤ _), (by decide : 8 + 0 ≤ _)⟩)
  dsimp only [Pt.U, Pt.locs, Pt.cells, Pt.slots] at X9 l9 y9 z9 st9 hQ9
  subst l9 y9 z9
  obtain ⟨rfl, N9q, K9, V9⟩ := hQ9
  have N9 := Fr.app N3 N9q
  refine own_of st9 ?_
  show own_Out p e below _ (T9.setTop (mkF m 23 #[rv o0, iv 1, iv 4, rv b1, iv 1] []))
  refine o_iinc X9 hx hby d17_23 rfl (l' := #[rv o0, iv 2, iv 4, rv b1, iv 1]) rfl (q := 26) rfl ?_
  refine o_iinc X9 hx hby d17_26 rfl (l' := #[rv o0, iv 2, iv 4, rv b1, iv 2]) rfl (q := 29) rfl ?_
  refine o_goto X9 hx hby d17_29 (by decide) (q := 8) (by decide) ?_
  refine o_iload X9 hx hby d17_8 rfl (q := 10) rfl ?_
  refine o_iloadN X9 hx hby d17_10 rfl (q := 11) rfl ?_
  refine o_icN X9 hx hby d17_11 (tlt (by decide : (2 : Int32) < (4 : Int32))).2.1 (q := 14) rfl ?_
  refine o_aloadN X9 hx hby d17_14 rfl rfl (q := 15) rfl ?_
  refine o_iload X9 hx hby d17_15 rfl (q := 17) rfl ?_
  refine o_aloadN X9 hx hby d17_17 rfl rfl (q := 18) rfl ?_
  refine o_iloadN X9 hx hby d17_18 rfl (q := 19) rfl ?_
  have qz14 := (qz8.keep K9 (ninS ne_o0_b1 nin0))
  refine o_caV X9 hx hby hZ rfl qz14 ⟨by decide, by decide⟩ (v := .int c2) rfl d17_19 (q := 20) rfl ?_
  have qz16 := (own_staK1 qz10 K9 (own_plainV V3))
  have qz17 := (own_staK1 qz11 K9 (own_plainV V3))
  have qz18 := (own_staK1 qz12 K9 (own_plainV V3))
  have qz19 := (Nat.le_trans qz13 K9.1)
  obtain ⟨_, _, ⟨T15, L15, k15, n15⟩, -, X15, ⟨Lc15, hQ15, l15, y15, z15⟩, st15⟩ := Jvm.LawKit.callS X9 hx (y := (⟨"java/lang/StringUTF16", "putChar", "([BII)V"⟩ : MethodName)) hown (mvT hZ (w_ hw 82 rfl)) (mvT hZ (w_ hw 83 rfl)) (mvT hZ (w_ hw 22 rfl)) (mvT hZ (w_ hw 84 rfl)) (by decide) (backOf (W := 0) (rm20i2 l Z a0 hw [] b1 c2 k1 (((c0 >>> ((0 : Int32) &&& 31)).toInt8.toInt32).toInt8.toInt32) (((c0 >>> ((8 : Int32) &&& 31)).toInt8.toInt32).toInt8.toInt32) (((c1 >>> ((0 : Int32) &&& 31)).toInt8.toInt32).toInt8.toInt32) (((c1 >>> ((8 : Int32) &&& 31)).toInt8.toInt32).toInt8.toInt32) (0 : Int32) (0 : Int32) (0 : Int32) (0 : Int32) T9.heap n0 qz19 V9 hgb_1 qz16 qz17 qz18) hZ (w_ hw 84 rfl) (w_ hw 22 rfl) (by decide) (by decide)) (g := (mkF m 20 #[rv o0, iv 2, iv 4, rv b1, iv 2] [.int c2, .int 2, .ref b1])) rfl (by rw [hml]; rfl) (argsL := [(.ref b1), (.int 2), (.int c2)]) (rest := []) (lenOf pd_13 rfl) rfl (by show 2 * 0 + _ ≤ _; exact Nat.le_of_eq rfl) (hb hby d17_20) (fun _ _ => ⟨rfl, rfl, (by decide : 1 + 0 ≤ _), (by decide : 8 + 0 ≤ _)⟩)
  dsimp only [Pt.U, Pt.locs, Pt.cells, Pt.slots] at X15 l15 y15 z15 st15 hQ15
  subst l15 y15 z15
  obtain ⟨rfl, N15q, K15, V15⟩ := hQ15
  have N15 := Fr.app N9 N15q
  refine own_of st15 ?_
  show own_Out p e below _ (T15.setTop (mkF m 23 #[rv o0, iv 2, iv 4, rv b1, iv 2] []))
  refine o_iinc X15 hx hby d17_23 rfl (l' := #[rv o0, iv 3, iv 4, rv b1, iv 2]) rfl (q := 26) rfl ?_
  refine o_iinc X15 hx hby d17_26 rfl (l' := #[rv o0, iv 3, iv 4, rv b1, iv 3]) rfl (q := 29) rfl ?_
  refine o_goto X15 hx hby d17_29 (by decide) (q := 8) (by decide) ?_
  refine o_iload X15 hx hby d17_8 rfl (q := 10) rfl ?_
  refine o_iloadN X15 hx hby d17_10 rfl (q := 11) rfl ?_
  refine o_icN X15 hx hby d17_11 (tlt (by decide : (3 : Int32) < (4 : Int32))).2.1 (q := 14) rfl ?_
  refine o_aloadN X15 hx hby d17_14 rfl rfl (q := 15) rfl ?_
  refine o_iload X15 hx hby d17_15 rfl (q := 17) rfl ?_
  refine o_aloadN X15 hx hby d17_17 rfl rfl (q := 18) rfl ?_
  refine o_iloadN X15 hx hby d17_18 rfl (q := 19) rfl ?_
  have qz20 := (qz14.keep K15 (ninS ne_o0_b1 nin0))
  refine o_caV X15 hx hby hZ rfl qz20 ⟨by decide, by decide⟩ (v := .int c3) rfl d17_19 (q := 20) rfl ?_
  have qz22 := (own_staK1 qz16 K15 (own_plainV V9))
  have qz23 := (own_staK1 qz17 K15 (own_plainV V9))
  have qz24 := (own_staK1 qz18 K15 (own_plainV V9))
  have qz25 := (Nat.le_trans qz19 K15.1)
  obtain ⟨_, _, ⟨T21, L21, k21, n21⟩, -, X21, ⟨Lc21, hQ21, l21, y21, z21⟩, st21⟩ := Jvm.LawKit.callS X15 hx (y := (⟨"java/lang/StringUTF16", "putChar", "([BII)V"⟩ : MethodName)) hown (mvT hZ (w_ hw 82 rfl)) (mvT hZ (w_ hw 83 rfl)) (mvT hZ (w_ hw 22 rfl)) (mvT hZ (w_ hw 84 rfl)) (by decide) (backOf (W := 0) (rm20i3 l Z a0 hw [] b1 c3 k1 (((c0 >>> ((0 : Int32) &&& 31)).toInt8.toInt32).toInt8.toInt32) (((c0 >>> ((8 : Int32) &&& 31)).toInt8.toInt32).toInt8.toInt32) (((c1 >>> ((0 : Int32) &&& 31)).toInt8.toInt32).toInt8.toInt32) (((c1 >>> ((8 : Int32) &&& 31)).toInt8.toInt32).toInt8.toInt32) (((c2 >>> ((0 : Int32) &&& 31)).toInt8.toInt32).toInt8.toInt32) (((c2 >>> ((8 : Int32) &&& 31)).toInt8.toInt32).toInt8.toInt32) (0 : Int32) (0 : Int32) T15.heap n0 qz25 V15 hgb_1 qz22 qz23 qz24) hZ (w_ hw 84 rfl) (w_ hw 22 rfl) (by decide) (by decide)) (g := (mkF m 20 #[rv o0, iv 3, iv 4, rv b1, iv 3] [.int c3, .int 3, .ref b1])) rfl (by rw [hml]; rfl) (argsL := [(.ref b1), (.int 3), (.int c3)]) (rest := []) (lenOf pd_13 rfl) rfl (by show 2 * 0 + _ ≤ _; exact Nat.le_of_eq rfl) (hb hby d17_20) (fun _ _ => ⟨rfl, rfl, (by decide : 1 + 0 ≤ _), (by decide : 8 + 0 ≤ _)⟩)
  dsimp only [Pt.U, Pt.locs, Pt.cells, Pt.slots] at X21 l21 y21 z21 st21 hQ21
  subst l21 y21 z21
  obtain ⟨rfl, N21q, K21, V21⟩ := hQ21
  have N21 := Fr.app N15 N21q
  refine own_of st21 ?_
  show own_Out p e below _ (T21.setTop (mkF m 23 #[rv o0, iv 3, iv 4, rv b1, iv 3] []))
  refine o_iinc X21 hx hby d17_23 rfl (l' := #[rv o0, iv 4, iv 4, rv b1, iv 3]) rfl (q := 26) rfl ?_
  refine o_iinc X21 hx hby d17_26 rfl (l' := #[rv o0, iv 4, iv 4, rv b1, iv 4]) rfl (q := 29) rfl ?_
  refine o_goto X21 hx hby d17_29 (by decide) (q := 8) (by decide) ?_
  refine o_iload X21 hx hby d17_8 rfl (q := 10) rfl ?_
  refine o_iloadN X21 hx hby d17_10 rfl (q := 11) rfl ?_
  refine o_icY X21 hx hby d17_11 (flt (by decide : ¬ ((4 : Int32) < (4 : Int32)))).2.1 (by decide) (q := 32) (by decide) ?_
  refine o_aloadN X21 hx hby d17_32 rfl rfl (q := 33) rfl ?_
  have qz26 := ((((((Keep.refl h0 []).trans K1 all0).trans K3 (allS (Or.inr sz_b1) all0)).trans K9 (allS (Or.inr sz_b1) all0)).trans K15 (allS (Or.inr sz_b1) all0)).trans K21 (allS (Or.inr sz_b1) all0))
  exact own_outR X21 hx hlk hret rfl rfl rfl (hb hby d17_33) (Q := Q17 Z o0 k0 c0 c1 c2 c3 h0 n0) ⟨b1, k1, rfl, N21, qz26, V21, hgb_1, sz_b1⟩ (by decide) (by decide)
theorem ef_21j0 (m : MethodId) (x0 : Addr) : entryFrame m #[(.ref x0), (.int 0)] 2 = mkF m 0 #[.val (.ref x0), .val (.int 0)] [] := by first | (simp [entryFrame, mkF, argsToLocals, Value.category]; done) | rfl
def fgc0 (u0 u1 u2 u3 u4 u5 u6 u7 : Int32) : Int32 := (((((u0 &&& (255 : Int32)) <<< ((0 : Int32) &&& 31)) ||| ((u1 &&& (255 : Int32)) <<< ((8 : Int32) &&& 31))).toUInt32.toUInt16.toUInt32.toInt32).toUInt32.toUInt16.toUInt32.toInt32)
def Q21j0 (Z : State) (o0 : Addr) (k : ClassId) (u0 u1 u2 u3 u4 u5 u6 u7 : Int32) (h0 : Heap) (n0 : Nat) (v : Option Value) (h : Heap) (L : List Loc) : Prop := v = some (.int (fgc0 u0 u1 u2 u3 u4 u5 u6 u7)) ∧ Fr n0 L ∧ h = h0
set_option maxRecDepth 65536 in
set_option maxHeartbeats 40000000 in
theorem rm21j0 (l : Launch) (Z : State) (a0 : Array Value) (hw : ∀ d ∈ tables_1, d.before a0 Z = true) (ws : List Jvm.Cond) (o0 : Addr) (k : ClassId) (u0 u1 u2 u3 u4 u5 u6 u7 : Int32) (h0 : Heap) (n0 : Nat) (Z0 : n0 ≤ h0.size) (V : Arv Z h0 o0 k .byte (8 : Int32) [(.int u0), (.int u1), (.int u2), (.int u3), (.int u4), (.int u5), (.int u6), (.int u7)] (.int 0)) (S_ad : Sta Z h0 "java/lang/StringUTF16" "$assertionsDisabled" "Z" (.int 1)) (S_hi : Sta Z h0 "java/lang/StringUTF16" "HI_BYTE_SHIFT" "I" (.int 0)) (S_lo : Sta Z h0 "java/lang/StringUTF16" "LO_BYTE_SHIFT" "I" (.int 8)) :
    MetFree l (⟨"java/lang/StringUTF16", "getChar", "([BI)C"⟩ : MethodName) (head1 (Jvm.Cond.code (⟨"java/lang/StringUTF16", "getChar", "([BI)C"⟩ : MethodName) jdk_52_method_5_code 2 (some .char) :: ws) (⟨0, 0, 0, 0⟩ : Room)) (fun a U => a = #[(.ref o0), (.int 0)] ∧ Z.Warmed39 U.vm ∧ U.heap = h0) (fun _ _ _ _ _ => True) (fun _ U o U' => ∃ v L, o = .returned v ∧ Q21j0 Z o0 k u0 u1 u2 u3 u4 u5 u6 u7 h0 n0 v U'.heap L ∧ FrameEnd U o U' L (⟨0, 0, 0, 0⟩ : Room).cells (⟨0, 0, 0, 0⟩ : Room).slots) := by
  refine MetFree.of_bodySF (plainFor_of_name pn_5) hisR ?_
  intro p e s m args below meth c s₁ Bd hml0 hP hK
  obtain ⟨rfl, hZ, hh⟩ := hP
  have hx := Bd.exec
  have hby := Bd.bytes
  have hml : c.maxLocals = 2 := hml0
  have hown : s.vm.findClass "java/lang/StringUTF16" = some m.cls := findClass_of_methodNamed Bd.named
  have hnm := (name_of_methodNamed Bd.named Bd.method).1
  have X0 : Stand p l e (⟨0, 0, 0, 0⟩ : Room) s m #[(.ref o0), (.int 0)] below meth c s₁ [] 0 0 := Stand.of_body Bd
  have e0 : s₁.heap = h0 := by rw [← hh, Bd.state]; rfl
  have N0 := Fr.nil n0
  have hret := Bd.returns
  have hlk := BodyLoose.notSynchronized Bd
  show own_Out p e below (fun o U' => ∃ v L, o = .returned v ∧ Q21j0 Z o0 k u0 u1 u2 u3 u4 u5 u6 u7 h0 n0 v U'.heap L ∧ FrameEnd s o U' L (⟨0, 0, 0, 0⟩ : Room).cells (⟨0, 0, 0, 0⟩ : Room).slots) (s₁.setTop (entryFrame m #[(.ref o0), (.int 0)] 2))
  refine own_of (fun t k => castTop (ef_21j0 m o0) k) ?_
  show own_Out p e below _ (s₁.setTop (mkF m 0 #[rv o0, iv 0] []))
  obtain ⟨T1, X1, e1, st1⟩ := getS2 X0 hx hZ hown (host := "") (Or.inl (w_ hw 85 rfl)) Via.refl e0 S_ad (g := (mkF m 0 #[rv o0, iv 0] [])) rfl (hb hby d21_0)
  refine own_of st1 ?_
  show own_Out p e below _ (T1.setTop (mkF m 3 #[rv o0, iv 0] [.int 1]))
  refine o_ifY X1 hx hby d21_3 ((if0 _ _).trans (feq (by decide : ¬ ((1 : Int32) = (0 : Int32)))).2) (by decide) (q := 28) (by decide) ?_
  refine o_iloadN X1 hx hby d21_28 rfl (q := 29) rfl ?_
  refine o_iconst X1 hx hby d21_29 (z := 1) rfl (q := 30) rfl ?_
  refine o_ishl X1 hx hby d21_30 (z := 0) rfl (q := 31) rfl ?_
  refine o_istoreN X1 hx hby d21_31 (l' := #[rv o0, iv 0]) rfl (q := 32) rfl ?_
  refine o_aloadN X1 hx hby d21_32 rfl rfl (q := 33) rfl ?_
  refine o_iloadN X1 hx hby d21_33 rfl (q := 34) rfl ?_
  refine o_iinc X1 hx hby d21_34 rfl (l' := #[rv o0, iv 1]) rfl (q := 37) rfl ?_
  refine o_baV X1 hx hby hZ e1 V ⟨by decide, by decide⟩ (v := .int u0) rfl d21_37 (q := 38) rfl ?_
  refine o_sipush X1 hx hby d21_38 (z := 255) rfl (q := 41) rfl ?_
  refine o_iand X1 hx hby d21_41 rfl (q := 42) rfl ?_
  obtain ⟨T2, X2, e2, st2⟩ := getS2 X1 hx hZ hown (host := "") (Or.inl (w_ hw 86 rfl)) Via.refl e1 S_hi (g := (mkF m 42 #[rv o0, iv 1] [.int (u0 &&& (255 : Int32))])) rfl (hb hby d21_42)
  refine own_of st2 ?_
  show own_Out p e below _ (T2.setTop (mkF m 45 #[rv o0, iv 1] [.int 0, .int (u0 &&& (255 : Int32))]))
  refine o_ishl X2 hx hby d21_45 rfl (q := 46) rfl ?_
  refine o_aloadN X2 hx hby d21_46 rfl rfl (q := 47) rfl ?_
  refine o_iloadN X2 hx hby d21_47 rfl (q := 48) rfl ?_
  refine o_baV X2 hx hby hZ e2 V ⟨by decide, by decide⟩ (v := .int u1) rfl d21_48 (q := 49) rfl ?_
  refine o_sipush X2 hx hby d21_49 (z := 255) rfl (q := 52) rfl ?_
  refine o_iand X2 hx hby d21_52 rfl (q := 53) rfl ?_
  obtain ⟨T3, X3, e3, st3⟩ := getS2 X2 hx hZ hown (host := "") (Or.inl (w_ hw 87 rfl)) Via.refl e2 S_lo (g := (mkF m 53 #[rv o0, iv 1] [.int (u1 &&& (255 : Int32)), .int ((u0 &&& (255 : Int32)) <<< ((0 : Int32) &&& 31))])) rfl (hb hby d21_53)
  refine own_of st3 ?_
  show own_Out p e below _ (T3.setTop (mkF m 56 #[rv o0, iv 1] [.int 8, .int (u1 &&& (255 : Int32)), .int ((u0 &&& (255 : Int32)) <<< ((0 : Int32) &&& 31))]))
  refine o_ishl X3 hx hby d21_56 rfl (q := 57) rfl ?_
  refine o_ior X3 hx hby d21_57 rfl (q := 58) rfl ?_
  refine o_i2c X3 hx hby d21_58 rfl (q := 59) rfl ?_
  exact own_outN X3 hx hlk (t := .char) hret (by simp) (hb hby d21_59) (z' := (((((u0 &&& (255 : Int32)) <<< ((0 : Int32) &&& 31)) ||| ((u1 &&& (255 : Int32)) <<< ((8 : Int32) &&& 31))).toUInt32.toUInt16.toUInt32.toInt32).toUInt32.toUInt16.toUInt32.toInt32)) rfl (Q := Q21j0 Z o0 k u0 u1 u2 u3 u4 u5 u6 u7 h0 n0) ⟨by simp only [fgc0], N0, e3⟩ (by decide) (by decide)
theorem ef_21j1 (m : MethodId) (x0 : Addr) : entryFrame m #[(.ref x0), (.int 1)] 2 = mkF m 0 #[.val (.ref x0), .val (.int 1)] [] := by first | (simp [entryFrame, mkF, argsToLocals, Value.category]; done) | rfl
def fgc1 (u0 u1 u2 u3 u4 u5 u6 u7 : Int32) : Int32 := (((((u2 &&& (255 : Int32)) <<< ((0 : Int32) &&& 31)) ||| ((u3 &&& (255 : Int32)) <<< ((8 : Int32) &&& 31))).toUInt32.toUInt16.toUInt32.toInt32).toUInt32.toUInt16.toUInt32.toInt32)
def Q21j1 (Z : State) (o0 : Addr) (k : ClassId) (u0 u1 u2 u3 u4 u5 u6 u7 : Int32) (h0 : Heap) (n0 : Nat) (v : Option Value) (h : Heap) (L : List Loc) : Prop := v = some (.int (fgc1 u0 u1 u2 u3 u4 u5 u6 u7)) ∧ Fr n0 L ∧ h = h0
set_option maxRecDepth 65536 in
set_option maxHeartbeats 40000000 in
theorem rm21j1 (l : Launch) (Z : State) (a0 : Array Value) (hw : ∀ d ∈ tables_1, d.before a0 Z = true) (ws : List Jvm.Cond) (o0 : Addr) (k : ClassId) (u0 u1 u2 u3 u4 u5 u6 u7 : Int32) (h0 : Heap) (n0 : Nat) (Z0 : n0 ≤ h0.size) (V : Arv Z h0 o0 k .byte (8 : Int32) [(.int u0), (.int u1), (.int u2), (.int u3), (.int u4), (.int u5), (.int u6), (.int u7)] (.int 0)) (S_ad : Sta Z h0 "java/lang/StringUTF16" "$assertionsDisabled" "Z" (.int 1)) (S_hi : Sta Z h0 "java/lang/StringUTF16" "HI_BYTE_SHIFT" "I" (.int 0)) (S_lo : Sta Z h0 "java/lang/StringUTF16" "LO_BYTE_SHIFT" "I" (.int 8)) :
    MetFree l (⟨"java/lang/StringUTF16", "getChar", "([BI)C"⟩ : MethodName) (head1 (Jvm.Cond.code (⟨"java/lang/StringUTF16", "getChar", "([BI)C"⟩ : MethodName) jdk_52_method_5_code 2 (some .char) :: ws) (⟨0, 0, 0, 0⟩ : Room)) (fun a U => a = #[(.ref o0), (.int 1)] ∧ Z.Warmed39 U.vm ∧ U.heap = h0) (fun _ _ _ _ _ => True) (fun _ U o U' => ∃ v L, o = .returned v ∧ Q21j1 Z o0 k u0 u1 u2 u3 u4 u5 u6 u7 h0 n0 v U'.heap L ∧ FrameEnd U o U' L (⟨0, 0, 0, 0⟩ : Room).cells (⟨0, 0, 0, 0⟩ : Room).slots) := by
  refine MetFree.of_bodySF (plainFor_of_name pn_5) hisR ?_
  intro p e s m args below meth c s₁ Bd hml0 hP hK
  obtain ⟨rfl, hZ, hh⟩ := hP
  have hx := Bd.exec
  have hby := Bd.bytes
  have hml : c.maxLocals = 2 := hml0
  have hown : s.vm.findClass "java/lang/StringUTF16" = some m.cls := findClass_of_methodNamed Bd.named
  have hnm := (name_of_methodNamed Bd.named Bd.method).1
  have X0 : Stand p l e (⟨0, 0, 0, 0⟩ : Room) s m #[(.ref o0), (.int 1)] below meth c s₁ [] 0 0 := Stand.of_body Bd
  have e0 : s₁.heap = h0 := by rw [← hh, Bd.state]; rfl
  have N0 := Fr.nil n0
  have hret := Bd.returns
  have hlk := BodyLoose.notSynchronized Bd
  show own_Out p e below (fun o U' => ∃ v L, o = .returned v ∧ Q21j1 Z o0 k u0 u1 u2 u3 u4 u5 u6 u7 h0 n0 v U'.heap L ∧ FrameEnd s o U' L (⟨0, 0, 0, 0⟩ : Room).cells (⟨0, 0, 0, 0⟩ : Room).slots) (s₁.setTop (entryFrame m #[(.ref o0), (.int 1)] 2))
  refine own_of (fun t k => castTop (ef_21j1 m o0) k) ?_
  show own_Out p e below _ (s₁.setTop (mkF m 0 #[rv o0, iv 1] []))
  obtain ⟨T1, X1, e1, st1⟩ := getS2 X0 hx hZ hown (host := "") (Or.inl (w_ hw 85 rfl)) Via.refl e0 S_ad (g := (mkF m 0 #[rv o0, iv 1] [])) rfl (hb hby d21_0)
  refine own_of st1 ?_
  show own_Out p e below _ (T1.setTop (mkF m 3 #[rv o0, iv 1] [.int 1]))
  refine o_ifY X1 hx hby d21_3 ((if0 _ _).trans (feq (by decide : ¬ ((1 : Int32) = (0 : Int32)))).2) (by decide) (q := 28) (by decide) ?_
  refine o_iloadN X1 hx hby d21_28 rfl (q := 29) rfl ?_
  refine o_iconst X1 hx hby d21_29 (z := 1) rfl (q := 30) rfl ?_
  refine o_ishl X1 hx hby d21_30 (z := 2) rfl (q := 31) rfl ?_
  refine o_istoreN X1 hx hby d21_31 (l' := #[rv o0, iv 2]) rfl (q := 32) rfl ?_
  refine o_aloadN X1 hx hby d21_32 rfl rfl (q := 33) rfl ?_
  refine o_iloadN X1 hx hby d21_33 rfl (q := 34) rfl ?_
  refine o_iinc X1 hx hby d21_34 rfl (l' := #[rv o0, iv 3]) rfl (q := 37) rfl ?_
  refine o_baV X1 hx hby hZ e1 V ⟨by decide, by decide⟩ (v := .int u2) rfl d21_37 (q := 38) rfl ?_
  refine o_sipush X1 hx hby d21_38 (z := 255) rfl (q := 41) rfl ?_
  refine o_iand X1 hx hby d21_41 rfl (q := 42) rfl ?_
  obtain ⟨T2, X2, e2, st2⟩ := getS2 X1 hx hZ hown (host := "") (Or.inl (w_ hw 86 rfl)) Via.refl e1 S_hi (g := (mkF m 42 #[rv o0, iv 3] [.int (u2 &&& (255 : Int32))])) rfl (hb hby d21_42)
  refine own_of st2 ?_
  show own_Out p e below _ (T2.setTop (mkF m 45 #[rv o0, iv 3] [.int 0, .int (u2 &&& (255 : Int32))]))
  refine o_ishl X2 hx hby d21_45 rfl (q := 46) rfl ?_
  refine o_aloadN X2 hx hby d21_46 rfl rfl (q := 47) rfl ?_
  refine o_iloadN X2 hx hby d21_47 rfl (q := 48) rfl ?_
  refine o_baV X2 hx hby hZ e2 V ⟨by decide, by decide⟩ (v := .int u3) rfl d21_48 (q := 49) rfl ?_
  refine o_sipush X2 hx hby d21_49 (z := 255) rfl (q := 52) rfl ?_
  refine o_iand X2 hx hby d21_52 rfl (q := 53) rfl ?_
  obtain ⟨T3, X3, e3, st3⟩ := getS2 X2 hx hZ hown (host := "") (Or.inl (w_ hw 87 rfl)) Via.refl e2 S_lo (g := (mkF m 53 #[rv o0, iv 3] [.int (u3 &&& (255 : Int32)), .int ((u2 &&& (255 : Int32)) <<< ((0 : Int32) &&& 31))])) rfl (hb hby d21_53)
  refine own_of st3 ?_
  show own_Out p e below _ (T3.setTop (mkF m 56 #[rv o0, iv 3] [.int 8, .int (u3 &&& (255 : Int32)), .int ((u2 &&& (255 : Int32)) <<< ((0 : Int32) &&& 31))]))
  refine o_ishl X3 hx hby d21_56 rfl (q := 57) rfl ?_
  refine o_ior X3 hx hby d21_57 rfl (q := 58) rfl ?_
  refine o_i2c X3 hx hby d21_58 rfl (q := 59) rfl ?_
  exact own_outN X3 hx hlk (t := .char) hret (by simp) (hb hby d21_59) (z' := (((((u2 &&& (255 : Int32)) <<< ((0 : Int32) &&& 31)) ||| ((u3 &&& (255 : Int32)) <<< ((8 : Int32) &&& 31))).toUInt32.toUInt16.toUInt32.toInt32).toUInt32.toUInt16.toUInt32.toInt32)) rfl (Q := Q21j1 Z o0 k u0 u1 u2 u3 u4 u5 u6 u7 h0 n0) ⟨by simp only [fgc1], N0, e3⟩ (by decide) (by decide)
theorem ef_21j2 (m : MethodId) (x0 : Addr) : entryFrame m #[(.ref x0), (.int 2)] 2 = mkF m 0 #[.val (.ref x0), .val (.int 2)] [] := by first | (simp [entryFrame, mkF, argsToLocals, Value.category]; done) | rfl
def fgc2 (u0 u1 u2 u3 u4 u5 u6 u7 : Int32) : Int32 := (((((u4 &&& (255 : Int32)) <<< ((0 : Int32) &&& 31)) ||| ((u5 &&& (255 : Int32)) <<< ((8 : Int32) &&& 31))).toUInt32.toUInt16.toUInt32.toInt32).toUInt32.toUInt16.toUInt32.toInt32)
def Q21j2 (Z : State) (o0 : Addr) (k : ClassId) (u0 u1 u2 u3 u4 u5 u6 u7 : Int32) (h0 : Heap) (n0 : Nat) (v : Option Value) (h : Heap) (L : List Loc) : Prop := v = some (.int (fgc2 u0 u1 u2 u3 u4 u5 u6 u7)) ∧ Fr n0 L ∧ h = h0
set_option maxRecDepth 65536 in
set_option maxHeartbeats 40000000 in
theorem rm21j2 (l : Launch) (Z : State) (a0 : Array Value) (hw : ∀ d ∈ tables_1, d.before a0 Z = true) (ws : List Jvm.Cond) (o0 : Addr) (k : ClassId) (u0 u1 u2 u3 u4 u5 u6 u7 : Int32) (h0 : Heap) (n0 : Nat) (Z0 : n0 ≤ h0.size) (V : Arv Z h0 o0 k .byte (8 : Int32) [(.int u0), (.int u1), (.int u2), (.int u3), (.int u4), (.int u5), (.int u6), (.int u7)] (.int 0)) (S_ad : Sta Z h0 "java/lang/StringUTF16" "$assertionsDisabled" "Z" (.int 1)) (S_hi : Sta Z h0 "java/lang/StringUTF16" "HI_BYTE_SHIFT" "I" (.int 0)) (S_lo : Sta Z h0 "java/lang/StringUTF16" "LO_BYTE_SHIFT" "I" (.int 8)) :
    MetFree l (⟨"java/lang/StringUTF16", "getChar", "([BI)C"⟩ : MethodName) (head1 (Jvm.Cond.code (⟨"java/lang/StringUTF16", "getChar", "([BI)C"⟩ : MethodName) jdk_52_method_5_code 2 (some .char) :: ws) (⟨0, 0, 0, 0⟩ : Room)) (fun a U => a = #[(.ref o0), (.int 2)] ∧ Z.Warmed39 U.vm ∧ U.heap = h0) (fun _ _ _ _ _ => True) (fun _ U o U' => ∃ v L, o = .returned v ∧ Q21j2 Z o0 k u0 u1 u2 u3 u4 u5 u6 u7 h0 n0 v U'.heap L ∧ FrameEnd U o U' L (⟨0, 0, 0, 0⟩ : Room).cells (⟨0, 0, 0, 0⟩ : Room).slots) := by
  refine MetFree.of_bodySF (plainFor_of_name pn_5) hisR ?_
  intro p e s m args below meth c s₁ Bd hml0 hP hK
  obtain ⟨rfl, hZ, hh⟩ := hP
  have hx := Bd.exec
  have hby := Bd.bytes
  have hml : c.maxLocals = 2 := hml0
  have hown : s.vm.findClass "java/lang/StringUTF16" = some m.cls := findClass_of_methodNamed Bd.named
  have hnm := (name_of_methodNamed Bd.named Bd.method).1
  have X0 : Stand p l e (⟨0, 0, 0, 0⟩ : Room) s m #[(.ref o0), (.int 2)] below meth c s₁ [] 0 0 := Stand.of_body Bd
  have e0 : s₁.heap = h0 := by rw [← hh, Bd.state]; rfl
  have N0 := Fr.nil n0
  have hret := Bd.returns
  have hlk := BodyLoose.notSynchronized Bd
  show own_Out p e below (fun o U' => ∃ v L, o = .returned v ∧ Q21j2 Z o0 k u0 u1 u2 u3 u4 u5 u6 u7 h0 n0 v U'.heap L ∧ FrameEnd s o U' L (⟨0, 0, 0, 0⟩ : Room).cells (⟨0, 0, 0, 0⟩ : Room).slots) (s₁.setTop (entryFrame m #[(.ref o0), (.int 2)] 2))
  refine own_of (fun t k => castTop (ef_21j2 m o0) k) ?_
  show own_Out p e below _ (s₁.setTop (mkF m 0 #[rv o0, iv 2] []))
  obtain ⟨T1, X1, e1, st1⟩ := getS2 X0 hx hZ hown (host := "") (Or.inl (w_ hw 85 rfl)) Via.refl e0 S_ad (g := (mkF m 0 #[rv o0, iv 2] [])) rfl (hb hby d21_0)
  refine own_of st1 ?_
  show own_Out p e below _ (T1.setTop (mkF m 3 #[rv o0, iv 2] [.int 1]))
  refine o_ifY X1 hx hby d21_3 ((if0 _ _).trans (feq (by decide : ¬ ((1 : Int32) = (0 : Int32)))).2) (by decide) (q := 28) (by decide) ?_
  refine o_iloadN X1 hx hby d21_28 rfl (q := 29) rfl ?_
  refine o_iconst X1 hx hby d21_29 (z := 1) rfl (q := 30) rfl ?_
  refine o_ishl X1 hx hby d21_30 (z := 4) rfl (q := 31) rfl ?_
  refine o_istoreN X1 hx hby d21_31 (l' := #[rv o0, iv 4]) rfl (q := 32) rfl ?_
  refine o_aloadN X1 hx hby d21_32 rfl rfl (q := 33) rfl ?_
  refine o_iloadN X1 hx hby d21_33 rfl (q := 34) rfl ?_
  refine o_iinc X1 hx hby d21_34 rfl (l' := #[rv o0, iv 5]) rfl (q := 37) rfl ?_
  refine o_baV X1 hx hby hZ e1 V ⟨by decide, by decide⟩ (v := .int u4) rfl d21_37 (q := 38) rfl ?_
  refine o_sipush X1 hx hby d21_38 (z := 255) rfl (q := 41) rfl ?_
  refine o_iand X1 hx hby d21_41 rfl (q := 42) rfl ?_
  obtain ⟨T2, X2, e2, st2⟩ := getS2 X1 hx hZ hown (host := "") (Or.inl (w_ hw 86 rfl)) Via.refl e1 S_hi (g := (mkF m 42 #[rv o0, iv 5] [.int (u4 &&& (255 : Int32))])) rfl (hb hby d21_42)
  refine own_of st2 ?_
  show own_Out p e below _ (T2.setTop (mkF m 45 #[rv o0, iv 5] [.int 0, .int (u4 &&& (255 : Int32))]))
  refine o_ishl X2 hx hby d21_45 rfl (q := 46) rfl ?_
  refine o_aloadN X2 hx hby d21_46 rfl rfl (q := 47) rfl ?_
  refine o_iloadN X2 hx hby d21_47 rfl (q := 48) rfl ?_
  refine o_baV X2 hx hby hZ e2 V ⟨by decide, by decide⟩ (v := .int u5) rfl d21_48 (q := 49) rfl ?_
  refine o_sipush X2 hx hby d21_49 (z := 255) rfl (q := 52) rfl ?_
  refine o_iand X2 hx hby d21_52 rfl (q := 53) rfl ?_
  obtain ⟨T3, X3, e3, st3⟩ := getS2 X2 hx hZ hown (host := "") (Or.inl (w_ hw 87 rfl)) Via.refl e2 S_lo (g := (mkF m 53 #[rv o0, iv 5] [.int (u5 &&& (255 : Int32)), .int ((u4 &&& (255 : Int32)) <<< ((0 : Int32) &&& 31))])) rfl (hb hby d21_53)
  refine own_of st3 ?_
  show own_Out p e below _ (T3.setTop (mkF m 56 #[rv o0, iv 5] [.int 8, .int (u5 &&& (255 : Int32)), .int ((u4 &&& (255 : Int32)) <<< ((0 : Int32) &&& 31))]))
  refine o_ishl X3 hx hby d21_56 rfl (q := 57) rfl ?_
  refine o_ior X3 hx hby d21_57 rfl (q := 58) rfl ?_
  refine o_i2c X3 hx hby d21_58 rfl (q := 59) rfl ?_
  exact own_outN X3 hx hlk (t := .char) hret (by simp) (hb hby d21_59) (z' := (((((u4 &&& (255 : Int32)) <<< ((0 : Int32) &&& 31)) ||| ((u5 &&& (255 : Int32)) <<< ((8 : Int32) &&& 31))).toUInt32.toUInt16.toUInt32.toInt32).toUInt32.toUInt16.toUInt32.toInt32)) rfl (Q := Q21j2 Z o0 k u0 u1 u2 u3 u4 u5 u6 u7 h0 n0) ⟨by simp only [fgc2], N0, e3⟩ (by decide) (by decide)
theorem ef_21j3 (m : MethodId) (x0 : Addr) : entryFrame m #[(.ref x0), (.int 3)] 2 = mkF m 0 #[.val (.ref x0), .val (.int 3)] [] := by first | (simp [entryFrame, mkF, argsToLocals, Value.category]; done) | rfl
def fgc3 (u0 u1 u2 u3 u4 u5 u6 u7 : Int32) : Int32 := (((((u6 &&& (255 : Int32)) <<< ((0 : Int32) &&& 31)) ||| ((u7 &&& (255 : Int32)) <<< ((8 : Int32) &&& 31))).toUInt32.toUInt16.toUInt32.toInt32).toUInt32.toUInt16.toUInt32.toInt32)
def Q21j3 (Z : State) (o0 : Addr) (k : ClassId) (u0 u1 u2 u3 u4 u5 u6 u7 : Int32) (h0 : Heap) (n0 : Nat) (v : Option Value) (h : Heap) (L : List Loc) : Prop := v = some (.int (fgc3 u0 u1 u2 u3 u4 u5 u6 u7)) ∧ Fr n0 L ∧ h = h0
set_option maxRecDepth 65536 in
set_option maxHeartbeats 40000000 in
theorem rm21j3 (l : Launch) (Z : State) (a0 : Array Value) (hw : ∀ d ∈ tables_1, d.before a0 Z = true) (ws : List Jvm.Cond) (o0 : Addr) (k : ClassId) (u0 u1 u2 u3 u4 u5 u6 u7 : Int32) (h0 : Heap) (n0 : Nat) (Z0 : n0 ≤ h0.size) (V : Arv Z h0 o0 k .byte (8 : Int32) [(.int u0), (.int u1), (.int u2), (.int u3), (.int u4), (.int u5), (.int u6), (.int u7)] (.int 0)) (S_ad : Sta Z h0 "java/lang/StringUTF16" "$assertionsDisabled" "Z" (.int 1)) (S_hi : Sta Z h0 "java/lang/StringUTF16" "HI_BYTE_SHIFT" "I" (.int 0)) (S_lo : Sta Z h0 "java/lang/StringUTF16" "LO_BYTE_SHIFT" "I" (.int 8)) :
    MetFree l (⟨"java/lang/StringUTF16", "getChar", "([BI)C"⟩ : MethodName) (head1 (Jvm.Cond.code (⟨"java/lang/StringUTF16", "getChar", "([BI)C"⟩ : MethodName) jdk_52_method_5_code 2 (some .char) :: ws) (⟨0, 0, 0, 0⟩ : Room)) (fun a U => a = #[(.ref o0), (.int 3)] ∧ Z.Warmed39 U.vm ∧ U.heap = h0) (fun _ _ _ _ _ => True) (fun _ U o U' => ∃ v L, o = .returned v ∧ Q21j3 Z o0 k u0 u1 u2 u3 u4 u5 u6 u7 h0 n0 v U'.heap L ∧ FrameEnd U o U' L (⟨0, 0, 0, 0⟩ : Room).cells (⟨0, 0, 0, 0⟩ : Room).slots) := by
  refine MetFree.of_bodySF (plainFor_of_name pn_5) hisR ?_
  intro p e s m args below meth c s₁ Bd hml0 hP hK
  obtain ⟨rfl, hZ, hh⟩ := hP
  have hx := Bd.exec
  have hby := Bd.bytes
  have hml : c.maxLocals = 2 := hml0
  have hown : s.vm.findClass "java/lang/StringUTF16" = some m.cls := findClass_of_methodNamed Bd.named
  have hnm := (name_of_methodNamed Bd.named Bd.method).1
  have X0 : Stand p l e (⟨0, 0, 0, 0⟩ : Room) s m #[(.ref o0), (.int 3)] below meth c s₁ [] 0 0 := Stand.of_body Bd
  have e0 : s₁.heap = h0 := by rw [← hh, Bd.state]; rfl
  have N0 := Fr.nil n0
  have hret := Bd.returns
  have hlk := BodyLoose.notSynchronized Bd
  show own_Out p e below (fun o U' => ∃ v L, o = .returned v ∧ Q21j3 Z o0 k u0 u1 u2 u3 u4 u5 u6 u7 h0 n0 v U'.heap L ∧ FrameEnd s o U' L (⟨0, 0, 0, 0⟩ : Room).cells (⟨0, 0, 0, 0⟩ : Room).slots) (s₁.setTop (entryFrame m #[(.ref o0), (.int 3)] 2))
  refine own_of (fun t k => castTop (ef_21j3 m o0) k) ?_
  show own_Out p e below _ (s₁.setTop (mkF m 0 #[rv o0, iv 3] []))
  obtain ⟨T1, X1, e1, st1⟩ := getS2 X0 hx hZ hown (host := "") (Or.inl (w_ hw 85 rfl)) Via.refl e0 S_ad (g := (mkF m 0 #[rv o0, iv 3] [])) rfl (hb hby d21_0)
  refine own_of st1 ?_
  show own_Out p e below _ (T1.setTop (mkF m 3 #[rv o0, iv 3] [.int 1]))
  refine o_ifY X1 hx hby d21_3 ((if0 _ _).trans (feq (by decide : ¬ ((1 : Int32) = (0 : Int32)))).2) (by decide) (q := 28) (by decide) ?_
  refine o_iloadN X1 hx hby d21_28 rfl (q := 29) rfl ?_
  refine o_iconst X1 hx hby d21_29 (z := 1) rfl (q := 30) rfl ?_
  refine o_ishl X1 hx hby d21_30 (z := 6) rfl (q := 31) rfl ?_
  refine o_istoreN X1 hx hby d21_31 (l' := #[rv o0, iv 6]) rfl (q := 32) rfl ?_
  refine o_aloadN X1 hx hby d21_32 rfl rfl (q := 33) rfl ?_
  refine o_iloadN X1 hx hby d21_33 rfl (q := 34) rfl ?_
  refine o_iinc X1 hx hby d21_34 rfl (l' := #[rv o0, iv 7]) rfl (q := 37) rfl ?_
  refine o_baV X1 hx hby hZ e1 V ⟨by decide, by decide⟩ (v := .int u6) rfl d21_37 (q := 38) rfl ?_
  refine o_sipush X1 hx hby d21_38 (z := 255) rfl (q := 41) rfl ?_
  refine o_iand X1 hx hby d21_41 rfl (q := 42) rfl ?_
  obtain ⟨T2, X2, e2, st2⟩ := getS2 X1 hx hZ hown (host := "") (Or.inl (w_ hw 86 rfl)) Via.refl e1 S_hi (g := (mkF m 42 #[rv o0, iv 7] [.int (u6 &&& (255 : Int32))])) rfl (hb hby d21_42)
  refine own_of st2 ?_
  show own_Out p e below _ (T2.setTop (mkF m 45 #[rv o0, iv 7] [.int 0, .int (u6 &&& (255 : Int32))]))
  refine o_ishl X2 hx hby d21_45 rfl (q := 46) rfl ?_
  refine o_aloadN X2 hx hby d21_46 rfl rfl (q := 47) rfl ?_
  refine o_iloadN X2 hx hby d21_47 rfl (q := 48) rfl ?_
  refine o_baV X2 hx hby hZ e2 V ⟨by decide, by decide⟩ (v := .int u7) rfl d21_48 (q := 49) rfl ?_
  refine o_sipush X2 hx hby d21_49 (z := 255) rfl (q := 52) rfl ?_
  refine o_iand X2 hx hby d21_52 rfl (q := 53) rfl ?_
  obtain ⟨T3, X3, e3, st3⟩ := getS2 X2 hx hZ hown (host := "") (Or.inl (w_ hw 87 rfl)) Via.refl e2 S_lo (g := (mkF m 53 #[rv o0, iv 7] [.int (u7 &&& (255 : Int32)), .int ((u6 &&& (255 : Int32)) <<< ((0 : Int32) &&& 31))])) rfl (hb hby d21_53)
  refine own_of st3 ?_
  show own_Out p e below _ (T3.setTop (mkF m 56 #[rv o0, iv 7] [.int 8, .int (u7 &&& (255 : Int32)), .int ((u6 &&& (255 : Int32)) <<< ((0 : Int32) &&& 31))]))
  refine o_ishl X3 hx hby d21_56 rfl (q := 57) rfl ?_
  refine o_ior X3 hx hby d21_57 rfl (q := 58) rfl ?_
  refine o_i2c X3 hx hby d21_58 rfl (q := 59) rfl ?_
  exact own_outN X3 hx hlk (t := .char) hret (by simp) (hb hby d21_59) (z' := (((((u6 &&& (255 : Int32)) <<< ((0 : Int32) &&& 31)) ||| ((u7 &&& (255 : Int32)) <<< ((8 : Int32) &&& 31))).toUInt32.toUInt16.toUInt32.toInt32).toUInt32.toUInt16.toUInt32.toInt32)) rfl (Q := Q21j3 Z o0 k u0 u1 u2 u3 u4 u5 u6 u7 h0 n0) ⟨by simp only [fgc3], N0, e3⟩ (by decide) (by decide)
theorem own_gc0 {c0 c1 c2 c3 : Int32} (h : 0 ≤ c0.toInt ∧ c0.toInt < 65536) : fgc0 (((c0 >>> ((0 : Int32) &&& 31)).toInt8.toInt32).toInt8.toInt32) (((c0 >>> ((8 : Int32) &&& 31)).toInt8.toInt32).toInt8.toInt32) (((c1 >>> ((0 : Int32) &&& 31)).toInt8.toInt32).toInt8.toInt32) (((c1 >>> ((8 : Int32) &&& 31)).toInt8.toInt32).toInt8.toInt32) (((c2 >>> ((0 : Int32) &&& 31)).toInt8.toInt32).toInt8.toInt32) (((c2 >>> ((8 : Int32) &&& 31)).toInt8.toInt32).toInt8.toInt32) (((c3 >>> ((0 : Int32) &&& 31)).toInt8.toInt32).toInt8.toInt32) (((c3 >>> ((8 : Int32) &&& 31)).toInt8.toInt32).toInt8.toInt32) = c0 := by
  simp only [fgc0, own_cc h, own_i2c h]
theorem own_gc1 {c0 c1 c2 c3 : Int32} (h : 0 ≤ c1.toInt ∧ c1.toInt < 65536) : fgc1 (((c0 >>> ((0 : Int32) &&& 31)).toInt8.toInt32).toInt8.toInt32) (((c0 >>> ((8 : Int32) &&& 31)).toInt8.toInt32).toInt8.toInt32) (((c1 >>> ((0 : Int32) &&& 31)).toInt8.toInt32).toInt8.toInt32) (((c1 >>> ((8 : Int32) &&& 31)).toInt8.toInt32).toInt8.toInt32) (((c2 >>> ((0 : Int32) &&& 31)).toInt8.toInt32).toInt8.toInt32) (((c2 >>> ((8 : Int32) &&& 31)).toInt8.toInt32).toInt8.toInt32) (((c3 >>> ((0 : Int32) &&& 31)).toInt8.toInt32).toInt8.toInt32) (((c3 >>> ((8 : Int32) &&& 31)).toInt8.toInt32).toInt8.toInt32) = c1 := by
  simp only [fgc1, own_cc h, own_i2c h]
theorem own_gc2 {c0 c1 c2 c3 : Int32} (h : 0 ≤ c2.toInt ∧ c2.toInt < 65536) : fgc2 (((c0 >>> ((0 : Int32) &&& 31)).toInt8.toInt32).toInt8.toInt32) (((c0 >>> ((8 : Int32) &&& 31)).toInt8.toInt32).toInt8.toInt32) (((c1 >>> ((0 : Int32) &&& 31)).toInt8.toInt32).toInt8.toInt32) (((c1 >>> ((8 : Int32) &&& 31)).toInt8.toInt32).toInt8.toInt32) (((c2 >>> ((0 : Int32) &&& 31)).toInt8.toInt32).toInt8.toInt32) (((c2 >>> ((8 : Int32) &&& 31)).toInt8.toInt32).toInt8.toInt32) (((c3 >>> ((0 : Int32) &&& 31)).toInt8.toInt32).toInt8.toInt32) (((c3 >>> ((8 : Int32) &&& 31)).toInt8.toInt32).toInt8.toInt32) = c2 := by
  simp only [fgc2, own_cc h, own_i2c h]
theorem own_gc3 {c0 c1 c2 c3 : Int32} (h : 0 ≤ c3.toInt ∧ c3.toInt < 65536) : fgc3 (((c0 >>> ((0 : Int32) &&& 31)).toInt8.toInt32).toInt8.toInt32) (((c0 >>> ((8 : Int32) &&& 31)).toInt8.toInt32).toInt8.toInt32) (((c1 >>> ((0 : Int32) &&& 31)).toInt8.toInt32).toInt8.toInt32) (((c1 >>> ((8 : Int32) &&& 31)).toInt8.toInt32).toInt8.toInt32) (((c2 >>> ((0 : Int32) &&& 31)).toInt8.toInt32).toInt8.toInt32) (((c2 >>> ((8 : Int32) &&& 31)).toInt8.toInt32).toInt8.toInt32) (((c3 >>> ((0 : Int32) &&& 31)).toInt8.toInt32).toInt8.toInt32) (((c3 >>> ((8 : Int32) &&& 31)).toInt8.toInt32).toInt8.toInt32) = c3 := by
  simp only [fgc3, own_cc h, own_i2c h]
theorem d5_20 : decode jdk_52_method_16_code 20 = .ok (.aload_n 0, 1) := by decide +kernel
theorem d5_21 : decode jdk_52_method_16_code 21 = .ok (.iload_n 1, 1) := by decide +kernel
theorem d5_22 : decode jdk_52_method_16_code 22 = .ok (.iload_n 2, 1) := by decide +kernel
theorem d5_23 : decode jdk_52_method_16_code 23 = .ok (.invokestatic 119, 3) := by decide +kernel
theorem d5_26 : decode jdk_52_method_16_code 26 = .ok (.astore 5, 2) := by decide +kernel
theorem d5_28 : decode jdk_52_method_16_code 28 = .ok (.aload 5, 2) := by decide +kernel
theorem d5_30 : decode jdk_52_method_16_code 30 = .ok (.iload 4, 2) := by decide +kernel
theorem d5_32 : decode jdk_52_method_16_code 32 = .ok (.invokestatic 71, 3) := by decide +kernel
theorem d5_35 : decode jdk_52_method_16_code 35 = .ok (.sipush 255, 3) := by decide +kernel
theorem d5_38 : decode jdk_52_method_16_code 38 = .ok (.if_icmp .gt 16, 3) := by decide +kernel
theorem d5_54 : decode jdk_52_method_16_code 54 = .ok (.aload 5, 2) := by decide +kernel
theorem d5_56 : decode jdk_52_method_16_code 56 = .ok (.areturn, 1) := by decide +kernel
theorem ef_5n4u0 (m : MethodId) (x0 : Addr) : entryFrame m #[(.ref x0), (.int 0), (.int 4)] 6 = mkF m 0 #[.val (.ref x0), .val (.int 0), .val (.int 4), .unset, .unset, .unset] [] := by first | (simp [entryFrame, mkF, argsToLocals, Value.category]; done) | rfl
def Q5n4u0 (Z : State) (o0 : Addr) (k0 : ClassId) (c0 c1 c2 c3 : Int32) (h0 : Heap) (n0 : Nat) (v : Option Value) (h : Heap) (L : List Loc) : Prop := ∃ (b : Addr) (k : ClassId), v = some (.ref b) ∧ Fr n0 L ∧ Keep h0 h [] ∧ Arv Z h b k .byte (8 : Int32) [(.int (((c0 >>> ((0 : Int32) &&& 31)).toInt8.toInt32).toInt8.toInt32)), (.int (((c0 >>> ((8 : Int32) &&& 31)).toInt8.toInt32).toInt8.toInt32)), (.int (((c1 >>> ((0 : Int32) &&& 31)).toInt8.toInt32).toInt8.toInt32)), (.int (((c1 >>> ((8 : Int32) &&& 31)).toInt8.toInt32).toInt8.toInt32)), (.int (((c2 >>> ((0 : Int32) &&& 31)).toInt8.toInt32).toInt8.toInt32)), (.int (((c2 >>> ((8 : Int32) &&& 31)).toInt8.toInt32).toInt8.toInt32)), (.int (((c3 >>> ((0 : Int32) &&& 31)).toInt8.toInt32).toInt8.toInt32)), (.int (((c3 >>> ((8 : Int32) &&& 31)).toInt8.toInt32).toInt8.toInt32))] (.int 0) ∧ n0 ≤ b ∧ h0.size ≤ b
set_option maxRecDepth 65536 in
set_option maxHeartbeats 40000000 in
theorem rm5n4u0 (l : Launch) (Z : State) (a0 : Array Value) (hw : ∀ d ∈ tables_1, d.before a0 Z = true) (ws : List Jvm.Cond) (o0 : Addr) (k0 : ClassId) (c0 c1 c2 c3 : Int32) (h0 : Heap) (n0 : Nat) (Z0 : n0 ≤ h0.size) (V0 : Arv Z h0 o0 k0 .char (4 : Int32) [(.int c0), (.int c1), (.int c2), (.int c3)] (.int 0)) (hb0 : (255 : Int32) < c0) (hr0 : 0 ≤ c0.toInt ∧ c0.toInt < 65536) (hr1 : 0 ≤ c1.toInt ∧ c1.toInt < 65536) (hr2 : 0 ≤ c2.toInt ∧ c2.toInt < 65536) (hr3 : 0 ≤ c3.toInt ∧ c3.toInt < 65536) (S_ad : Sta Z h0 "java/lang/StringUTF16" "$assertionsDisabled" "Z" (.int 1)) (S_hi : Sta Z h0 "java/lang/StringUTF16" "HI_BYTE_SHIFT" "I" (.int 0)) (S_lo : Sta Z h0 "java/lang/StringUTF16" "LO_BYTE_SHIFT" "I" (.int 8)) :
    MetFree l (⟨"java/lang/StringUTF16", "compress", "([CII)[B"⟩ : MethodName) (head1 (Jvm.Cond.code (⟨"java/lang/StringUTF16", "compress", "([CII)[B"⟩ : MethodName) jdk_52_method_16_code 6 (some (.array .byte)) :: ws) (⟨3, 2, 12, 40⟩ : Room)) (fun a U => a = #[(.ref o0), (.int 0), (.int 4)] ∧ Z.Warmed39 U.vm ∧ U.heap = h0) (fun _ _ _ _ _ => True) (fun _ U o U' => ∃ v L, o = .returned v ∧ Q5n4u0 Z o0 k0 c0 c1 c2 c3 h0 n0 v U'.heap L ∧ FrameEnd U o U' L (⟨3, 2, 12, 40⟩ : Room).cells (⟨3, 2, 12, 40⟩ : Room).slots) := by
  refine MetFree.of_bodySF (plainFor_of_name pn_5) hisR ?_
  intro p e s m args below meth c s₁ Bd hml0 hP hK
  obtain ⟨rfl, hZ, hh⟩ := hP
  have hx := Bd.exec
  have hby := Bd.bytes
  have hml : c.maxLocals = 6 := hml0
  have hown : s.vm.findClass "java/lang/StringUTF16" = some m.cls := findClass_of_methodNamed Bd.named
  have hnm := (name_of_methodNamed Bd.named Bd.method).1
  have X0 : Stand p l e (⟨3, 2, 12, 40⟩ : Room) s m #[(.ref o0), (.int 0), (.int 4)] below meth c s₁ [] 0 0 := Stand.of_body Bd
  have e0 : s₁.heap = h0 := by rw [← hh, Bd.state]; rfl
  have N0 := Fr.nil n0
  have hret := Bd.returns
  have hlk := BodyLoose.notSynchronized Bd
  show own_Out p e below (fun o U' => ∃ v L, o = .returned v ∧ Q5n4u0 Z o0 k0 c0 c1 c2 c3 h0 n0 v U'.heap L ∧ FrameEnd s o U' L (⟨3, 2, 12, 40⟩ : Room).cells (⟨3, 2, 12, 40⟩ : Room).slots) (s₁.setTop (entryFrame m #[(.ref o0), (.int 0), (.int 4)] 6))
  refine own_of (fun t k => castTop (ef_5n4u0 m o0) k) ?_
  show own_Out p e below _ (s₁.setTop (mkF m 0 #[rv o0, iv 0, iv 4, .unset, .unset, .unset] []))
  refine o_iloadN X0 hx hby d5_0 rfl (q := 1) rfl ?_
  obtain ⟨T1, h1, k1, X1, e1, E1, A1, st1⟩ := newP X0 hx hZ (w_ hw 24 rfl) e0 (g := (mkF m 1 #[rv o0, iv 0, iv 4, .unset, .unset, .unset] [.int 4])) rfl (hb hby d5_1) rfl (by decide) (cap := 4) (by decide) (by decide) (by decide) (by decide)
  obtain ⟨b1, g1⟩ : ∃ z, z = h0.size := ⟨_, rfl⟩
  rw [← g1] at A1 st1
  have g_b1 : n0 ≤ b1 := Nat.le_trans Z0 (Nat.le_of_eq g1.symm)
  have sz_b1 : h0.size ≤ b1 := Nat.le_trans (Nat.le_refl h0.size) (Nat.le_of_eq g1.symm)
  have V_b1 : Arv Z h1 b1 k1 .byte (4 : Int32) [(.int 0), (.int 0), (.int 0), (.int 0)] (.int 0) := (Arv.new A1 (by decide)).pad (pad_rep [] (.int 0) 4)
  refine own_of st1 ?_
  show own_Out p e below _ (T1.setTop (mkF m 3 #[rv o0, iv 0, iv 4, .unset, .unset, .unset] [.ref b1]))
  refine o_astoreN X1 hx hby d5_3 rfl (l' := #[rv o0, iv 0, iv 4, rv b1, .unset, .unset]) rfl (q := 4) rfl ?_
  refine o_aloadN X1 hx hby d5_4 rfl rfl (q := 5) rfl ?_
  refine o_iloadN X1 hx hby d5_5 rfl (q := 6) rfl ?_
  refine o_aloadN X1 hx hby d5_6 rfl rfl (q := 7) rfl ?_
  refine o_iconst X1 hx hby d5_7 (z := 0) rfl (q := 8) rfl ?_
  refine o_iloadN X1 hx hby d5_8 rfl (q := 9) rfl ?_
  have ne_o0_b1 : o0 ≠ b1 := Nat.ne_of_lt (Nat.lt_of_lt_of_le V0.lt sz_b1)
  have qz3 := (V0.ext E1)
  have qz4 := (Nat.le_trans Z0 E1.1)
  obtain ⟨_, _, ⟨T2, L2, k2, n2⟩, -, X2, ⟨Lc2, hQ2, l2, y2, z2⟩, st2⟩ := Jvm.LawKit.callS X1 hx (y := (⟨"java/lang/StringUTF16", "compress", "([CI[BII)I"⟩ : MethodName)) hown (mvT hZ (w_ hw 25 rfl)) (mvT hZ (w_ hw 26 rfl)) (mvT hZ (w_ hw 22 rfl)) (mvT hZ (w_ hw 27 rfl)) (by decide) (backOf (W := 0) (rm6n4u0 l Z a0 hw [] o0 b1 k0 k1 c0 c1 c2 c3 h1 n0 qz4 qz3 V_b1 g_b1 ne_o0_b1 hb0) hZ (w_ hw 27 rfl) (w_ hw 22 rfl) (by decide) (by decide)) (g := (mkF m 9 #[rv o0, iv 0, iv 4, rv b1, .unset, .unset] [.int 4, .int 0, .ref b1, .int 0, .ref o0])) rfl (by rw [hml]; rfl) (argsL := [(.ref o0), (.int 0), (.ref b1), (.int 0), (.int 4)]) (rest := []) (lenOf pd_7 rfl) rfl (by show 2 * 0 + _ ≤ _; exact Nat.le_of_eq rfl) (hb hby d5_9) (fun _ _ => ⟨rfl, e1, (by decide : 1 + 0 ≤ _), (by decide : 4 + 0 ≤ _)⟩)
  dsimp only [Pt.U, Pt.locs, Pt.cells, Pt.slots] at X2 l2 y2 z2 st2 hQ2
  subst l2 y2 z2
  obtain ⟨rfl, N2q, K2, V2⟩ := hQ2
  have N2 := Fr.app N0 N2q
  refine own_of st2 ?_
  show own_Out p e below _ (T2.setTop (mkF m 12 #[rv o0, iv 0, iv 4, rv b1, .unset, .unset] [.int 0]))
  refine o_istore X2 hx hby d5_12 (l' := #[rv o0, iv 0, iv 4, rv b1, iv 0, .unset]) rfl (q := 14) rfl ?_
  refine o_iload X2 hx hby d5_14 rfl (q := 16) rfl ?_
  refine o_iloadN X2 hx hby d5_16 rfl (q := 17) rfl ?_
  refine o_icN X2 hx hby d5_17 (feq (by decide : ¬ ((0 : Int32) = (4 : Int32)))).1 (q := 20) rfl ?_
  refine o_aloadN X2 hx hby d5_20 rfl rfl (q := 21) rfl ?_
  refine o_iloadN X2 hx hby d5_21 rfl (q := 22) rfl ?_
  refine o_iloadN X2 hx hby d5_22 rfl (q := 23) rfl ?_
  have qz6 := (qz3.keep K2 (ninS ne_o0_b1 nin0))
  have qz7 := (own_staK1 (S_ad.ext E1) K2 (own_plainV V_b1))
  have qz8 := (own_staK1 (S_hi.ext E1) K2 (own_plainV V_b1))
  have qz9 := (own_staK1 (S_lo.ext E1) K2 (own_plainV V_b1))
  have qz10 := (Nat.le_trans qz4 K2.1)
  obtain ⟨_, _, ⟨T5, L5, k5, n5⟩, -, X5, ⟨Lc5, hQ5, l5, y5, z5⟩, st5⟩ := Jvm.LawKit.callS X2 hx (y := (⟨"java/lang/StringUTF16", "toBytes", "([CII)[B"⟩ : MethodName)) hown (mvT hZ (w_ hw 72 rfl)) (mvT hZ (w_ hw 73 rfl)) (mvT hZ (w_ hw 22 rfl)) (mvT hZ (w_ hw 74 rfl)) (by decide) (backOf (W := 0) (rm17 l Z a0 hw [] o0 k0 c0 c1 c2 c3 T2.heap n0 qz10 qz6 qz7 qz8 qz9) hZ (w_ hw 74 rfl) (w_ hw 22 rfl) (by decide) (by decide)) (g := (mkF m 23 #[rv o0, iv 0, iv 4, rv b1, iv 0, .unset] [.int 4, .int 0, .ref o0])) rfl (by rw [hml]; rfl) (argsL := [(.ref o0), (.int 0), (.int 4)]) (rest := []) (lenOf pd_8 rfl) rfl (by show 2 * 0 + _ ≤ _; exact Nat.le_of_eq rfl) (hb hby d5_23) (fun _ _ => ⟨rfl, rfl, (by decide : 1 + 1 ≤ _), (by decide : 4 + 8 ≤ _)⟩)
  dsimp only [Pt.U, Pt.locs, Pt.cells, Pt.slots] at X5 l5 y5 z5 st5 hQ5
  subst l5 y5 z5
  obtain ⟨b5, k5, rfl, N5q, K5, V5, hgb_5, hsb_5⟩ := hQ5
  have N5 := Fr.app N2 N5q
  have qz11 := (Nat.le_trans (Nat.le_trans (Nat.le_refl h0.size) E1.1) K2.1)
  have sz_b5 : h0.size ≤ b5 := Nat.le_trans qz11 hsb_5
  refine own_of st5 ?_
  show own_Out p e below _ (T5.setTop (mkF m 26 #[rv o0, iv 0, iv 4, rv b1, iv 0, .unset] [.ref b5]))
  refine o_astore X5 hx hby d5_26 rfl (l' := #[rv o0, iv 0, iv 4, rv b1, iv 0, rv b5]) rfl (q := 28) rfl ?_
  refine o_aload X5 hx hby d5_28 rfl rfl (q := 30) rfl ?_
  refine o_iload X5 hx hby d5_30 rfl (q := 32) rfl ?_
  have qz13 := (own_staK0 qz7 K5)
  have qz14 := (own_staK0 qz8 K5)
  have qz15 := (own_staK0 qz9 K5)
  have qz16 := (Nat.le_trans qz10 K5.1)
  obtain ⟨_, _, ⟨T12, L12, k12, n12⟩, -, X12, ⟨Lc12, hQ12, l12, y12, z12⟩, st12⟩ := Jvm.LawKit.callS X5 hx (y := (⟨"java/lang/StringUTF16", "getChar", "([BI)C"⟩ : MethodName)) hown (mvT hZ (w_ hw 88 rfl)) (mvT hZ (w_ hw 89 rfl)) (mvT hZ (w_ hw 22 rfl)) (mvT hZ (w_ hw 90 rfl)) (by decide) (backOf (W := 0) (rm21j0 l Z a0 hw [] b5 k5 (((c0 >>> ((0 : Int32) &&& 31)).toInt8.toInt32).toInt8.toInt32) (((c0 >>> ((8 : Int32) &&& 31)).toInt8.toInt32).toInt8.toInt32) (((c1 >>> ((0 : Int32) &&& 31)).toInt8.toInt32).toInt8.toInt32) (((c1 >>> ((8 : Int32) &&& 31)).toInt8.toInt32).toInt8.toInt32) (((c2 >>> ((0 : Int32) &&& 31)).toInt8.toInt32).toInt8.toInt32) (((c2 >>> ((8 : Int32) &&& 31)).toInt8.toInt32).toInt8.toInt32) (((c3 >>> ((0 : Int32) &&& 31)).toInt8.toInt32).toInt8.toInt32) (((c3 >>> ((8 : Int32) &&& 31)).toInt8.toInt32).toInt8.toInt32) T5.heap n0 qz16 V5 qz13 qz14 qz15) hZ (w_ hw 90 rfl) (w_ hw 22 rfl) (by decide) (by decide)) (g := (mkF m 32 #[rv o0, iv 0, iv 4, rv b1, iv 0, rv b5] [.int 0, .ref b5])) rfl (by rw [hml]; rfl) (argsL := [(.ref b5), (.int 0)]) (rest := []) (lenOf pd_3 rfl) rfl (by show 2 * 0 + _ ≤ _; exact Nat.le_of_eq rfl) (hb hby d5_32) (fun _ _ => ⟨rfl, rfl, (by decide : 2 + 0 ≤ _), (by decide : 12 + 0 ≤ _)⟩)
  dsimp only [Pt.U, Pt.locs, Pt.cells, Pt.slots] at X12 l12 y12 z12 st12 hQ12
  subst l12 y12 z12
  obtain ⟨rfl, N12q, hh12⟩ := hQ12
  have N12 := Fr.app N5 N12q
  refine own_of st12 ?_
  show own_Out p e below _ (T12.setTop (mkF m 35 #[rv o0, iv 0, iv 4, rv b1, iv 0, rv b5] [.int (fgc0 (((c0 >>> ((0 : Int32) &&& 31)).toInt8.toInt32).toInt8.toInt32) (((c0 >>> ((8 : Int32) &&& 31)).toInt8.toInt32).toInt8.toInt32) (((c1 >>> ((0 : Int32) &&& 31)).toInt8.toInt32).toInt8.toInt32) (((c1 >>> ((8 : Int32) &&& 31)).toInt8.toInt32).toInt8.toInt32) (((c2 >>> ((0 : Int32) &&& 31)).toInt8.toInt32).toInt8.toInt32) (((c2 >>> ((8 : Int32) &&& 31)).toInt8.toInt32).toInt8.toInt32) (((c3 >>> ((0 : Int32) &&& 31)).toInt8.toInt32).toInt8.toInt32) (((c3 >>> ((8 : Int32) &&& 31)).toInt8.toInt32).toInt8.toInt32))]))
  refine o_sipush X12 hx hby d5_35 (z := 255) rfl (q := 38) rfl ?_
  refine o_icY X12 hx hby d5_38 (tlt ((by rw [own_gc0 hr0]; exact hb0) : (255 : Int32) < (fgc0 (((c0 >>> ((0 : Int32) &&& 31)).toInt8.toInt32).toInt8.toInt32) (((c0 >>> ((8 : Int32) &&& 31)).toInt8.toInt32).toInt8.toInt32) (((c1 >>> ((0 : Int32) &&& 31)).toInt8.toInt32).toInt8.toInt32) (((c1 >>> ((8 : Int32) &&& 31)).toInt8.toInt32).toInt8.toInt32) (((c2 >>> ((0 : Int32) &&& 31)).toInt8.toInt32).toInt8.toInt32) (((c2 >>> ((8 : Int32) &&& 31)).toInt8.toInt32).toInt8.toInt32) (((c3 >>> ((0 : Int32) &&& 31)).toInt8.toInt32).toInt8.toInt32) (((c3 >>> ((8 : Int32) &&& 31)).toInt8.toInt32).toInt8.toInt32)))).2.2.1 (by decide) (q := 54) (by decide) ?_
  refine o_aload X12 hx hby d5_54 rfl rfl (q := 56) rfl ?_
  have qz17 := ((((Keep.refl h0 []).ext E1).trans K2 (allS (Or.inr sz_b1) all0)).trans K5 all0)
  exact own_outR X12 hx hlk hret rfl rfl rfl (hb hby d5_56) (Q := Q5n4u0 Z o0 k0 c0 c1 c2 c3 h0 n0) (by rw [hh12]; exact ⟨b5, k5, rfl, N12, qz17, V5, hgb_5, sz_b5⟩) (by decide) (by decide)
theorem ef_7v1n4 (m : MethodId) (x0 : Addr) : entryFrame m #[(.ref x0), (.int 4)] 2 = mkF m 0 #[.val (.ref x0), .val (.int 4)] [] := by first | (simp [entryFrame, mkF, argsToLocals, Value.category]; done) | rfl
def Q7v1n4 (Z : State) (o0 : Addr) (k : ClassId) (u0 u1 u2 u3 u4 u5 u6 u7 : Int32) (h0 : Heap) (n0 : Nat) (v : Option Value) (h : Heap) (L : List Loc) : Prop := v = some (.int 1) ∧ Fr n0 L ∧ h = h0
set_option maxRecDepth 65536 in
set_option maxHeartbeats 40000000 in
theorem rm7v1n4 (l : Launch) (Z : State) (a0 : Array Value) (hw : ∀ d ∈ tables_1, d.before a0 Z = true) (ws : List Jvm.Cond) (o0 : Addr) (k : ClassId) (u0 u1 u2 u3 u4 u5 u6 u7 : Int32) (h0 : Heap) (n0 : Nat) (Z0 : n0 ≤ h0.size) (V : Arv Z h0 o0 k .byte (8 : Int32) [(.int u0), (.int u1), (.int u2), (.int u3), (.int u4), (.int u5), (.int u6), (.int u7)] (.int 0)) :
    MetFree l (⟨"java/lang/StringUTF16", "coderFromArrayLen", "([BI)B"⟩ : MethodName) (head1 (Jvm.Cond.code (⟨"java/lang/StringUTF16", "coderFromArrayLen", "([BI)B"⟩ : MethodName) jdk_52_method_15_code 2 (some .byte) :: ws) (⟨0, 0, 0, 0⟩ : Room)) (fun a U => a = #[(.ref o0), (.int 4)] ∧ Z.Warmed39 U.vm ∧ U.heap = h0) (fun _ _ _ _ _ => True) (fun _ U o U' => ∃ v L, o = .returned v ∧ Q7v1n4 Z o0 k u0 u1 u2 u3 u4 u5 u6 u7 h0 n0 v U'.heap L ∧ FrameEnd U o U' L (⟨0, 0, 0, 0⟩ : Room).cells (⟨0, 0, 0, 0⟩ : Room).slots) := by
  refine MetFree.of_bodySF (plainFor_of_name pn_5) hisR ?_
  intro p e s m args below meth c s₁ Bd hml0 hP hK
  obtain ⟨rfl, hZ, hh⟩ := hP
  have hx := Bd.exec
  have hby := Bd.bytes
  have hml : c.maxLocals = 2 := hml0
  have hown : s.vm.findClass "java/lang/StringUTF16" = some m.cls := findClass_of_methodNamed Bd.named
  have hnm := (name_of_methodNamed Bd.named Bd.method).1
  have X0 : Stand p l e (⟨0, 0, 0, 0⟩ : Room) s m #[(.ref o0), (.int 4)] below meth c s₁ [] 0 0 := Stand.of_body Bd
  have e0 : s₁.heap = h0 := by rw [← hh, Bd.state]; rfl
  have N0 := Fr.nil n0
  have hret := Bd.returns
  have hlk := BodyLoose.notSynchronized Bd
  show own_Out p e below (fun o U' => ∃ v L, o = .returned v ∧ Q7v1n4 Z o0 k u0 u1 u2 u3 u4 u5 u6 u7 h0 n0 v U'.heap L ∧ FrameEnd s o U' L (⟨0, 0, 0, 0⟩ : Room).cells (⟨0, 0, 0, 0⟩ : Room).slots) (s₁.setTop (entryFrame m #[(.ref o0), (.int 4)] 2))
  refine own_of (fun t k => castTop (ef_7v1n4 m o0) k) ?_
  show own_Out p e below _ (s₁.setTop (mkF m 0 #[rv o0, iv 4] []))
  refine o_iloadN X0 hx hby d7_0 rfl (q := 1) rfl ?_
  refine o_aloadN X0 hx hby d7_1 rfl rfl (q := 2) rfl ?_
  refine o_lenV X0 hx hby hZ e0 V d7_2 (q := 3) rfl ?_
  refine o_isub X0 hx hby d7_3 (z := (-4)) rfl (q := 4) rfl ?_
  refine o_bipush X0 hx hby d7_4 (z := 31) rfl (q := 6) rfl ?_
  refine o_iushr X0 hx hby d7_6 (z := 1) rfl (q := 7) rfl ?_
  refine o_i2b X0 hx hby d7_7 (z := 1) rfl (q := 8) rfl ?_
  exact own_outN X0 hx hlk (t := .byte) hret (by simp) (hb hby d7_8) (z' := (1 : Int32)) rfl (Q := Q7v1n4 Z o0 k u0 u1 u2 u3 u4 u5 u6 u7 h0 n0) ⟨rfl, N0, e0⟩ (by decide) (by decide)
theorem ef_3n4u0 (m : MethodId) (x0 x1 : Addr) : entryFrame m #[(.ref x0), (.ref x1), (.int 0), (.int 4), .null] 6 = mkF m 0 #[.val (.ref x0), .val (.ref x1), .val (.int 0), .val (.int 4), .val .null, .unset] [] := by first | (simp [entryFrame, mkF, argsToLocals, Value.category]; done) | rfl
def Q3n4u0 (Z : State) (o0 o1 : Addr) (k1 : ClassId) (c0 c1 c2 c3 cs : Int32) (h0 : Heap) (n0 : Nat) (v : Option Value) (h : Heap) (L : List Loc) : Prop := ∃ (b : Addr) (k : ClassId), v = none ∧ Fr n0 L ∧ Keep h0 h [o0] ∧ Exa Z h o0 "java/lang/String" ∧ Fld Z h o0 "java/lang/String" "value" "[B" (.ref b) ∧ Fld Z h o0 "java/lang/String" "coder" "B" (.int 1) ∧ Arv Z h b k .byte (8 : Int32) [(.int (((c0 >>> ((0 : Int32) &&& 31)).toInt8.toInt32).toInt8.toInt32)), (.int (((c0 >>> ((8 : Int32) &&& 31)).toInt8.toInt32).toInt8.toInt32)), (.int (((c1 >>> ((0 : Int32) &&& 31)).toInt8.toInt32).toInt8.toInt32)), (.int (((c1 >>> ((8 : Int32) &&& 31)).toInt8.toInt32).toInt8.toInt32)), (.int (((c2 >>> ((0 : Int32) &&& 31)).toInt8.toInt32).toInt8.toInt32)), (.int (((c2 >>> ((8 : Int32) &&& 31)).toInt8.toInt32).toInt8.toInt32)), (.int (((c3 >>> ((0 : Int32) &&& 31)).toInt8.toInt32).toInt8.toInt32)), (.int (((c3 >>> ((8 : Int32) &&& 31)).toInt8.toInt32).toInt8.toInt32))] (.int 0) ∧ n0 ≤ b ∧ h0.size ≤ b
set_option maxRecDepth 65536 in
set_option maxHeartbeats 40000000 in
theorem rm3n4u0 (l : Launch) (Z : State) (a0 : Array Value) (hw : ∀ d ∈ tables_1, d.before a0 Z = true) (ws : List Jvm.Cond) (o0 o1 : Addr) (k1 : ClassId) (c0 c1 c2 c3 cs : Int32) (h0 : Heap) (n0 : Nat) (Z0 : n0 ≤ h0.size) (E : Exa Z h0 o0 "java/lang/String") (F_value : Fld Z h0 o0 "java/lang/String" "value" "[B" .null) (F_coder : Fld Z h0 o0 "java/lang/String" "coder" "B" (.int 0)) (g_o0 : n0 ≤ o0) (V1 : Arv Z h0 o1 k1 .char (4 : Int32) [(.int c0), (.int c1), (.int c2), (.int c3)] (.int 0)) (n10 : o1 ≠ o0) (S_cs : Sta Z h0 "java/lang/String" "COMPACT_STRINGS" "Z" (.int cs)) (hcs : ¬ (cs = (0 : Int32))) (hb0 : (255 : Int32) < c0) (hr0 : 0 ≤ c0.toInt ∧ c0.toInt < 65536) (hr1 : 0 ≤ c1.toInt ∧ c1.toInt < 65536) (hr2 : 0 ≤ c2.toInt ∧ c2.toInt < 65536) (hr3 : 0 ≤ c3.toInt ∧ c3.toInt < 65536) (S_ad : Sta Z h0 "java/lang/StringUTF16" "$assertionsDisabled" "Z" (.int 1)) (S_hi : Sta Z h0 "java/lang/StringUTF16" "HI_BYTE_SHIFT" "I" (.int 0)) (S_lo : Sta Z h0 "java/lang/StringUTF16" "LO_BYTE_SHIFT" "I" (.int 8)) :
    MetFree l (⟨"java/lang/String", "<init>", "([CIILjava/lang/Void;)V"⟩ : MethodName) (head1 (Jvm.Cond.code (⟨"java/lang/String", "<init>", "([CIILjava/lang/Void;)V"⟩ : MethodName) jdk_42_method_149_code 6 none :: ws) (⟨4, 2, 12, 57⟩ : Room)) (fun a U => a = #[(.ref o0), (.ref o1), (.int 0), (.int 4), .null] ∧ Z.Warmed39 U.vm ∧ U.heap = h0) (fun _ _ _ _ _ => True) (fun _ U o U' => ∃ v L, o = .returned v ∧ Q3n4u0 Z o0 o1 k1 c0 c1 c2 c3 cs h0 n0 v U'.heap L ∧ FrameEnd U o U' L (⟨4, 2, 12, 57⟩ : Room).cells (⟨4, 2, 12, 57⟩ : Room).slots) := by
  refine MetFree.of_bodySF (plainFor_of_name pn_1) hisR ?_
  intro p e s m args below meth c s₁ Bd hml0 hP hK
  obtain ⟨rfl, hZ, hh⟩ := hP
  have hx := Bd.exec
  have hby := Bd.bytes
  have hml : c.maxLocals = 6 := hml0
  have hown : s.vm.findClass "java/lang/String" = some m.cls := findClass_of_methodNamed Bd.named
  have hnm := (name_of_methodNamed Bd.named Bd.method).1
  have X0 : Stand p l e (⟨4, 2, 12, 57⟩ : Room) s m #[(.ref o0), (.ref o1), (.int 0), (.int 4), .null] below meth c s₁ [] 0 0 := Stand.of_body Bd
  have e0 : s₁.heap = h0 := by rw [← hh, Bd.state]; rfl
  have N0 := Fr.nil n0
  have hret := Bd.returns
  have hlk := BodyLoose.notSynchronized Bd
  show own_Out p e below (fun o U' => ∃ v L, o = .returned v ∧ Q3n4u0 Z o0 o1 k1 c0 c1 c2 c3 cs h0 n0 v U'.heap L ∧ FrameEnd s o U' L (⟨4, 2, 12, 57⟩ : Room).cells (⟨4, 2, 12, 57⟩ : Room).slots) (s₁.setTop (entryFrame m #[(.ref o0), (.ref o1), (.int 0), (.int 4), .null] 6))
  refine own_of (fun t k => castTop (ef_3n4u0 m o0 o1) k) ?_
  show own_Out p e below _ (s₁.setTop (mkF m 0 #[rv o0, rv o1, iv 0, iv 4, .val (.null), .unset] []))
  refine o_aloadN X0 hx hby d3_0 rfl rfl (q := 1) rfl ?_
  obtain ⟨T1, X1, e1, st1⟩ := initO X0 hx hZ hown (w_ hw 16 rfl) (w_ hw 17 rfl) (w_ hw 18 rfl) e0 (g := (mkF m 1 #[rv o0, rv o1, iv 0, iv 4, .val (.null), .unset] [.ref o0])) rfl (by rw [hml]; rfl) rfl (hb hby d3_1) (by decide) (W := 0) (by show 2 * 0 + _ ≤ _; exact Nat.le_of_eq rfl) (by decide)
  refine own_of st1 ?_
  show own_Out p e below _ (T1.setTop (mkF m 4 #[rv o0, rv o1, iv 0, iv 4, .val (.null), .unset] []))
  refine o_iloadN X1 hx hby d3_4 rfl (q := 5) rfl ?_
  refine o_ifY X1 hx hby d3_5 ((if0 _ _).trans (feq (by decide : ¬ ((4 : Int32) = (0 : Int32)))).2) (by decide) (q := 27) (by decide) ?_
  obtain ⟨T2, X2, e2, st2⟩ := getS2 X1 hx hZ hown (host := "") (Or.inl (w_ hw 19 rfl)) Via.refl e1 S_cs (g := (mkF m 27 #[rv o0, rv o1, iv 0, iv 4, .val (.null), .unset] [])) rfl (hb hby d3_27)
  refine own_of st2 ?_
  show own_Out p e below _ (T2.setTop (mkF m 30 #[rv o0, rv o1, iv 0, iv 4, .val (.null), .unset] [.int cs]))
  refine o_ifN X2 hx hby d3_30 ((if0 _ _).trans (feq hcs).1) (q := 33) rfl ?_
  refine o_aloadN X2 hx hby d3_33 rfl rfl (q := 34) rfl ?_
  refine o_iloadN X2 hx hby d3_34 rfl (q := 35) rfl ?_
  refine o_iloadN X2 hx hby d3_35 rfl (q := 36) rfl ?_
  obtain ⟨_, _, ⟨T3, L3, k3, n3⟩, -, X3, ⟨Lc3, hQ3, l3, y3, z3⟩, st3⟩ := Jvm.LawKit.callS X2 hx (y := (⟨"java/lang/StringUTF16", "compress", "([CII)[B"⟩ : MethodName)) hown (mvT hZ (w_ hw 20 rfl)) (mvT hZ (w_ hw 21 rfl)) (mvT hZ (w_ hw 22 rfl)) (mvT hZ (w_ hw 23 rfl)) (by decide) (backOf (W := 0) (rm5n4u0 l Z a0 hw [] o1 k1 c0 c1 c2 c3 h0 n0 Z0 V1 hb0 hr0 hr1 hr2 hr3 S_ad S_hi S_lo) hZ (w_ hw 23 rfl) (w_ hw 22 rfl) (by decide) (by decide)) (g := (mkF m 36 #[rv o0, rv o1, iv 0, iv 4, .val (.null), .unset] [.int 4, .int 0, .ref o1])) rfl (by rw [hml]; rfl) (argsL := [(.ref o1), (.int 0), (.int 4)]) (rest := []) (lenOf pd_8 rfl) rfl (by show 2 * 0 + _ ≤ _; exact Nat.le_of_eq rfl) (hb hby d3_36) (fun _ _ => ⟨rfl, e2, (by decide : 0 + 2 ≤ _), (by decide : 0 + 12 ≤ _)⟩)
  dsimp only [Pt.U, Pt.locs, Pt.cells, Pt.slots] at X3 l3 y3 z3 st3 hQ3
  subst l3 y3 z3
  obtain ⟨b3, k3, rfl, N3q, K3, V3, hgb_3, hsb_3⟩ := hQ3
  have N3 := Fr.app N0 N3q
  have sz_b3 : h0.size ≤ b3 := Nat.le_trans (Nat.le_refl h0.size) hsb_3
  refine own_of st3 ?_
  show own_Out p e below _ (T3.setTop (mkF m 39 #[rv o0, rv o1, iv 0, iv 4, .val (.null), .unset] [.ref b3]))
  refine o_astore X3 hx hby d3_39 rfl (l' := #[rv o0, rv o1, iv 0, iv 4, .val (.null), rv b3]) rfl (q := 41) rfl ?_
  refine o_aloadN X3 hx hby d3_41 rfl rfl (q := 42) rfl ?_
  refine o_aload X3 hx hby d3_42 rfl rfl (q := 44) rfl ?_
  refine o_iloadN X3 hx hby d3_44 rfl (q := 45) rfl ?_
  have qz5 := (Nat.le_trans Z0 K3.1)
  obtain ⟨_, _, ⟨T4, L4, k4, n4⟩, -, X4, ⟨Lc4, hQ4, l4, y4, z4⟩, st4⟩ := Jvm.LawKit.callS X3 hx (y := (⟨"java/lang/StringUTF16", "coderFromArrayLen", "([BI)B"⟩ : MethodName)) hown (mvT hZ (w_ hw 28 rfl)) (mvT hZ (w_ hw 29 rfl)) (mvT hZ (w_ hw 22 rfl)) (mvT hZ (w_ hw 30 rfl)) (by decide) (backOf (W := 1) (rm7v1n4 l Z a0 hw [] b3 k3 (((c0 >>> ((0 : Int32) &&& 31)).toInt8.toInt32).toInt8.toInt32) (((c0 >>> ((8 : Int32) &&& 31)).toInt8.toInt32).toInt8.toInt32) (((c1 >>> ((0 : Int32) &&& 31)).toInt8.toInt32).toInt8.toInt32) (((c1 >>> ((8 : Int32) &&& 31)).toInt8.toInt32).toInt8.toInt32) (((c2 >>> ((0 : Int32) &&& 31)).toInt8.toInt32).toInt8.toInt32) (((c2 >>> ((8 : Int32) &&& 31)).toInt8.toInt32).toInt8.toInt32) (((c3 >>> ((0 : Int32) &&& 31)).toInt8.toInt32).toInt8.toInt32) (((c3 >>> ((8 : Int32) &&& 31)).toInt8.toInt32).toInt8.toInt32) T3.heap n0 qz5 V3) hZ (w_ hw 30 rfl) (w_ hw 22 rfl) (by decide) (by decide)) (g := (mkF m 45 #[rv o0, rv o1, iv 0, iv 4, .val (.null), rv b3] [.int 4, .ref b3, .ref o0])) rfl (by rw [hml]; rfl) (argsL := [(.ref b3), (.int 4)]) (rest := [(.ref o0)]) (lenOf pd_9 rfl) rfl (by show 2 * 0 + _ ≤ _; exact Nat.le_of_eq rfl) (hb hby d3_45) (fun _ _ => ⟨rfl, rfl, (by decide : 2 + 0 ≤ _), (by decide : 12 + 0 ≤ _)⟩)
  dsimp only [Pt.U, Pt.locs, Pt.cells, Pt.slots] at X4 l4 y4 z4 st4 hQ4
  subst l4 y4 z4
  obtain ⟨rfl, N4q, hh4⟩ := hQ4
  have N4 := Fr.app N3 N4q
  refine own_of st4 ?_
  show own_Out p e below _ (T4.setTop (mkF m 48 #[rv o0, rv o1, iv 0, iv 4, .val (.null), rv b3] [.int 1, .ref o0]))
  have qz7 := (F_coder.keep K3 nin0)
  have qz8 := (E.keep K3)
  obtain ⟨T6, h6, X6, e6, W6, st6⟩ := putFN X4 hx hZ hown (w_ hw 31 rfl) Via.refl hh4 qz7 qz8 (Or.inr ⟨(w_ hw 32 rfl), rfl, hnm⟩) (w_ hw 7 rfl) (ty := .byte) (v' := (.int 1)) (by decide) rfl rfl (g := (mkF m 48 #[rv o0, rv o1, iv 0, iv 4, .val (.null), rv b3] [.int 1, .ref o0])) rfl rfl (hb hby d3_48)
  have qz9 := (F_coder.keep K3 nin0)
  have Fw6 := qz9.same W6
  refine own_of st6 ?_
  show own_Out p e below _ (T6.setTop (mkF m 51 #[rv o0, rv o1, iv 0, iv 4, .val (.null), rv b3] []))
  refine o_aloadN X6 hx hby d3_51 rfl rfl (q := 52) rfl ?_
  refine o_aload X6 hx hby d3_52 rfl rfl (q := 54) rfl ?_
  have qz11 := ((F_value.keep K3 nin0).other W6 (Or.inr (slot_ne (Or.inr (w_ hw 34 rfl)) (Or.inr (w_ hw 32 rfl)) (by decide) (t := (.array .byte)) (t' := .byte) (by decide) (by decide))))
  have qz12 := (qz8.wr W6)
  obtain ⟨T10, h10, X10, e10, W10, st10⟩ := putF X6 hx hZ hown (host := "") (Or.inl (w_ hw 33 rfl)) Via.refl e6 qz11 qz12 (Or.inr ⟨(w_ hw 34 rfl), rfl, hnm⟩) (w_ hw 7 rfl) (ty := (.array .byte)) (by decide) rfl rfl (g := (mkF m 54 #[rv o0, rv o1, iv 0, iv 4, .val (.null), rv b3] [.ref b3, .ref o0])) rfl rfl (hb hby d3_54)
  have qz13 := ((F_value.keep K3 nin0).other W6 (Or.inr (slot_ne (Or.inr (w_ hw 34 rfl)) (Or.inr (w_ hw 32 rfl)) (by decide) (t := (.array .byte)) (t' := .byte) (by decide) (by decide))))
  have Fw10 := qz13.same W10
  refine own_of st10 ?_
  show own_Out p e below _ (T10.setTop (mkF m 57 #[rv o0, rv o1, iv 0, iv 4, .val (.null), rv b3] []))
  have qz14 := ((((Keep.refl h0 [o0]).trans K3 all0).wr W6 (Or.inl (List.mem_of_getElem? (i := 0) rfl))).wr W10 (Or.inl (List.mem_of_getElem? (i := 0) rfl)))
  have qz15 := (qz12.wr W10)
  have qz16 := (Fw6.other W10 (Or.inr (slot_ne (Or.inr (w_ hw 32 rfl)) (Or.inr (w_ hw 34 rfl)) (by decide) (t := .byte) (t' := (.array .byte)) (by decide) (by decide))))
  have ne_o0_b3 : o0 ≠ b3 := Nat.ne_of_lt (Nat.lt_of_lt_of_le E.lt sz_b3)
  have qz17 := ((V3.other W6 (Ne.symm ne_o0_b3)).other W10 (Ne.symm ne_o0_b3))
  exact own_outV X10 hx hlk hret (hb hby d3_57) (Q := Q3n4u0 Z o0 o1 k1 c0 c1 c2 c3 cs h0 n0) (by rw [e10]; exact ⟨b3, k3, rfl, (Fr.snoc X10 (Fr.snoc X6 N4 g_o0) g_o0), qz14, qz15, Fw10, qz16, qz17, hgb_3, sz_b3⟩) (by decide) (by decide)
theorem ef_2n4u0 (m : MethodId) (x0 x1 : Addr) : entryFrame m #[(.ref x0), (.ref x1)] 2 = mkF m 0 #[.val (.ref x0), .val (.ref x1)] [] := by first | (simp [entryFrame, mkF, argsToLocals, Value.category]; done) | rfl
def Q2n4u0 (Z : State) (o0 o1 : Addr) (k1 : ClassId) (c0 c1 c2 c3 cs : Int32) (h0 : Heap) (n0 : Nat) (v : Option Value) (h : Heap) (L : List Loc) : Prop := v = none ∧ Fr n0 L ∧ Keep h0 h [o0] ∧ Exa Z h o0 "java/lang/String" ∧ HasOk Z h o0 c0 c1 c2 c3
set_option maxRecDepth 65536 in
set_option maxHeartbeats 40000000 in
theorem rm2n4u0 (l : Launch) (Z : State) (a0 : Array Value) (hw : ∀ d ∈ tables_1, d.before a0 Z = true) (ws : List Jvm.Cond) (o0 o1 : Addr) (k1 : ClassId) (c0 c1 c2 c3 cs : Int32) (h0 : Heap) (n0 : Nat) (Z0 : n0 ≤ h0.size) (E : Exa Z h0 o0 "java/lang/String") (F_value : Fld Z h0 o0 "java/lang/String" "value" "[B" .null) (F_coder : Fld Z h0 o0 "java/lang/String" "coder" "B" (.int 0)) (g_o0 : n0 ≤ o0) (V1 : Arv Z h0 o1 k1 .char (4 : Int32) [(.int c0), (.int c1), (.int c2), (.int c3)] (.int 0)) (n10 : o1 ≠ o0) (S_cs : Sta Z h0 "java/lang/String" "COMPACT_STRINGS" "Z" (.int cs)) (hcs : ¬ (cs = (0 : Int32))) (hb0 : (255 : Int32) < c0) (hr0 : 0 ≤ c0.toInt ∧ c0.toInt < 65536) (hr1 : 0 ≤ c1.toInt ∧ c1.toInt < 65536) (hr2 : 0 ≤ c2.toInt ∧ c2.toInt < 65536) (hr3 : 0 ≤ c3.toInt ∧ c3.toInt < 65536) (S_ad : Sta Z h0 "java/lang/StringUTF16" "$assertionsDisabled" "Z" (.int 1)) (S_hi : Sta Z h0 "java/lang/StringUTF16" "HI_BYTE_SHIFT" "I" (.int 0)) (S_lo : Sta Z h0 "java/lang/StringUTF16" "LO_BYTE_SHIFT" "I" (.int 8)) :
    MetFree l (⟨"java/lang/String", "<init>", "([C)V"⟩ : MethodName) (head1 (Jvm.Cond.code (⟨"java/lang/String", "<init>", "([C)V"⟩ : MethodName) jdk_42_method_3_code 2 none :: ws) (⟨6, 2, 12, 90⟩ : Room)) (fun a U => a = #[(.ref o0), (.ref o1)] ∧ Z.Warmed39 U.vm ∧ U.heap = h0) (fun _ _ _ _ _ => True) (fun _ U o U' => ∃ v L, o = .returned v ∧ Q2n4u0 Z o0 o1 k1 c0 c1 c2 c3 cs h0 n0 v U'.heap L ∧ FrameEnd U o U' L (⟨6, 2, 12, 90⟩ : Room).cells (⟨6, 2, 12, 90⟩ : Room).slots) := by
  refine MetFree.of_bodySF (plainFor_of_name pn_1) hisR ?_
  intro p e s m args below meth c s₁ Bd hml0 hP hK
  obtain ⟨rfl, hZ, hh⟩ := hP
  have hx := Bd.exec
  have hby := Bd.bytes
  have hml : c.maxLocals = 2 := hml0
  have hown : s.vm.findClass "java/lang/String" = some m.cls := findClass_of_methodNamed Bd.named
  have hnm := (name_of_methodNamed Bd.named Bd.method).1
  have X0 : Stand p l e (⟨6, 2, 12, 90⟩ : Room) s m #[(.ref o0), (.ref o1)] below meth c s₁ [] 0 0 := Stand.of_body Bd
  have e0 : s₁.heap = h0 := by rw [← hh, Bd.state]; rfl
  have N0 := Fr.nil n0
  have hret := Bd.returns
  have hlk := BodyLoose.notSynchronized Bd
  show own_Out p e below (fun o U' => ∃ v L, o = .returned v ∧ Q2n4u0 Z o0 o1 k1 c0 c1 c2 c3 cs h0 n0 v U'.heap L ∧ FrameEnd s o U' L (⟨6, 2, 12, 90⟩ : Room).cells (⟨6, 2, 12, 90⟩ : Room).slots) (s₁.setTop (entryFrame m #[(.ref o0), (.ref o1)] 2))
  refine own_of (fun t k => castTop (ef_2n4u0 m o0 o1) k) ?_
  show own_Out p e below _ (s₁.setTop (mkF m 0 #[rv o0, rv o1] []))
  refine o_aloadN X0 hx hby d2_0 rfl rfl (q := 1) rfl ?_
  refine o_aloadN X0 hx hby d2_1 rfl rfl (q := 2) rfl ?_
  refine o_iconst X0 hx hby d2_2 (z := 0) rfl (q := 3) rfl ?_
  refine o_aloadN X0 hx hby d2_3 rfl rfl (q := 4) rfl ?_
  refine o_lenV X0 hx hby hZ e0 V1 d2_4 (q := 5) rfl ?_
  refine o_aconst_null X0 hx hby d2_5 (q := 6) rfl ?_
  obtain ⟨_, _, ⟨T1, L1, k1, n1⟩, -, X1, ⟨Lc1, hQ1, l1, y1, z1⟩, st1⟩ := X0.specialBack hx (y := (⟨"java/lang/String", "<init>", "([CIILjava/lang/Void;)V"⟩ : MethodName)) rfl hown (mvT hZ (w_ hw 12 rfl)) (mvT hZ (w_ hw 13 rfl)) (mvT hZ (w_ hw 15 rfl)) (by decide) (backOf (W := 0) (rm3n4u0 l Z a0 hw [] o0 o1 k1 c0 c1 c2 c3 cs h0 n0 Z0 E F_value F_coder g_o0 V1 n10 S_cs hcs hb0 hr0 hr1 hr2 hr3 S_ad S_hi S_lo) hZ (w_ hw 15 rfl) (w_ hw 8 rfl) (by decide) (by decide)) (g := (mkF m 6 #[rv o0, rv o1] [.null, .int 4, .int 0, .ref o1, .ref o0])) rfl (by rw [hml]; rfl) (Steps.refl _) (a := o0) (argsL := [(.ref o1), (.int 0), (.int 4), .null]) (rest := []) (lenOf pd_10 rfl) rfl (by show 2 * 0 + _ ≤ _; exact Nat.le_of_eq rfl) (hb hby d2_6) (fun _ _ => ⟨rfl, e0, (by decide : 0 + 2 ≤ _), (by decide : 0 + 12 ≤ _)⟩)
  dsimp only [Pt.U, Pt.locs, Pt.cells, Pt.slots] at X1 l1 y1 z1 st1 hQ1
  subst l1 y1 z1
  obtain ⟨b1, k1, rfl, N1q, K1, E1, Fv1, Fc1, V1, hgb_1, hsb_1⟩ := hQ1
  have N1 := Fr.app N0 N1q
  have sz_b1 : h0.size ≤ b1 := Nat.le_trans (Nat.le_refl h0.size) hsb_1
  refine own_of (fun _ k => st1.trans k) ?_
  show own_Out p e below _ (T1.setTop (mkF m 9 #[rv o0, rv o1] []))
  have qz2 := ((Keep.refl h0 [o0]).trans K1 (allS (Or.inl (List.mem_of_getElem? (i := 0) rfl)) all0))
  exact own_outV X1 hx hlk hret (hb hby d2_9) (Q := Q2n4u0 Z o0 o1 k1 c0 c1 c2 c3 cs h0 n0) ⟨rfl, N1, qz2, E1, (has_u hr0 hr1 hr2 hr3 E1 Fv1 Fc1 V1)⟩ (by decide) (by decide)
theorem ef_6n4u1 (m : MethodId) (x0 x2 : Addr) : entryFrame m #[(.ref x0), (.int 0), (.ref x2), (.int 0), (.int 4)] 7 = mkF m 0 #[.val (.ref x0), .val (.int 0), .val (.ref x2), .val (.int 0), .val (.int 4), .unset, .unset] [] := by first | (simp [entryFrame, mkF, argsToLocals, Value.category]; done) | rfl
def Q6n4u1 (Z : State) (o0 o2 : Addr) (k0 k2 : ClassId) (c0 c1 c2 c3 : Int32) (h0 : Heap) (n0 : Nat) (v : Option Value) (h : Heap) (L : List Loc) : Prop := v = some (.int 1) ∧ Fr n0 L ∧ Keep h0 h [o2] ∧ Arv Z h o2 k2 .byte (4 : Int32) [(.int ((c0.toInt8.toInt32).toInt8.toInt32)), (.int 0), (.int 0), (.int 0)] (.int 0)
set_option maxRecDepth 65536 in
set_option maxHeartbeats 40000000 in
theorem rm6n4u1 (l : Launch) (Z : State) (a0 : Array Value) (hw : ∀ d ∈ tables_1, d.before a0 Z = true) (ws : List Jvm.Cond) (o0 o2 : Addr) (k0 k2 : ClassId) (c0 c1 c2 c3 : Int32) (h0 : Heap) (n0 : Nat) (Z0 : n0 ≤ h0.size) (V0 : Arv Z h0 o0 k0 .char (4 : Int32) [(.int c0), (.int c1), (.int c2), (.int c3)] (.int 0)) (V2 : Arv Z h0 o2 k2 .byte (4 : Int32) [(.int 0), (.int 0), (.int 0), (.int 0)] (.int 0)) (g_o2 : n0 ≤ o2) (n02 : o0 ≠ o2) (hb0 : ¬ ((255 : Int32) < c0)) (hb1 : (255 : Int32) < c1) :
    MetFree l (⟨"java/lang/StringUTF16", "compress", "([CI[BII)I"⟩ : MethodName) (head1 (Jvm.Cond.code (⟨"java/lang/StringUTF16", "compress", "([CI[BII)I"⟩ : MethodName) jdk_52_method_21_code 7 (some .int) :: ws) (⟨0, 0, 0, 0⟩ : Room)) (fun a U => a = #[(.ref o0), (.int 0), (.ref o2), (.int 0), (.int 4)] ∧ Z.Warmed39 U.vm ∧ U.heap = h0) (fun _ _ _ _ _ => True) (fun _ U o U' => ∃ v L, o = .returned v ∧ Q6n4u1 Z o0 o2 k0 k2 c0 c1 c2 c3 h0 n0 v U'.heap L ∧ FrameEnd U o U' L (⟨0, 0, 0, 0⟩ : Room).cells (⟨0, 0, 0, 0⟩ : Room).slots) := by
  refine MetFree.of_bodySF (plainFor_of_name pn_5) hisR ?_
  intro p e s m args below meth c s₁ Bd hml0 hP hK
  obtain ⟨rfl, hZ, hh⟩ := hP
  have hx := Bd.exec
  have hby := Bd.bytes
  have hml : c.maxLocals = 7 := hml0
  have hown : s.vm.findClass "java/lang/StringUTF16" = some m.cls := findClass_of_methodNamed Bd.named
  have hnm := (name_of_methodNamed Bd.named Bd.method).1
  have X0 : Stand p l e (⟨0, 0, 0, 0⟩ : Room) s m #[(.ref o0), (.int 0), (.ref o2), (.int 0), (.int 4)] below meth c s₁ [] 0 0 := Stand.of_body Bd
  have e0 : s₁.heap = h0 := by rw [← hh, Bd.state]; rfl
  have N0 := Fr.nil n0
  have hret := Bd.returns
  have hlk := BodyLoose.notSynchronized Bd
  show own_Out p e below (fun o U' => ∃ v L, o = .returned v ∧ Q6n4u1 Z o0 o2 k0 k2 c0 c1 c2 c3 h0 n0 v U'.heap L ∧ FrameEnd s o U' L (⟨0, 0, 0, 0⟩ : Room).cells (⟨0, 0, 0, 0⟩ : Room).slots) (s₁.setTop (entryFrame m #[(.ref o0), (.int 0), (.ref o2), (.int 0), (.int 4)] 7))
  refine own_of (fun t k => castTop (ef_6n4u1 m o0 o2) k) ?_
  show own_Out p e below _ (s₁.setTop (mkF m 0 #[rv o0, iv 0, rv o2, iv 0, iv 4, .unset, .unset] []))
  refine o_iconst X0 hx hby d6_0 (z := 0) rfl (q := 1) rfl ?_
  refine o_istore X0 hx hby d6_1 (l' := #[rv o0, iv 0, rv o2, iv 0, iv 4, iv 0, .unset]) rfl (q := 3) rfl ?_
  refine o_iload X0 hx hby d6_3 rfl (q := 5) rfl ?_
  refine o_iload X0 hx hby d6_5 rfl (q := 7) rfl ?_
  refine o_icN X0 hx hby d6_7 (tlt (by decide : (0 : Int32) < (4 : Int32))).2.1 (q := 10) rfl ?_
  refine o_aloadN X0 hx hby d6_10 rfl rfl (q := 11) rfl ?_
  refine o_iloadN X0 hx hby d6_11 rfl (q := 12) rfl ?_
  refine o_caV X0 hx hby hZ e0 V0 ⟨by decide, by decide⟩ (v := .int c0) rfl d6_12 (q := 13) rfl ?_
  refine o_istore X0 hx hby d6_13 (l' := #[rv o0, iv 0, rv o2, iv 0, iv 4, iv 0, iv c0]) rfl (q := 15) rfl ?_
  refine o_iload X0 hx hby d6_15 rfl (q := 17) rfl ?_
  refine o_sipush X0 hx hby d6_17 (z := 255) rfl (q := 20) rfl ?_
  refine o_icY X0 hx hby d6_20 (flt hb0).2.2.2 (by decide) (q := 26) (by decide) ?_
  refine o_aloadN X0 hx hby d6_26 rfl rfl (q := 27) rfl ?_
  refine o_iloadN X0 hx hby d6_27 rfl (q := 28) rfl ?_
  refine o_iload X0 hx hby d6_28 rfl (q := 30) rfl ?_
  refine o_i2b X0 hx hby d6_30 rfl (q := 31) rfl ?_
  obtain ⟨cl1, Ar1, q1, S1, N1', H1, G1⟩ := id V2
  have hin2 : ¬ ((0 : Int32) < 0 ∨ cl1.slots.size ≤ ((0 : Int32)).toNatClampNeg) := inb_of S1 ⟨by decide, by decide⟩
  obtain ⟨T2, h2, X2, e2, W2, st2⟩ := stB X0 hx hZ e0 Ar1 (j := (0 : Int32)) hin2 (g := (mkF m 31 #[rv o0, iv 0, rv o2, iv 0, iv 4, iv 0, iv c0] [.int (c0.toInt8.toInt32), .int 0, .ref o2])) rfl rfl (hb hby d6_31)
  have V2 := Arv.set Ar1 q1 S1 N1' H1 G1 (fits_nar_byte _) W2 0 rfl (Nat.le_of_ble_eq_true rfl)
  refine own_of st2 ?_
  show own_Out p e below _ (T2.setTop (mkF m 32 #[rv o0, iv 0, rv o2, iv 0, iv 4, iv 0, iv c0] []))
  refine o_iinc X2 hx hby d6_32 rfl (l' := #[rv o0, iv 1, rv o2, iv 0, iv 4, iv 0, iv c0]) rfl (q := 35) rfl ?_
  refine o_iinc X2 hx hby d6_35 rfl (l' := #[rv o0, iv 1, rv o2, iv 1, iv 4, iv 0, iv c0]) rfl (q := 38) rfl ?_
  refine o_iinc X2 hx hby d6_38 rfl (l' := #[rv o0, iv 1, rv o2, iv 1, iv 4, iv 1, iv c0]) rfl (q := 41) rfl ?_
  refine o_goto X2 hx hby d6_41 (by decide) (q := 3) (by decide) ?_
  refine o_iload X2 hx hby d6_3 rfl (q := 5) rfl ?_
  refine o_iload X2 hx hby d6_5 rfl (q := 7) rfl ?_
  refine o_icN X2 hx hby d6_7 (tlt (by decide : (1 : Int32) < (4 : Int32))).2.1 (q := 10) rfl ?_
  refine o_aloadN X2 hx hby d6_10 rfl rfl (q := 11) rfl ?_
  refine o_iloadN X2 hx hby d6_11 rfl (q := 12) rfl ?_
  have qz3 := (V0.other W2 n02)
  refine o_caV X2 hx hby hZ e2 qz3 ⟨by decide, by decide⟩ (v := .int c1) rfl d6_12 (q := 13) rfl ?_
  refine o_istore X2 hx hby d6_13 (l' := #[rv o0, iv 1, rv o2, iv 1, iv 4, iv 1, iv c1]) rfl (q := 15) rfl ?_
  refine o_iload X2 hx hby d6_15 rfl (q := 17) rfl ?_
  refine o_sipush X2 hx hby d6_17 (z := 255) rfl (q := 20) rfl ?_
  refine o_icN X2 hx hby d6_20 (tlt hb1).2.2.2 (q := 23) rfl ?_
  refine o_iload X2 hx hby d6_23 rfl (q := 25) rfl ?_
  have qz4 := ((Keep.refl h0 [o2]).wr W2 (Or.inl (List.mem_of_getElem? (i := 0) rfl)))
  exact own_outI X2 hx hlk hret (hb hby d6_25) (Q := Q6n4u1 Z o0 o2 k0 k2 c0 c1 c2 c3 h0 n0) (by rw [e2]; exact ⟨rfl, (Fr.snoc X2 N0 g_o2), qz4, V2⟩) (by decide) (by decide)
theorem ef_5n4u1 (m : MethodId) (x0 : Addr) : entryFrame m #[(.ref x0), (.int 0), (.int 4)] 6 = mkF m 0 #[.val (.ref x0), .val (.int 0), .val (.int 4), .unset, .unset, .unset] [] := by first | (simp [entryFrame, mkF, argsToLocals, Value.category]; done) | rfl
def Q5n4u1 (Z : State) (o0 : Addr) (k0 : ClassId) (c0 c1 c2 c3 : Int32) (h0 : Heap) (n0 : Nat) (v : Option Value) (h : Heap) (L : List Loc) : Prop := ∃ (b : Addr) (k : ClassId), v = some (.ref b) ∧ Fr n0 L ∧ Keep h0 h [] ∧ Arv Z h b k .byte (8 : Int32) [(.int (((c0 >>> ((0 : Int32) &&& 31)).toInt8.toInt32).toInt8.toInt32)), (.int (((c0 >>> ((8 : Int32) &&& 31)).toInt8.toInt32).toInt8.toInt32)), (.int (((c1 >>> ((0 : Int32) &&& 31)).toInt8.toInt32).toInt8.toInt32)), (.int (((c1 >>> ((8 : Int32) &&& 31)).toInt8.toInt32).toInt8.toInt32)), (.int (((c2 >>> ((0 : Int32) &&& 31)).toInt8.toInt32).toInt8.toInt32)), (.int (((c2 >>> ((8 : Int32) &&& 31)).toInt8.toInt32).toInt8.toInt32)), (.int (((c3 >>> ((0 : Int32) &&& 31)).toInt8.toInt32).toInt8.toInt32)), (.int (((c3 >>> ((8 : Int32) &&& 31)).toInt8.toInt32).toInt8.toInt32))] (.int 0) ∧ n0 ≤ b ∧ h0.size ≤ b
set_option maxRecDepth 65536 in
set_option maxHeartbeats 40000000 in
theorem rm5n4u1 (l : Launch) (Z : State) (a0 : Array Value) (hw : ∀ d ∈ tables_1, d.before a0 Z = true) (ws : List Jvm.Cond) (o0 : Addr) (k0 : ClassId) (c0 c1 c2 c3 : Int32) (h0 : Heap) (n0 : Nat) (Z0 : n0 ≤ h0.size) (V0 : Arv Z h0 o0 k0 .char (4 : Int32) [(.int c0), (.int c1), (.int c2), (.int c3)] (.int 0)) (hb0 : ¬ ((255 : Int32) < c0)) (hb1 : (255 : Int32) < c1) (hr0 : 0 ≤ c0.toInt ∧ c0.toInt < 65536) (hr1 : 0 ≤ c1.toInt ∧ c1.toInt < 65536) (hr2 : 0 ≤ c2.toInt ∧ c2.toInt < 65536) (hr3 : 0 ≤ c3.toInt ∧ c3.toInt < 65536) (S_ad : Sta Z h0 "java/lang/StringUTF16" "$assertionsDisabled" "Z" (.int 1)) (S_hi : Sta Z h0 "java/lang/StringUTF16" "HI_BYTE_SHIFT" "I" (.int 0)) (S_lo : Sta Z h0 "java/lang/StringUTF16" "LO_BYTE_SHIFT" "I" (.int 8)) :
    MetFree l (⟨"java/lang/StringUTF16", "compress", "([CII)[B"⟩ : MethodName) (head1 (Jvm.Cond.code (⟨"java/lang/StringUTF16", "compress", "([CII)[B"⟩ : MethodName) jdk_52_method_16_code 6 (some (.array .byte)) :: ws) (⟨3, 2, 12, 40⟩ : Room)) (fun a U => a = #[(.ref o0), (.int 0), (.int 4)] ∧ Z.Warmed39 U.vm ∧ U.heap = h0) (fun _ _ _ _ _ => True) (fun _ U o U' => ∃ v L, o = .returned v ∧ Q5n4u1 Z o0 k0 c0 c1 c2 c3 h0 n0 v U'.heap L ∧ FrameEnd U o U' L (⟨3, 2, 12, 40⟩ : Room).cells (⟨3, 2, 12, 40⟩ : Room).slots) := by
  refine MetFree.of_bodySF (plainFor_of_name pn_5) hisR ?_
  intro p e s m args below meth c s₁ Bd hml0 hP hK
  obtain ⟨rfl, hZ, hh⟩ := hP
  have hx := Bd.exec
  have hby := Bd.bytes
  have hml : c.maxLocals = 6 := hml0
  have hown : s.vm.findClass "java/lang/StringUTF16" = some m.cls := findClass_of_methodNamed Bd.named
  have hnm := (name_of_methodNamed Bd.named Bd.method).1
  have X0 : Stand p l e (⟨3, 2, 12, 40⟩ : Room) s m #[(.ref o0), (.int 0), (.int 4)] below meth c s₁ [] 0 0 := Stand.of_body Bd
  have e0 : s₁.heap = h0 := by rw [← hh, Bd.state]; rfl
  have N0 := Fr.nil n0
  have hret := Bd.returns
  have hlk := BodyLoose.notSynchronized Bd
  show own_Out p e below (fun o U' => ∃ v L, o = .returned v ∧ Q5n4u1 Z o0 k0 c0 c1 c2 c3 h0 n0 v U'.heap L ∧ FrameEnd s o U' L (⟨3, 2, 12, 40⟩ : Room).cells (⟨3, 2, 12, 40⟩ : Room).slots) (s₁.setTop (entryFrame m #[(.ref o0), (.int 0), (.int 4)] 6))
  refine own_of (fun t k => castTop (ef_5n4u1 m o0) k) ?_
  show own_Out p e below _ (s₁.setTop (mkF m 0 #[rv o0, iv 0, iv 4, .unset, .unset, .unset] []))
  refine o_iloadN X0 hx hby d5_0 rfl (q := 1) rfl ?_
  obtain ⟨T1, h1, k1, X1, e1, E1, A1, st1⟩ := newP X0 hx hZ (w_ hw 24 rfl) e0 (g := (mkF m 1 #[rv o0, iv 0, iv 4, .unset, .unset, .unset] [.int 4])) rfl (hb hby d5_1) rfl (by decide) (cap := 4) (by decide) (by decide) (by decide) (by decide)
  obtain ⟨b1, g1⟩ : ∃ z, z = h0.size := ⟨_, rfl⟩
  rw [← g1] at A1 st1
  have g_b1 : n0 ≤ b1 := Nat.le_trans Z0 (Nat.le_of_eq g1.symm)
  have sz_b1 : h0.size ≤ b1 := Nat.le_trans (Nat.le_refl h0.size) (Nat.le_of_eq g1.symm)
  have V_b1 : Arv Z h1 b1 k1 .byte (4 : Int32) [(.int 0), (.int 0), (.int 0), (.int 0)] (.int 0) := (Arv.new A1 (by decide)).pad (pad_rep [] (.int 0) 4)
  refine own_of st1 ?_
  show own_Out p e below _ (T1.setTop (mkF m 3 #[rv o0, iv 0, iv 4, .unset, .unset, .unset] [.ref b1]))
  refine o_astoreN X1 hx hby d5_3 rfl (l' := #[rv o0, iv 0, iv 4, rv b1, .unset, .unset]) rfl (q := 4) rfl ?_
  refine o_aloadN X1 hx hby d5_4 rfl rfl (q := 5) rfl ?_
  refine o_iloadN X1 hx hby d5_5 rfl (q := 6) rfl ?_
  refine o_aloadN X1 hx hby d5_6 rfl rfl (q := 7) rfl ?_
  refine o_iconst X1 hx hby d5_7 (z := 0) rfl (q := 8) rfl ?_
  refine o_iloadN X1 hx hby d5_8 rfl (q := 9) rfl ?_
  have ne_o0_b1 : o0 ≠ b1 := Nat.ne_of_lt (Nat.lt_of_lt_of_le V0.lt sz_b1)
  have qz3 := (V0.ext E1)
  have qz4 := (Nat.le_trans Z0 E1.1)
  obtain ⟨_, _, ⟨T2, L2, k2, n2⟩, -, X2, ⟨Lc2, hQ2, l2, y2, z2⟩, st2⟩ := Jvm.LawKit.callS X1 hx (y := (⟨"java/lang/StringUTF16", "compress", "([CI[BII)I"⟩ : MethodName)) hown (mvT hZ (w_ hw 25 rfl)) (mvT hZ (w_ hw 26 rfl)) (mvT hZ (w_ hw 22 rfl)) (mvT hZ (w_ hw 27 rfl)) (by decide) (backOf (W := 0) (rm6n4u1 l Z a0 hw [] o0 b1 k0 k1 c0 c1 c2 c3 h1 n0 qz4 qz3 V_b1 g_b1 ne_o0_b1 hb0 hb1) hZ (w_ hw 27 rfl) (w_ hw 22 rfl) (by decide) (by decide)) (g := (mkF m 9 #[rv o0, iv 0, iv 4, rv b1, .unset, .unset] [.int 4, .int 0, .ref b1, .int 0, .ref o0])) rfl (by rw [hml]; rfl) (argsL := [(.ref o0), (.int 0), (.ref b1), (.int 0), (.int 4)]) (rest := []) (lenOf pd_7 rfl) rfl (by show 2 * 0 + _ ≤ _; exact Nat.le_of_eq rfl) (hb hby d5_9) (fun _ _ => ⟨rfl, e1, (by decide : 1 + 0 ≤ _), (by decide : 4 + 0 ≤ _)⟩)
  dsimp only [Pt.U, Pt.locs, Pt.cells, Pt.slots] at X2 l2 y2 z2 st2 hQ2
  subst l2 y2 z2
  obtain ⟨rfl, N2q, K2, V2⟩ := hQ2
  have N2 := Fr.app N0 N2q
  refine own_of st2 ?_
  show own_Out p e below _ (T2.setTop (mkF m 12 #[rv o0, iv 0, iv 4, rv b1, .unset, .unset] [.int 1]))
  refine o_istore X2 hx hby d5_12 (l' := #[rv o0, iv 0, iv 4, rv b1, iv 1, .unset]) rfl (q := 14) rfl ?_
  refine o_iload X2 hx hby d5_14 rfl (q := 16) rfl ?_
  refine o_iloadN X2 hx hby d5_16 rfl (q := 17) rfl ?_
  refine o_icN X2 hx hby d5_17 (feq (by decide : ¬ ((1 : Int32) = (4 : Int32)))).1 (q := 20) rfl ?_
  refine o_aloadN X2 hx hby d5_20 rfl rfl (q := 21) rfl ?_
  refine o_iloadN X2 hx hby d5_21 rfl (q := 22) rfl ?_
  refine o_iloadN X2 hx hby d5_22 rfl (q := 23) rfl ?_
  have qz6 := (qz3.keep K2 (ninS ne_o0_b1 nin0))
  have qz7 := (own_staK1 (S_ad.ext E1) K2 (own_plainV V_b1))
  have qz8 := (own_staK1 (S_hi.ext E1) K2 (own_plainV V_b1))
  have qz9 := (own_staK1 (S_lo.ext E1) K2 (own_plainV V_b1))
  have qz10 := (Nat.le_trans qz4 K2.1)
  obtain ⟨_, _, ⟨T5, L5, k5, n5⟩, -, X5, ⟨Lc5, hQ5, l5, y5, z5⟩, st5⟩ := Jvm.LawKit.callS X2 hx (y := (⟨"java/lang/StringUTF16", "toBytes", "([CII)[B"⟩ : MethodName)) hown (mvT hZ (w_ hw 72 rfl)) (mvT hZ (w_ hw 73 rfl)) (mvT hZ (w_ hw 22 rfl)) (mvT hZ (w_ hw 74 rfl)) (by decide) (backOf (W := 0) (rm17 l Z a0 hw [] o0 k0 c0 c1 c2 c3 T2.heap n0 qz10 qz6 qz7 qz8 qz9) hZ (w_ hw 74 rfl) (w_ hw 22 rfl) (by decide) (by decide)) (g := (mkF m 23 #[rv o0, iv 0, iv 4, rv b1, iv 1, .unset] [.int 4, .int 0, .ref o0])) rfl (by rw [hml]; rfl) (argsL := [(.ref o0), (.int 0), (.int 4)]) (rest := []) (lenOf pd_8 rfl) rfl (by show 2 * 0 + _ ≤ _; exact Nat.le_of_eq rfl) (hb hby d5_23) (fun _ _ => ⟨rfl, rfl, (by decide : 1 + 1 ≤ _), (by decide : 4 + 8 ≤ _)⟩)
  dsimp only [Pt.U, Pt.locs, Pt.cells, Pt.slots] at X5 l5 y5 z5 st5 hQ5
  subst l5 y5 z5
  obtain ⟨b5, k5, rfl, N5q, K5, V5, hgb_5, hsb_5⟩ := hQ5
  have N5 := Fr.app N2 N5q
  have qz11 := (Nat.le_trans (Nat.le_trans (Nat.le_refl h0.size) E1.1) K2.1)
  have sz_b5 : h0.size ≤ b5 := Nat.le_trans qz11 hsb_5
  refine own_of st5 ?_
  show own_Out p e below _ (T5.setTop (mkF m 26 #[rv o0, iv 0, iv 4, rv b1, iv 1, .unset] [.ref b5]))
  refine o_astore X5 hx hby d5_26 rfl (l' := #[rv o0, iv 0, iv 4, rv b1, iv 1, rv b5]) rfl (q := 28) rfl ?_
  refine o_aload X5 hx hby d5_28 rfl rfl (q := 30) rfl ?_
  refine o_iload X5 hx hby d5_30 rfl (q := 32) rfl ?_
  have qz13 := (own_staK0 qz7 K5)
  have qz14 := (own_staK0 qz8 K5)
  have qz15 := (own_staK0 qz9 K5)
  have qz16 := (Nat.le_trans qz10 K5.1)
  obtain ⟨_, _, ⟨T12, L12, k12, n12⟩, -, X12, ⟨Lc12, hQ12, l12, y12, z12⟩, st12⟩ := Jvm.LawKit.callS X5 hx (y := (⟨"java/lang/StringUTF16", "getChar", "([BI)C"⟩ : MethodName)) hown (mvT hZ (w_ hw 88 rfl)) (mvT hZ (w_ hw 89 rfl)) (mvT hZ (w_ hw 22 rfl)) (mvT hZ (w_ hw 90 rfl)) (by decide) (backOf (W := 0) (rm21j1 l Z a0 hw [] b5 k5 (((c0 >>> ((0 : Int32) &&& 31)).toInt8.toInt32).toInt8.toInt32) (((c0 >>> ((8 : Int32) &&& 31)).toInt8.toInt32).toInt8.toInt32) (((c1 >>> ((0 : Int32) &&& 31)).toInt8.toInt32).toInt8.toInt32) (((c1 >>> ((8 : Int32) &&& 31)).toInt8.toInt32).toInt8.toInt32) (((c2 >>> ((0 : Int32) &&& 31)).toInt8.toInt32).toInt8.toInt32) (((c2 >>> ((8 : Int32) &&& 31)).toInt8.toInt32).toInt8.toInt32) (((c3 >>> ((0 : Int32) &&& 31)).toInt8.toInt32).toInt8.toInt32) (((c3 >>> ((8 : Int32) &&& 31)).toInt8.toInt32).toInt8.toInt32) T5.heap n0 qz16 V5 qz13 qz14 qz15) hZ (w_ hw 90 rfl) (w_ hw 22 rfl) (by decide) (by decide)) (g := (mkF m 32 #[rv o0, iv 0, iv 4, rv b1, iv 1, rv b5] [.int 1, .ref b5])) rfl (by rw [hml]; rfl) (argsL := [(.ref b5), (.int 1)]) (rest := []) (lenOf pd_3 rfl) rfl (by show 2 * 0 + _ ≤ _; exact Nat.le_of_eq rfl) (hb hby d5_32) (fun _ _ => ⟨rfl, rfl, (by decide : 2 + 0 ≤ _), (by decide : 12 + 0 ≤ _)⟩)
  dsimp only [Pt.U, Pt.locs, Pt.cells, Pt.slots] at X12 l12 y12 z12 st12 hQ12
  subst l12 y12 z12
  obtain ⟨rfl, N12q, hh12⟩ := hQ12
  have N12 := Fr.app N5 N12q
  refine own_of st12 ?_
  show own_Out p e below _ (T12.setTop (mkF m 35 #[rv o0, iv 0, iv 4, rv b1, iv 1, rv b5] [.int (fgc1 (((c0 >>> ((0 : Int32) &&& 31)).toInt8.toInt32).toInt8.toInt32) (((c0 >>> ((8 : Int32) &&& 31)).toInt8.toInt32).toInt8.toInt32) (((c1 >>> ((0 : Int32) &&& 31)).toInt8.toInt32).toInt8.toInt32) (((c1 >>> ((8 : Int32) &&& 31)).toInt8.toInt32).toInt8.toInt32) (((c2 >>> ((0 : Int32) &&& 31)).toInt8.toInt32).toInt8.toInt32) (((c2 >>> ((8 : Int32) &&& 31)).toInt8.toInt32).toInt8.toInt32) (((c3 >>> ((0 : Int32) &&& 31)).toInt8.toInt32).toInt8.toInt32) (((c3 >>> ((8 : Int32) &&& 31)).toInt8.toInt32).toInt8.toInt32))]))
  refine o_sipush X12 hx hby d5_35 (z := 255) rfl (q := 38) rfl ?_
  refine o_icY X12 hx hby d5_38 (tlt ((by rw [own_gc1 hr1]; exact hb1) : (255 : Int32) < (fgc1 (((c0 >>> ((0 : Int32) &&& 31)).toInt8.toInt32).toInt8.toInt32) (((c0 >>> ((8 : Int32) &&& 31)).toInt8.toInt32).toInt8.toInt32) (((c1 >>> ((0 : Int32) &&& 31)).toInt8.toInt32).toInt8.toInt32) (((c1 >>> ((8 : Int32) &&& 31)).toInt8.toInt32).toInt8.toInt32) (((c2 >>> ((0 : Int32) &&& 31)).toInt8.toInt32).toInt8.toInt32) (((c2 >>> ((8 : Int32) &&& 31)).toInt8.toInt32).toInt8.toInt32) (((c3 >>> ((0 : Int32) &&& 31)).toInt8.toInt32).toInt8.toInt32) (((c3 >>> ((8 : Int32) &&& 31)).toInt8.toInt32).toInt8.toInt32)))).2.2.1 (by decide) (q := 54) (by decide) ?_
  refine o_aload X12 hx hby d5_54 rfl rfl (q := 56) rfl ?_
  have qz17 := ((((Keep.refl h0 []).ext E1).trans K2 (allS (Or.inr sz_b1) all0)).trans K5 all0)
  exact own_outR X12 hx hlk hret rfl rfl rfl (hb hby d5_56) (Q := Q5n4u1 Z o0 k0 c0 c1 c2 c3 h0 n0) (by rw [hh12]; exact ⟨b5, k5, rfl, N12, qz17, V5, hgb_5, sz_b5⟩) (by decide) (by decide)
theorem ef_3n4u1 (m : MethodId) (x0 x1 : Addr) : entryFrame m #[(.ref x0), (.ref x1), (.int 0), (.int 4), .null] 6 = mkF m 0 #[.val (.ref x0), .val (.ref x1), .val (.int 0), .val (.int 4), .val .null, .unset] [] := by first | (simp [entryFrame, mkF, argsToLocals, Value.category]; done) | rfl
def Q3n4u1 (Z : State) (o0 o1 : Addr) (k1 : ClassId) (c0 c1 c2 c3 cs : Int32) (h0 : Heap) (n0 : Nat) (v : Option Value) (h : Heap) (L : List Loc) : Prop := ∃ (b : Addr) (k : ClassId), v = none ∧ Fr n0 L ∧ Keep h0 h [o0] ∧ Exa Z h o0 "java/lang/String" ∧ Fld Z h o0 "java/lang/String" "value" "[B" (.ref b) ∧ Fld Z h o0 "java/lang/String" "coder" "B" (.int 1) ∧ Arv Z h b k .byte (8 : Int32) [(.int (((c0 >>> ((0 : Int32) &&& 31)).toInt8.toInt32).toInt8.toInt32)), (.int (((c0 >>> ((8 : Int32) &&& 31)).toInt8.toInt32).toInt8.toInt32)), (.int (((c1 >>> ((0 : Int32) &&& 31)).toInt8.toInt32).toInt8.toInt32)), (.int (((c1 >>> ((8 : Int32) &&& 31)).toInt8.toInt32).toInt8.toInt32)), (.int (((c2 >>> ((0 : Int32) &&& 31)).toInt8.toInt32).toInt8.toInt32)), (.int (((c2 >>> ((8 : Int32) &&& 31)).toInt8.toInt32).toInt8.toInt32)), (.int (((c3 >>> ((0 : Int32) &&& 31)).toInt8.toInt32).toInt8.toInt32)), (.int (((c3 >>> ((8 : Int32) &&& 31)).toInt8.toInt32).toInt8.toInt32))] (.int 0) ∧ n0 ≤ b ∧ h0.size ≤ b
set_option maxRecDepth 65536 in
set_option maxHeartbeats 40000000 in
theorem rm3n4u1 (l : Launch) (Z : State) (a0 : Array Value) (hw : ∀ d ∈ tables_1, d.before a0 Z = true) (ws : List Jvm.Cond) (o0 o1 : Addr) (k1 : ClassId) (c0 c1 c2 c3 cs : Int32) (h0 : Heap) (n0 : Nat) (Z0 : n0 ≤ h0.size) (E : Exa Z h0 o0 "java/lang/String") (F_value : Fld Z h0 o0 "java/lang/String" "value" "[B" .null) (F_coder : Fld Z h0 o0 "java/lang/String" "coder" "B" (.int 0)) (g_o0 : n0 ≤ o0) (V1 : Arv Z h0 o1 k1 .char (4 : Int32) [(.int c0), (.int c1), (.int c2), (.int c3)] (.int 0)) (n10 : o1 ≠ o0) (S_cs : Sta Z h0 "java/lang/String" "COMPACT_STRINGS" "Z" (.int cs)) (hcs : ¬ (cs = (0 : Int32))) (hb0 : ¬ ((255 : Int32) < c0)) (hb1 : (255 : Int32) < c1) (hr0 : 0 ≤ c0.toInt ∧ c0.toInt < 65536) (hr1 : 0 ≤ c1.toInt ∧ c1.toInt < 65536) (hr2 : 0 ≤ c2.toInt ∧ c2.toInt < 65536) (hr3 : 0 ≤ c3.toInt ∧ c3.toInt < 65536) (S_ad : Sta Z h0 "java/lang/StringUTF16" "$assertionsDisabled" "Z" (.int 1)) (S_hi : Sta Z h0 "java/lang/StringUTF16" "HI_BYTE_SHIFT" "I" (.int 0)) (S_lo : Sta Z h0 "java/lang/StringUTF16" "LO_BYTE_SHIFT" "I" (.int 8)) :
    MetFree l (⟨"java/lang/String", "<init>", "([CIILjava/lang/Void;)V"⟩ : MethodName) (head1 (Jvm.Cond.code (⟨"java/lang/String", "<init>", "([CIILjava/lang/Void;)V"⟩ : MethodName) jdk_42_method_149_code 6 none :: ws) (⟨4, 2, 12, 57⟩ : Room)) (fun a U => a = #[(.ref o0), (.ref o1), (.int 0), (.int 4), .null] ∧ Z.Warmed39 U.vm ∧ U.heap = h0) (fun _ _ _ _ _ => True) (fun _ U o U' => ∃ v L, o = .returned v ∧ Q3n4u1 Z o0 o1 k1 c0 c1 c2 c3 cs h0 n0 v U'.heap L ∧ FrameEnd U o U' L (⟨4, 2, 12, 57⟩ : Room).cells (⟨4, 2, 12, 57⟩ : Room).slots) := by
  refine MetFree.of_bodySF (plainFor_of_name pn_1) hisR ?_
  intro p e s m args below meth c s₁ Bd hml0 hP hK
  obtain ⟨rfl, hZ, hh⟩ := hP
  have hx := Bd.exec
  have hby := Bd.bytes
  have hml : c.maxLocals = 6 := hml0
  have hown : s.vm.findClass "java/lang/String" = some m.cls := findClass_of_methodNamed Bd.named
  have hnm := (name_of_methodNamed Bd.named Bd.method).1
  have X0 : Stand p l e (⟨4, 2, 12, 57⟩ : Room) s m #[(.ref o0), (.ref o1), (.int 0), (.int 4), .null] below meth c s₁ [] 0 0 := Stand.of_body Bd
  have e0 : s₁.heap = h0 := by rw [← hh, Bd.state]; rfl
  have N0 := Fr.nil n0
  have hret := Bd.returns
  have hlk := BodyLoose.notSynchronized Bd
  show own_Out p e below (fun o U' => ∃ v L, o = .returned v ∧ Q3n4u1 Z o0 o1 k1 c0 c1 c2 c3 cs h0 n0 v U'.heap L ∧ FrameEnd s o U' L (⟨4, 2, 12, 57⟩ : Room).cells (⟨4, 2, 12, 57⟩ : Room).slots) (s₁.setTop (entryFrame m #[(.ref o0), (.ref o1), (.int 0), (.int 4), .null] 6))
  refine own_of (fun t k => castTop (ef_3n4u1 m o0 o1) k) ?_
  show own_Out p e below _ (s₁.setTop (mkF m 0 #[rv o0, rv o1, iv 0, iv 4, .val (.null), .unset] []))
  refine o_aloadN X0 hx hby d3_0 rfl rfl (q := 1) rfl ?_
  obtain ⟨T1, X1, e1, st1⟩ := initO X0 hx hZ hown (w_ hw 16 rfl) (w_ hw 17 rfl) (w_ hw 18 rfl) e0 (g := (mkF m 1 #[rv o0, rv o1, iv 0, iv 4, .val (.null), .unset] [.ref o0])) rfl (by rw [hml]; rfl) rfl (hb hby d3_1) (by decide) (W := 0) (by show 2 * 0 + _ ≤ _; exact Nat.le_of_eq rfl) (by decide)
  refine own_of st1 ?_
  show own_Out p e below _ (T1.setTop (mkF m 4 #[rv o0, rv o1, iv 0, iv 4, .val (.null), .unset] []))
  refine o_iloadN X1 hx hby d3_4 rfl (q := 5) rfl ?_
  refine o_ifY X1 hx hby d3_5 ((if0 _ _).trans (feq (by decide : ¬ ((4 : Int32) = (0 : Int32)))).2) (by decide) (q := 27) (by decide) ?_
  obtain ⟨T2, X2, e2, st2⟩ := getS2 X1 hx hZ hown (host := "") (Or.inl (w_ hw 19 rfl)) Via.refl e1 S_cs (g := (mkF m 27 #[rv o0, rv o1, iv 0, iv 4, .val (.null), .unset] [])) rfl (hb hby d3_27)
  refine own_of st2 ?_
  show own_Out p e below _ (T2.setTop (mkF m 30 #[rv o0, rv o1, iv 0, iv 4, .val (.null), .unset] [.int cs]))
  refine o_ifN X2 hx hby d3_30 ((if0 _ _).trans (feq hcs).1) (q := 33) rfl ?_
  refine o_aloadN X2 hx hby d3_33 rfl rfl (q := 34) rfl ?_
  refine o_iloadN X2 hx hby d3_34 rfl (q := 35) rfl ?_
  refine o_iloadN X2 hx hby d3_35 rfl (q := 36) rfl ?_
  obtain ⟨_, _, ⟨T3, L3, k3, n3⟩, -, X3, ⟨Lc3, hQ3, l3, y3, z3⟩, st3⟩ := Jvm.LawKit.callS X2 hx (y := (⟨"java/lang/StringUTF16", "compress", "([CII)[B"⟩ : MethodName)) hown (mvT hZ (w_ hw 20 rfl)) (mvT hZ (w_ hw 21 rfl)) (mvT hZ (w_ hw 22 rfl)) (mvT hZ (w_ hw 23 rfl)) (by decide) (backOf (W := 0) (rm5n4u1 l Z a0 hw [] o1 k1 c0 c1 c2 c3 h0 n0 Z0 V1 hb0 hb1 hr0 hr1 hr2 hr3 S_ad S_hi S_lo) hZ (w_ hw 23 rfl) (w_ hw 22 rfl) (by decide) (by decide)) (g := (mkF m 36 #[rv o0, rv o1, iv 0, iv 4, .val (.null), .unset] [.int 4, .int 0, .ref o1])) rfl (by rw [hml]; rfl) (argsL := [(.ref o1), (.int 0), (.int 4)]) (rest := []) (lenOf pd_8 rfl) rfl (by show 2 * 0 + _ ≤ _; exact Nat.le_of_eq rfl) (hb hby d3_36) (fun _ _ => ⟨rfl, e2, (by decide : 0 + 2 ≤ _), (by decide : 0 + 12 ≤ _)⟩)
  dsimp only [Pt.U, Pt.locs, Pt.cells, Pt.slots] at X3 l3 y3 z3 st3 hQ3
  subst l3 y3 z3
  obtain ⟨b3, k3, rfl, N3q, K3, V3, hgb_3, hsb_3⟩ := hQ3
  have N3 := Fr.app N0 N3q
  have sz_b3 : h0.size ≤ b3 := Nat.le_trans (Nat.le_refl h0.size) hsb_3
  refine own_of st3 ?_
  show own_Out p e below _ (T3.setTop (mkF m 39 #[rv o0, rv o1, iv 0, iv 4, .val (.null), .unset] [.ref b3]))
  refine o_astore X3 hx hby d3_39 rfl (l' := #[rv o0, rv o1, iv 0, iv 4, .val (.null), rv b3]) rfl (q := 41) rfl ?_
  refine o_aloadN X3 hx hby d3_41 rfl rfl (q := 42) rfl ?_
  refine o_aload X3 hx hby d3_42 rfl rfl (q := 44) rfl ?_
  refine o_iloadN X3 hx hby d3_44 rfl (q := 45) rfl ?_
  have qz5 := (Nat.le_trans Z0 K3.1)
  obtain ⟨_, _, ⟨T4, L4, k4, n4⟩, -, X4, ⟨Lc4, hQ4, l4, y4, z4⟩, st4⟩ := Jvm.LawKit.callS X3 hx (y := (⟨"java/lang/StringUTF16", "coderFromArrayLen", "([BI)B"⟩ : MethodName)) hown (mvT hZ (w_ hw 28 rfl)) (mvT hZ (w_ hw 29 rfl)) (mvT hZ (w_ hw 22 rfl)) (mvT hZ (w_ hw 30 rfl)) (by decide) (backOf (W := 1) (rm7v1n4 l Z a0 hw [] b3 k3 (((c0 >>> ((0 : Int32) &&& 31)).toInt8.toInt32).toInt8.toInt32) (((c0 >>> ((8 : Int32) &&& 31)).toInt8.toInt32).toInt8.toInt32) (((c1 >>> ((0 : Int32) &&& 31)).toInt8.toInt32).toInt8.toInt32) (((c1 >>> ((8 : Int32) &&& 31)).toInt8.toInt32).toInt8.toInt32) (((c2 >>> ((0 : Int32) &&& 31)).toInt8.toInt32).toInt8.toInt32) (((c2 >>> ((8 : Int32) &&& 31)).toInt8.toInt32).toInt8.toInt32) (((c3 >>> ((0 : Int32) &&& 31)).toInt8.toInt32).toInt8.toInt32) (((c3 >>> ((8 : Int32) &&& 31)).toInt8.toInt32).toInt8.toInt32) T3.heap n0 qz5 V3) hZ (w_ hw 30 rfl) (w_ hw 22 rfl) (by decide) (by decide)) (g := (mkF m 45 #[rv o0, rv o1, iv 0, iv 4, .val (.null), rv b3] [.int 4, .ref b3, .ref o0])) rfl (by rw [hml]; rfl) (argsL := [(.ref b3), (.int 4)]) (rest := [(.ref o0)]) (lenOf pd_9 rfl) rfl (by show 2 * 0 + _ ≤ _; exact Nat.le_of_eq rfl) (hb hby d3_45) (fun _ _ => ⟨rfl, rfl, (by decide : 2 + 0 ≤ _), (by decide : 12 + 0 ≤ _)⟩)
  dsimp only [Pt.U, Pt.locs, Pt.cells, Pt.slots] at X4 l4 y4 z4 st4 hQ4
  subst l4 y4 z4
  obtain ⟨rfl, N4q, hh4⟩ := hQ4
  have N4 := Fr.app N3 N4q
  refine own_of st4 ?_
  show own_Out p e below _ (T4.setTop (mkF m 48 #[rv o0, rv o1, iv 0, iv 4, .val (.null), rv b3] [.int 1, .ref o0]))
  have qz7 := (F_coder.keep K3 nin0)
  have qz8 := (E.keep K3)
  obtain ⟨T6, h6, X6, e6, W6, st6⟩ := putFN X4 hx hZ hown (w_ hw 31 rfl) Via.refl hh4 qz7 qz8 (Or.inr ⟨(w_ hw 32 rfl), rfl, hnm⟩) (w_ hw 7 rfl) (ty := .byte) (v' := (.int 1)) (by decide) rfl rfl (g := (mkF m 48 #[rv o0, rv o1, iv 0, iv 4, .val (.null), rv b3] [.int 1, .ref o0])) rfl rfl (hb hby d3_48)
  have qz9 := (F_coder.keep K3 nin0)
  have Fw6 := qz9.same W6
  refine own_of st6 ?_
  show own_Out p e below _ (T6.setTop (mkF m 51 #[rv o0, rv o1, iv 0, iv 4, .val (.null), rv b3] []))
  refine o_aloadN X6 hx hby d3_51 rfl rfl (q := 52) rfl ?_
  refine o_aload X6 hx hby d3_52 rfl rfl (q := 54) rfl ?_
  have qz11 := ((F_value.keep K3 nin0).other W6 (Or.inr (slot_ne (Or.inr (w_ hw 34 rfl)) (Or.inr (w_ hw 32 rfl)) (by decide) (t := (.array .byte)) (t' := .byte) (by decide) (by decide))))
  have qz12 := (qz8.wr W6)
  obtain ⟨T10, h10, X10, e10, W10, st10⟩ := putF X6 hx hZ hown (host := "") (Or.inl (w_ hw 33 rfl)) Via.refl e6 qz11 qz12 (Or.inr ⟨(w_ hw 34 rfl), rfl, hnm⟩) (w_ hw 7 rfl) (ty := (.array .byte)) (by decide) rfl rfl (g := (mkF m 54 #[rv o0, rv o1, iv 0, iv 4, .val (.null), rv b3] [.ref b3, .ref o0])) rfl rfl (hb hby d3_54)
  have qz13 := ((F_value.keep K3 nin0).other W6 (Or.inr (slot_ne (Or.inr (w_ hw 34 rfl)) (Or.inr (w_ hw 32 rfl)) (by decide) (t := (.array .byte)) (t' := .byte) (by decide) (by decide))))
  have Fw10 := qz13.same W10
  refine own_of st10 ?_
  show own_Out p e below _ (T10.setTop (mkF m 57 #[rv o0, rv o1, iv 0, iv 4, .val (.null), rv b3] []))
  have qz14 := ((((Keep.refl h0 [o0]).trans K3 all0).wr W6 (Or.inl (List.mem_of_getElem? (i := 0) rfl))).wr W10 (Or.inl (List.mem_of_getElem? (i := 0) rfl)))
  have qz15 := (qz12.wr W10)
  have qz16 := (Fw6.other W10 (Or.inr (slot_ne (Or.inr (w_ hw 32 rfl)) (Or.inr (w_ hw 34 rfl)) (by decide) (t := .byte) (t' := (.array .byte)) (by decide) (by decide))))
  have ne_o0_b3 : o0 ≠ b3 := Nat.ne_of_lt (Nat.lt_of_lt_of_le E.lt sz_b3)
  have qz17 := ((V3.other W6 (Ne.symm ne_o0_b3)).other W10 (Ne.symm ne_o0_b3))
  exact own_outV X10 hx hlk hret (hb hby d3_57) (Q := Q3n4u1 Z o0 o1 k1 c0 c1 c2 c3 cs h0 n0) (by rw [e10]; exact ⟨b3, k3, rfl, (Fr.snoc X10 (Fr.snoc X6 N4 g_o0) g_o0), qz14, qz15, Fw10, qz16, qz17, hgb_3, sz_b3⟩) (by decide) (by decide)
theorem ef_2n4u1 (m : MethodId) (x0 x1 : Addr) : entryFrame m #[(.ref x0), (.ref x1)] 2 = mkF m 0 #[.val (.ref x0), .val (.ref x1)] [] := by first | (simp [entryFrame, mkF, argsToLocals, Value.category]; done) | rfl
def Q2n4u1 (Z : State) (o0 o1 : Addr) (k1 : ClassId) (c0 c1 c2 c3 cs : Int32) (h0 : Heap) (n0 : Nat) (v : Option Value) (h : Heap) (L : List Loc) : Prop := v = none ∧ Fr n0 L ∧ Keep h0 h [o0] ∧ Exa Z h o0 "java/lang/String" ∧ HasOk Z h o0 c0 c1 c2 c3
set_option maxRecDepth 65536 in
set_option maxHeartbeats 40000000 in
theorem rm2n4u1 (l : Launch) (Z : State) (a0 : Array Value) (hw : ∀ d ∈ tables_1, d.before a0 Z = true) (ws : List Jvm.Cond) (o0 o1 : Addr) (k1 : ClassId) (c0 c1 c2 c3 cs : Int32) (h0 : Heap) (n0 : Nat) (Z0 : n0 ≤ h0.size) (E : Exa Z h0 o0 "java/lang/String") (F_value : Fld Z h0 o0 "java/lang/String" "value" "[B" .null) (F_coder : Fld Z h0 o0 "java/lang/String" "coder" "B" (.int 0)) (g_o0 : n0 ≤ o0) (V1 : Arv Z h0 o1 k1 .char (4 : Int32) [(.int c0), (.int c1), (.int c2), (.int c3)] (.int 0)) (n10 : o1 ≠ o0) (S_cs : Sta Z h0 "java/lang/String" "COMPACT_STRINGS" "Z" (.int cs)) (hcs : ¬ (cs = (0 : Int32))) (hb0 : ¬ ((255 : Int32) < c0)) (hb1 : (255 : Int32) < c1) (hr0 : 0 ≤ c0.toInt ∧ c0.toInt < 65536) (hr1 : 0 ≤ c1.toInt ∧ c1.toInt < 65536) (hr2 : 0 ≤ c2.toInt ∧ c2.toInt < 65536) (hr3 : 0 ≤ c3.toInt ∧ c3.toInt < 65536) (S_ad : Sta Z h0 "java/lang/StringUTF16" "$assertionsDisabled" "Z" (.int 1)) (S_hi : Sta Z h0 "java/lang/StringUTF16" "HI_BYTE_SHIFT" "I" (.int 0)) (S_lo : Sta Z h0 "java/lang/StringUTF16" "LO_BYTE_SHIFT" "I" (.int 8)) :
    MetFree l (⟨"java/lang/String", "<init>", "([C)V"⟩ : MethodName) (head1 (Jvm.Cond.code (⟨"java/lang/String", "<init>", "([C)V"⟩ : MethodName) jdk_42_method_3_code 2 none :: ws) (⟨6, 2, 12, 90⟩ : Room)) (fun a U => a = #[(.ref o0), (.ref o1)] ∧ Z.Warmed39 U.vm ∧ U.heap = h0) (fun _ _ _ _ _ => True) (fun _ U o U' => ∃ v L, o = .returned v ∧ Q2n4u1 Z o0 o1 k1 c0 c1 c2 c3 cs h0 n0 v U'.heap L ∧ FrameEnd U o U' L (⟨6, 2, 12, 90⟩ : Room).cells (⟨6, 2, 12, 90⟩ : Room).slots) := by
  refine MetFree.of_bodySF (plainFor_of_name pn_1) hisR ?_
  intro p e s m args below meth c s₁ Bd hml0 hP hK
  obtain ⟨rfl, hZ, hh⟩ := hP
  have hx := Bd.exec
  have hby := Bd.bytes
  have hml : c.maxLocals = 2 := hml0
  have hown : s.vm.findClass "java/lang/String" = some m.cls := findClass_of_methodNamed Bd.named
  have hnm := (name_of_methodNamed Bd.named Bd.method).1
  have X0 : Stand p l e (⟨6, 2, 12, 90⟩ : Room) s m #[(.ref o0), (.ref o1)] below meth c s₁ [] 0 0 := Stand.of_body Bd
  have e0 : s₁.heap = h0 := by rw [← hh, Bd.state]; rfl
  have N0 := Fr.nil n0
  have hret := Bd.returns
  have hlk := BodyLoose.notSynchronized Bd
  show own_Out p e below (fun o U' => ∃ v L, o = .returned v ∧ Q2n4u1 Z o0 o1 k1 c0 c1 c2 c3 cs h0 n0 v U'.heap L ∧ FrameEnd s o U' L (⟨6, 2, 12, 90⟩ : Room).cells (⟨6, 2, 12, 90⟩ : Room).slots) (s₁.setTop (entryFrame m #[(.ref o0), (.ref o1)] 2))
  refine own_of (fun t k => castTop (ef_2n4u1 m o0 o1) k) ?_
  show own_Out p e below _ (s₁.setTop (mkF m 0 #[rv o0, rv o1] []))
  refine o_aloadN X0 hx hby d2_0 rfl rfl (q := 1) rfl ?_
  refine o_aloadN X0 hx hby d2_1 rfl rfl (q := 2) rfl ?_
  refine o_iconst X0 hx hby d2_2 (z := 0) rfl (q := 3) rfl ?_
  refine o_aloadN X0 hx hby d2_3 rfl rfl (q := 4) rfl ?_
  refine o_lenV X0 hx hby hZ e0 V1 d2_4 (q := 5) rfl ?_
  refine o_aconst_null X0 hx hby d2_5 (q := 6) rfl ?_
  obtain ⟨_, _, ⟨T1, L1, k1, n1⟩, -, X1, ⟨Lc1, hQ1, l1, y1, z1⟩, st1⟩ := X0.specialBack hx (y := (⟨"java/lang/String", "<init>", "([CIILjava/lang/Void;)V"⟩ : MethodName)) rfl hown (mvT hZ (w_ hw 12 rfl)) (mvT hZ (w_ hw 13 rfl)) (mvT hZ (w_ hw 15 rfl)) (by decide) (backOf (W := 0) (rm3n4u1 l Z a0 hw [] o0 o1 k1 c0 c1 c2 c3 cs h0 n0 Z0 E F_value F_coder g_o0 V1 n10 S_cs hcs hb0 hb1 hr0 hr1 hr2 hr3 S_ad S_hi S_lo) hZ (w_ hw 15 rfl) (w_ hw 8 rfl) (by decide) (by decide)) (g := (mkF m 6 #[rv o0, rv o1] [.null, .int 4, .int 0, .ref o1, .ref o0])) rfl (by rw [hml]; rfl) (Steps.refl _) (a := o0) (argsL := [(.ref o1), (.int 0), (.int 4), .null]) (rest := []) (lenOf pd_10 rfl) rfl (by show 2 * 0 + _ ≤ _; exact Nat.le_of_eq rfl) (hb hby d2_6) (fun _ _ => ⟨rfl, e0, (by decide : 0 + 2 ≤ _), (by decide : 0 + 12 ≤ _)⟩)
  dsimp only [Pt.U, Pt.locs, Pt.cells, Pt.slots] at X1 l1 y1 z1 st1 hQ1
  subst l1 y1 z1
  obtain ⟨b1, k1, rfl, N1q, K1, E1, Fv1, Fc1, V1, hgb_1, hsb_1⟩ := hQ1
  have N1 := Fr.app N0 N1q
  have sz_b1 : h0.size ≤ b1 := Nat.le_trans (Nat.le_refl h0.size) hsb_1
  refine own_of (fun _ k => st1.trans k) ?_
  show own_Out p e below _ (T1.setTop (mkF m 9 #[rv o0, rv o1] []))
  have qz2 := ((Keep.refl h0 [o0]).trans K1 (allS (Or.inl (List.mem_of_getElem? (i := 0) rfl)) all0))
  exact own_outV X1 hx hlk hret (hb hby d2_9) (Q := Q2n4u1 Z o0 o1 k1 c0 c1 c2 c3 cs h0 n0) ⟨rfl, N1, qz2, E1, (has_u hr0 hr1 hr2 hr3 E1 Fv1 Fc1 V1)⟩ (by decide) (by decide)
theorem ef_6n4u2 (m : MethodId) (x0 x2 : Addr) : entryFrame m #[(.ref x0), (.int 0), (.ref x2), (.int 0), (.int 4)] 7 = mkF m 0 #[.val (.ref x0), .val (.int 0), .val (.ref x2), .val (.int 0), .val (.int 4), .unset, .unset] [] := by first | (simp [entryFrame, mkF, argsToLocals, Value.category]; done) | rfl
def Q6n4u2 (Z : State) (o0 o2 : Addr) (k0 k2 : ClassId) (c0 c1 c2 c3 : Int32) (h0 : Heap) (n0 : Nat) (v : Option Value) (h : Heap) (L : List Loc) : Prop := v = some (.int 2) ∧ Fr n0 L ∧ Keep h0 h [o2] ∧ Arv Z h o2 k2 .byte (4 : Int32) [(.int ((c0.toInt8.toInt32).toInt8.toInt32)), (.int ((c1.toInt8.toInt32).toInt8.toInt32)), (.int 0), (.int 0)] (.int 0)
set_option maxRecDepth 65536 in
set_option maxHeartbeats 40000000 in
theorem rm6n4u2 (l : Launch) (Z : State) (a0 : Array Value) (hw : ∀ d ∈ tables_1, d.before a0 Z = true) (ws : List Jvm.Cond) (o0 o2 : Addr) (k0 k2 : ClassId) (c0 c1 c2 c3 : Int32) (h0 : Heap) (n0 : Nat) (Z0 : n0 ≤ h0.size) (V0 : Arv Z h0 o0 k0 .char (4 : Int32) [(.int c0), (.int c1), (.int c2), (.int c3)] (.int 0)) (V2 : Arv Z h0 o2 k2 .byte (4 : Int32) [(.int 0), (.int 0), (.int 0), (.int 0)] (.int 0)) (g_o2 : n0 ≤ o2) (n02 : o0 ≠ o2) (hb0 : ¬ ((255 : Int32) < c0)) (hb1 : ¬ ((255 : Int32) < c1)) (hb2 : (255 : Int32) < c2) :
    MetFree l (⟨"java/lang/StringUTF16", "compress", "([CI[BII)I"⟩ : MethodName) (head1 (Jvm.Cond.code (⟨"java/lang/StringUTF16", "compress", "([CI[BII)I"⟩ : MethodName) jdk_52_method_21_code 7 (some .int) :: ws) (⟨0, 0, 0, 0⟩ : Room)) (fun a U => a = #[(.ref o0), (.int 0), (.ref o2), (.int 0), (.int 4)] ∧ Z.Warmed39 U.vm ∧ U.heap = h0) (fun _ _ _ _ _ => True) (fun _ U o U' => ∃ v L, o = .returned v ∧ Q6n4u2 Z o0 o2 k0 k2 c0 c1 c2 c3 h0 n0 v U'.heap L ∧ FrameEnd U o U' L (⟨0, 0, 0, 0⟩ : Room).cells (⟨0, 0, 0, 0⟩ : Room).slots) := by
  refine MetFree.of_bodySF (plainFor_of_name pn_5) hisR ?_
  intro p e s m args below meth c s₁ Bd hml0 hP hK
  obtain ⟨rfl, hZ, hh⟩ := hP
  have hx := Bd.exec
  have hby := Bd.bytes
  have hml : c.maxLocals = 7 := hml0
  have hown : s.vm.findClass "java/lang/StringUTF16" = some m.cls := findClass_of_methodNamed Bd.named
  have hnm := (name_of_methodNamed Bd.named Bd.method).1
  have X0 : Stand p l e (⟨0, 0, 0, 0⟩ : Room) s m #[(.ref o0), (.int 0), (.ref o2), (.int 0), (.int 4)] below meth c s₁ [] 0 0 := Stand.of_body Bd
  have e0 : s₁.heap = h0 := by rw [← hh, Bd.state]; rfl
  have N0 := Fr.nil n0
  have hret := Bd.returns
  have hlk := BodyLoose.notSynchronized Bd
  show own_Out p e below (fun o U' => ∃ v L, o = .returned v ∧ Q6n4u2 Z o0 o2 k0 k2 c0 c1 c2 c3 h0 n0 v U'.heap L ∧ FrameEnd s o U' L (⟨0, 0, 0, 0⟩ : Room).cells (⟨0, 0, 0, 0⟩ : Room).slots) (s₁.setTop (entryFrame m #[(.ref o0), (.int 0), (.ref o2), (.int 0), (.int 4)] 7))
  refine own_of (fun t k => castTop (ef_6n4u2 m o0 o2) k) ?_
  show own_Out p e below _ (s₁.setTop (mkF m 0 #[rv o0, iv 0, rv o2, iv 0, iv 4, .unset, .unset] []))
  refine o_iconst X0 hx hby d6_0 (z := 0) rfl (q := 1) rfl ?_
  refine o_istore X0 hx hby d6_1 (l' := #[rv o0, iv 0, rv o2, iv 0, iv 4, iv 0, .unset]) rfl (q := 3) rfl ?_
  refine o_iload X0 hx hby d6_3 rfl (q := 5) rfl ?_
  refine o_iload X0 hx hby d6_5 rfl (q := 7) rfl ?_
  refine o_icN X0 hx hby d6_7 (tlt (by decide : (0 : Int32) < (4 : Int32))).2.1 (q := 10) rfl ?_
  refine o_aloadN X0 hx hby d6_10 rfl rfl (q := 11) rfl ?_
  refine o_iloadN X0 hx hby d6_11 rfl (q := 12) rfl ?_
  refine o_caV X0 hx hby hZ e0 V0 ⟨by decide, by decide⟩ (v := .int c0) rfl d6_12 (q := 13) rfl ?_
  refine o_istore X0 hx hby d6_13 (l' := #[rv o0, iv 0, rv o2, iv 0, iv 4, iv 0, iv c0]) rfl (q := 15) rfl ?_
  refine o_iload X0 hx hby d6_15 rfl (q := 17) rfl ?_
  refine o_sipush X0 hx hby d6_17 (z := 255) rfl (q := 20) rfl ?_
  refine o_icY X0 hx hby d6_20 (flt hb0).2.2.2 (by decide) (q := 26) (by decide) ?_
  refine o_aloadN X0 hx hby d6_26 rfl rfl (q := 27) rfl ?_
  refine o_iloadN X0 hx hby d6_27 rfl (q := 28) rfl ?_
  refine o_iload X0 hx hby d6_28 rfl (q := 30) rfl ?_
  refine o_i2b X0 hx hby d6_30 rfl (q := 31) rfl ?_
  obtain ⟨cl1, Ar1, q1, S1, N1', H1, G1⟩ := id V2
  have hin2 : ¬ ((0 : Int32) < 0 ∨ cl1.slots.size ≤ ((0 : Int32)).toNatClampNeg) := inb_of S1 ⟨by decide, by decide⟩
  obtain ⟨T2, h2, X2, e2, W2, st2⟩ := stB X0 hx hZ e0 Ar1 (j := (0 : Int32)) hin2 (g := (mkF m 31 #[rv o0, iv 0, rv o2, iv 0, iv 4, iv 0, iv c0] [.int (c0.toInt8.toInt32), .int 0, .ref o2])) rfl rfl (hb hby d6_31)
  have V2 := Arv.set Ar1 q1 S1 N1' H1 G1 (fits_nar_byte _) W2 0 rfl (Nat.le_of_ble_eq_true rfl)
  refine own_of st2 ?_
  show own_Out p e below _ (T2.setTop (mkF m 32 #[rv o0, iv 0, rv o2, iv 0, iv 4, iv 0, iv c0] []))
  refine o_iinc X2 hx hby d6_32 rfl (l' := #[rv o0, iv 1, rv o2, iv 0, iv 4, iv 0, iv c0]) rfl (q := 35) rfl ?_
  refine o_iinc X2 hx hby d6_35 rfl (l' := #[rv o0, iv 1, rv o2, iv 1, iv 4, iv 0, iv c0]) rfl (q := 38) rfl ?_
  refine o_iinc X2 hx hby d6_38 rfl (l' := #[rv o0, iv 1, rv o2, iv 1, iv 4, iv 1, iv c0]) rfl (q := 41) rfl ?_
  refine o_goto X2 hx hby d6_41 (by decide) (q := 3) (by decide) ?_
  refine o_iload X2 hx hby d6_3 rfl (q := 5) rfl ?_
  refine o_iload X2 hx hby d6_5 rfl (q := 7) rfl ?_
  refine o_icN X2 hx hby d6_7 (tlt (by decide : (1 : Int32) < (4 : Int32))).2.1 (q := 10) rfl ?_
  refine o_aloadN X2 hx hby d6_10 rfl rfl (q := 11) rfl ?_
  refine o_iloadN X2 hx hby d6_11 rfl (q := 12) rfl ?_
  have qz3 := (V0.other W2 n02)
  refine o_caV X2 hx hby hZ e2 qz3 ⟨by decide, by decide⟩ (v := .int c1) rfl d6_12 (q := 13) rfl ?_
  refine o_istore X2 hx hby d6_13 (l' := #[rv o0, iv 1, rv o2, iv 1, iv 4, iv 1, iv c1]) rfl (q := 15) rfl ?_
  refine o_iload X2 hx hby d6_15 rfl (q := 17) rfl ?_
  refine o_sipush X2 hx hby d6_17 (z := 255) rfl (q := 20) rfl ?_
  refine o_icY X2 hx hby d6_20 (flt hb1).2.2.2 (by decide) (q := 26) (by decide) ?_
  refine o_aloadN X2 hx hby d6_26 rfl rfl (q := 27) rfl ?_
  refine o_iloadN X2 hx hby d6_27 rfl (q := 28) rfl ?_
  refine o_iload X2 hx hby d6_28 rfl (q := 30) rfl ?_
  refine o_i2b X2 hx hby d6_30 rfl (q := 31) rfl ?_
  obtain ⟨cl4, Ar4, q4, S4, N4', H4, G4⟩ := id V2
  have hin5 : ¬ ((1 : Int32) < 0 ∨ cl4.slots.size ≤ ((1 : Int32)).toNatClampNeg) := inb_of S4 ⟨by decide, by decide⟩
  obtain ⟨T5, h5, X5, e5, W5, st5⟩ := stB X2 hx hZ e2 Ar4 (j := (1 : Int32)) hin5 (g := (mkF m 31 #[rv o0, iv 1, rv o2, iv 1, iv 4, iv 1, iv c1] [.int (c1.toInt8.toInt32), .int 1, .ref o2])) rfl rfl (hb hby d6_31)
  have V5 := Arv.set Ar4 q4 S4 N4' H4 G4 (fits_nar_byte _) W5 1 rfl (Nat.le_of_ble_eq_true rfl)
  refine own_of st5 ?_
  show own_Out p e below _ (T5.setTop (mkF m 32 #[rv o0, iv 1, rv o2, iv 1, iv 4, iv 1, iv c1] []))
  refine o_iinc X5 hx hby d6_32 rfl (l' := #[rv o0, iv 2, rv o2, iv 1, iv 4, iv 1, iv c1]) rfl (q := 35) rfl ?_
  refine o_iinc X5 hx hby d6_35 rfl (l' := #[rv o0, iv 2, rv o2, iv 2, iv 4, iv 1, iv c1]) rfl (q := 38) rfl ?_
  refine o_iinc X5 hx hby d6_38 rfl (l' := #[rv o0, iv 2, rv o2, iv 2, iv 4, iv 2, iv c1]) rfl (q := 41) rfl ?_
  refine o_goto X5 hx hby d6_41 (by decide) (q := 3) (by decide) ?_
  refine o_iload X5 hx hby d6_3 rfl (q := 5) rfl ?_
  refine o_iload X5 hx hby d6_5 rfl (q := 7) rfl ?_
  refine o_icN X5 hx hby d6_7 (tlt (by decide : (2 : Int32) < (4 : Int32))).2.1 (q := 10) rfl ?_
  refine o_aloadN X5 hx hby d6_10 rfl rfl (q := 11) rfl ?_
  refine o_iloadN X5 hx hby d6_11 rfl (q := 12) rfl ?_
  have qz6 := (qz3.other W5 n02)
  refine o_caV X5 hx hby hZ e5 qz6 ⟨by decide, by decide⟩ (v := .int c2) rfl d6_12 (q := 13) rfl ?_
  refine o_istore X5 hx hby d6_13 (l' := #[rv o0, iv 2, rv o2, iv 2, iv 4, iv 2, iv c2]) rfl (q := 15) rfl ?_
  refine o_iload X5 hx hby d6_15 rfl (q := 17) rfl ?_
  refine o_sipush X5 hx hby d6_17 (z := 255) rfl (q := 20) rfl ?_
  refine o_icN X5 hx hby d6_20 (tlt hb2).2.2.2 (q := 23) rfl ?_
  refine o_iload X5 hx hby d6_23 rfl (q := 25) rfl ?_
  have qz7 := (((Keep.refl h0 [o2]).wr W2 (Or.inl (List.mem_of_getElem? (i := 0) rfl))).wr W5 (Or.inl (List.mem_of_getElem? (i := 0) rfl)))
  exact own_outI X5 hx hlk hret (hb hby d6_25) (Q := Q6n4u2 Z o0 o2 k0 k2 c0 c1 c2 c3 h0 n0) (by rw [e5]; exact ⟨rfl, (Fr.snoc X5 (Fr.snoc X2 N0 g_o2) g_o2), qz7, V5⟩) (by decide) (by decide)
theorem ef_5n4u2 (m : MethodId) (x0 : Addr) : entryFrame m #[(.ref x0), (.int 0), (.int 4)] 6 = mkF m 0 #[.val (.ref x0), .val (.int 0), .val (.int 4), .unset, .unset, .unset] [] := by first | (simp [entryFrame, mkF, argsToLocals, Value.category]; done) | rfl
def Q5n4u2 (Z : State) (o0 : Addr) (k0 : ClassId) (c0 c1 c2 c3 : Int32) (h0 : Heap) (n0 : Nat) (v : Option Value) (h : Heap) (L : List Loc) : Prop := ∃ (b : Addr) (k : ClassId), v = some (.ref b) ∧ Fr n0 L ∧ Keep h0 h [] ∧ Arv Z h b k .byte (8 : Int32) [(.int (((c0 >>> ((0 : Int32) &&& 31)).toInt8.toInt32).toInt8.toInt32)), (.int (((c0 >>> ((8 : Int32) &&& 31)).toInt8.toInt32).toInt8.toInt32)), (.int (((c1 >>> ((0 : Int32) &&& 31)).toInt8.toInt32).toInt8.toInt32)), (.int (((c1 >>> ((8 : Int32) &&& 31)).toInt8.toInt32).toInt8.toInt32)), (.int (((c2 >>> ((0 : Int32) &&& 31)).toInt8.toInt32).toInt8.toInt32)), (.int (((c2 >>> ((8 : Int32) &&& 31)).toInt8.toInt32).toInt8.toInt32)), (.int (((c3 >>> ((0 : Int32) &&& 31)).toInt8.toInt32).toInt8.toInt32)), (.int (((c3 >>> ((8 : Int32) &&& 31)).toInt8.toInt32).toInt8.toInt32))] (.int 0) ∧ n0 ≤ b ∧ h0.size ≤ b
set_option maxRecDepth 65536 in
set_option maxHeartbeats 40000000 in
theorem rm5n4u2 (l : Launch) (Z : State) (a0 : Array Value) (hw : ∀ d ∈ tables_1, d.before a0 Z = true) (ws : List Jvm.Cond) (o0 : Addr) (k0 : ClassId) (c0 c1 c2 c3 : Int32) (h0 : Heap) (n0 : Nat) (Z0 : n0 ≤ h0.size) (V0 : Arv Z h0 o0 k0 .char (4 : Int32) [(.int c0), (.int c1), (.int c2), (.int c3)] (.int 0)) (hb0 : ¬ ((255 : Int32) < c0)) (hb1 : ¬ ((255 : Int32) < c1)) (hb2 : (255 : Int32) < c2) (hr0 : 0 ≤ c0.toInt ∧ c0.toInt < 65536) (hr1 : 0 ≤ c1.toInt ∧ c1.toInt < 65536) (hr2 : 0 ≤ c2.toInt ∧ c2.toInt < 65536) (hr3 : 0 ≤ c3.toInt ∧ c3.toInt < 65536) (S_ad : Sta Z h0 "java/lang/StringUTF16" "$assertionsDisabled" "Z" (.int 1)) (S_hi : Sta Z h0 "java/lang/StringUTF16" "HI_BYTE_SHIFT" "I" (.int 0)) (S_lo : Sta Z h0 "java/lang/StringUTF16" "LO_BYTE_SHIFT" "I" (.int 8)) :
    MetFree l (⟨"java/lang/StringUTF16", "compress", "([CII)[B"⟩ : MethodName) (head1 (Jvm.Cond.code (⟨"java/lang/StringUTF16", "compress", "([CII)[B"⟩ : MethodName) jdk_52_method_16_code 6 (some (.array .byte)) :: ws) (⟨3, 2, 12, 40⟩ : Room)) (fun a U => a = #[(.ref o0), (.int 0), (.int 4)] ∧ Z.Warmed39 U.vm ∧ U.heap = h0) (fun _ _ _ _ _ => True) (fun _ U o U' => ∃ v L, o = .returned v ∧ Q5n4u2 Z o0 k0 c0 c1 c2 c3 h0 n0 v U'.heap L ∧ FrameEnd U o U' L (⟨3, 2, 12, 40⟩ : Room).cells (⟨3, 2, 12, 40⟩ : Room).slots) := by
  refine MetFree.of_bodySF (plainFor_of_name pn_5) hisR ?_
  intro p e s m args below meth c s₁ Bd hml0 hP hK
  obtain ⟨rfl, hZ, hh⟩ := hP
  have hx := Bd.exec
  have hby := Bd.bytes
  have hml : c.maxLocals = 6 := hml0
  have hown : s.vm.findClass "java/lang/StringUTF16" = some m.cls := findClass_of_methodNamed Bd.named
  have hnm := (name_of_methodNamed Bd.named Bd.method).1
  have X0 : Stand p l e (⟨3, 2, 12, 40⟩ : Room) s m #[(.ref o0), (.int 0), (.int 4)] below meth c s₁ [] 0 0 := Stand.of_body Bd
  have e0 : s₁.heap = h0 := by rw [← hh, Bd.state]; rfl
  have N0 := Fr.nil n0
  have hret := Bd.returns
  have hlk := BodyLoose.notSynchronized Bd
  show own_Out p e below (fun o U' => ∃ v L, o = .returned v ∧ Q5n4u2 Z o0 k0 c0 c1 c2 c3 h0 n0 v U'.heap L ∧ FrameEnd s o U' L (⟨3, 2, 12, 40⟩ : Room).cells (⟨3, 2, 12, 40⟩ : Room).slots) (s₁.setTop (entryFrame m #[(.ref o0), (.int 0), (.int 4)] 6))
  refine own_of (fun t k => castTop (ef_5n4u2 m o0) k) ?_
  show own_Out p e below _ (s₁.setTop (mkF m 0 #[rv o0, iv 0, iv 4, .unset, .unset, .unset] []))
  refine o_iloadN X0 hx hby d5_0 rfl (q := 1) rfl ?_
  obtain ⟨T1, h1, k1, X1, e1, E1, A1, st1⟩ := newP X0 hx hZ (w_ hw 24 rfl) e0 (g := (mkF m 1 #[rv o0, iv 0, iv 4, .unset, .unset, .unset] [.int 4])) rfl (hb hby d5_1) rfl (by decide) (cap := 4) (by decide) (by decide) (by decide) (by decide)
  obtain ⟨b1, g1⟩ : ∃ z, z = h0.size := ⟨_, rfl⟩
  rw [← g1] at A1 st1
  have g_b1 : n0 ≤ b1 := Nat.le_trans Z0 (Nat.le_of_eq g1.symm)
  have sz_b1 : h0.size ≤ b1 := Nat.le_trans (Nat.le_refl h0.size) (Nat.le_of_eq g1.symm)
  have V_b1 : Arv Z h1 b1 k1 .byte (4 : Int32) [(.int 0), (.int 0), (.int 0), (.int 0)] (.int 0) := (Arv.new A1 (by decide)).pad (pad_rep [] (.int 0) 4)
  refine own_of st1 ?_
  show own_Out p e below _ (T1.setTop (mkF m 3 #[rv o0, iv 0, iv 4, .unset, .unset, .unset] [.ref b1]))
  refine o_astoreN X1 hx hby d5_3 rfl (l' := #[rv o0, iv 0, iv 4, rv b1, .unset, .unset]) rfl (q := 4) rfl ?_
  refine o_aloadN X1 hx hby d5_4 rfl rfl (q := 5) rfl ?_
  refine o_iloadN X1 hx hby d5_5 rfl (q := 6) rfl ?_
  refine o_aloadN X1 hx hby d5_6 rfl rfl (q := 7) rfl ?_
  refine o_iconst X1 hx hby d5_7 (z := 0) rfl (q := 8) rfl ?_
  refine o_iloadN X1 hx hby d5_8 rfl (q := 9) rfl ?_
  have ne_o0_b1 : o0 ≠ b1 := Nat.ne_of_lt (Nat.lt_of_lt_of_le V0.lt sz_b1)
  have qz3 := (V0.ext E1)
  have qz4 := (Nat.le_trans Z0 E1.1)
  obtain ⟨_, _, ⟨T2, L2, k2, n2⟩, -, X2, ⟨Lc2, hQ2, l2, y2, z2⟩, st2⟩ := Jvm.LawKit.callS X1 hx (y := (⟨"java/lang/StringUTF16", "compress", "([CI[BII)I"⟩ : MethodName)) hown (mvT hZ (w_ hw 25 rfl)) (mvT hZ (w_ hw 26 rfl)) (mvT hZ (w_ hw 22 rfl)) (mvT hZ (w_ hw 27 rfl)) (by decide) (backOf (W := 0) (rm6n4u2 l Z a0 hw [] o0 b1 k0 k1 c0 c1 c2 c3 h1 n0 qz4 qz3 V_b1 g_b1 ne_o0_b1 hb0 hb1 hb2) hZ (w_ hw 27 rfl) (w_ hw 22 rfl) (by decide) (by decide)) (g := (mkF m 9 #[rv o0, iv 0, iv 4, rv b1, .unset, .unset] [.int 4, .int 0, .ref b1, .int 0, .ref o0])) rfl (by rw [hml]; rfl) (argsL := [(.ref o0), (.int 0), (.ref b1), (.int 0), (.int 4)]) (rest := []) (lenOf pd_7 rfl) rfl (by show 2 * 0 + _ ≤ _; exact Nat.le_of_eq rfl) (hb hby d5_9) (fun _ _ => ⟨rfl, e1, (by decide : 1 + 0 ≤ _), (by decide : 4 + 0 ≤ _)⟩)
  dsimp only [Pt.U, Pt.locs, Pt.cells, Pt.slots] at X2 l2 y2 z2 st2 hQ2
  subst l2 y2 z2
  obtain ⟨rfl, N2q, K2, V2⟩ := hQ2
  have N2 := Fr.app N0 N2q
  refine own_of st2 ?_
  show own_Out p e below _ (T2.setTop (mkF m 12 #[rv o0, iv 0, iv 4, rv b1, .unset, .unset] [.int 2]))
  refine o_istore X2 hx hby d5_12 (l' := #[rv o0, iv 0, iv 4, rv b1, iv 2, .unset]) rfl (q := 14) rfl ?_
  refine o_iload X2 hx hby d5_14 rfl (q := 16) rfl ?_
  refine o_iloadN X2 hx hby d5_16 rfl (q := 17) rfl ?_
  refine o_icN X2 hx hby d5_17 (feq (by decide : ¬ ((2 : Int32) = (4 : Int32)))).1 (q := 20) rfl ?_
  refine o_aloadN X2 hx hby d5_20 rfl rfl (q := 21) rfl ?_
  refine o_iloadN X2 hx hby d5_21 rfl (q := 22) rfl ?_
  refine o_iloadN X2 hx hby d5_22 rfl (q := 23) rfl ?_
  have qz6 := (qz3.keep K2 (ninS ne_o0_b1 nin0))
  have qz7 := (own_staK1 (S_ad.ext E1) K2 (own_plainV V_b1))
  have qz8 := (own_staK1 (S_hi.ext E1) K2 (own_plainV V_b1))
  have qz9 := (own_staK1 (S_lo.ext E1) K2 (own_plainV V_b1))
  have qz10 := (Nat.le_trans qz4 K2.1)
  obtain ⟨_, _, ⟨T5, L5, k5, n5⟩, -, X5, ⟨Lc5, hQ5, l5, y5, z5⟩, st5⟩ := Jvm.LawKit.callS X2 hx (y := (⟨"java/lang/StringUTF16", "toBytes", "([CII)[B"⟩ : MethodName)) hown (mvT hZ (w_ hw 72 rfl)) (mvT hZ (w_ hw 73 rfl)) (mvT hZ (w_ hw 22 rfl)) (mvT hZ (w_ hw 74 rfl)) (by decide) (backOf (W := 0) (rm17 l Z a0 hw [] o0 k0 c0 c1 c2 c3 T2.heap n0 qz10 qz6 qz7 qz8 qz9) hZ (w_ hw 74 rfl) (w_ hw 22 rfl) (by decide) (by decide)) (g := (mkF m 23 #[rv o0, iv 0, iv 4, rv b1, iv 2, .unset] [.int 4, .int 0, .ref o0])) rfl (by rw [hml]; rfl) (argsL := [(.ref o0), (.int 0), (.int 4)]) (rest := []) (lenOf pd_8 rfl) rfl (by show 2 * 0 + _ ≤ _; exact Nat.le_of_eq rfl) (hb hby d5_23) (fun _ _ => ⟨rfl, rfl, (by decide : 1 + 1 ≤ _), (by decide : 4 + 8 ≤ _)⟩)
  dsimp only [Pt.U, Pt.locs, Pt.cells, Pt.slots] at X5 l5 y5 z5 st5 hQ5
  subst l5 y5 z5
  obtain ⟨b5, k5, rfl, N5q, K5, V5, hgb_5, hsb_5⟩ := hQ5
  have N5 := Fr.app N2 N5q
  have qz11 := (Nat.le_trans (Nat.le_trans (Nat.le_refl h0.size) E1.1) K2.1)
  have sz_b5 : h0.size ≤ b5 := Nat.le_trans qz11 hsb_5
  refine own_of st5 ?_
  show own_Out p e below _ (T5.setTop (mkF m 26 #[rv o0, iv 0, iv 4, rv b1, iv 2, .unset] [.ref b5]))
  refine o_astore X5 hx hby d5_26 rfl (l' := #[rv o0, iv 0, iv 4, rv b1, iv 2, rv b5]) rfl (q := 28) rfl ?_
  refine o_aload X5 hx hby d5_28 rfl rfl (q := 30) rfl ?_
  refine o_iload X5 hx hby d5_30 rfl (q := 32) rfl ?_
  have qz13 := (own_staK0 qz7 K5)
  have qz14 := (own_staK0 qz8 K5)
  have qz15 := (own_staK0 qz9 K5)
  have qz16 := (Nat.le_trans qz10 K5.1)
  obtain ⟨_, _, ⟨T12, L12, k12, n12⟩, -, X12, ⟨Lc12, hQ12, l12, y12, z12⟩, st12⟩ := Jvm.LawKit.callS X5 hx (y := (⟨"java/lang/StringUTF16", "getChar", "([BI)C"⟩ : MethodName)) hown (mvT hZ (w_ hw 88 rfl)) (mvT hZ (w_ hw 89 rfl)) (mvT hZ (w_ hw 22 rfl)) (mvT hZ (w_ hw 90 rfl)) (by decide) (backOf (W := 0) (rm21j2 l Z a0 hw [] b5 k5 (((c0 >>> ((0 : Int32) &&& 31)).toInt8.toInt32).toInt8.toInt32) (((c0 >>> ((8 : Int32) &&& 31)).toInt8.toInt32).toInt8.toInt32) (((c1 >>> ((0 : Int32) &&& 31)).toInt8.toInt32).toInt8.toInt32) (((c1 >>> ((8 : Int32) &&& 31)).toInt8.toInt32).toInt8.toInt32) (((c2 >>> ((0 : Int32) &&& 31)).toInt8.toInt32).toInt8.toInt32) (((c2 >>> ((8 : Int32) &&& 31)).toInt8.toInt32).toInt8.toInt32) (((c3 >>> ((0 : Int32) &&& 31)).toInt8.toInt32).toInt8.toInt32) (((c3 >>> ((8 : Int32) &&& 31)).toInt8.toInt32).toInt8.toInt32) T5.heap n0 qz16 V5 qz13 qz14 qz15) hZ (w_ hw 90 rfl) (w_ hw 22 rfl) (by decide) (by decide)) (g := (mkF m 32 #[rv o0, iv 0, iv 4, rv b1, iv 2, rv b5] [.int 2, .ref b5])) rfl (by rw [hml]; rfl) (argsL := [(.ref b5), (.int 2)]) (rest := []) (lenOf pd_3 rfl) rfl (by show 2 * 0 + _ ≤ _; exact Nat.le_of_eq rfl) (hb hby d5_32) (fun _ _ => ⟨rfl, rfl, (by decide : 2 + 0 ≤ _), (by decide : 12 + 0 ≤ _)⟩)
  dsimp only [Pt.U, Pt.locs, Pt.cells, Pt.slots] at X12 l12 y12 z12 st12 hQ12
  subst l12 y12 z12
  obtain ⟨rfl, N12q, hh12⟩ := hQ12
  have N12 := Fr.app N5 N12q
  refine own_of st12 ?_
  show own_Out p e below _ (T12.setTop (mkF m 35 #[rv o0, iv 0, iv 4, rv b1, iv 2, rv b5] [.int (fgc2 (((c0 >>> ((0 : Int32) &&& 31)).toInt8.toInt32).toInt8.toInt32) (((c0 >>> ((8 : Int32) &&& 31)).toInt8.toInt32).toInt8.toInt32) (((c1 >>> ((0 : Int32) &&& 31)).toInt8.toInt32).toInt8.toInt32) (((c1 >>> ((8 : Int32) &&& 31)).toInt8.toInt32).toInt8.toInt32) (((c2 >>> ((0 : Int32) &&& 31)).toInt8.toInt32).toInt8.toInt32) (((c2 >>> ((8 : Int32) &&& 31)).toInt8.toInt32).toInt8.toInt32) (((c3 >>> ((0 : Int32) &&& 31)).toInt8.toInt32).toInt8.toInt32) (((c3 >>> ((8 : Int32) &&& 31)).toInt8.toInt32).toInt8.toInt32))]))
  refine o_sipush X12 hx hby d5_35 (z := 255) rfl (q := 38) rfl ?_
  refine o_icY X12 hx hby d5_38 (tlt ((by rw [own_gc2 hr2]; exact hb2) : (255 : Int32) < (fgc2 (((c0 >>> ((0 : Int32) &&& 31)).toInt8.toInt32).toInt8.toInt32) (((c0 >>> ((8 : Int32) &&& 31)).toInt8.toInt32).toInt8.toInt32) (((c1 >>> ((0 : Int32) &&& 31)).toInt8.toInt32).toInt8.toInt32) (((c1 >>> ((8 : Int32) &&& 31)).toInt8.toInt32).toInt8.toInt32) (((c2 >>> ((0 : Int32) &&& 31)).toInt8.toInt32).toInt8.toInt32) (((c2 >>> ((8 : Int32) &&& 31)).toInt8.toInt32).toInt8.toInt32) (((c3 >>> ((0 : Int32) &&& 31)).toInt8.toInt32).toInt8.toInt32) (((c3 >>> ((8 : Int32) &&& 31)).toInt8.toInt32).toInt8.toInt32)))).2.2.1 (by decide) (q := 54) (by decide) ?_
  refine o_aload X12 hx hby d5_54 rfl rfl (q := 56) rfl ?_
  have qz17 := ((((Keep.refl h0 []).ext E1).trans K2 (allS (Or.inr sz_b1) all0)).trans K5 all0)
  exact own_outR X12 hx hlk hret rfl rfl rfl (hb hby d5_56) (Q := Q5n4u2 Z o0 k0 c0 c1 c2 c3 h0 n0) (by rw [hh12]; exact ⟨b5, k5, rfl, N12, qz17, V5, hgb_5, sz_b5⟩) (by decide) (by decide)
theorem ef_3n4u2 (m : MethodId) (x0 x1 : Addr) : entryFrame m #[(.ref x0), (.ref x1), (.int 0), (.int 4), .null] 6 = mkF m 0 #[.val (.ref x0), .val (.ref x1), .val (.int 0), .val (.int 4), .val .null, .unset] [] := by first | (simp [entryFrame, mkF, argsToLocals, Value.category]; done) | rfl
def Q3n4u2 (Z : State) (o0 o1 : Addr) (k1 : ClassId) (c0 c1 c2 c3 cs : Int32) (h0 : Heap) (n0 : Nat) (v : Option Value) (h : Heap) (L : List Loc) : Prop := ∃ (b : Addr) (k : ClassId), v = none ∧ Fr n0 L ∧ Keep h0 h [o0] ∧ Exa Z h o0 "java/lang/String" ∧ Fld Z h o0 "java/lang/String" "value" "[B" (.ref b) ∧ Fld Z h o0 "java/lang/String" "coder" "B" (.int 1) ∧ Arv Z h b k .byte (8 : Int32) [(.int (((c0 >>> ((0 : Int32) &&& 31)).toInt8.toInt32).toInt8.toInt32)), (.int (((c0 >>> ((8 : Int32) &&& 31)).toInt8.toInt32).toInt8.toInt32)), (.int (((c1 >>> ((0 : Int32) &&& 31)).toInt8.toInt32).toInt8.toInt32)), (.int (((c1 >>> ((8 : Int32) &&& 31)).toInt8.toInt32).toInt8.toInt32)), (.int (((c2 >>> ((0 : Int32) &&& 31)).toInt8.toInt32).toInt8.toInt32)), (.int (((c2 >>> ((8 : Int32) &&& 31)).toInt8.toInt32).toInt8.toInt32)), (.int (((c3 >>> ((0 : Int32) &&& 31)).toInt8.toInt32).toInt8.toInt32)), (.int (((c3 >>> ((8 : Int32) &&& 31)).toInt8.toInt32).toInt8.toInt32))] (.int 0) ∧ n0 ≤ b ∧ h0.size ≤ b
set_option maxRecDepth 65536 in
set_option maxHeartbeats 40000000 in
theorem rm3n4u2 (l : Launch) (Z : State) (a0 : Array Value) (hw : ∀ d ∈ tables_1, d.before a0 Z = true) (ws : List Jvm.Cond) (o0 o1 : Addr) (k1 : ClassId) (c0 c1 c2 c3 cs : Int32) (h0 : Heap) (n0 : Nat) (Z0 : n0 ≤ h0.size) (E : Exa Z h0 o0 "java/lang/String") (F_value : Fld Z h0 o0 "java/lang/String" "value" "[B" .null) (F_coder : Fld Z h0 o0 "java/lang/String" "coder" "B" (.int 0)) (g_o0 : n0 ≤ o0) (V1 : Arv Z h0 o1 k1 .char (4 : Int32) [(.int c0), (.int c1), (.int c2), (.int c3)] (.int 0)) (n10 : o1 ≠ o0) (S_cs : Sta Z h0 "java/lang/String" "COMPACT_STRINGS" "Z" (.int cs)) (hcs : ¬ (cs = (0 : Int32))) (hb0 : ¬ ((255 : Int32) < c0)) (hb1 : ¬ ((255 : Int32) < c1)) (hb2 : (255 : Int32) < c2) (hr0 : 0 ≤ c0.toInt ∧ c0.toInt < 65536) (hr1 : 0 ≤ c1.toInt ∧ c1.toInt < 65536) (hr2 : 0 ≤ c2.toInt ∧ c2.toInt < 65536) (hr3 : 0 ≤ c3.toInt ∧ c3.toInt < 65536) (S_ad : Sta Z h0 "java/lang/StringUTF16" "$assertionsDisabled" "Z" (.int 1)) (S_hi : Sta Z h0 "java/lang/StringUTF16" "HI_BYTE_SHIFT" "I" (.int 0)) (S_lo : Sta Z h0 "java/lang/StringUTF16" "LO_BYTE_SHIFT" "I" (.int 8)) :
    MetFree l (⟨"java/lang/String", "<init>", "([CIILjava/lang/Void;)V"⟩ : MethodName) (head1 (Jvm.Cond.code (⟨"java/lang/String", "<init>", "([CIILjava/lang/Void;)V"⟩ : MethodName) jdk_42_method_149_code 6 none :: ws) (⟨4, 2, 12, 57⟩ : Room)) (fun a U => a = #[(.ref o0), (.ref o1), (.int 0), (.int 4), .null] ∧ Z.Warmed39 U.vm ∧ U.heap = h0) (fun _ _ _ _ _ => True) (fun _ U o U' => ∃ v L, o = .returned v ∧ Q3n4u2 Z o0 o1 k1 c0 c1 c2 c3 cs h0 n0 v U'.heap L ∧ FrameEnd U o U' L (⟨4, 2, 12, 57⟩ : Room).cells (⟨4, 2, 12, 57⟩ : Room).slots) := by
  refine MetFree.of_bodySF (plainFor_of_name pn_1) hisR ?_
  intro p e s m args below meth c s₁ Bd hml0 hP hK
  obtain ⟨rfl, hZ, hh⟩ := hP
  have hx := Bd.exec
  have hby := Bd.bytes
  have hml : c.maxLocals = 6 := hml0
  have hown : s.vm.findClass "java/lang/String" = some m.cls := findClass_of_methodNamed Bd.named
  have hnm := (name_of_methodNamed Bd.named Bd.method).1
  have X0 : Stand p l e (⟨4, 2, 12, 57⟩ : Room) s m #[(.ref o0), (.ref o1), (.int 0), (.int 4), .null] below meth c s₁ [] 0 0 := Stand.of_body Bd
  have e0 : s₁.heap = h0 := by rw [← hh, Bd.state]; rfl
  have N0 := Fr.nil n0
  have hret := Bd.returns
  have hlk := BodyLoose.notSynchronized Bd
  show own_Out p e below (fun o U' => ∃ v L, o = .returned v ∧ Q3n4u2 Z o0 o1 k1 c0 c1 c2 c3 cs h0 n0 v U'.heap L ∧ FrameEnd s o U' L (⟨4, 2, 12, 57⟩ : Room).cells (⟨4, 2, 12, 57⟩ : Room).slots) (s₁.setTop (entryFrame m #[(.ref o0), (.ref o1), (.int 0), (.int 4), .null] 6))
  refine own_of (fun t k => castTop (ef_3n4u2 m o0 o1) k) ?_
  show own_Out p e below _ (s₁.setTop (mkF m 0 #[rv o0, rv o1, iv 0, iv 4, .val (.null), .unset] []))
  refine o_aloadN X0 hx hby d3_0 rfl rfl (q := 1) rfl ?_
  obtain ⟨T1, X1, e1, st1⟩ := initO X0 hx hZ hown (w_ hw 16 rfl) (w_ hw 17 rfl) (w_ hw 18 rfl) e0 (g := (mkF m 1 #[rv o0, rv o1, iv 0, iv 4, .val (.null), .unset] [.ref o0])) rfl (by rw [hml]; rfl) rfl (hb hby d3_1) (by decide) (W := 0) (by show 2 * 0 + _ ≤ _; exact Nat.le_of_eq rfl) (by decide)
  refine own_of st1 ?_
  show own_Out p e below _ (T1.setTop (mkF m 4 #[rv o0, rv o1, iv 0, iv 4, .val (.null), .unset] []))
  refine o_iloadN X1 hx hby d3_4 rfl (q := 5) rfl ?_
  refine o_ifY X1 hx hby d3_5 ((if0 _ _).trans (feq (by decide : ¬ ((4 : Int32) = (0 : Int32)))).2) (by decide) (q := 27) (by decide) ?_
  obtain ⟨T2, X2, e2, st2⟩ := getS2 X1 hx hZ hown (host := "") (Or.inl (w_ hw 19 rfl)) Via.refl e1 S_cs (g := (mkF m 27 #[rv o0, rv o1, iv 0, iv 4, .val (.null), .unset] [])) rfl (hb hby d3_27)
  refine own_of st2 ?_
  show own_Out p e below _ (T2.setTop (mkF m 30 #[rv o0, rv o1, iv 0, iv 4, .val (.null), .unset] [.int cs]))
  refine o_ifN X2 hx hby d3_30 ((if0 _ _).trans (feq hcs).1) (q := 33) rfl ?_
  refine o_aloadN X2 hx hby d3_33 rfl rfl (q := 34) rfl ?_
  refine o_iloadN X2 hx hby d3_34 rfl (q := 35) rfl ?_
  refine o_iloadN X2 hx hby d3_35 rfl (q := 36) rfl ?_
  obtain ⟨_, _, ⟨T3, L3, k3, n3⟩, -, X3, ⟨Lc3, hQ3, l3, y3, z3⟩, st3⟩ := Jvm.LawKit.callS X2 hx (y := (⟨"java/lang/StringUTF16", "compress", "([CII)[B"⟩ : MethodName)) hown (mvT hZ (w_ hw 20 rfl)) (mvT hZ (w_ hw 21 rfl)) (mvT hZ (w_ hw 22 rfl)) (mvT hZ (w_ hw 23 rfl)) (by decide) (backOf (W := 0) (rm5n4u2 l Z a0 hw [] o1 k1 c0 c1 c2 c3 h0 n0 Z0 V1 hb0 hb1 hb2 hr0 hr1 hr2 hr3 S_ad S_hi S_lo) hZ (w_ hw 23 rfl) (w_ hw 22 rfl) (by decide) (by decide)) (g := (mkF m 36 #[rv o0, rv o1, iv 0, iv 4, .val (.null), .unset] [.int 4, .int 0, .ref o1])) rfl (by rw [hml]; rfl) (argsL := [(.ref o1), (.int 0), (.int 4)]) (rest := []) (lenOf pd_8 rfl) rfl (by show 2 * 0 + _ ≤ _; exact Nat.le_of_eq rfl) (hb hby d3_36) (fun _ _ => ⟨rfl, e2, (by decide : 0 + 2 ≤ _), (by decide : 0 + 12 ≤ _)⟩)
  dsimp only [Pt.U, Pt.locs, Pt.cells, Pt.slots] at X3 l3 y3 z3 st3 hQ3
  subst l3 y3 z3
  obtain ⟨b3, k3, rfl, N3q, K3, V3, hgb_3, hsb_3⟩ := hQ3
  have N3 := Fr.app N0 N3q
  have sz_b3 : h0.size ≤ b3 := Nat.le_trans (Nat.le_refl h0.size) hsb_3
  refine own_of st3 ?_
  show own_Out p e below _ (T3.setTop (mkF m 39 #[rv o0, rv o1, iv 0, iv 4, .val (.null), .unset] [.ref b3]))
  refine o_astore X3 hx hby d3_39 rfl (l' := #[rv o0, rv o1, iv 0, iv 4, .val (.null), rv b3]) rfl (q := 41) rfl ?_
  refine o_aloadN X3 hx hby d3_41 rfl rfl (q := 42) rfl ?_
  refine o_aload X3 hx hby d3_42 rfl rfl (q := 44) rfl ?_
  refine o_iloadN X3 hx hby d3_44 rfl (q := 45) rfl ?_
  have qz5 := (Nat.le_trans Z0 K3.1)
  obtain ⟨_, _, ⟨T4, L4, k4, n4⟩, -, X4, ⟨Lc4, hQ4, l4, y4, z4⟩, st4⟩ := Jvm.LawKit.callS X3 hx (y := (⟨"java/lang/StringUTF16", "coderFromArrayLen", "([BI)B"⟩ : MethodName)) hown (mvT hZ (w_ hw 28 rfl)) (mvT hZ (w_ hw 29 rfl)) (mvT hZ (w_ hw 22 rfl)) (mvT hZ (w_ hw 30 rfl)) (by decide) (backOf (W := 1) (rm7v1n4 l Z a0 hw [] b3 k3 (((c0 >>> ((0 : Int32) &&& 31)).toInt8.toInt32).toInt8.toInt32) (((c0 >>> ((8 : Int32) &&& 31)).toInt8.toInt32).toInt8.toInt32) (((c1 >>> ((0 : Int32) &&& 31)).toInt8.toInt32).toInt8.toInt32) (((c1 >>> ((8 : Int32) &&& 31)).toInt8.toInt32).toInt8.toInt32) (((c2 >>> ((0 : Int32) &&& 31)).toInt8.toInt32).toInt8.toInt32) (((c2 >>> ((8 : Int32) &&& 31)).toInt8.toInt32).toInt8.toInt32) (((c3 >>> ((0 : Int32) &&& 31)).toInt8.toInt32).toInt8.toInt32) (((c3 >>> ((8 : Int32) &&& 31)).toInt8.toInt32).toInt8.toInt32) T3.heap n0 qz5 V3) hZ (w_ hw 30 rfl) (w_ hw 22 rfl) (by decide) (by decide)) (g := (mkF m 45 #[rv o0, rv o1, iv 0, iv 4, .val (.null), rv b3] [.int 4, .ref b3, .ref o0])) rfl (by rw [hml]; rfl) (argsL := [(.ref b3), (.int 4)]) (rest := [(.ref o0)]) (lenOf pd_9 rfl) rfl (by show 2 * 0 + _ ≤ _; exact Nat.le_of_eq rfl) (hb hby d3_45) (fun _ _ => ⟨rfl, rfl, (by decide : 2 + 0 ≤ _), (by decide : 12 + 0 ≤ _)⟩)
  dsimp only [Pt.U, Pt.locs, Pt.cells, Pt.slots] at X4 l4 y4 z4 st4 hQ4
  subst l4 y4 z4
  obtain ⟨rfl, N4q, hh4⟩ := hQ4
  have N4 := Fr.app N3 N4q
  refine own_of st4 ?_
  show own_Out p e below _ (T4.setTop (mkF m 48 #[rv o0, rv o1, iv 0, iv 4, .val (.null), rv b3] [.int 1, .ref o0]))
  have qz7 := (F_coder.keep K3 nin0)
  have qz8 := (E.keep K3)
  obtain ⟨T6, h6, X6, e6, W6, st6⟩ := putFN X4 hx hZ hown (w_ hw 31 rfl) Via.refl hh4 qz7 qz8 (Or.inr ⟨(w_ hw 32 rfl), rfl, hnm⟩) (w_ hw 7 rfl) (ty := .byte) (v' := (.int 1)) (by decide) rfl rfl (g := (mkF m 48 #[rv o0, rv o1, iv 0, iv 4, .val (.null), rv b3] [.int 1, .ref o0])) rfl rfl (hb hby d3_48)
  have qz9 := (F_coder.keep K3 nin0)
  have Fw6 := qz9.same W6
  refine own_of st6 ?_
  show own_Out p e below _ (T6.setTop (mkF m 51 #[rv o0, rv o1, iv 0, iv 4, .val (.null), rv b3] []))
  refine o_aloadN X6 hx hby d3_51 rfl rfl (q := 52) rfl ?_
  refine o_aload X6 hx hby d3_52 rfl rfl (q := 54) rfl ?_
  have qz11 := ((F_value.keep K3 nin0).other W6 (Or.inr (slot_ne (Or.inr (w_ hw 34 rfl)) (Or.inr (w_ hw 32 rfl)) (by decide) (t := (.array .byte)) (t' := .byte) (by decide) (by decide))))
  have qz12 := (qz8.wr W6)
  obtain ⟨T10, h10, X10, e10, W10, st10⟩ := putF X6 hx hZ hown (host := "") (Or.inl (w_ hw 33 rfl)) Via.refl e6 qz11 qz12 (Or.inr ⟨(w_ hw 34 rfl), rfl, hnm⟩) (w_ hw 7 rfl) (ty := (.array .byte)) (by decide) rfl rfl (g := (mkF m 54 #[rv o0, rv o1, iv 0, iv 4, .val (.null), rv b3] [.ref b3, .ref o0])) rfl rfl (hb hby d3_54)
  have qz13 := ((F_value.keep K3 nin0).other W6 (Or.inr (slot_ne (Or.inr (w_ hw 34 rfl)) (Or.inr (w_ hw 32 rfl)) (by decide) (t := (.array .byte)) (t' := .byte) (by decide) (by decide))))
  have Fw10 := qz13.same W10
  refine own_of st10 ?_
  show own_Out p e below _ (T10.setTop (mkF m 57 #[rv o0, rv o1, iv 0, iv 4, .val (.null), rv b3] []))
  have qz14 := ((((Keep.refl h0 [o0]).trans K3 all0).wr W6 (Or.inl (List.mem_of_getElem? (i := 0) rfl))).wr W10 (Or.inl (List.mem_of_getElem? (i := 0) rfl)))
  have qz15 := (qz12.wr W10)
  have qz16 := (Fw6.other W10 (Or.inr (slot_ne (Or.inr (w_ hw 32 rfl)) (Or.inr (w_ hw 34 rfl)) (by decide) (t := .byte) (t' := (.array .byte)) (by decide) (by decide))))
  have ne_o0_b3 : o0 ≠ b3 := Nat.ne_of_lt (Nat.lt_of_lt_of_le E.lt sz_b3)
  have qz17 := ((V3.other W6 (Ne.symm ne_o0_b3)).other W10 (Ne.symm ne_o0_b3))
  exact own_outV X10 hx hlk hret (hb hby d3_57) (Q := Q3n4u2 Z o0 o1 k1 c0 c1 c2 c3 cs h0 n0) (by rw [e10]; exact ⟨b3, k3, rfl, (Fr.snoc X10 (Fr.snoc X6 N4 g_o0) g_o0), qz14, qz15, Fw10, qz16, qz17, hgb_3, sz_b3⟩) (by decide) (by decide)
theorem ef_2n4u2 (m : MethodId) (x0 x1 : Addr) : entryFrame m #[(.ref x0), (.ref x1)] 2 = mkF m 0 #[.val (.ref x0), .val (.ref x1)] [] := by first | (simp [entryFrame, mkF, argsToLocals, Value.category]; done) | rfl
def Q2n4u2 (Z : State) (o0 o1 : Addr) (k1 : ClassId) (c0 c1 c2 c3 cs : Int32) (h0 : Heap) (n0 : Nat) (v : Option Value) (h : Heap) (L : List Loc) : Prop := v = none ∧ Fr n0 L ∧ Keep h0 h [o0] ∧ Exa Z h o0 "java/lang/String" ∧ HasOk Z h o0 c0 c1 c2 c3
set_option maxRecDepth 65536 in
set_option maxHeartbeats 40000000 in
theorem rm2n4u2 (l : Launch) (Z : State) (a0 : Array Value) (hw : ∀ d ∈ tables_1, d.before a0 Z = true) (ws : List Jvm.Cond) (o0 o1 : Addr) (k1 : ClassId) (c0 c1 c2 c3 cs : Int32) (h0 : Heap) (n0 : Nat) (Z0 : n0 ≤ h0.size) (E : Exa Z h0 o0 "java/lang/String") (F_value : Fld Z h0 o0 "java/lang/String" "value" "[B" .null) (F_coder : Fld Z h0 o0 "java/lang/String" "coder" "B" (.int 0)) (g_o0 : n0 ≤ o0) (V1 : Arv Z h0 o1 k1 .char (4 : Int32) [(.int c0), (.int c1), (.int c2), (.int c3)] (.int 0)) (n10 : o1 ≠ o0) (S_cs : Sta Z h0 "java/lang/String" "COMPACT_STRINGS" "Z" (.int cs)) (hcs : ¬ (cs = (0 : Int32))) (hb0 : ¬ ((255 : Int32) < c0)) (hb1 : ¬ ((255 : Int32) < c1)) (hb2 : (255 : Int32) < c2) (hr0 : 0 ≤ c0.toInt ∧ c0.toInt < 65536) (hr1 : 0 ≤ c1.toInt ∧ c1.toInt < 65536) (hr2 : 0 ≤ c2.toInt ∧ c2.toInt < 65536) (hr3 : 0 ≤ c3.toInt ∧ c3.toInt < 65536) (S_ad : Sta Z h0 "java/lang/StringUTF16" "$assertionsDisabled" "Z" (.int 1)) (S_hi : Sta Z h0 "java/lang/StringUTF16" "HI_BYTE_SHIFT" "I" (.int 0)) (S_lo : Sta Z h0 "java/lang/StringUTF16" "LO_BYTE_SHIFT" "I" (.int 8)) :
    MetFree l (⟨"java/lang/String", "<init>", "([C)V"⟩ : MethodName) (head1 (Jvm.Cond.code (⟨"java/lang/String", "<init>", "([C)V"⟩ : MethodName) jdk_42_method_3_code 2 none :: ws) (⟨6, 2, 12, 90⟩ : Room)) (fun a U => a = #[(.ref o0), (.ref o1)] ∧ Z.Warmed39 U.vm ∧ U.heap = h0) (fun _ _ _ _ _ => True) (fun _ U o U' => ∃ v L, o = .returned v ∧ Q2n4u2 Z o0 o1 k1 c0 c1 c2 c3 cs h0 n0 v U'.heap L ∧ FrameEnd U o U' L (⟨6, 2, 12, 90⟩ : Room).cells (⟨6, 2, 12, 90⟩ : Room).slots) := by
  refine MetFree.of_bodySF (plainFor_of_name pn_1) hisR ?_
  intro p e s m args below meth c s₁ Bd hml0 hP hK
  obtain ⟨rfl, hZ, hh⟩ := hP
  have hx := Bd.exec
  have hby := Bd.bytes
  have hml : c.maxLocals = 2 := hml0
  have hown : s.vm.findClass "java/lang/String" = some m.cls := findClass_of_methodNamed Bd.named
  have hnm := (name_of_methodNamed Bd.named Bd.method).1
  have X0 : Stand p l e (⟨6, 2, 12, 90⟩ : Room) s m #[(.ref o0), (.ref o1)] below meth c s₁ [] 0 0 := Stand.of_body Bd
  have e0 : s₁.heap = h0 := by rw [← hh, Bd.state]; rfl
  have N0 := Fr.nil n0
  have hret := Bd.returns
  have hlk := BodyLoose.notSynchronized Bd
  show own_Out p e below (fun o U' => ∃ v L, o = .returned v ∧ Q2n4u2 Z o0 o1 k1 c0 c1 c2 c3 cs h0 n0 v U'.heap L ∧ FrameEnd s o U' L (⟨6, 2, 12, 90⟩ : Room).cells (⟨6, 2, 12, 90⟩ : Room).slots) (s₁.setTop (entryFrame m #[(.ref o0), (.ref o1)] 2))
  refine own_of (fun t k => castTop (ef_2n4u2 m o0 o1) k) ?_
  show own_Out p e below _ (s₁.setTop (mkF m 0 #[rv o0, rv o1] []))
  refine o_aloadN X0 hx hby d2_0 rfl rfl (q := 1) rfl ?_
  refine o_aloadN X0 hx hby d2_1 rfl rfl (q := 2) rfl ?_
  refine o_iconst X0 hx hby d2_2 (z := 0) rfl (q := 3) rfl ?_
  refine o_aloadN X0 hx hby d2_3 rfl rfl (q := 4) rfl ?_
  refine o_lenV X0 hx hby hZ e0 V1 d2_4 (q := 5) rfl ?_
  refine o_aconst_null X0 hx hby d2_5 (q := 6) rfl ?_
  obtain ⟨_, _, ⟨T1, L1, k1, n1⟩, -, X1, ⟨Lc1, hQ1, l1, y1, z1⟩, st1⟩ := X0.specialBack hx (y := (⟨"java/lang/String", "<init>", "([CIILjava/lang/Void;)V"⟩ : MethodName)) rfl hown (mvT hZ (w_ hw 12 rfl)) (mvT hZ (w_ hw 13 rfl)) (mvT hZ (w_ hw 15 rfl)) (by decide) (backOf (W := 0) (rm3n4u2 l Z a0 hw [] o0 o1 k1 c0 c1 c2 c3 cs h0 n0 Z0 E F_value F_coder g_o0 V1 n10 S_cs hcs hb0 hb1 hb2 hr0 hr1 hr2 hr3 S_ad S_hi S_lo) hZ (w_ hw 15 rfl) (w_ hw 8 rfl) (by decide) (by decide)) (g := (mkF m 6 #[rv o0, rv o1] [.null, .int 4, .int 0, .ref o1, .ref o0])) rfl (by rw [hml]; rfl) (Steps.refl _) (a := o0) (argsL := [(.ref o1), (.int 0), (.int 4), .null]) (rest := []) (lenOf pd_10 rfl) rfl (by show 2 * 0 + _ ≤ _; exact Nat.le_of_eq rfl) (hb hby d2_6) (fun _ _ => ⟨rfl, e0, (by decide : 0 + 2 ≤ _), (by decide : 0 + 12 ≤ _)⟩)
  dsimp only [Pt.U, Pt.locs, Pt.cells, Pt.slots] at X1 l1 y1 z1 st1 hQ1
  subst l1 y1 z1
  obtain ⟨b1, k1, rfl, N1q, K1, E1, Fv1, Fc1, V1, hgb_1, hsb_1⟩ := hQ1
  have N1 := Fr.app N0 N1q
  have sz_b1 : h0.size ≤ b1 := Nat.le_trans (Nat.le_refl h0.size) hsb_1
  refine own_of (fun _ k => st1.trans k) ?_
  show own_Out p e below _ (T1.setTop (mkF m 9 #[rv o0, rv o1] []))
  have qz2 := ((Keep.refl h0 [o0]).trans K1 (allS (Or.inl (List.mem_of_getElem? (i := 0) rfl)) all0))
  exact own_outV X1 hx hlk hret (hb hby d2_9) (Q := Q2n4u2 Z o0 o1 k1 c0 c1 c2 c3 cs h0 n0) ⟨rfl, N1, qz2, E1, (has_u hr0 hr1 hr2 hr3 E1 Fv1 Fc1 V1)⟩ (by decide) (by decide)
theorem ef_6n4u3 (m : MethodId) (x0 x2 : Addr) : entryFrame m #[(.ref x0), (.int 0), (.ref x2), (.int 0), (.int 4)] 7 = mkF m 0 #[.val (.ref x0), .val (.int 0), .val (.ref x2), .val (.int 0), .val (.int 4), .unset, .unset] [] := by first | (simp [entryFrame, mkF, argsToLocals, Value.category]; done) | rfl
def Q6n4u3 (Z : State) (o0 o2 : Addr) (k0 k2 : ClassId) (c0 c1 c2 c3 : Int32) (h0 : Heap) (n0 : Nat) (v : Option Value) (h : Heap) (L : List Loc) : Prop := v = some (.int 3) ∧ Fr n0 L ∧ Keep h0 h [o2] ∧ Arv Z h o2 k2 .byte (4 : Int32) [(.int ((c0.toInt8.toInt32).toInt8.toInt32)), (.int ((c1.toInt8.toInt32).toInt8.toInt32)), (.int ((c2.toInt8.toInt32).toInt8.toInt32)), (.int 0)] (.int 0)
set_option maxRecDepth 65536 in
set_option maxHeartbeats 40000000 in
theorem rm6n4u3 (l : Launch) (Z : State) (a0 : Array Value) (hw : ∀ d ∈ tables_1, d.before a0 Z = true) (ws : List Jvm.Cond) (o0 o2 : Addr) (k0 k2 : ClassId) (c0 c1 c2 c3 : Int32) (h0 : Heap) (n0 : Nat) (Z0 : n0 ≤ h0.size) (V0 : Arv Z h0 o0 k0 .char (4 : Int32) [(.int c0), (.int c1), (.int c2), (.int c3)] (.int 0)) (V2 : Arv Z h0 o2 k2 .byte (4 : Int32) [(.int 0), (.int 0), (.int 0), (.int 0)] (.int 0)) (g_o2 : n0 ≤ o2) (n02 : o0 ≠ o2) (hb0 : ¬ ((255 : Int32) < c0)) (hb1 : ¬ ((255 : Int32) < c1)) (hb2 : ¬ ((255 : Int32) < c2)) (hb3 : (255 : Int32) < c3) :
    MetFree l (⟨"java/lang/StringUTF16", "compress", "([CI[BII)I"⟩ : MethodName) (head1 (Jvm.Cond.code (⟨"java/lang/StringUTF16", "compress", "([CI[BII)I"⟩ : MethodName) jdk_52_method_21_code 7 (some .int) :: ws) (⟨0, 0, 0, 0⟩ : Room)) (fun a U => a = #[(.ref o0), (.int 0), (.ref o2), (.int 0), (.int 4)] ∧ Z.Warmed39 U.vm ∧ U.heap = h0) (fun _ _ _ _ _ => True) (fun _ U o U' => ∃ v L, o = .returned v ∧ Q6n4u3 Z o0 o2 k0 k2 c0 c1 c2 c3 h0 n0 v U'.heap L ∧ FrameEnd U o U' L (⟨0, 0, 0, 0⟩ : Room).cells (⟨0, 0, 0, 0⟩ : Room).slots) := by
  refine MetFree.of_bodySF (plainFor_of_name pn_5) hisR ?_
  intro p e s m args below meth c s₁ Bd hml0 hP hK
  obtain ⟨rfl, hZ, hh⟩ := hP
  have hx := Bd.exec
  have hby := Bd.bytes
  have hml : c.maxLocals = 7 := hml0
  have hown : s.vm.findClass "java/lang/StringUTF16" = some m.cls := findClass_of_methodNamed Bd.named
  have hnm := (name_of_methodNamed Bd.named Bd.method).1
  have X0 : Stand p l e (⟨0, 0, 0, 0⟩ : Room) s m #[(.ref o0), (.int 0), (.ref o2), (.int 0), (.int 4)] below meth c s₁ [] 0 0 := Stand.of_body Bd
  have e0 : s₁.heap = h0 := by rw [← hh, Bd.state]; rfl
  have N0 := Fr.nil n0
  have hret := Bd.returns
  have hlk := BodyLoose.notSynchronized Bd
  show own_Out p e below (fun o U' => ∃ v L, o = .returned v ∧ Q6n4u3 Z o0 o2 k0 k2 c0 c1 c2 c3 h0 n0 v U'.heap L ∧ FrameEnd s o U' L (⟨0, 0, 0, 0⟩ : Room).cells (⟨0, 0, 0, 0⟩ : Room).slots) (s₁.setTop (entryFrame m #[(.ref o0), (.int 0), (.ref o2), (.int 0), (.int 4)] 7))
  refine own_of (fun t k => castTop (ef_6n4u3 m o0 o2) k) ?_
  show own_Out p e below _ (s₁.setTop (mkF m 0 #[rv o0, iv 0, rv o2, iv 0, iv 4, .unset, .unset] []))
  refine o_iconst X0 hx hby d6_0 (z := 0) rfl (q := 1) rfl ?_
  refine o_istore X0 hx hby d6_1 (l' := #[rv o0, iv 0, rv o2, iv 0, iv 4, iv 0, .unset]) rfl (q := 3) rfl ?_
  refine o_iload X0 hx hby d6_3 rfl (q := 5) rfl ?_
  refine o_iload X0 hx hby d6_5 rfl (q := 7) rfl ?_
  refine o_icN X0 hx hby d6_7 (tlt (by decide : (0 : Int32) < (4 : Int32))).2.1 (q := 10) rfl ?_
  refine o_aloadN X0 hx hby d6_10 rfl rfl (q := 11) rfl ?_
  refine o_iloadN X0 hx hby d6_11 rfl (q := 12) rfl ?_
  refine o_caV X0 hx hby hZ e0 V0 ⟨by decide, by decide⟩ (v := .int c0) rfl d6_12 (q := 13) rfl ?_
  refine o_istore X0 hx hby d6_13 (l' := #[rv o0, iv 0, rv o2, iv 0, iv 4, iv 0, iv c0]) rfl (q := 15) rfl ?_
  refine o_iload X0 hx hby d6_15 rfl (q := 17) rfl ?_
  refine o_sipush X0 hx hby d6_17 (z := 255) rfl (q := 20) rfl ?_
  refine o_icY X0 hx hby d6_20 (flt hb0).2.2.2 (by decide) (q := 26) (by decide) ?_
  refine o_aloadN X0 hx hby d6_26 rfl rfl (q := 27) rfl ?_
  refine o_iloadN X0 hx hby d6_27 rfl (q := 28) rfl ?_
  refine o_iload X0 hx hby d6_28 rfl (q := 30) rfl ?_
  refine o_i2b X0 hx hby d6_30 rfl (q := 31) rfl ?_
  obtain ⟨cl1, Ar1, q1, S1, N1', H1, G1⟩ := id V2
  have hin2 : ¬ ((0 : Int32) < 0 ∨ cl1.slots.size ≤ ((0 : Int32)).toNatClampNeg) := inb_of S1 ⟨by decide, by decide⟩
  obtain ⟨T2, h2, X2, e2, W2, st2⟩ := stB X0 hx hZ e0 Ar1 (j := (0 : Int32)) hin2 (g := (mkF m 31 #[rv o0, iv 0, rv o2, iv 0, iv 4, iv 0, iv c0] [.int (c0.toInt8.toInt32), .int 0, .ref o2])) rfl rfl (hb hby d6_31)
  have V2 := Arv.set Ar1 q1 S1 N1' H1 G1 (fits_nar_byte _) W2 0 rfl (Nat.le_of_ble_eq_true rfl)
  refine own_of st2 ?_
  show own_Out p e below _ (T2.setTop (mkF m 32 #[rv o0, iv 0, rv o2, iv 0, iv 4, iv 0, iv c0] []))
  refine o_iinc X2 hx hby d6_32 rfl (l' := #[rv o0, iv 1, rv o2, iv 0, iv 4, iv 0, iv c0]) rfl (q := 35) rfl ?_
  refine o_iinc X2 hx hby d6_35 rfl (l' := #[rv o0, iv 1, rv o2, iv 1, iv 4, iv 0, iv c0]) rfl (q := 38) rfl ?_
  refine o_iinc X2 hx hby d6_38 rfl (l' := #[rv o0, iv 1, rv o2, iv 1, iv 4, iv 1, iv c0]) rfl (q := 41) rfl ?_
  refine o_goto X2 hx hby d6_41 (by decide) (q := 3) (by decide) ?_
  refine o_iload X2 hx hby d6_3 rfl (q := 5) rfl ?_
  refine o_iload X2 hx hby d6_5 rfl (q := 7) rfl ?_
  refine o_icN X2 hx hby d6_7 (tlt (by decide : (1 : Int32) < (4 : Int32))).2.1 (q := 10) rfl ?_
  refine o_aloadN X2 hx hby d6_10 rfl rfl (q := 11) rfl ?_
  refine o_iloadN X2 hx hby d6_11 rfl (q := 12) rfl ?_
  have qz3 := (V0.other W2 n02)
  refine o_caV X2 hx hby hZ e2 qz3 ⟨by decide, by decide⟩ (v := .int c1) rfl d6_12 (q := 13) rfl ?_
  refine o_istore X2 hx hby d6_13 (l' := #[rv o0, iv 1, rv o2, iv 1, iv 4, iv 1, iv c1]) rfl (q := 15) rfl ?_
  refine o_iload X2 hx hby d6_15 rfl (q := 17) rfl ?_
  refine o_sipush X2 hx hby d6_17 (z := 255) rfl (q := 20) rfl ?_
  refine o_icY X2 hx hby d6_20 (flt hb1).2.2.2 (by decide) (q := 26) (by decide) ?_
  refine o_aloadN X2 hx hby d6_26 rfl rfl (q := 27) rfl ?_
  refine o_iloadN X2 hx hby d6_27 rfl (q := 28) rfl ?_
  refine o_iload X2 hx hby d6_28 rfl (q := 30) rfl ?_
  refine o_i2b X2 hx hby d6_30 rfl (q := 31) rfl ?_
  obtain ⟨cl4, Ar4, q4, S4, N4', H4, G4⟩ := id V2
  have hin5 : ¬ ((1 : Int32) < 0 ∨ cl4.slots.size ≤ ((1 : Int32)).toNatClampNeg) := inb_of S4 ⟨by decide, by decide⟩
  obtain ⟨T5, h5, X5, e5, W5, st5⟩ := stB X2 hx hZ e2 Ar4 (j := (1 : Int32)) hin5 (g := (mkF m 31 #[rv o0, iv 1, rv o2, iv 1, iv 4, iv 1, iv c1] [.int (c1.toInt8.toInt32), .int 1, .ref o2])) rfl rfl (hb hby d6_31)
  have V5 := Arv.set Ar4 q4 S4 N4' H4 G4 (fits_nar_byte _) W5 1 rfl (Nat.le_of_ble_eq_true rfl)
  refine own_of st5 ?_
  show own_Out p e below _ (T5.setTop (mkF m 32 #[rv o0, iv 1, rv o2, iv 1, iv 4, iv 1, iv c1] []))
  refine o_iinc X5 hx hby d6_32 rfl (l' := #[rv o0, iv 2, rv o2, iv 1, iv 4, iv 1, iv c1]) rfl (q := 35) rfl ?_
  refine o_iinc X5 hx hby d6_35 rfl (l' := #[rv o0, iv 2, rv o2, iv 2, iv 4, iv 1, iv c1]) rfl (q := 38) rfl ?_
  refine o_iinc X5 hx hby d6_38 rfl (l' := #[rv o0, iv 2, rv o2, iv 2, iv 4, iv 2, iv c1]) rfl (q := 41) rfl ?_
  refine o_goto X5 hx hby d6_41 (by decide) (q := 3) (by decide) ?_
  refine o_iload X5 hx hby d6_3 rfl (q := 5) rfl ?_
  refine o_iload X5 hx hby d6_5 rfl (q := 7) rfl ?_
  refine o_icN X5 hx hby d6_7 (tlt (by decide : (2 : Int32) < (4 : Int32))).2.1 (q := 10) rfl ?_
  refine o_aloadN X5 hx hby d6_10 rfl rfl (q := 11) rfl ?_
  refine o_iloadN X5 hx hby d6_11 rfl (q := 12) rfl ?_
  have qz6 := (qz3.other W5 n02)
  refine o_caV X5 hx hby hZ e5 qz6 ⟨by decide, by decide⟩ (v := .int c2) rfl d6_12 (q := 13) rfl ?_
  refine o_istore X5 hx hby d6_13 (l' := #[rv o0, iv 2, rv o2, iv 2, iv 4, iv 2, iv c2]) rfl (q := 15) rfl ?_
  refine o_iload X5 hx hby d6_15 rfl (q := 17) rfl ?_
  refine o_sipush X5 hx hby d6_17 (z := 255) rfl (q := 20) rfl ?_
  refine o_icY X5 hx hby d6_20 (flt hb2).2.2.2 (by decide) (q := 26) (by decide) ?_
  refine o_aloadN X5 hx hby d6_26 rfl rfl (q := 27) rfl ?_
  refine o_iloadN X5 hx hby d6_27 rfl (q := 28) rfl ?_
  refine o_iload X5 hx hby d6_28 rfl (q := 30) rfl ?_
  refine o_i2b X5 hx hby d6_30 rfl (q := 31) rfl ?_
  obtain ⟨cl7, Ar7, q7, S7, N7', H7, G7⟩ := id V5
  have hin8 : ¬ ((2 : Int32) < 0 ∨ cl7.slots.size ≤ ((2 : Int32)).toNatClampNeg) := inb_of S7 ⟨by decide, by decide⟩
  obtain ⟨T8, h8, X8, e8, W8, st8⟩ := stB X5 hx hZ e5 Ar7 (j := (2 : Int32)) hin8 (g := (mkF m 31 #[rv o0, iv 2, rv o2, iv 2, iv 4, iv 2, iv c2] [.int (c2.toInt8.toInt32), .int 2, .ref o2])) rfl rfl (hb hby d6_31)
  have V8 := Arv.set Ar7 q7 S7 N7' H7 G7 (fits_nar_byte _) W8 2 rfl (Nat.le_of_ble_eq_true rfl)
  refine own_of st8 ?_
  show own_Out p e below _ (T8.setTop (mkF m 32 #[rv o0, iv 2, rv o2, iv 2, iv 4, iv 2, iv c2] []))
  refine o_iinc X8 hx hby d6_32 rfl (l' := #[rv o0, iv 3, rv o2, iv 2, iv 4, iv 2, iv c2]) rfl (q := 35) rfl ?_
  refine o_iinc X8 hx hby d6_35 rfl (l' := #[rv o0, iv 3, rv o2, iv 3, iv 4, iv 2, iv c2]) rfl (q := 38) rfl ?_
  refine o_iinc X8 hx hby d6_38 rfl (l' := #[rv o0, iv 3, rv o2, iv 3, iv 4, iv 3, iv c2]) rfl (q := 41) rfl ?_
  refine o_goto X8 hx hby d6_41 (by decide) (q := 3) (by decide) ?_
  refine o_iload X8 hx hby d6_3 rfl (q := 5) rfl ?_
  refine o_iload X8 hx hby d6_5 rfl (q := 7) rfl ?_
  refine o_icN X8 hx hby d6_7 (tlt (by decide : (3 : Int32) < (4 : Int32))).2.1 (q := 10) rfl ?_
  refine o_aloadN X8 hx hby d6_10 rfl rfl (q := 11) rfl ?_
  refine o_iloadN X8 hx hby d6_11 rfl (q := 12) rfl ?_
  have qz9 := (qz6.other W8 n02)
  refine o_caV X8 hx hby hZ e8 qz9 ⟨by decide, by decide⟩ (v := .int c3) rfl d6_12 (q := 13) rfl ?_
  refine o_istore X8 hx hby d6_13 (l' := #[rv o0, iv 3, rv o2, iv 3, iv 4, iv 3, iv c3]) rfl (q := 15) rfl ?_
  refine o_iload X8 hx hby d6_15 rfl (q := 17) rfl ?_
  refine o_sipush X8 hx hby d6_17 (z := 255) rfl (q := 20) rfl ?_
  refine o_icN X8 hx hby d6_20 (tlt hb3).2.2.2 (q := 23) rfl ?_
  refine o_iload X8 hx hby d6_23 rfl (q := 25) rfl ?_
  have qz10 := ((((Keep.refl h0 [o2]).wr W2 (Or.inl (List.mem_of_getElem? (i := 0) rfl))).wr W5 (Or.inl (List.mem_of_getElem? (i := 0) rfl))).wr W8 (Or.inl (List.mem_of_getElem? (i := 0) rfl)))
  exact own_outI X8 hx hlk hret (hb hby d6_25) (Q := Q6n4u3 Z o0 o2 k0 k2 c0 c1 c2 c3 h0 n0) (by rw [e8]; exact ⟨rfl, (Fr.snoc X8 (Fr.snoc X5 (Fr.snoc X2 N0 g_o2) g_o2) g_o2), qz10, V8⟩) (by decide) (by decide)
theorem ef_5n4u3 (m : MethodId) (x0 : Addr) : entryFrame m #[(.ref x0), (.int 0), (.int 4)] 6 = mkF m 0 #[.val (.ref x0), .val (.int 0), .val (.int 4), .unset, .unset, .unset] [] := by first | (simp [entryFrame, mkF, argsToLocals, Value.category]; done) | rfl
def Q5n4u3 (Z : State) (o0 : Addr) (k0 : ClassId) (c0 c1 c2 c3 : Int32) (h0 : Heap) (n0 : Nat) (v : Option Value) (h : Heap) (L : List Loc) : Prop := ∃ (b : Addr) (k : ClassId), v = some (.ref b) ∧ Fr n0 L ∧ Keep h0 h [] ∧ Arv Z h b k .byte (8 : Int32) [(.int (((c0 >>> ((0 : Int32) &&& 31)).toInt8.toInt32).toInt8.toInt32)), (.int (((c0 >>> ((8 : Int32) &&& 31)).toInt8.toInt32).toInt8.toInt32)), (.int (((c1 >>> ((0 : Int32) &&& 31)).toInt8.toInt32).toInt8.toInt32)), (.int (((c1 >>> ((8 : Int32) &&& 31)).toInt8.toInt32).toInt8.toInt32)), (.int (((c2 >>> ((0 : Int32) &&& 31)).toInt8.toInt32).toInt8.toInt32)), (.int (((c2 >>> ((8 : Int32) &&& 31)).toInt8.toInt32).toInt8.toInt32)), (.int (((c3 >>> ((0 : Int32) &&& 31)).toInt8.toInt32).toInt8.toInt32)), (.int (((c3 >>> ((8 : Int32) &&& 31)).toInt8.toInt32).toInt8.toInt32))] (.int 0) ∧ n0 ≤ b ∧ h0.size ≤ b
set_option maxRecDepth 65536 in
set_option maxHeartbeats 40000000 in
theorem rm5n4u3 (l : Launch) (Z : State) (a0 : Array Value) (hw : ∀ d ∈ tables_1, d.before a0 Z = true) (ws : List Jvm.Cond) (o0 : Addr) (k0 : ClassId) (c0 c1 c2 c3 : Int32) (h0 : Heap) (n0 : Nat) (Z0 : n0 ≤ h0.size) (V0 : Arv Z h0 o0 k0 .char (4 : Int32) [(.int c0), (.int c1), (.int c2), (.int c3)] (.int 0)) (hb0 : ¬ ((255 : Int32) < c0)) (hb1 : ¬ ((255 : Int32) < c1)) (hb2 : ¬ ((255 : Int32) < c2)) (hb3 : (255 : Int32) < c3) (hr0 : 0 ≤ c0.toInt ∧ c0.toInt < 65536) (hr1 : 0 ≤ c1.toInt ∧ c1.toInt < 65536) (hr2 : 0 ≤ c2.toInt ∧ c2.toInt < 65536) (hr3 : 0 ≤ c3.toInt ∧ c3.toInt < 65536) (S_ad : Sta Z h0 "java/lang/StringUTF16" "$assertionsDisabled" "Z" (.int 1)) (S_hi : Sta Z h0 "java/lang/StringUTF16" "HI_BYTE_SHIFT" "I" (.int 0)) (S_lo : Sta Z h0 "java/lang/StringUTF16" "LO_BYTE_SHIFT" "I" (.int 8)) :
    MetFree l (⟨"java/lang/StringUTF16", "compress", "([CII)[B"⟩ : MethodName) (head1 (Jvm.Cond.code (⟨"java/lang/StringUTF16", "compress", "([CII)[B"⟩ : MethodName) jdk_52_method_16_code 6 (some (.array .byte)) :: ws) (⟨3, 2, 12, 40⟩ : Room)) (fun a U => a = #[(.ref o0), (.int 0), (.int 4)] ∧ Z.Warmed39 U.vm ∧ U.heap = h0) (fun _ _ _ _ _ => True) (fun _ U o U' => ∃ v L, o = .returned v ∧ Q5n4u3 Z o0 k0 c0 c1 c2 c3 h0 n0 v U'.heap L ∧ FrameEnd U o U' L (⟨3, 2, 12, 40⟩ : Room).cells (⟨3, 2, 12, 40⟩ : Room).slots) := by
  refine MetFree.of_bodySF (plainFor_of_name pn_5) hisR ?_
  intro p e s m args below meth c s₁ Bd hml0 hP hK
  obtain ⟨rfl, hZ, hh⟩ := hP
  have hx := Bd.exec
  have hby := Bd.bytes
  have hml : c.maxLocals = 6 := hml0
  have hown : s.vm.findClass "java/lang/StringUTF16" = some m.cls := findClass_of_methodNamed Bd.named
  have hnm := (name_of_methodNamed Bd.named Bd.method).1
  have X0 : Stand p l e (⟨3, 2, 12, 40⟩ : Room) s m #[(.ref o0), (.int 0), (.int 4)] below meth c s₁ [] 0 0 := Stand.of_body Bd
  have e0 : s₁.heap = h0 := by rw [← hh, Bd.state]; rfl
  have N0 := Fr.nil n0
  have hret := Bd.returns
  have hlk := BodyLoose.notSynchronized Bd
  show own_Out p e below (fun o U' => ∃ v L, o = .returned v ∧ Q5n4u3 Z o0 k0 c0 c1 c2 c3 h0 n0 v U'.heap L ∧ FrameEnd s o U' L (⟨3, 2, 12, 40⟩ : Room).cells (⟨3, 2, 12, 40⟩ : Room).slots) (s₁.setTop (entryFrame m #[(.ref o0), (.int 0), (.int 4)] 6))
  refine own_of (fun t k => castTop (ef_5n4u3 m o0) k) ?_
  show own_Out p e below _ (s₁.setTop (mkF m 0 #[rv o0, iv 0, iv 4, .unset, .unset, .unset] []))
  refine o_iloadN X0 hx hby d5_0 rfl (q := 1) rfl ?_
  obtain ⟨T1, h1, k1, X1, e1, E1, A1, st1⟩ := newP X0 hx hZ (w_ hw 24 rfl) e0 (g := (mkF m 1 #[rv o0, iv 0, iv 4, .unset, .unset, .unset] [.int 4])) rfl (hb hby d5_1) rfl (by decide) (cap := 4) (by decide) (by decide) (by decide) (by decide)
  obtain ⟨b1, g1⟩ : ∃ z, z = h0.size := ⟨_, rfl⟩
  rw [← g1] at A1 st1
  have g_b1 : n0 ≤ b1 := Nat.le_trans Z0 (Nat.le_of_eq g1.symm)
  have sz_b1 : h0.size ≤ b1 := Nat.le_trans (Nat.le_refl h0.size) (Nat.le_of_eq g1.symm)
  have V_b1 : Arv Z h1 b1 k1 .byte (4 : Int32) [(.int 0), (.int 0), (.int 0), (.int 0)] (.int 0) := (Arv.new A1 (by decide)).pad (pad_rep [] (.int 0) 4)
  refine own_of st1 ?_
  show own_Out p e below _ (T1.setTop (mkF m 3 #[rv o0, iv 0, iv 4, .unset, .unset, .unset] [.ref b1]))
  refine o_astoreN X1 hx hby d5_3 rfl (l' := #[rv o0, iv 0, iv 4, rv b1, .unset, .unset]) rfl (q := 4) rfl ?_
  refine o_aloadN X1 hx hby d5_4 rfl rfl (q := 5) rfl ?_
  refine o_iloadN X1 hx hby d5_5 rfl (q := 6) rfl ?_
  refine o_aloadN X1 hx hby d5_6 rfl rfl (q := 7) rfl ?_
  refine o_iconst X1 hx hby d5_7 (z := 0) rfl (q := 8) rfl ?_
  refine o_iloadN X1 hx hby d5_8 rfl (q := 9) rfl ?_
  have ne_o0_b1 : o0 ≠ b1 := Nat.ne_of_lt (Nat.lt_of_lt_of_le V0.lt sz_b1)
  have qz3 := (V0.ext E1)
  have qz4 := (Nat.le_trans Z0 E1.1)
  obtain ⟨_, _, ⟨T2, L2, k2, n2⟩, -, X2, ⟨Lc2, hQ2, l2, y2, z2⟩, st2⟩ := Jvm.LawKit.callS X1 hx (y := (⟨"java/lang/StringUTF16", "compress", "([CI[BII)I"⟩ : MethodName)) hown (mvT hZ (w_ hw 25 rfl)) (mvT hZ (w_ hw 26 rfl)) (mvT hZ (w_ hw 22 rfl)) (mvT hZ (w_ hw 27 rfl)) (by decide) (backOf (W := 0) (rm6n4u3 l Z a0 hw [] o0 b1 k0 k1 c0 c1 c2 c3 h1 n0 qz4 qz3 V_b1 g_b1 ne_o0_b1 hb0 hb1 hb2 hb3) hZ (w_ hw 27 rfl) (w_ hw 22 rfl) (by decide) (by decide)) (g := (mkF m 9 #[rv o0, iv 0, iv 4, rv b1, .unset, .unset] [.int 4, .int 0, .ref b1, .int 0, .ref o0])) rfl (by rw [hml]; rfl) (argsL := [(.ref o0), (.int 0), (.ref b1), (.int 0), (.int 4)]) (rest := []) (lenOf pd_7 rfl) rfl (by show 2 * 0 + _ ≤ _; exact Nat.le_of_eq rfl) (hb hby d5_9) (fun _ _ => ⟨rfl, e1, (by decide : 1 + 0 ≤ _), (by decide : 4 + 0 ≤ _)⟩)
  dsimp only [Pt.U, Pt.locs, Pt.cells, Pt.slots] at X2 l2 y2 z2 st2 hQ2
  subst l2 y2 z2
  obtain ⟨rfl, N2q, K2, V2⟩ := hQ2
  have N2 := Fr.app N0 N2q
  refine own_of st2 ?_
  show own_Out p e below _ (T2.setTop (mkF m 12 #[rv o0, iv 0, iv 4, rv b1, .unset, .unset] [.int 3]))
  refine o_istore X2 hx hby d5_12 (l' := #[rv o0, iv 0, iv 4, rv b1, iv 3, .unset]) rfl (q := 14) rfl ?_
  refine o_iload X2 hx hby d5_14 rfl (q := 16) rfl ?_
  refine o_iloadN X2 hx hby d5_16 rfl (q := 17) rfl ?_
  refine o_icN X2 hx hby d5_17 (feq (by decide : ¬ ((3 : Int32) = (4 : Int32)))).1 (q := 20) rfl ?_
  refine o_aloadN X2 hx hby d5_20 rfl rfl (q := 21) rfl ?_
  refine o_iloadN X2 hx hby d5_21 rfl (q := 22) rfl ?_
  refine o_iloadN X2 hx hby d5_22 rfl (q := 23) rfl ?_
  have qz6 := (qz3.keep K2 (ninS ne_o0_b1 nin0))
  have qz7 := (own_staK1 (S_ad.ext E1) K2 (own_plainV V_b1))
  have qz8 := (own_staK1 (S_hi.ext E1) K2 (own_plainV V_b1))
  have qz9 := (own_staK1 (S_lo.ext E1) K2 (own_plainV V_b1))
  have qz10 := (Nat.le_trans qz4 K2.1)
  obtain ⟨_, _, ⟨T5, L5, k5, n5⟩, -, X5, ⟨Lc5, hQ5, l5, y5, z5⟩, st5⟩ := Jvm.LawKit.callS X2 hx (y := (⟨"java/lang/StringUTF16", "toBytes", "([CII)[B"⟩ : MethodName)) hown (mvT hZ (w_ hw 72 rfl)) (mvT hZ (w_ hw 73 rfl)) (mvT hZ (w_ hw 22 rfl)) (mvT hZ (w_ hw 74 rfl)) (by decide) (backOf (W := 0) (rm17 l Z a0 hw [] o0 k0 c0 c1 c2 c3 T2.heap n0 qz10 qz6 qz7 qz8 qz9) hZ (w_ hw 74 rfl) (w_ hw 22 rfl) (by decide) (by decide)) (g := (mkF m 23 #[rv o0, iv 0, iv 4, rv b1, iv 3, .unset] [.int 4, .int 0, .ref o0])) rfl (by rw [hml]; rfl) (argsL := [(.ref o0), (.int 0), (.int 4)]) (rest := []) (lenOf pd_8 rfl) rfl (by show 2 * 0 + _ ≤ _; exact Nat.le_of_eq rfl) (hb hby d5_23) (fun _ _ => ⟨rfl, rfl, (by decide : 1 + 1 ≤ _), (by decide : 4 + 8 ≤ _)⟩)
  dsimp only [Pt.U, Pt.locs, Pt.cells, Pt.slots] at X5 l5 y5 z5 st5 hQ5
  subst l5 y5 z5
  obtain ⟨b5, k5, rfl, N5q, K5, V5, hgb_5, hsb_5⟩ := hQ5
  have N5 := Fr.app N2 N5q
  have qz11 := (Nat.le_trans (Nat.le_trans (Nat.le_refl h0.size) E1.1) K2.1)
  have sz_b5 : h0.size ≤ b5 := Nat.le_trans qz11 hsb_5
  refine own_of st5 ?_
  show own_Out p e below _ (T5.setTop (mkF m 26 #[rv o0, iv 0, iv 4, rv b1, iv 3, .unset] [.ref b5]))
  refine o_astore X5 hx hby d5_26 rfl (l' := #[rv o0, iv 0, iv 4, rv b1, iv 3, rv b5]) rfl (q := 28) rfl ?_
  refine o_aload X5 hx hby d5_28 rfl rfl (q := 30) rfl ?_
  refine o_iload X5 hx hby d5_30 rfl (q := 32) rfl ?_
  have qz13 := (own_staK0 qz7 K5)
  have qz14 := (own_staK0 qz8 K5)
  have qz15 := (own_staK0 qz9 K5)
  have qz16 := (Nat.le_trans qz10 K5.1)
  obtain ⟨_, _, ⟨T12, L12, k12, n12⟩, -, X12, ⟨Lc12, hQ12, l12, y12, z12⟩, st12⟩ := Jvm.LawKit.callS X5 hx (y := (⟨"java/lang/StringUTF16", "getChar", "([BI)C"⟩ : MethodName)) hown (mvT hZ (w_ hw 88 rfl)) (mvT hZ (w_ hw 89 rfl)) (mvT hZ (w_ hw 22 rfl)) (mvT hZ (w_ hw 90 rfl)) (by decide) (backOf (W := 0) (rm21j3 l Z a0 hw [] b5 k5 (((c0 >>> ((0 : Int32) &&& 31)).toInt8.toInt32).toInt8.toInt32) (((c0 >>> ((8 : Int32) &&& 31)).toInt8.toInt32).toInt8.toInt32) (((c1 >>> ((0 : Int32) &&& 31)).toInt8.toInt32).toInt8.toInt32) (((c1 >>> ((8 : Int32) &&& 31)).toInt8.toInt32).toInt8.toInt32) (((c2 >>> ((0 : Int32) &&& 31)).toInt8.toInt32).toInt8.toInt32) (((c2 >>> ((8 : Int32) &&& 31)).toInt8.toInt32).toInt8.toInt32) (((c3 >>> ((0 : Int32) &&& 31)).toInt8.toInt32).toInt8.toInt32) (((c3 >>> ((8 : Int32) &&& 31)).toInt8.toInt32).toInt8.toInt32) T5.heap n0 qz16 V5 qz13 qz14 qz15) hZ (w_ hw 90 rfl) (w_ hw 22 rfl) (by decide) (by decide)) (g := (mkF m 32 #[rv o0, iv 0, iv 4, rv b1, iv 3, rv b5] [.int 3, .ref b5])) rfl (by rw [hml]; rfl) (argsL := [(.ref b5), (.int 3)]) (rest := []) (lenOf pd_3 rfl) rfl (by show 2 * 0 + _ ≤ _; exact Nat.le_of_eq rfl) (hb hby d5_32) (fun _ _ => ⟨rfl, rfl, (by decide : 2 + 0 ≤ _), (by decide : 12 + 0 ≤ _)⟩)
  dsimp only [Pt.U, Pt.locs, Pt.cells, Pt.slots] at X12 l12 y12 z12 st12 hQ12
  subst l12 y12 z12
  obtain ⟨rfl, N12q, hh12⟩ := hQ12
  have N12 := Fr.app N5 N12q
  refine own_of st12 ?_
  show own_Out p e below _ (T12.setTop (mkF m 35 #[rv o0, iv 0, iv 4, rv b1, iv 3, rv b5] [.int (fgc3 (((c0 >>> ((0 : Int32) &&& 31)).toInt8.toInt32).toInt8.toInt32) (((c0 >>> ((8 : Int32) &&& 31)).toInt8.toInt32).toInt8.toInt32) (((c1 >>> ((0 : Int32) &&& 31)).toInt8.toInt32).toInt8.toInt32) (((c1 >>> ((8 : Int32) &&& 31)).toInt8.toInt32).toInt8.toInt32) (((c2 >>> ((0 : Int32) &&& 31)).toInt8.toInt32).toInt8.toInt32) (((c2 >>> ((8 : Int32) &&& 31)).toInt8.toInt32).toInt8.toInt32) (((c3 >>> ((0 : Int32) &&& 31)).toInt8.toInt32).toInt8.toInt32) (((c3 >>> ((8 : Int32) &&& 31)).toInt8.toInt32).toInt8.toInt32))]))
  refine o_sipush X12 hx hby d5_35 (z := 255) rfl (q := 38) rfl ?_
  refine o_icY X12 hx hby d5_38 (tlt ((by rw [own_gc3 hr3]; exact hb3) : (255 : Int32) < (fgc3 (((c0 >>> ((0 : Int32) &&& 31)).toInt8.toInt32).toInt8.toInt32) (((c0 >>> ((8 : Int32) &&& 31)).toInt8.toInt32).toInt8.toInt32) (((c1 >>> ((0 : Int32) &&& 31)).toInt8.toInt32).toInt8.toInt32) (((c1 >>> ((8 : Int32) &&& 31)).toInt8.toInt32).toInt8.toInt32) (((c2 >>> ((0 : Int32) &&& 31)).toInt8.toInt32).toInt8.toInt32) (((c2 >>> ((8 : Int32) &&& 31)).toInt8.toInt32).toInt8.toInt32) (((c3 >>> ((0 : Int32) &&& 31)).toInt8.toInt32).toInt8.toInt32) (((c3 >>> ((8 : Int32) &&& 31)).toInt8.toInt32).toInt8.toInt32)))).2.2.1 (by decide) (q := 54) (by decide) ?_
  refine o_aload X12 hx hby d5_54 rfl rfl (q := 56) rfl ?_
  have qz17 := ((((Keep.refl h0 []).ext E1).trans K2 (allS (Or.inr sz_b1) all0)).trans K5 all0)
  exact own_outR X12 hx hlk hret rfl rfl rfl (hb hby d5_56) (Q := Q5n4u3 Z o0 k0 c0 c1 c2 c3 h0 n0) (by rw [hh12]; exact ⟨b5, k5, rfl, N12, qz17, V5, hgb_5, sz_b5⟩) (by decide) (by decide)
theorem ef_3n4u3 (m : MethodId) (x0 x1 : Addr) : entryFrame m #[(.ref x0), (.ref x1), (.int 0), (.int 4), .null] 6 = mkF m 0 #[.val (.ref x0), .val (.ref x1), .val (.int 0), .val (.int 4), .val .null, .unset] [] := by first | (simp [entryFrame, mkF, argsToLocals, Value.category]; done) | rfl
def Q3n4u3 (Z : State) (o0 o1 : Addr) (k1 : ClassId) (c0 c1 c2 c3 cs : Int32) (h0 : Heap) (n0 : Nat) (v : Option Value) (h : Heap) (L : List Loc) : Prop := ∃ (b : Addr) (k : ClassId), v = none ∧ Fr n0 L ∧ Keep h0 h [o0] ∧ Exa Z h o0 "java/lang/String" ∧ Fld Z h o0 "java/lang/String" "value" "[B" (.ref b) ∧ Fld Z h o0 "java/lang/String" "coder" "B" (.int 1) ∧ Arv Z h b k .byte (8 : Int32) [(.int (((c0 >>> ((0 : Int32) &&& 31)).toInt8.toInt32).toInt8.toInt32)), (.int (((c0 >>> ((8 : Int32) &&& 31)).toInt8.toInt32).toInt8.toInt32)), (.int (((c1 >>> ((0 : Int32) &&& 31)).toInt8.toInt32).toInt8.toInt32)), (.int (((c1 >>> ((8 : Int32) &&& 31)).toInt8.toInt32).toInt8.toInt32)), (.int (((c2 >>> ((0 : Int32) &&& 31)).toInt8.toInt32).toInt8.toInt32)), (.int (((c2 >>> ((8 : Int32) &&& 31)).toInt8.toInt32).toInt8.toInt32)), (.int (((c3 >>> ((0 : Int32) &&& 31)).toInt8.toInt32).toInt8.toInt32)), (.int (((c3 >>> ((8 : Int32) &&& 31)).toInt8.toInt32).toInt8.toInt32))] (.int 0) ∧ n0 ≤ b ∧ h0.size ≤ b
set_option maxRecDepth 65536 in
set_option maxHeartbeats 40000000 in
theorem rm3n4u3 (l : Launch) (Z : State) (a0 : Array Value) (hw : ∀ d ∈ tables_1, d.before a0 Z = true) (ws : List Jvm.Cond) (o0 o1 : Addr) (k1 : ClassId) (c0 c1 c2 c3 cs : Int32) (h0 : Heap) (n0 : Nat) (Z0 : n0 ≤ h0.size) (E : Exa Z h0 o0 "java/lang/String") (F_value : Fld Z h0 o0 "java/lang/String" "value" "[B" .null) (F_coder : Fld Z h0 o0 "java/lang/String" "coder" "B" (.int 0)) (g_o0 : n0 ≤ o0) (V1 : Arv Z h0 o1 k1 .char (4 : Int32) [(.int c0), (.int c1), (.int c2), (.int c3)] (.int 0)) (n10 : o1 ≠ o0) (S_cs : Sta Z h0 "java/lang/String" "COMPACT_STRINGS" "Z" (.int cs)) (hcs : ¬ (cs = (0 : Int32))) (hb0 : ¬ ((255 : Int32) < c0)) (hb1 : ¬ ((255 : Int32) < c1)) (hb2 : ¬ ((255 : Int32) < c2)) (hb3 : (255 : Int32) < c3) (hr0 : 0 ≤ c0.toInt ∧ c0.toInt < 65536) (hr1 : 0 ≤ c1.toInt ∧ c1.toInt < 65536) (hr2 : 0 ≤ c2.toInt ∧ c2.toInt < 65536) (hr3 : 0 ≤ c3.toInt ∧ c3.toInt < 65536) (S_ad : Sta Z h0 "java/lang/StringUTF16" "$assertionsDisabled" "Z" (.int 1)) (S_hi : Sta Z h0 "java/lang/StringUTF16" "HI_BYTE_SHIFT" "I" (.int 0)) (S_lo : Sta Z h0 "java/lang/StringUTF16" "LO_BYTE_SHIFT" "I" (.int 8)) :
    MetFree l (⟨"java/lang/String", "<init>", "([CIILjava/lang/Void;)V"⟩ : MethodName) (head1 (Jvm.Cond.code (⟨"java/lang/String", "<init>", "([CIILjava/lang/Void;)V"⟩ : MethodName) jdk_42_method_149_code 6 none :: ws) (⟨4, 2, 12, 57⟩ : Room)) (fun a U => a = #[(.ref o0), (.ref o1), (.int 0), (.int 4), .null] ∧ Z.Warmed39 U.vm ∧ U.heap = h0) (fun _ _ _ _ _ => True) (fun _ U o U' => ∃ v L, o = .returned v ∧ Q3n4u3 Z o0 o1 k1 c0 c1 c2 c3 cs h0 n0 v U'.heap L ∧ FrameEnd U o U' L (⟨4, 2, 12, 57⟩ : Room).cells (⟨4, 2, 12, 57⟩ : Room).slots) := by
  refine MetFree.of_bodySF (plainFor_of_name pn_1) hisR ?_
  intro p e s m args below meth c s₁ Bd hml0 hP hK
  obtain ⟨rfl, hZ, hh⟩ := hP
  have hx := Bd.exec
  have hby := Bd.bytes
  have hml : c.maxLocals = 6 := hml0
  have hown : s.vm.findClass "java/lang/String" = some m.cls := findClass_of_methodNamed Bd.named
  have hnm := (name_of_methodNamed Bd.named Bd.method).1
  have X0 : Stand p l e (⟨4, 2, 12, 57⟩ : Room) s m #[(.ref o0), (.ref o1), (.int 0), (.int 4), .null] below meth c s₁ [] 0 0 := Stand.of_body Bd
  have e0 : s₁.heap = h0 := by rw [← hh, Bd.state]; rfl
  have N0 := Fr.nil n0
  have hret := Bd.returns
  have hlk := BodyLoose.notSynchronized Bd
  show own_Out p e below (fun o U' => ∃ v L, o = .returned v ∧ Q3n4u3 Z o0 o1 k1 c0 c1 c2 c3 cs h0 n0 v U'.heap L ∧ FrameEnd s o U' L (⟨4, 2, 12, 57⟩ : Room).cells (⟨4, 2, 12, 57⟩ : Room).slots) (s₁.setTop (entryFrame m #[(.ref o0), (.ref o1), (.int 0), (.int 4), .null] 6))
  refine own_of (fun t k => castTop (ef_3n4u3 m o0 o1) k) ?_
  show own_Out p e below _ (s₁.setTop (mkF m 0 #[rv o0, rv o1, iv 0, iv 4, .val (.null), .unset] []))
  refine o_aloadN X0 hx hby d3_0 rfl rfl (q := 1) rfl ?_
  obtain ⟨T1, X1, e1, st1⟩ := initO X0 hx hZ hown (w_ hw 16 rfl) (w_ hw 17 rfl) (w_ hw 18 rfl) e0 (g := (mkF m 1 #[rv o0, rv o1, iv 0, iv 4, .val (.null), .unset] [.ref o0])) rfl (by rw [hml]; rfl) rfl (hb hby d3_1) (by decide) (W := 0) (by show 2 * 0 + _ ≤ _; exact Nat.le_of_eq rfl) (by decide)
  refine own_of st1 ?_
  show own_Out p e below _ (T1.setTop (mkF m 4 #[rv o0, rv o1, iv 0, iv 4, .val (.null), .unset] []))
  refine o_iloadN X1 hx hby d3_4 rfl (q := 5) rfl ?_
  refine o_ifY X1 hx hby d3_5 ((if0 _ _).trans (feq (by decide : ¬ ((4 : Int32) = (0 : Int32)))).2) (by decide) (q := 27) (by decide) ?_
  obtain ⟨T2, X2, e2, st2⟩ := getS2 X1 hx hZ hown (host := "") (Or.inl (w_ hw 19 rfl)) Via.refl e1 S_cs (g := (mkF m 27 #[rv o0, rv o1, iv 0, iv 4, .val (.null), .unset] [])) rfl (hb hby d3_27)
  refine own_of st2 ?_
  show own_Out p e below _ (T2.setTop (mkF m 30 #[rv o0, rv o1, iv 0, iv 4, .val (.null), .unset] [.int cs]))
  refine o_ifN X2 hx hby d3_30 ((if0 _ _).trans (feq hcs).1) (q := 33) rfl ?_
  refine o_aloadN X2 hx hby d3_33 rfl rfl (q := 34) rfl ?_
  refine o_iloadN X2 hx hby d3_34 rfl (q := 35) rfl ?_
  refine o_iloadN X2 hx hby d3_35 rfl (q := 36) rfl ?_
  obtain ⟨_, _, ⟨T3, L3, k3, n3⟩, -, X3, ⟨Lc3, hQ3, l3, y3, z3⟩, st3⟩ := Jvm.LawKit.callS X2 hx (y := (⟨"java/lang/StringUTF16", "compress", "([CII)[B"⟩ : MethodName)) hown (mvT hZ (w_ hw 20 rfl)) (mvT hZ (w_ hw 21 rfl)) (mvT hZ (w_ hw 22 rfl)) (mvT hZ (w_ hw 23 rfl)) (by decide) (backOf (W := 0) (rm5n4u3 l Z a0 hw [] o1 k1 c0 c1 c2 c3 h0 n0 Z0 V1 hb0 hb1 hb2 hb3 hr0 hr1 hr2 hr3 S_ad S_hi S_lo) hZ (w_ hw 23 rfl) (w_ hw 22 rfl) (by decide) (by decide)) (g := (mkF m 36 #[rv o0, rv o1, iv 0, iv 4, .val (.null), .unset] [.int 4, .int 0, .ref o1])) rfl (by rw [hml]; rfl) (argsL := [(.ref o1), (.int 0), (.int 4)]) (rest := []) (lenOf pd_8 rfl) rfl (by show 2 * 0 + _ ≤ _; exact Nat.le_of_eq rfl) (hb hby d3_36) (fun _ _ => ⟨rfl, e2, (by decide : 0 + 2 ≤ _), (by decide : 0 + 12 ≤ _)⟩)
  dsimp only [Pt.U, Pt.locs, Pt.cells, Pt.slots] at X3 l3 y3 z3 st3 hQ3
  subst l3 y3 z3
  obtain ⟨b3, k3, rfl, N3q, K3, V3, hgb_3, hsb_3⟩ := hQ3
  have N3 := Fr.app N0 N3q
  have sz_b3 : h0.size ≤ b3 := Nat.le_trans (Nat.le_refl h0.size) hsb_3
  refine own_of st3 ?_
  show own_Out p e below _ (T3.setTop (mkF m 39 #[rv o0, rv o1, iv 0, iv 4, .val (.null), .unset] [.ref b3]))
  refine o_astore X3 hx hby d3_39 rfl (l' := #[rv o0, rv o1, iv 0, iv 4, .val (.null), rv b3]) rfl (q := 41) rfl ?_
  refine o_aloadN X3 hx hby d3_41 rfl rfl (q := 42) rfl ?_
  refine o_aload X3 hx hby d3_42 rfl rfl (q := 44) rfl ?_
  refine o_iloadN X3 hx hby d3_44 rfl (q := 45) rfl ?_
  have qz5 := (Nat.le_trans Z0 K3.1)
  obtain ⟨_, _, ⟨T4, L4, k4, n4⟩, -, X4, ⟨Lc4, hQ4, l4, y4, z4⟩, st4⟩ := Jvm.LawKit.callS X3 hx (y := (⟨"java/lang/StringUTF16", "coderFromArrayLen", "([BI)B"⟩ : MethodName)) hown (mvT hZ (w_ hw 28 rfl)) (mvT hZ (w_ hw 29 rfl)) (mvT hZ (w_ hw 22 rfl)) (mvT hZ (w_ hw 30 rfl)) (by decide) (backOf (W := 1) (rm7v1n4 l Z a0 hw [] b3 k3 (((c0 >>> ((0 : Int32) &&& 31)).toInt8.toInt32).toInt8.toInt32) (((c0 >>> ((8 : Int32) &&& 31)).toInt8.toInt32).toInt8.toInt32) (((c1 >>> ((0 : Int32) &&& 31)).toInt8.toInt32).toInt8.toInt32) (((c1 >>> ((8 : Int32) &&& 31)).toInt8.toInt32).toInt8.toInt32) (((c2 >>> ((0 : Int32) &&& 31)).toInt8.toInt32).toInt8.toInt32) (((c2 >>> ((8 : Int32) &&& 31)).toInt8.toInt32).toInt8.toInt32) (((c3 >>> ((0 : Int32) &&& 31)).toInt8.toInt32).toInt8.toInt32) (((c3 >>> ((8 : Int32) &&& 31)).toInt8.toInt32).toInt8.toInt32) T3.heap n0 qz5 V3) hZ (w_ hw 30 rfl) (w_ hw 22 rfl) (by decide) (by decide)) (g := (mkF m 45 #[rv o0, rv o1, iv 0, iv 4, .val (.null), rv b3] [.int 4, .ref b3, .ref o0])) rfl (by rw [hml]; rfl) (argsL := [(.ref b3), (.int 4)]) (rest := [(.ref o0)]) (lenOf pd_9 rfl) rfl (by show 2 * 0 + _ ≤ _; exact Nat.le_of_eq rfl) (hb hby d3_45) (fun _ _ => ⟨rfl, rfl, (by decide : 2 + 0 ≤ _), (by decide : 12 + 0 ≤ _)⟩)
  dsimp only [Pt.U, Pt.locs, Pt.cells, Pt.slots] at X4 l4 y4 z4 st4 hQ4
  subst l4 y4 z4
  obtain ⟨rfl, N4q, hh4⟩ := hQ4
  have N4 := Fr.app N3 N4q
  refine own_of st4 ?_
  show own_Out p e below _ (T4.setTop (mkF m 48 #[rv o0, rv o1, iv 0, iv 4, .val (.null), rv b3] [.int 1, .ref o0]))
  have qz7 := (F_coder.keep K3 nin0)
  have qz8 := (E.keep K3)
  obtain ⟨T6, h6, X6, e6, W6, st6⟩ := putFN X4 hx hZ hown (w_ hw 31 rfl) Via.refl hh4 qz7 qz8 (Or.inr ⟨(w_ hw 32 rfl), rfl, hnm⟩) (w_ hw 7 rfl) (ty := .byte) (v' := (.int 1)) (by decide) rfl rfl (g := (mkF m 48 #[rv o0, rv o1, iv 0, iv 4, .val (.null), rv b3] [.int 1, .ref o0])) rfl rfl (hb hby d3_48)
  have qz9 := (F_coder.keep K3 nin0)
  have Fw6 := qz9.same W6
  refine own_of st6 ?_
  show own_Out p e below _ (T6.setTop (mkF m 51 #[rv o0, rv o1, iv 0, iv 4, .val (.null), rv b3] []))
  refine o_aloadN X6 hx hby d3_51 rfl rfl (q := 52) rfl ?_
  refine o_aload X6 hx hby d3_52 rfl rfl (q := 54) rfl ?_
  have qz11 := ((F_value.keep K3 nin0).other W6 (Or.inr (slot_ne (Or.inr (w_ hw 34 rfl)) (Or.inr (w_ hw 32 rfl)) (by decide) (t := (.array .byte)) (t' := .byte) (by decide) (by decide))))
  have qz12 := (qz8.wr W6)
  obtain ⟨T10, h10, X10, e10, W10, st10⟩ := putF X6 hx hZ hown (host := "") (Or.inl (w_ hw 33 rfl)) Via.refl e6 qz11 qz12 (Or.inr ⟨(w_ hw 34 rfl), rfl, hnm⟩) (w_ hw 7 rfl) (ty := (.array .byte)) (by decide) rfl rfl (g := (mkF m 54 #[rv o0, rv o1, iv 0, iv 4, .val (.null), rv b3] [.ref b3, .ref o0])) rfl rfl (hb hby d3_54)
  have qz13 := ((F_value.keep K3 nin0).other W6 (Or.inr (slot_ne (Or.inr (w_ hw 34 rfl)) (Or.inr (w_ hw 32 rfl)) (by decide) (t := (.array .byte)) (t' := .byte) (by decide) (by decide))))
  have Fw10 := qz13.same W10
  refine own_of st10 ?_
  show own_Out p e below _ (T10.setTop (mkF m 57 #[rv o0, rv o1, iv 0, iv 4, .val (.null), rv b3] []))
  have qz14 := ((((Keep.refl h0 [o0]).trans K3 all0).wr W6 (Or.inl (List.mem_of_getElem? (i := 0) rfl))).wr W10 (Or.inl (List.mem_of_getElem? (i := 0) rfl)))
  have qz15 := (qz12.wr W10)
  have qz16 := (Fw6.other W10 (Or.inr (slot_ne (Or.inr (w_ hw 32 rfl)) (Or.inr (w_ hw 34 rfl)) (by decide) (t := .byte) (t' := (.array .byte)) (by decide) (by decide))))
  have ne_o0_b3 : o0 ≠ b3 := Nat.ne_of_lt (Nat.lt_of_lt_of_le E.lt sz_b3)
  have qz17 := ((V3.other W6 (Ne.symm ne_o0_b3)).other W10 (Ne.symm ne_o0_b3))
  exact own_outV X10 hx hlk hret (hb hby d3_57) (Q := Q3n4u3 Z o0 o1 k1 c0 c1 c2 c3 cs h0 n0) (by rw [e10]; exact ⟨b3, k3, rfl, (Fr.snoc X10 (Fr.snoc X6 N4 g_o0) g_o0), qz14, qz15, Fw10, qz16, qz17, hgb_3, sz_b3⟩) (by decide) (by decide)
theorem ef_2n4u3 (m : MethodId) (x0 x1 : Addr) : entryFrame m #[(.ref x0), (.ref x1)] 2 = mkF m 0 #[.val (.ref x0), .val (.ref x1)] [] := by first | (simp [entryFrame, mkF, argsToLocals, Value.category]; done) | rfl
def Q2n4u3 (Z : State) (o0 o1 : Addr) (k1 : ClassId) (c0 c1 c2 c3 cs : Int32) (h0 : Heap) (n0 : Nat) (v : Option Value) (h : Heap) (L : List Loc) : Prop := v = none ∧ Fr n0 L ∧ Keep h0 h [o0] ∧ Exa Z h o0 "java/lang/String" ∧ HasOk Z h o0 c0 c1 c2 c3
set_option maxRecDepth 65536 in
set_option maxHeartbeats 40000000 in
theorem rm2n4u3 (l : Launch) (Z : State) (a0 : Array Value) (hw : ∀ d ∈ tables_1, d.before a0 Z = true) (ws : List Jvm.Cond) (o0 o1 : Addr) (k1 : ClassId) (c0 c1 c2 c3 cs : Int32) (h0 : Heap) (n0 : Nat) (Z0 : n0 ≤ h0.size) (E : Exa Z h0 o0 "java/lang/String") (F_value : Fld Z h0 o0 "java/lang/String" "value" "[B" .null) (F_coder : Fld Z h0 o0 "java/lang/String" "coder" "B" (.int 0)) (g_o0 : n0 ≤ o0) (V1 : Arv Z h0 o1 k1 .char (4 : Int32) [(.int c0), (.int c1), (.int c2), (.int c3)] (.int 0)) (n10 : o1 ≠ o0) (S_cs : Sta Z h0 "java/lang/String" "COMPACT_STRINGS" "Z" (.int cs)) (hcs : ¬ (cs = (0 : Int32))) (hb0 : ¬ ((255 : Int32) < c0)) (hb1 : ¬ ((255 : Int32) < c1)) (hb2 : ¬ ((255 : Int32) < c2)) (hb3 : (255 : Int32) < c3) (hr0 : 0 ≤ c0.toInt ∧ c0.toInt < 65536) (hr1 : 0 ≤ c1.toInt ∧ c1.toInt < 65536) (hr2 : 0 ≤ c2.toInt ∧ c2.toInt < 65536) (hr3 : 0 ≤ c3.toInt ∧ c3.toInt < 65536) (S_ad : Sta Z h0 "java/lang/StringUTF16" "$assertionsDisabled" "Z" (.int 1)) (S_hi : Sta Z h0 "java/lang/StringUTF16" "HI_BYTE_SHIFT" "I" (.int 0)) (S_lo : Sta Z h0 "java/lang/StringUTF16" "LO_BYTE_SHIFT" "I" (.int 8)) :
    MetFree l (⟨"java/lang/String", "<init>", "([C)V"⟩ : MethodName) (head1 (Jvm.Cond.code (⟨"java/lang/String", "<init>", "([C)V"⟩ : MethodName) jdk_42_method_3_code 2 none :: ws) (⟨6, 2, 12, 90⟩ : Room)) (fun a U => a = #[(.ref o0), (.ref o1)] ∧ Z.Warmed39 U.vm ∧ U.heap = h0) (fun _ _ _ _ _ => True) (fun _ U o U' => ∃ v L, o = .returned v ∧ Q2n4u3 Z o0 o1 k1 c0 c1 c2 c3 cs h0 n0 v U'.heap L ∧ FrameEnd U o U' L (⟨6, 2, 12, 90⟩ : Room).cells (⟨6, 2, 12, 90⟩ : Room).slots) := by
  refine MetFree.of_bodySF (plainFor_of_name pn_1) hisR ?_
  intro p e s m args below meth c s₁ Bd hml0 hP hK
  obtain ⟨rfl, hZ, hh⟩ := hP
  have hx := Bd.exec
  have hby := Bd.bytes
  have hml : c.maxLocals = 2 := hml0
  have hown : s.vm.findClass "java/lang/String" = some m.cls := findClass_of_methodNamed Bd.named
  have hnm := (name_of_methodNamed Bd.named Bd.method).1
  have X0 : Stand p l e (⟨6, 2, 12, 90⟩ : Room) s m #[(.ref o0), (.ref o1)] below meth c s₁ [] 0 0 := Stand.of_body Bd
  have e0 : s₁.heap = h0 := by rw [← hh, Bd.state]; rfl
  have N0 := Fr.nil n0
  have hret := Bd.returns
  have hlk := BodyLoose.notSynchronized Bd
  show own_Out p e below (fun o U' => ∃ v L, o = .returned v ∧ Q2n4u3 Z o0 o1 k1 c0 c1 c2 c3 cs h0 n0 v U'.heap L ∧ FrameEnd s o U' L (⟨6, 2, 12, 90⟩ : Room).cells (⟨6, 2, 12, 90⟩ : Room).slots) (s₁.setTop (entryFrame m #[(.ref o0), (.ref o1)] 2))
  refine own_of (fun t k => castTop (ef_2n4u3 m o0 o1) k) ?_
  show own_Out p e below _ (s₁.setTop (mkF m 0 #[rv o0, rv o1] []))
  refine o_aloadN X0 hx hby d2_0 rfl rfl (q := 1) rfl ?_
  refine o_aloadN X0 hx hby d2_1 rfl rfl (q := 2) rfl ?_
  refine o_iconst X0 hx hby d2_2 (z := 0) rfl (q := 3) rfl ?_
  refine o_aloadN X0 hx hby d2_3 rfl rfl (q := 4) rfl ?_
  refine o_lenV X0 hx hby hZ e0 V1 d2_4 (q := 5) rfl ?_
  refine o_aconst_null X0 hx hby d2_5 (q := 6) rfl ?_
  obtain ⟨_, _, ⟨T1, L1, k1, n1⟩, -, X1, ⟨Lc1, hQ1, l1, y1, z1⟩, st1⟩ := X0.specialBack hx (y := (⟨"java/lang/String", "<init>", "([CIILjava/lang/Void;)V"⟩ : MethodName)) rfl hown (mvT hZ (w_ hw 12 rfl)) (mvT hZ (w_ hw 13 rfl)) (mvT hZ (w_ hw 15 rfl)) (by decide) (backOf (W := 0) (rm3n4u3 l Z a0 hw [] o0 o1 k1 c0 c1 c2 c3 cs h0 n0 Z0 E F_value F_coder g_o0 V1 n10 S_cs hcs hb0 hb1 hb2 hb3 hr0 hr1 hr2 hr3 S_ad S_hi S_lo) hZ (w_ hw 15 rfl) (w_ hw 8 rfl) (by decide) (by decide)) (g := (mkF m 6 #[rv o0, rv o1] [.null, .int 4, .int 0, .ref o1, .ref o0])) rfl (by rw [hml]; rfl) (Steps.refl _) (a := o0) (argsL := [(.ref o1), (.int 0), (.int 4), .null]) (rest := []) (lenOf pd_10 rfl) rfl (by show 2 * 0 + _ ≤ _; exact Nat.le_of_eq rfl) (hb hby d2_6) (fun _ _ => ⟨rfl, e0, (by decide : 0 + 2 ≤ _), (by decide : 0 + 12 ≤ _)⟩)
  dsimp only [Pt.U, Pt.locs, Pt.cells, Pt.slots] at X1 l1 y1 z1 st1 hQ1
  subst l1 y1 z1
  obtain ⟨b1, k1, rfl, N1q, K1, E1, Fv1, Fc1, V1, hgb_1, hsb_1⟩ := hQ1
  have N1 := Fr.app N0 N1q
  have sz_b1 : h0.size ≤ b1 := Nat.le_trans (Nat.le_refl h0.size) hsb_1
  refine own_of (fun _ k => st1.trans k) ?_
  show own_Out p e below _ (T1.setTop (mkF m 9 #[rv o0, rv o1] []))
  have qz2 := ((Keep.refl h0 [o0]).trans K1 (allS (Or.inl (List.mem_of_getElem? (i := 0) rfl)) all0))
  exact own_outV X1 hx hlk hret (hb hby d2_9) (Q := Q2n4u3 Z o0 o1 k1 c0 c1 c2 c3 cs h0 n0) ⟨rfl, N1, qz2, E1, (has_u hr0 hr1 hr2 hr3 E1 Fv1 Fc1 V1)⟩ (by decide) (by decide)
def QG (Z : State) (o0 : Addr) (c0 c1 c2 c3 : Int32) (h0 : Heap) (n0 : Nat) (v : Option Value) (h : Heap) (L : List Loc) : Prop := v = none ∧ Fr n0 L ∧ Keep h0 h [o0] ∧ Exa Z h o0 "java/lang/String" ∧ HasOk Z h o0 c0 c1 c2 c3
theorem ct_all (l : Launch) (Z : State) (a0 : Array Value) (hw : ∀ d ∈ tables_1, d.before a0 Z = true) (ws : List Jvm.Cond) (o0 o1 : Addr) (k1 : ClassId) (c0 c1 c2 c3 cs : Int32) (h0 : Heap) (n0 : Nat) (Z0 : n0 ≤ h0.size) (E : Exa Z h0 o0 "java/lang/String") (F_value : Fld Z h0 o0 "java/lang/String" "value" "[B" .null) (F_coder : Fld Z h0 o0 "java/lang/String" "coder" "B" (.int 0)) (g_o0 : n0 ≤ o0) (V1 : Arv Z h0 o1 k1 .char (4 : Int32) [(.int c0), (.int c1), (.int c2), (.int c3)] (.int 0)) (n10 : o1 ≠ o0) (S_cs : Sta Z h0 "java/lang/String" "COMPACT_STRINGS" "Z" (.int cs)) (hcs : ¬ (cs = (0 : Int32))) (S_ad : Sta Z h0 "java/lang/StringUTF16" "$assertionsDisabled" "Z" (.int 1)) (S_hi : Sta Z h0 "java/lang/StringUTF16" "HI_BYTE_SHIFT" "I" (.int 0)) (S_lo : Sta Z h0 "java/lang/StringUTF16" "LO_BYTE_SHIFT" "I" (.int 8)) (hr0 : 0 ≤ c0.toInt ∧ c0.toInt < 65536) (hr1 : 0 ≤ c1.toInt ∧ c1.toInt < 65536) (hr2 : 0 ≤ c2.toInt ∧ c2.toInt < 65536) (hr3 : 0 ≤ c3.toInt ∧ c3.toInt < 65536) :
    MetFree l (⟨"java/lang/String", "<init>", "([C)V"⟩ : MethodName) (head1 (Jvm.Cond.code (⟨"java/lang/String", "<init>", "([C)V"⟩ : MethodName) jdk_42_method_3_code 2 none :: ws) (⟨6, 2, 12, 90⟩ : Room)) (fun a U => a = #[(.ref o0), (.ref o1)] ∧ Z.Warmed39 U.vm ∧ U.heap = h0) (fun _ _ _ _ _ => True) (fun _ U o U' => ∃ v L, o = .returned v ∧ QG Z o0 c0 c1 c2 c3 h0 n0 v U'.heap L ∧ FrameEnd U o U' L (⟨6, 2, 12, 90⟩ : Room).cells (⟨6, 2, 12, 90⟩ : Room).slots) := by
  by_cases b0 : (255 : Int32) < c0
  · exact rm2n4u0 l Z a0 hw ws o0 o1 k1 c0 c1 c2 c3 cs h0 n0 Z0 E F_value F_coder g_o0 V1 n10 S_cs hcs b0 hr0 hr1 hr2 hr3 S_ad S_hi S_lo
  by_cases b1 : (255 : Int32) < c1
  · exact rm2n4u1 l Z a0 hw ws o0 o1 k1 c0 c1 c2 c3 cs h0 n0 Z0 E F_value F_coder g_o0 V1 n10 S_cs hcs b0 b1 hr0 hr1 hr2 hr3 S_ad S_hi S_lo
  by_cases b2 : (255 : Int32) < c2
  · exact rm2n4u2 l Z a0 hw ws o0 o1 k1 c0 c1 c2 c3 cs h0 n0 Z0 E F_value F_coder g_o0 V1 n10 S_cs hcs b0 b1 b2 hr0 hr1 hr2 hr3 S_ad S_hi S_lo
  by_cases b3 : (255 : Int32) < c3
  · exact rm2n4u3 l Z a0 hw ws o0 o1 k1 c0 c1 c2 c3 cs h0 n0 Z0 E F_value F_coder g_o0 V1 n10 S_cs hcs b0 b1 b2 b3 hr0 hr1 hr2 hr3 S_ad S_hi S_lo
  exact rm2n4l l Z a0 hw ws o0 o1 k1 c0 c1 c2 c3 cs h0 n0 Z0 E F_value F_coder g_o0 V1 n10 S_cs hcs b0 b1 b2 b3 hr0 hr1 hr2 hr3
theorem d1_0 : decode method_3_code 0 = .ok (.iload_n 0, 1) := by decide +kernel
theorem d1_1 : decode method_3_code 1 = .ok (.bipush 16, 2) := by decide +kernel
theorem d1_3 : decode method_3_code 3 = .ok (.iushr, 1) := by decide +kernel
theorem d1_4 : decode method_3_code 4 = .ok (.iconst 1, 1) := by decide +kernel
theorem d1_5 : decode method_3_code 5 = .ok (.iand, 1) := by decide +kernel
theorem d1_6 : decode method_3_code 6 = .ok (.ifCond .eq 15, 3) := by decide +kernel
theorem d1_9 : decode method_3_code 9 = .ok (.bipush 47, 2) := by decide +kernel
theorem d1_11 : decode method_3_code 11 = .ok (.iload_n 0, 1) := by decide +kernel
theorem d1_12 : decode method_3_code 12 = .ok (.ldc 38, 2) := by decide +kernel
theorem d1_14 : decode method_3_code 14 = .ok (.iand, 1) := by decide +kernel
theorem d1_15 : decode method_3_code 15 = .ok (.bipush 12, 2) := by decide +kernel
theorem d1_17 : decode method_3_code 17 = .ok (.irem, 1) := by decide +kernel
theorem d1_18 : decode method_3_code 18 = .ok (.iadd, 1) := by decide +kernel
theorem d1_19 : decode method_3_code 19 = .ok (.i2c, 1) := by decide +kernel
theorem d1_20 : decode method_3_code 20 = .ok (.ireturn, 1) := by decide +kernel
theorem d1_21 : decode method_3_code 21 = .ok (.iload_n 0, 1) := by decide +kernel
theorem d1_22 : decode method_3_code 22 = .ok (.ldc 38, 2) := by decide +kernel
theorem d1_24 : decode method_3_code 24 = .ok (.iand, 1) := by decide +kernel
theorem d1_25 : decode method_3_code 25 = .ok (.i2c, 1) := by decide +kernel
theorem d1_26 : decode method_3_code 26 = .ok (.ireturn, 1) := by decide +kernel
theorem ef_1 (m : MethodId) (x0 : Int32) : entryFrame m #[(.int x0)] 1 = mkF m 0 #[.val (.int x0)] [] := by first | (simp [entryFrame, mkF, argsToLocals, Value.category]; done) | rfl
def fdraw (p0 : Int32) : Int32 := if (((p0.toUInt32 >>> ((16 : Int32) &&& 31).toUInt32).toInt32) &&& (1 : Int32)) = (0 : Int32) then (((p0 &&& (65535 : Int32)).toUInt32.toUInt16.toUInt32.toInt32).toUInt32.toUInt16.toUInt32.toInt32)
  else ((((47 : Int32) + ((p0 &&& (65535 : Int32)) % (12 : Int32))).toUInt32.toUInt16.toUInt32.toInt32).toUInt32.toUInt16.toUInt32.toInt32)
def Q1 (Z : State) (p0 : Int32) (h0 : Heap) (n0 : Nat) (v : Option Value) (h : Heap) (L : List Loc) : Prop := v = some (.int (fdraw p0)) ∧ Fr n0 L ∧ h = h0
set_option maxRecDepth 65536 in
set_option maxHeartbeats 40000000 in
theorem rm1 (l : Launch) (Z : State) (a0 : Array Value) (hw : ∀ d ∈ tables_1, d.before a0 Z = true) (ws : List Jvm.Cond) (p0 : Int32) (h0 : Heap) (n0 : Nat) (Z0 : n0 ≤ h0.size) :
    MetFree l (⟨"com/example/fides/fides/ledger/PositionHasOnlyAsciiDigitsPinLaw", "draw", "(I)C"⟩ : MethodName) (head1 (Jvm.Cond.code (⟨"com/example/fides/fides/ledger/PositionHasOnlyAsciiDigitsPinLaw", "draw", "(I)C"⟩ : MethodName) method_3_code 1 (some .char) :: ws) (⟨0, 0, 0, 0⟩ : Room)) (fun a U => a = #[(.int p0)] ∧ Z.Warmed39 U.vm ∧ U.heap = h0) (fun _ _ _ _ _ => True) (fun _ U o U' => ∃ v L, o = .returned v ∧ Q1 Z p0 h0 n0 v U'.heap L ∧ FrameEnd U o U' L (⟨0, 0, 0, 0⟩ : Room).cells (⟨0, 0, 0, 0⟩ : Room).slots) := by
  refine MetFree.of_bodySF (plainFor_of_name pn_0) hisR ?_
  intro p e s m args below meth c s₁ Bd hml0 hP hK
  obtain ⟨rfl, hZ, hh⟩ := hP
  have hx := Bd.exec
  have hby := Bd.bytes
  have hml : c.maxLocals = 1 := hml0
  have hown : s.vm.findClass "com/example/fides/fides/ledger/PositionHasOnlyAsciiDigitsPinLaw" = some m.cls := findClass_of_methodNamed Bd.named
  have hnm := (name_of_methodNamed Bd.named Bd.method).1
  have X0 : Stand p l e (⟨0, 0, 0, 0⟩ : Room) s m #[(.int p0)] below meth c s₁ [] 0 0 := Stand.of_body Bd
  have e0 : s₁.heap = h0 := by rw [← hh, Bd.state]; rfl
  have N0 := Fr.nil n0
  have hret := Bd.returns
  have hlk := BodyLoose.notSynchronized Bd
  show own_Out p e below (fun o U' => ∃ v L, o = .returned v ∧ Q1 Z p0 h0 n0 v U'.heap L ∧ FrameEnd s o U' L (⟨0, 0, 0, 0⟩ : Room).cells (⟨0, 0, 0, 0⟩ : Room).slots) (s₁.setTop (entryFrame m #[(.int p0)] 1))
  refine own_of (fun t k => castTop (ef_1 m p0) k) ?_
  show own_Out p e below _ (s₁.setTop (mkF m 0 #[iv p0] []))
  refine o_iloadN X0 hx hby d1_0 rfl (q := 1) rfl ?_
  refine o_bipush X0 hx hby d1_1 (z := 16) rfl (q := 3) rfl ?_
  refine o_iushr X0 hx hby d1_3 rfl (q := 4) rfl ?_
  refine o_iconst X0 hx hby d1_4 (z := 1) rfl (q := 5) rfl ?_
  refine o_iand X0 hx hby d1_5 rfl (q := 6) rfl ?_
  by_cases hc6_1 : (((p0.toUInt32 >>> ((16 : Int32) &&& 31).toUInt32).toInt32) &&& (1 : Int32)) = (0 : Int32)
  · skip
    refine o_ifY X0 hx hby d1_6 ((if0 _ _).trans (teq hc6_1).1) (by decide) (q := 21) (by decide) ?_
    refine o_iloadN X0 hx hby d1_21 rfl (q := 22) rfl ?_
    refine o_ldcI X0 hx hZ hown hby (w_ hw 5 rfl) d1_22 (q := 24) rfl ?_
    refine o_iand X0 hx hby d1_24 rfl (q := 25) rfl ?_
    refine o_i2c X0 hx hby d1_25 rfl (q := 26) rfl ?_
    exact own_outN X0 hx hlk (t := .char) hret (by simp) (hb hby d1_26) (z' := (((p0 &&& (65535 : Int32)).toUInt32.toUInt16.toUInt32.toInt32).toUInt32.toUInt16.toUInt32.toInt32)) rfl (Q := Q1 Z p0 h0 n0) ⟨by simp only [fdraw, if_pos hc6_1], N0, e0⟩ (by decide) (by decide)
  · skip
    refine o_ifN X0 hx hby d1_6 ((if0 _ _).trans (feq hc6_1).1) (q := 9) rfl ?_
    refine o_bipush X0 hx hby d1_9 (z := 47) rfl (q := 11) rfl ?_
    refine o_iloadN X0 hx hby d1_11 rfl (q := 12) rfl ?_
    refine o_ldcI X0 hx hZ hown hby (w_ hw 5 rfl) d1_12 (q := 14) rfl ?_
    refine o_iand X0 hx hby d1_14 rfl (q := 15) rfl ?_
    refine o_bipush X0 hx hby d1_15 (z := 12) rfl (q := 17) rfl ?_
    refine o_irem X0 hx hby d1_17 (by decide) (q := 18) rfl ?_
    refine o_iadd X0 hx hby d1_18 rfl (q := 19) rfl ?_
    refine o_i2c X0 hx hby d1_19 rfl (q := 20) rfl ?_
    exact own_outN X0 hx hlk (t := .char) hret (by simp) (hb hby d1_20) (z' := ((((47 : Int32) + ((p0 &&& (65535 : Int32)) % (12 : Int32))).toUInt32.toUInt16.toUInt32.toInt32).toUInt32.toUInt16.toUInt32.toInt32)) rfl (Q := Q1 Z p0 h0 n0) ⟨by simp only [fdraw, if_neg hc6_1], N0, e0⟩ (by decide) (by decide)
theorem d8_0 : decode jdk_29_method_69_code 0 = .ok (.iload_n 0, 1) := by decide +kernel
theorem d8_1 : decode jdk_29_method_69_code 1 = .ok (.iload_n 1, 1) := by decide +kernel
theorem d8_2 : decode jdk_29_method_69_code 2 = .ok (.if_icmp .gt 7, 3) := by decide +kernel
theorem d8_5 : decode jdk_29_method_69_code 5 = .ok (.iload_n 0, 1) := by decide +kernel
theorem d8_6 : decode jdk_29_method_69_code 6 = .ok (.goto 4, 3) := by decide +kernel
theorem d8_9 : decode jdk_29_method_69_code 9 = .ok (.iload_n 1, 1) := by decide +kernel
theorem d8_10 : decode jdk_29_method_69_code 10 = .ok (.ireturn, 1) := by decide +kernel
theorem ef_8 (m : MethodId) (x0 x1 : Int32) : entryFrame m #[(.int x0), (.int x1)] 2 = mkF m 0 #[.val (.int x0), .val (.int x1)] [] := by first | (simp [entryFrame, mkF, argsToLocals, Value.category]; done) | rfl
def fmin (p0 p1 : Int32) : Int32 := if p1 < p0 then p1
  else p0
def Q8 (Z : State) (p0 p1 : Int32) (h0 : Heap) (n0 : Nat) (v : Option Value) (h : Heap) (L : List Loc) : Prop := v = some (.int (fmin p0 p1)) ∧ Fr n0 L ∧ h = h0
set_option maxRecDepth 65536 in
set_option maxHeartbeats 40000000 in
theorem rm8 (l : Launch) (Z : State) (a0 : Array Value) (hw : ∀ d ∈ tables_1, d.before a0 Z = true) (ws : List Jvm.Cond) (p0 p1 : Int32) (h0 : Heap) (n0 : Nat) (Z0 : n0 ≤ h0.size) :
    MetFree l (⟨"java/lang/Math", "min", "(II)I"⟩ : MethodName) (head1 (Jvm.Cond.code (⟨"java/lang/Math", "min", "(II)I"⟩ : MethodName) jdk_29_method_69_code 2 (some .int) :: ws) (⟨0, 0, 0, 0⟩ : Room)) (fun a U => a = #[(.int p0), (.int p1)] ∧ Z.Warmed39 U.vm ∧ U.heap = h0) (fun _ _ _ _ _ => True) (fun _ U o U' => ∃ v L, o = .returned v ∧ Q8 Z p0 p1 h0 n0 v U'.heap L ∧ FrameEnd U o U' L (⟨0, 0, 0, 0⟩ : Room).cells (⟨0, 0, 0, 0⟩ : Room).slots) := by
  refine MetFree.of_bodySF (Jvm.Free.JP.mathPlain rfl (by decide +kernel)) hisR ?_
  intro p e s m args below meth c s₁ Bd hml0 hP hK
  obtain ⟨rfl, hZ, hh⟩ := hP
  have hx := Bd.exec
  have hby := Bd.bytes
  have hml : c.maxLocals = 2 := hml0
  have hown : s.vm.findClass "java/lang/Math" = some m.cls := findClass_of_methodNamed Bd.named
  have hnm := (name_of_methodNamed Bd.named Bd.method).1
  have X0 : Stand p l e (⟨0, 0, 0, 0⟩ : Room) s m #[(.int p0), (.int p1)] below meth c s₁ [] 0 0 := Stand.of_body Bd
  have e0 : s₁.heap = h0 := by rw [← hh, Bd.state]; rfl
  have N0 := Fr.nil n0
  have hret := Bd.returns
  have hlk := BodyLoose.notSynchronized Bd
  show own_Out p e below (fun o U' => ∃ v L, o = .returned v ∧ Q8 Z p0 p1 h0 n0 v U'.heap L ∧ FrameEnd s o U' L (⟨0, 0, 0, 0⟩ : Room).cells (⟨0, 0, 0, 0⟩ : Room).slots) (s₁.setTop (entryFrame m #[(.int p0), (.int p1)] 2))
  refine own_of (fun t k => castTop (ef_8 m p0 p1) k) ?_
  show own_Out p e below _ (s₁.setTop (mkF m 0 #[iv p0, iv p1] []))
  refine o_iloadN X0 hx hby d8_0 rfl (q := 1) rfl ?_
  refine o_iloadN X0 hx hby d8_1 rfl (q := 2) rfl ?_
  by_cases hc2_1 : p1 < p0
  · skip
    refine o_icY X0 hx hby d8_2 (tlt hc2_1).2.2.1 (by decide) (q := 9) (by decide) ?_
    refine o_iloadN X0 hx hby d8_9 rfl (q := 10) rfl ?_
    exact own_outI X0 hx hlk hret (hb hby d8_10) (Q := Q8 Z p0 p1 h0 n0) ⟨by simp only [fmin, if_pos hc2_1], N0, e0⟩ (by decide) (by decide)
  · skip
    refine o_icN X0 hx hby d8_2 (flt hc2_1).2.2.1 (q := 5) rfl ?_
    refine o_iloadN X0 hx hby d8_5 rfl (q := 6) rfl ?_
    refine o_goto X0 hx hby d8_6 (by decide) (q := 10) (by decide) ?_
    exact own_outI X0 hx hlk hret (hb hby d8_10) (Q := Q8 Z p0 p1 h0 n0) ⟨by simp only [fmin, if_neg hc2_1], N0, e0⟩ (by decide) (by decide)
theorem d9_0 : decode jdk_29_method_65_code 0 = .ok (.iload_n 0, 1) := by decide +kernel
theorem d9_1 : decode jdk_29_method_65_code 1 = .ok (.iload_n 1, 1) := by decide +kernel
theorem d9_2 : decode jdk_29_method_65_code 2 = .ok (.if_icmp .lt 7, 3) := by decide +kernel
theorem d9_5 : decode jdk_29_method_65_code 5 = .ok (.iload_n 0, 1) := by decide +kernel
theorem d9_6 : decode jdk_29_method_65_code 6 = .ok (.goto 4, 3) := by decide +kernel
theorem d9_9 : decode jdk_29_method_65_code 9 = .ok (.iload_n 1, 1) := by decide +kernel
theorem d9_10 : decode jdk_29_method_65_code 10 = .ok (.ireturn, 1) := by decide +kernel
theorem ef_9 (m : MethodId) (x0 x1 : Int32) : entryFrame m #[(.int x0), (.int x1)] 2 = mkF m 0 #[.val (.int x0), .val (.int x1)] [] := by first | (simp [entryFrame, mkF, argsToLocals, Value.category]; done) | rfl
def fmax (p0 p1 : Int32) : Int32 := if p0 < p1 then p1
  else p0
def Q9 (Z : State) (p0 p1 : Int32) (h0 : Heap) (n0 : Nat) (v : Option Value) (h : Heap) (L : List Loc) : Prop := v = some (.int (fmax p0 p1)) ∧ Fr n0 L ∧ h = h0
set_option maxRecDepth 65536 in
set_option maxHeartbeats 40000000 in
theorem rm9 (l : Launch) (Z : State) (a0 : Array Value) (hw : ∀ d ∈ tables_1, d.before a0 Z = true) (ws : List Jvm.Cond) (p0 p1 : Int32) (h0 : Heap) (n0 : Nat) (Z0 : n0 ≤ h0.size) :
    MetFree l (⟨"java/lang/Math", "max", "(II)I"⟩ : MethodName) (head1 (Jvm.Cond.code (⟨"java/lang/Math", "max", "(II)I"⟩ : MethodName) jdk_29_method_65_code 2 (some .int) :: ws) (⟨0, 0, 0, 0⟩ : Room)) (fun a U => a = #[(.int p0), (.int p1)] ∧ Z.Warmed39 U.vm ∧ U.heap = h0) (fun _ _ _ _ _ => True) (fun _ U o U' => ∃ v L, o = .returned v ∧ Q9 Z p0 p1 h0 n0 v U'.heap L ∧ FrameEnd U o U' L (⟨0, 0, 0, 0⟩ : Room).cells (⟨0, 0, 0, 0⟩ : Room).slots) := by
  refine MetFree.of_bodySF (Jvm.Free.JP.mathPlain rfl (by decide +kernel)) hisR ?_
  intro p e s m args below meth c s₁ Bd hml0 hP hK
  obtain ⟨rfl, hZ, hh⟩ := hP
  have hx := Bd.exec
  have hby := Bd.bytes
  have hml : c.maxLocals = 2 := hml0
  have hown : s.vm.findClass "java/lang/Math" = some m.cls := findClass_of_methodNamed Bd.named
  have hnm := (name_of_methodNamed Bd.named Bd.method).1
  have X0 : Stand p l e (⟨0, 0, 0, 0⟩ : Room) s m #[(.int p0), (.int p1)] below meth c s₁ [] 0 0 := Stand.of_body Bd
  have e0 : s₁.heap = h0 := by rw [← hh, Bd.state]; rfl
  have N0 := Fr.nil n0
  have hret := Bd.returns
  have hlk := BodyLoose.notSynchronized Bd
  show own_Out p e below (fun o U' => ∃ v L, o = .returned v ∧ Q9 Z p0 p1 h0 n0 v U'.heap L ∧ FrameEnd s o U' L (⟨0, 0, 0, 0⟩ : Room).cells (⟨0, 0, 0, 0⟩ : Room).slots) (s₁.setTop (entryFrame m #[(.int p0), (.int p1)] 2))
  refine own_of (fun t k => castTop (ef_9 m p0 p1) k) ?_
  show own_Out p e below _ (s₁.setTop (mkF m 0 #[iv p0, iv p1] []))
  refine o_iloadN X0 hx hby d9_0 rfl (q := 1) rfl ?_
  refine o_iloadN X0 hx hby d9_1 rfl (q := 2) rfl ?_
  by_cases hc2_1 : p0 < p1
  · skip
    refine o_icY X0 hx hby d9_2 (tlt hc2_1).1 (by decide) (q := 9) (by decide) ?_
    refine o_iloadN X0 hx hby d9_9 rfl (q := 10) rfl ?_
    exact own_outI X0 hx hlk hret (hb hby d9_10) (Q := Q9 Z p0 p1 h0 n0) ⟨by simp only [fmax, if_pos hc2_1], N0, e0⟩ (by decide) (by decide)
  · skip
    refine o_icN X0 hx hby d9_2 (flt hc2_1).1 (q := 5) rfl ?_
    refine o_iloadN X0 hx hby d9_5 rfl (q := 6) rfl ?_
    refine o_goto X0 hx hby d9_6 (by decide) (q := 10) (by decide) ?_
    exact own_outI X0 hx hlk hret (hb hby d9_10) (Q := Q9 Z p0 p1 h0 n0) ⟨by simp only [fmax, if_neg hc2_1], N0, e0⟩ (by decide) (by decide)
theorem own_m5 (x : Int32) : 0 ≤ ((x &&& (2147483647 : Int32)) % (5 : Int32)).toInt ∧ ((x &&& (2147483647 : Int32)) % (5 : Int32)).toInt < 5 := by
  have h := c_mask x 2147483647 31 (by decide) (by decide)
  have r := (c_irem (x &&& (2147483647 : Int32)) 5 5 rfl).1 (by omega)
  rw [r]; exact ⟨Int.emod_nonneg _ (by omega), Int.emod_lt_of_pos _ (by omega)⟩
theorem own_mm (x y : Int32) : 0 ≤ (fmin ((x &&& (2147483647 : Int32)) % (5 : Int32)) ((y &&& (2147483647 : Int32)) % (5 : Int32))).toInt ∧ (fmin ((x &&& (2147483647 : Int32)) % (5 : Int32)) ((y &&& (2147483647 : Int32)) % (5 : Int32))).toInt ≤ (fmax ((x &&& (2147483647 : Int32)) % (5 : Int32)) ((y &&& (2147483647 : Int32)) % (5 : Int32))).toInt ∧ (fmax ((x &&& (2147483647 : Int32)) % (5 : Int32)) ((y &&& (2147483647 : Int32)) % (5 : Int32))).toInt ≤ 4 := by
  have a := own_m5 x
  have b := own_m5 y
  generalize ((x &&& (2147483647 : Int32)) % (5 : Int32)) = u at *
  generalize ((y &&& (2147483647 : Int32)) % (5 : Int32)) = w at *
  unfold fmin fmax
  have q : ∀ s t : Int32, s < t ↔ s.toInt < t.toInt := fun s t => Int32.lt_iff_toInt_lt
  simp only [q]
  split <;> split <;> omega
theorem pd_14 : parseMethodDescriptor "([C)V" = some ⟨[(.array .char)], none⟩ := by decide +kernel
theorem pd_15 : parseMethodDescriptor "(II)I" = some ⟨[.int, .int], some .int⟩ := by decide +kernel
theorem pd_16 : parseMethodDescriptor "(CIII)Z" = some ⟨[.char, .int, .int, .int], some .boolean⟩ := by decide +kernel
theorem pd_17 : parseMethodDescriptor "(Ljava/lang/String;II)Z" = some ⟨[(.object "java/lang/String"), .int, .int], some .boolean⟩ := by decide +kernel
set_option maxRecDepth 65536 in
set_option maxHeartbeats 40000000 in
theorem sg33 {p : Program} {l : Launch} {e : Env} {s : State} {m : MethodId} {args : Array Value} {below : List Frame} {meth : Method} {c : Code} {T0 : State} {locs : List Loc} {Z : State} {a0 : Array Value} {Q : Option Value → Heap → List Loc → Prop} (p0 p1 p2 p3 p4 p5 : Int32) (oa : Addr) (ka : ClassId) (c0 c1 c2 c3 cs : Int32) (vf : Value) (h0 : Heap) (n0 : Nat)
    (X0 : Stand p l e room_1 s m args below meth c T0 locs 1 4) (hx : p.tables.exec = Jvm.exec) (hZ : Z.Warmed39 s.vm) (hw : ∀ d ∈ tables_1, d.before a0 Z = true) (hby : c.code = code) (hml : c.maxLocals = 13) (hown : s.vm.findClass "com/example/fides/fides/ledger/PositionHasOnlyAsciiDigitsPinLaw" = some m.cls) (hret : meth.sig.returnType = ret) (hlk : meth.locks = false)
    (hQ : ∀ h L, Fr n0 L → Q (some (.int 1)) h L) (e0 : T0.heap = h0) (Z0 : n0 ≤ h0.size) (N0 : Fr n0 locs) (Va : Arv Z h0 oa ka .char (4 : Int32) [(.int c0), (.int c1), (.int c2), (.int c3)] (.int 0)) (hr0 : 0 ≤ c0.toInt ∧ c0.toInt < 65536) (hr1 : 0 ≤ c1.toInt ∧ c1.toInt < 65536) (hr2 : 0 ≤ c2.toInt ∧ c2.toInt < 65536) (hr3 : 0 ≤ c3.toInt ∧ c3.toInt < 65536) (S_cs : Sta Z h0 "java/lang/String" "COMPACT_STRINGS" "Z" (.int cs)) (hcs : ¬ (cs = (0 : Int32))) (S_f : Sta Z h0 "jdk/internal/util/Preconditions" "SIOOBE_FORMATTER" "Ljava/util/function/BiFunction;" vf) (hvf : vf.isRef = true) (S_ad : Sta Z h0 "java/lang/StringUTF16" "$assertionsDisabled" "Z" (.int 1)) (S_hi : Sta Z h0 "java/lang/StringUTF16" "HI_BYTE_SHIFT" "I" (.int 0)) (S_lo : Sta Z h0 "java/lang/StringUTF16" "LO_BYTE_SHIFT" "I" (.int 8)) :
    own_Out p e below (fun o U' => ∃ v L, o = .returned v ∧ Q v U'.heap L ∧ FrameEnd s o U' L 16 128) (T0.setTop (mkF m 33 #[.val (.int p0), .val (.int p1), .val (.int p2), .val (.int p3), .val (.int p4), .val (.int p5), .val (.ref oa), .unset, .unset, .unset, .unset, .unset, .unset] [])) := by
  show own_Out p e below _ (T0.setTop (mkF m 33 #[iv p0, iv p1, iv p2, iv p3, iv p4, iv p5, rv oa, .unset, .unset, .unset, .unset, .unset, .unset] []))
  obtain ⟨T1, h1, X1, e1, E1, A1, D1, -, st1⟩ := newO X0 hx hZ hown (w_ hw 6 rfl) (w_ hw 7 rfl) (w_ hw 8 rfl) e0 (g := (mkF m 33 #[iv p0, iv p1, iv p2, iv p3, iv p4, iv p5, rv oa, .unset, .unset, .unset, .unset, .unset, .unset] [])) rfl (hb hby at_33) (by decide) (by decide)
  obtain ⟨b1, g1⟩ : ∃ z, z = h0.size := ⟨_, rfl⟩
  rw [← g1] at A1 D1 st1
  have g_b1 : n0 ≤ b1 := Nat.le_trans Z0 (Nat.le_of_eq g1.symm)
  have F_b1_coder : Fld Z h1 b1 "java/lang/String" "coder" "B" (.int 0) := D1 (Or.inr (w_ hw 32 rfl)) (ty := .byte) (by decide)
  have F_b1_value : Fld Z h1 b1 "java/lang/String" "value" "[B" .null := D1 (Or.inr (w_ hw 34 rfl)) (ty := (.array .byte)) (by decide)
  refine own_of st1 ?_
  show own_Out p e below _ (T1.setTop (mkF m 36 #[iv p0, iv p1, iv p2, iv p3, iv p4, iv p5, rv oa, .unset, .unset, .unset, .unset, .unset, .unset] [.ref b1]))
  refine o_dup X1 hx hby at_36 rfl (q := 37) rfl ?_
  refine o_aload X1 hx hby at_37 rfl rfl (q := 39) rfl ?_
  have ne_oa_b1 : oa ≠ b1 := Nat.ne_of_lt (Nat.lt_of_lt_of_le Va.lt (Nat.le_of_eq g1.symm))
  have qz3 := (Va.ext E1)
  have qz4 := (S_cs.ext E1)
  have qz5 := (S_ad.ext E1)
  have qz6 := (S_hi.ext E1)
  have qz7 := (S_lo.ext E1)
  have qz8 := (Nat.le_trans Z0 E1.1)
  obtain ⟨_, _, ⟨T2, L2, k2, n2⟩, -, X2, ⟨Lc2, hQ2, l2, y2, z2⟩, st2⟩ := X1.specialBack hx (y := (⟨"java/lang/String", "<init>", "([C)V"⟩ : MethodName)) rfl hown (mvT hZ (w_ hw 9 rfl)) (mvT hZ (w_ hw 10 rfl)) (mvT hZ (w_ hw 11 rfl)) (by decide) (backOf (W := 1) (ct_all l Z a0 hw [] b1 oa ka c0 c1 c2 c3 cs h1 n0 qz8 A1 F_b1_value F_b1_coder g_b1 qz3 ne_oa_b1 qz4 hcs qz5 qz6 qz7 hr0 hr1 hr2 hr3) hZ (w_ hw 11 rfl) (w_ hw 8 rfl) (by decide) (by decide)) (g := (mkF m 39 #[iv p0, iv p1, iv p2, iv p3, iv p4, iv p5, rv oa, .unset, .unset, .unset, .unset, .unset, .unset] [.ref oa, .ref b1, .ref b1])) rfl (by rw [hml]; rfl) (Steps.refl _) (a := b1) (argsL := [(.ref oa)]) (rest := [(.ref b1)]) (lenOf pd_14 rfl) rfl (by show 2 * 0 + _ ≤ _; exact Nat.le_of_eq rfl) (hb hby at_39) (fun _ _ => ⟨rfl, e1, (by decide : 2 + 2 ≤ _), (by decide : 8 + 12 ≤ _)⟩)
  dsimp only [Pt.U, Pt.locs, Pt.cells, Pt.slots] at X2 l2 y2 z2 st2 hQ2
  subst l2 y2 z2
  obtain ⟨rfl, N2q, K2, E2, Ho2⟩ := hQ2
  have N2 := Fr.app N0 N2q
  refine own_of (fun _ k => st2.trans k) ?_
  show own_Out p e below _ (T2.setTop (mkF m 42 #[iv p0, iv p1, iv p2, iv p3, iv p4, iv p5, rv oa, .unset, .unset, .unset, .unset, .unset, .unset] [.ref b1]))
  refine o_astore X2 hx hby at_42 rfl (l' := #[iv p0, iv p1, iv p2, iv p3, iv p4, iv p5, rv oa, rv b1, .unset, .unset, .unset, .unset, .unset]) rfl (q := 44) rfl ?_
  refine o_iload X2 hx hby at_44 rfl (q := 46) rfl ?_
  refine o_ldcI X2 hx hZ hown hby (w_ hw 35 rfl) at_46 (q := 48) rfl ?_
  refine o_iand X2 hx hby at_48 rfl (q := 49) rfl ?_
  refine o_iconst X2 hx hby at_49 (z := 5) rfl (q := 50) rfl ?_
  refine o_irem X2 hx hby at_50 (by decide) (q := 51) rfl ?_
  refine o_istore X2 hx hby at_51 (l' := #[iv p0, iv p1, iv p2, iv p3, iv p4, iv p5, rv oa, rv b1, iv ((p4 &&& (2147483647 : Int32)) % (5 : Int32)), .unset, .unset, .unset, .unset]) rfl (q := 53) rfl ?_
  refine o_iload X2 hx hby at_53 rfl (q := 55) rfl ?_
  refine o_ldcI X2 hx hZ hown hby (w_ hw 35 rfl) at_55 (q := 57) rfl ?_
  refine o_iand X2 hx hby at_57 rfl (q := 58) rfl ?_
  refine o_iconst X2 hx hby at_58 (z := 5) rfl (q := 59) rfl ?_
  refine o_irem X2 hx hby at_59 (by decide) (q := 60) rfl ?_
  refine o_istore X2 hx hby at_60 (l' := #[iv p0, iv p1, iv p2, iv p3, iv p4, iv p5, rv oa, rv b1, iv ((p4 &&& (2147483647 : Int32)) % (5 : Int32)), iv ((p5 &&& (2147483647 : Int32)) % (5 : Int32)), .unset, .unset, .unset]) rfl (q := 62) rfl ?_
  refine o_iload X2 hx hby at_62 rfl (q := 64) rfl ?_
  refine o_iload X2 hx hby at_64 rfl (q := 66) rfl ?_
  have qz10 := (Nat.le_trans qz8 K2.1)
  obtain ⟨_, _, ⟨T9, L9, k9, n9⟩, -, X9, ⟨Lc9, hQ9, l9, y9, z9⟩, st9⟩ := Jvm.LawKit.callS X2 hx (y := (⟨"java/lang/Math", "min", "(II)I"⟩ : MethodName)) hown (mvT hZ (w_ hw 36 rfl)) (mvT hZ (w_ hw 37 rfl)) (mvT hZ (w_ hw 38 rfl)) (mvT hZ (w_ hw 39 rfl)) (by decide) (backOf (W := 0) (rm8 l Z a0 hw [] ((p4 &&& (2147483647 : Int32)) % (5 : Int32)) ((p5 &&& (2147483647 : Int32)) % (5 : Int32)) T2.heap n0 qz10 ) hZ (w_ hw 39 rfl) (w_ hw 38 rfl) (by decide) (by decide)) (g := (mkF m 66 #[iv p0, iv p1, iv p2, iv p3, iv p4, iv p5, rv oa, rv b1, iv ((p4 &&& (2147483647 : Int32)) % (5 : Int32)), iv ((p5 &&& (2147483647 : Int32)) % (5 : Int32)), .unset, .unset, .unset] [.int ((p5 &&& (2147483647 : Int32)) % (5 : Int32)), .int ((p4 &&& (2147483647 : Int32)) % (5 : Int32))])) rfl (by rw [hml]; rfl) (argsL := [(.int ((p4 &&& (2147483647 : Int32)) % (5 : Int32))), (.int ((p5 &&& (2147483647 : Int32)) % (5 : Int32)))]) (rest := []) (lenOf pd_15 rfl) rfl (by show 2 * 0 + _ ≤ _; exact Nat.le_of_eq rfl) (hb hby at_66) (fun _ _ => ⟨rfl, rfl, (by decide : 4 + 0 ≤ _), (by decide : 20 + 0 ≤ _)⟩)
  dsimp only [Pt.U, Pt.locs, Pt.cells, Pt.slots] at X9 l9 y9 z9 st9 hQ9
  subst l9 y9 z9
  obtain ⟨rfl, N9q, hh9⟩ := hQ9
  have N9 := Fr.app N2 N9q
  refine own_of st9 ?_
  show own_Out p e below _ (T9.setTop (mkF m 69 #[iv p0, iv p1, iv p2, iv p3, iv p4, iv p5, rv oa, rv b1, iv ((p4 &&& (2147483647 : Int32)) % (5 : Int32)), iv ((p5 &&& (2147483647 : Int32)) % (5 : Int32)), .unset, .unset, .unset] [.int (fmin ((p4 &&& (2147483647 : Int32)) % (5 : Int32)) ((p5 &&& (2147483647 : Int32)) % (5 : Int32)))]))
  refine o_istore X9 hx hby at_69 (l' := #[iv p0, iv p1, iv p2, iv p3, iv p4, iv p5, rv oa, rv b1, iv ((p4 &&& (2147483647 : Int32)) % (5 : Int32)), iv ((p5 &&& (2147483647 : Int32)) % (5 : Int32)), iv (fmin ((p4 &&& (2147483647 : Int32)) % (5 : Int32)) ((p5 &&& (2147483647 : Int32)) % (5 : Int32))), .unset, .unset]) rfl (q := 71) rfl ?_
  refine o_iload X9 hx hby at_71 rfl (q := 73) rfl ?_
  refine o_iload X9 hx hby at_73 rfl (q := 75) rfl ?_
  obtain ⟨_, _, ⟨T11, L11, k11, n11⟩, -, X11, ⟨Lc11, hQ11, l11, y11, z11⟩, st11⟩ := Jvm.LawKit.callS X9 hx (y := (⟨"java/lang/Math", "max", "(II)I"⟩ : MethodName)) hown (mvT hZ (w_ hw 40 rfl)) (mvT hZ (w_ hw 41 rfl)) (mvT hZ (w_ hw 38 rfl)) (mvT hZ (w_ hw 42 rfl)) (by decide) (backOf (W := 0) (rm9 l Z a0 hw [] ((p4 &&& (2147483647 : Int32)) % (5 : Int32)) ((p5 &&& (2147483647 : Int32)) % (5 : Int32)) T2.heap n0 qz10 ) hZ (w_ hw 42 rfl) (w_ hw 38 rfl) (by decide) (by decide)) (g := (mkF m 75 #[iv p0, iv p1, iv p2, iv p3, iv p4, iv p5, rv oa, rv b1, iv ((p4 &&& (2147483647 : Int32)) % (5 : Int32)), iv ((p5 &&& (2147483647 : Int32)) % (5 : Int32)), iv (fmin ((p4 &&& (2147483647 : Int32)) % (5 : Int32)) ((p5 &&& (2147483647 : Int32)) % (5 : Int32))), .unset, .unset] [.int ((p5 &&& (2147483647 : Int32)) % (5 : Int32)), .int ((p4 &&& (2147483647 : Int32)) % (5 : Int32))])) rfl (by rw [hml]; rfl) (argsL := [(.int ((p4 &&& (2147483647 : Int32)) % (5 : Int32))), (.int ((p5 &&& (2147483647 : Int32)) % (5 : Int32)))]) (rest := []) (lenOf pd_15 rfl) rfl (by show 2 * 0 + _ ≤ _; exact Nat.le_of_eq rfl) (hb hby at_75) (fun _ _ => ⟨rfl, hh9, (by decide : 4 + 0 ≤ _), (by decide : 20 + 0 ≤ _)⟩)
  dsimp only [Pt.U, Pt.locs, Pt.cells, Pt.slots] at X11 l11 y11 z11 st11 hQ11
  subst l11 y11 z11
  obtain ⟨rfl, N11q, hh11⟩ := hQ11
  have N11 := Fr.app N9 N11q
  refine own_of st11 ?_
  show own_Out p e below _ (T11.setTop (mkF m 78 #[iv p0, iv p1, iv p2, iv p3, iv p4, iv p5, rv oa, rv b1, iv ((p4 &&& (2147483647 : Int32)) % (5 : Int32)), iv ((p5 &&& (2147483647 : Int32)) % (5 : Int32)), iv (fmin ((p4 &&& (2147483647 : Int32)) % (5 : Int32)) ((p5 &&& (2147483647 : Int32)) % (5 : Int32))), .unset, .unset] [.int (fmax ((p4 &&& (2147483647 : Int32)) % (5 : Int32)) ((p5 &&& (2147483647 : Int32)) % (5 : Int32)))]))
  refine o_istore X11 hx hby at_78 (l' := #[iv p0, iv p1, iv p2, iv p3, iv p4, iv p5, rv oa, rv b1, iv ((p4 &&& (2147483647 : Int32)) % (5 : Int32)), iv ((p5 &&& (2147483647 : Int32)) % (5 : Int32)), iv (fmin ((p4 &&& (2147483647 : Int32)) % (5 : Int32)) ((p5 &&& (2147483647 : Int32)) % (5 : Int32))), iv (fmax ((p4 &&& (2147483647 : Int32)) % (5 : Int32)) ((p5 &&& (2147483647 : Int32)) % (5 : Int32))), .unset]) rfl (q := 80) rfl ?_
  refine o_aload X11 hx hby at_80 rfl rfl (q := 82) rfl ?_
  refine o_iconst X11 hx hby at_82 (z := 0) rfl (q := 83) rfl ?_
  have qz12 := (qz3.keep K2 (ninS ne_oa_b1 nin0))
  refine o_caV X11 hx hby hZ hh11 qz12 ⟨by decide, by decide⟩ (v := .int c0) rfl at_83 (q := 84) rfl ?_
  refine o_iconst X11 hx hby at_84 (z := 0) rfl (q := 85) rfl ?_
  refine o_iload X11 hx hby at_85 rfl (q := 87) rfl ?_
  refine o_iload X11 hx hby at_87 rfl (q := 89) rfl ?_
  obtain ⟨_, _, ⟨T13, L13, k13, n13⟩, -, X13, ⟨Lc13, hQ13, l13, y13, z13⟩, st13⟩ := Jvm.LawKit.callS X11 hx (y := (⟨"com/example/fides/fides/ledger/PositionHasOnlyAsciiDigitsPinLaw", "ok", "(CIII)Z"⟩ : MethodName)) hown (mvT hZ (w_ hw 43 rfl)) (mvT hZ (w_ hw 44 rfl)) (mvT hZ (w_ hw 3 rfl)) (mvT hZ (w_ hw 45 rfl)) (by decide) (backOf (W := 0) (rm10 l Z a0 hw [] c0 (0 : Int32) (fmin ((p4 &&& (2147483647 : Int32)) % (5 : Int32)) ((p5 &&& (2147483647 : Int32)) % (5 : Int32))) (fmax ((p4 &&& (2147483647 : Int32)) % (5 : Int32)) ((p5 &&& (2147483647 : Int32)) % (5 : Int32))) T2.heap n0 qz10 ) hZ (w_ hw 45 rfl) (w_ hw 3 rfl) (by decide) (by decide)) (g := (mkF m 89 #[iv p0, iv p1, iv p2, iv p3, iv p4, iv p5, rv oa, rv b1, iv ((p4 &&& (2147483647 : Int32)) % (5 : Int32)), iv ((p5 &&& (2147483647 : Int32)) % (5 : Int32)), iv (fmin ((p4 &&& (2147483647 : Int32)) % (5 : Int32)) ((p5 &&& (2147483647 : Int32)) % (5 : Int32))), iv (fmax ((p4 &&& (2147483647 : Int32)) % (5 : Int32)) ((p5 &&& (2147483647 : Int32)) % (5 : Int32))), .unset] [.int (fmax ((p4 &&& (2147483647 : Int32)) % (5 : Int32)) ((p5 &&& (2147483647 : Int32)) % (5 : Int32))), .int (fmin ((p4 &&& (2147483647 : Int32)) % (5 : Int32)) ((p5 &&& (2147483647 : Int32)) % (5 : Int32))), .int 0, .int c0])) rfl (by rw [hml]; rfl) (argsL := [(.int c0), (.int 0), (.int (fmin ((p4 &&& (2147483647 : Int32)) % (5 : Int32)) ((p5 &&& (2147483647 : Int32)) % (5 : Int32)))), (.int (fmax ((p4 &&& (2147483647 : Int32)) % (5 : Int32)) ((p5 &&& (2147483647 : Int32)) % (5 : Int32))))]) (rest := []) (lenOf pd_16 rfl) rfl (by show 2 * 0 + _ ≤ _; exact Nat.le_of_eq rfl) (hb hby at_89) (fun _ _ => ⟨rfl, hh11, (by decide : 4 + 0 ≤ _), (by decide : 20 + 0 ≤ _)⟩)
  dsimp only [Pt.U, Pt.locs, Pt.cells, Pt.slots] at X13 l13 y13 z13 st13 hQ13
  subst l13 y13 z13
  obtain ⟨rfl, N13q, hh13⟩ := hQ13
  have N13 := Fr.app N11 N13q
  refine own_of st13 ?_
  show own_Out p e below _ (T13.setTop (mkF m 92 #[iv p0, iv p1, iv p2, iv p3, iv p4, iv p5, rv oa, rv b1, iv ((p4 &&& (2147483647 : Int32)) % (5 : Int32)), iv ((p5 &&& (2147483647 : Int32)) % (5 : Int32)), iv (fmin ((p4 &&& (2147483647 : Int32)) % (5 : Int32)) ((p5 &&& (2147483647 : Int32)) % (5 : Int32))), iv (fmax ((p4 &&& (2147483647 : Int32)) % (5 : Int32)) ((p5 &&& (2147483647 : Int32)) % (5 : Int32))), .unset] [.int (fok c0 (0 : Int32) (fmin ((p4 &&& (2147483647 : Int32)) % (5 : Int32)) ((p5 &&& (2147483647 : Int32)) % (5 : Int32))) (fmax ((p4 &&& (2147483647 : Int32)) % (5 : Int32)) ((p5 &&& (2147483647 : Int32)) % (5 : Int32))))]))
  by_cases hc92_14 : (fok c0 (0 : Int32) (fmin ((p4 &&& (2147483647 : Int32)) % (5 : Int32)) ((p5 &&& (2147483647 : Int32)) % (5 : Int32))) (fmax ((p4 &&& (2147483647 : Int32)) % (5 : Int32)) ((p5 &&& (2147483647 : Int32)) % (5 : Int32)))) = (0 : Int32)
  · skip
    refine o_ifY X13 hx hby at_92 ((if0 _ _).trans (teq hc92_14).1) (by decide) (q := 144) (by decide) ?_
    refine o_iconst X13 hx hby at_144 (z := 0) rfl (q := 145) rfl ?_
    refine o_istore X13 hx hby at_145 (l' := #[iv p0, iv p1, iv p2, iv p3, iv p4, iv p5, rv oa, rv b1, iv ((p4 &&& (2147483647 : Int32)) % (5 : Int32)), iv ((p5 &&& (2147483647 : Int32)) % (5 : Int32)), iv (fmin ((p4 &&& (2147483647 : Int32)) % (5 : Int32)) ((p5 &&& (2147483647 : Int32)) % (5 : Int32))), iv (fmax ((p4 &&& (2147483647 : Int32)) % (5 : Int32)) ((p5 &&& (2147483647 : Int32)) % (5 : Int32))), iv 0]) rfl (q := 147) rfl ?_
    refine o_aload X13 hx hby at_147 rfl rfl (q := 149) rfl ?_
    refine o_iload X13 hx hby at_149 rfl (q := 151) rfl ?_
    refine o_iload X13 hx hby at_151 rfl (q := 153) rfl ?_
    have qz16 := (own_staK1 qz4 K2 (own_plainE A1))
    have qz17 := (own_staK1 (S_f.ext E1) K2 (own_plainE A1))
    have qz18 := (own_staK1 qz5 K2 (own_plainE A1))
    have qz19 := (own_staK1 qz6 K2 (own_plainE A1))
    have qz20 := (own_staK1 qz7 K2 (own_plainE A1))
    obtain ⟨_, _, ⟨T15, L15, k15, n15⟩, -, X15, ⟨Lc15, hQ15, l15, y15, z15⟩, st15⟩ := Jvm.LawKit.callS X13 hx (y := (⟨"com/example/fides/fides/ledger/Position", "hasOnlyAsciiDigits", "(Ljava/lang/String;II)Z"⟩ : MethodName)) hown (mvT hZ (w_ hw 46 rfl)) (mvT hZ (w_ hw 47 rfl)) (mvT hZ (w_ hw 48 rfl)) (mvT hZ (w_ hw 49 rfl)) (by decide) (backOf (W := 0) (has_use l Z a0 hw [] b1 (fmin ((p4 &&& (2147483647 : Int32)) % (5 : Int32)) ((p5 &&& (2147483647 : Int32)) % (5 : Int32))) (fmax ((p4 &&& (2147483647 : Int32)) % (5 : Int32)) ((p5 &&& (2147483647 : Int32)) % (5 : Int32))) cs vf T2.heap n0 qz10 Ho2 (Keep.refl T2.heap []) (own_mm p4 p5) qz16 hcs qz17 hvf qz18 qz19 qz20) hZ (w_ hw 49 rfl) (w_ hw 48 rfl) (by decide) (by decide)) (g := (mkF m 153 #[iv p0, iv p1, iv p2, iv p3, iv p4, iv p5, rv oa, rv b1, iv ((p4 &&& (2147483647 : Int32)) % (5 : Int32)), iv ((p5 &&& (2147483647 : Int32)) % (5 : Int32)), iv (fmin ((p4 &&& (2147483647 : Int32)) % (5 : Int32)) ((p5 &&& (2147483647 : Int32)) % (5 : Int32))), iv (fmax ((p4 &&& (2147483647 : Int32)) % (5 : Int32)) ((p5 &&& (2147483647 : Int32)) % (5 : Int32))), iv 0] [.int (fmax ((p4 &&& (2147483647 : Int32)) % (5 : Int32)) ((p5 &&& (2147483647 : Int32)) % (5 : Int32))), .int (fmin ((p4 &&& (2147483647 : Int32)) % (5 : Int32)) ((p5 &&& (2147483647 : Int32)) % (5 : Int32))), .ref b1])) rfl (by rw [hml]; rfl) (argsL := [(.ref b1), (.int (fmin ((p4 &&& (2147483647 : Int32)) % (5 : Int32)) ((p5 &&& (2147483647 : Int32)) % (5 : Int32)))), (.int (fmax ((p4 &&& (2147483647 : Int32)) % (5 : Int32)) ((p5 &&& (2147483647 : Int32)) % (5 : Int32))))]) (rest := []) (lenOf pd_17 rfl) rfl (by show 2 * 0 + _ ≤ _; exact Nat.le_of_eq rfl) (hb hby at_153) (fun _ _ => ⟨rfl, hh13, (by decide : 4 + 0 ≤ _), (by decide : 20 + 0 ≤ _)⟩)
    dsimp only [Pt.U, Pt.locs, Pt.cells, Pt.slots] at X15 l15 y15 z15 st15 hQ15
    subst l15 y15 z15
    obtain ⟨rfl, N15q, hh15⟩ := hQ15
    have N15 := Fr.app N13 N15q
    refine own_of st15 ?_
    show own_Out p e below _ (T15.setTop (mkF m 156 #[iv p0, iv p1, iv p2, iv p3, iv p4, iv p5, rv oa, rv b1, iv ((p4 &&& (2147483647 : Int32)) % (5 : Int32)), iv ((p5 &&& (2147483647 : Int32)) % (5 : Int32)), iv (fmin ((p4 &&& (2147483647 : Int32)) % (5 : Int32)) ((p5 &&& (2147483647 : Int32)) % (5 : Int32))), iv (fmax ((p4 &&& (2147483647 : Int32)) % (5 : Int32)) ((p5 &&& (2147483647 : Int32)) % (5 : Int32))), iv 0] [.int (fexp (fmin ((p4 &&& (2147483647 : Int32)) % (5 : Int32)) ((p5 &&& (2147483647 : Int32)) % (5 : Int32))) (fmax ((p4 &&& (2147483647 : Int32)) % (5 : Int32)) ((p5 &&& (2147483647 : Int32)) % (5 : Int32))) c0 c1 c2 c3)]))
    refine o_iload X15 hx hby at_156 rfl (q := 158) rfl ?_
    refine o_icN X15 hx hby at_158 (teq ((by simp only [fexp, if_pos hc92_14]) : (fexp (fmin ((p4 &&& (2147483647 : Int32)) % (5 : Int32)) ((p5 &&& (2147483647 : Int32)) % (5 : Int32))) (fmax ((p4 &&& (2147483647 : Int32)) % (5 : Int32)) ((p5 &&& (2147483647 : Int32)) % (5 : Int32))) c0 c1 c2 c3) = (0 : Int32))).2 (q := 161) rfl ?_
    refine o_iconst X15 hx hby at_161 (z := 1) rfl (q := 162) rfl ?_
    refine o_goto X15 hx hby at_162 (by decide) (q := 166) (by decide) ?_
    exact own_outN X15 hx hlk (t := .boolean) hret (by simp) (hb hby at_166) (z' := (1 : Int32)) rfl (Q := Q) (hQ _ _ N15) (by decide) (by decide)
  · skip
    refine o_ifN X13 hx hby at_92 ((if0 _ _).trans (feq hc92_14).1) (q := 95) rfl ?_
    refine o_aload X13 hx hby at_95 rfl rfl (q := 97) rfl ?_
    refine o_iconst X13 hx hby at_97 (z := 1) rfl (q := 98) rfl ?_
    refine o_caV X13 hx hby hZ hh13 qz12 ⟨by decide, by decide⟩ (v := .int c1) rfl at_98 (q := 99) rfl ?_
    refine o_iconst X13 hx hby at_99 (z := 1) rfl (q := 100) rfl ?_
    refine o_iload X13 hx hby at_100 rfl (q := 102) rfl ?_
    refine o_iload X13 hx hby at_102 rfl (q := 104) rfl ?_
    obtain ⟨_, _, ⟨T21, L21, k21, n21⟩, -, X21, ⟨Lc21, hQ21, l21, y21, z21⟩, st21⟩ := Jvm.LawKit.callS X13 hx (y := (⟨"com/example/fides/fides/ledger/PositionHasOnlyAsciiDigitsPinLaw", "ok", "(CIII)Z"⟩ : MethodName)) hown (mvT hZ (w_ hw 43 rfl)) (mvT hZ (w_ hw 44 rfl)) (mvT hZ (w_ hw 3 rfl)) (mvT hZ (w_ hw 45 rfl)) (by decide) (backOf (W := 0) (rm10 l Z a0 hw [] c1 (1 : Int32) (fmin ((p4 &&& (2147483647 : Int32)) % (5 : Int32)) ((p5 &&& (2147483647 : Int32)) % (5 : Int32))) (fmax ((p4 &&& (2147483647 : Int32)) % (5 : Int32)) ((p5 &&& (2147483647 : Int32)) % (5 : Int32))) T2.heap n0 qz10 ) hZ (w_ hw 45 rfl) (w_ hw 3 rfl) (by decide) (by decide)) (g := (mkF m 104 #[iv p0, iv p1, iv p2, iv p3, iv p4, iv p5, rv oa, rv b1, iv ((p4 &&& (2147483647 : Int32)) % (5 : Int32)), iv ((p5 &&& (2147483647 : Int32)) % (5 : Int32)), iv (fmin ((p4 &&& (2147483647 : Int32)) % (5 : Int32)) ((p5 &&& (2147483647 : Int32)) % (5 : Int32))), iv (fmax ((p4 &&& (2147483647 : Int32)) % (5 : Int32)) ((p5 &&& (2147483647 : Int32)) % (5 : Int32))), .unset] [.int (fmax ((p4 &&& (2147483647 : Int32)) % (5 : Int32)) ((p5 &&& (2147483647 : Int32)) % (5 : Int32))), .int (fmin ((p4 &&& (2147483647 : Int32)) % (5 : Int32)) ((p5 &&& (2147483647 : Int32)) % (5 : Int32))), .int 1, .int c1])) rfl (by rw [hml]; rfl) (argsL := [(.int c1), (.int 1), (.int (fmin ((p4 &&& (2147483647 : Int32)) % (5 : Int32)) ((p5 &&& (2147483647 : Int32)) % (5 : Int32)))), (.int (fmax ((p4 &&& (2147483647 : Int32)) % (5 : Int32)) ((p5 &&& (2147483647 : Int32)) % (5 : Int32))))]) (rest := []) (lenOf pd_16 rfl) rfl (by show 2 * 0 + _ ≤ _; exact Nat.le_of_eq rfl) (hb hby at_104) (fun _ _ => ⟨rfl, hh13, (by decide : 4 + 0 ≤ _), (by decide : 20 + 0 ≤ _)⟩)
    dsimp only [Pt.U, Pt.locs, Pt.cells, Pt.slots] at X21 l21 y21 z21 st21 hQ21
    subst l21 y21 z21
    obtain ⟨rfl, N21q, hh21⟩ := hQ21
    have N21 := Fr.app N13 N21q
    refine own_of st21 ?_
    show own_Out p e below _ (T21.setTop (mkF m 107 #[iv p0, iv p1, iv p2, iv p3, iv p4, iv p5, rv oa, rv b1, iv ((p4 &&& (2147483647 : Int32)) % (5 : Int32)), iv ((p5 &&& (2147483647 : Int32)) % (5 : Int32)), iv (fmin ((p4 &&& (2147483647 : Int32)) % (5 : Int32)) ((p5 &&& (2147483647 : Int32)) % (5 : Int32))), iv (fmax ((p4 &&& (2147483647 : Int32)) % (5 : Int32)) ((p5 &&& (2147483647 : Int32)) % (5 : Int32))), .unset] [.int (fok c1 (1 : Int32) (fmin ((p4 &&& (2147483647 : Int32)) % (5 : Int32)) ((p5 &&& (2147483647 : Int32)) % (5 : Int32))) (fmax ((p4 &&& (2147483647 : Int32)) % (5 : Int32)) ((p5 &&& (2147483647 : Int32)) % (5 : Int32))))]))
    by_cases hc107_22 : (fok c1 (1 : Int32) (fmin ((p4 &&& (2147483647 : Int32)) % (5 : Int32)) ((p5 &&& (2147483647 : Int32)) % (5 : Int32))) (fmax ((p4 &&& (2147483647 : Int32)) % (5 : Int32)) ((p5 &&& (2147483647 : Int32)) % (5 : Int32)))) = (0 : Int32)
    · skip
      refine o_ifY X21 hx hby at_107 ((if0 _ _).trans (teq hc107_22).1) (by decide) (q := 144) (by decide) ?_
      refine o_iconst X21 hx hby at_144 (z := 0) rfl (q := 145) rfl ?_
      refine o_istore X21 hx hby at_145 (l' := #[iv p0, iv p1, iv p2, iv p3, iv p4, iv p5, rv oa, rv b1, iv ((p4 &&& (2147483647 : Int32)) % (5 : Int32)), iv ((p5 &&& (2147483647 : Int32)) % (5 : Int32)), iv (fmin ((p4 &&& (2147483647 : Int32)) % (5 : Int32)) ((p5 &&& (2147483647 : Int32)) % (5 : Int32))), iv (fmax ((p4 &&& (2147483647 : Int32)) % (5 : Int32)) ((p5 &&& (2147483647 : Int32)) % (5 : Int32))), iv 0]) rfl (q := 147) rfl ?_
      refine o_aload X21 hx hby at_147 rfl rfl (q := 149) rfl ?_
      refine o_iload X21 hx hby at_149 rfl (q := 151) rfl ?_
      refine o_iload X21 hx hby at_151 rfl (q := 153) rfl ?_
      have qz24 := (own_staK1 qz4 K2 (own_plainE A1))
      have qz25 := (own_staK1 (S_f.ext E1) K2 (own_plainE A1))
      have qz26 := (own_staK1 qz5 K2 (own_plainE A1))
      have qz27 := (own_staK1 qz6 K2 (own_plainE A1))
      have qz28 := (own_staK1 qz7 K2 (own_plainE A1))
      obtain ⟨_, _, ⟨T23, L23, k23, n23⟩, -, X23, ⟨Lc23, hQ23, l23, y23, z23⟩, st23⟩ := Jvm.LawKit.callS X21 hx (y := (⟨"com/example/fides/fides/ledger/Position", "hasOnlyAsciiDigits", "(Ljava/lang/String;II)Z"⟩ : MethodName)) hown (mvT hZ (w_ hw 46 rfl)) (mvT hZ (w_ hw 47 rfl)) (mvT hZ (w_ hw 48 rfl)) (mvT hZ (w_ hw 49 rfl)) (by decide) (backOf (W := 0) (has_use l Z a0 hw [] b1 (fmin ((p4 &&& (2147483647 : Int32)) % (5 : Int32)) ((p5 &&& (2147483647 : Int32)) % (5 : Int32))) (fmax ((p4 &&& (2147483647 : Int32)) % (5 : Int32)) ((p5 &&& (2147483647 : Int32)) % (5 : Int32))) cs vf T2.heap n0 qz10 Ho2 (Keep.refl T2.heap []) (own_mm p4 p5) qz24 hcs qz25 hvf qz26 qz27 qz28) hZ (w_ hw 49 rfl) (w_ hw 48 rfl) (by decide) (by decide)) (g := (mkF m 153 #[iv p0, iv p1, iv p2, iv p3, iv p4, iv p5, rv oa, rv b1, iv ((p4 &&& (2147483647 : Int32)) % (5 : Int32)), iv ((p5 &&& (2147483647 : Int32)) % (5 : Int32)), iv (fmin ((p4 &&& (2147483647 : Int32)) % (5 : Int32)) ((p5 &&& (2147483647 : Int32)) % (5 : Int32))), iv (fmax ((p4 &&& (2147483647 : Int32)) % (5 : Int32)) ((p5 &&& (2147483647 : Int32)) % (5 : Int32))), iv 0] [.int (fmax ((p4 &&& (2147483647 : Int32)) % (5 : Int32)) ((p5 &&& (2147483647 : Int32)) % (5 : Int32))), .int (fmin ((p4 &&& (2147483647 : Int32)) % (5 : Int32)) ((p5 &&& (2147483647 : Int32)) % (5 : Int32))), .ref b1])) rfl (by rw [hml]; rfl) (argsL := [(.ref b1), (.int (fmin ((p4 &&& (2147483647 : Int32)) % (5 : Int32)) ((p5 &&& (2147483647 : Int32)) % (5 : Int32)))), (.int (fmax ((p4 &&& (2147483647 : Int32)) % (5 : Int32)) ((p5 &&& (2147483647 : Int32)) % (5 : Int32))))]) (rest := []) (lenOf pd_17 rfl) rfl (by show 2 * 0 + _ ≤ _; exact Nat.le_of_eq rfl) (hb hby at_153) (fun _ _ => ⟨rfl, hh21, (by decide : 4 + 0 ≤ _), (by decide : 20 + 0 ≤ _)⟩)
      dsimp only [Pt.U, Pt.locs, Pt.cells, Pt.slots] at X23 l23 y23 z23 st23 hQ23
      subst l23 y23 z23
      obtain ⟨rfl, N23q, hh23⟩ := hQ23
      have N23 := Fr.app N21 N23q
      refine own_of st23 ?_
      show own_Out p e below _ (T23.setTop (mkF m 156 #[iv p0, iv p1, iv p2, iv p3, iv p4, iv p5, rv oa, rv b1, iv ((p4 &&& (2147483647 : Int32)) % (5 : Int32)), iv ((p5 &&& (2147483647 : Int32)) % (5 : Int32)), iv (fmin ((p4 &&& (2147483647 : Int32)) % (5 : Int32)) ((p5 &&& (2147483647 : Int32)) % (5 : Int32))), iv (fmax ((p4 &&& (2147483647 : Int32)) % (5 : Int32)) ((p5 &&& (2147483647 : Int32)) % (5 : Int32))), iv 0] [.int (fexp (fmin ((p4 &&& (2147483647 : Int32)) % (5 : Int32)) ((p5 &&& (2147483647 : Int32)) % (5 : Int32))) (fmax ((p4 &&& (2147483647 : Int32)) % (5 : Int32)) ((p5 &&& (2147483647 : Int32)) % (5 : Int32))) c0 c1 c2 c3)]))
      refine o_iload X23 hx hby at_156 rfl (q := 158) rfl ?_
      refine o_icN X23 hx hby at_158 (teq ((by simp only [fexp, if_neg hc92_14, if_pos hc107_22]) : (fexp (fmin ((p4 &&& (2147483647 : Int32)) % (5 : Int32)) ((p5 &&& (2147483647 : Int32)) % (5 : Int32))) (fmax ((p4 &&& (2147483647 : Int32)) % (5 : Int32)) ((p5 &&& (2147483647 : Int32)) % (5 : Int32))) c0 c1 c2 c3) = (0 : Int32))).2 (q := 161) rfl ?_
      refine o_iconst X23 hx hby at_161 (z := 1) rfl (q := 162) rfl ?_
      refine o_goto X23 hx hby at_162 (by decide) (q := 166) (by decide) ?_
      exact own_outN X23 hx hlk (t := .boolean) hret (by simp) (hb hby at_166) (z' := (1 : Int32)) rfl (Q := Q) (hQ _ _ N23) (by decide) (by decide)
    · skip
      refine o_ifN X21 hx hby at_107 ((if0 _ _).trans (feq hc107_22).1) (q := 110) rfl ?_
      refine o_aload X21 hx hby at_110 rfl rfl (q := 112) rfl ?_
      refine o_iconst X21 hx hby at_112 (z := 2) rfl (q := 113) rfl ?_
      refine o_caV X21 hx hby hZ hh21 qz12 ⟨by decide, by decide⟩ (v := .int c2) rfl at_113 (q := 114) rfl ?_
      refine o_iconst X21 hx hby at_114 (z := 2) rfl (q := 115) rfl ?_
      refine o_iload X21 hx hby at_115 rfl (q := 117) rfl ?_
      refine o_iload X21 hx hby at_117 rfl (q := 119) rfl ?_
      obtain ⟨_, _, ⟨T29, L29, k29, n29⟩, -, X29, ⟨Lc29, hQ29, l29, y29, z29⟩, st29⟩ := Jvm.LawKit.callS X21 hx (y := (⟨"com/example/fides/fides/ledger/PositionHasOnlyAsciiDigitsPinLaw", "ok", "(CIII)Z"⟩ : MethodName)) hown (mvT hZ (w_ hw 43 rfl)) (mvT hZ (w_ hw 44 rfl)) (mvT hZ (w_ hw 3 rfl)) (mvT hZ (w_ hw 45 rfl)) (by decide) (backOf (W := 0) (rm10 l Z a0 hw [] c2 (2 : Int32) (fmin ((p4 &&& (2147483647 : Int32)) % (5 : Int32)) ((p5 &&& (2147483647 : Int32)) % (5 : Int32))) (fmax ((p4 &&& (2147483647 : Int32)) % (5 : Int32)) ((p5 &&& (2147483647 : Int32)) % (5 : Int32))) T2.heap n0 qz10 ) hZ (w_ hw 45 rfl) (w_ hw 3 rfl) (by decide) (by decide)) (g := (mkF m 119 #[iv p0, iv p1, iv p2, iv p3, iv p4, iv p5, rv oa, rv b1, iv ((p4 &&& (2147483647 : Int32)) % (5 : Int32)), iv ((p5 &&& (2147483647 : Int32)) % (5 : Int32)), iv (fmin ((p4 &&& (2147483647 : Int32)) % (5 : Int32)) ((p5 &&& (2147483647 : Int32)) % (5 : Int32))), iv (fmax ((p4 &&& (2147483647 : Int32)) % (5 : Int32)) ((p5 &&& (2147483647 : Int32)) % (5 : Int32))), .unset] [.int (fmax ((p4 &&& (2147483647 : Int32)) % (5 : Int32)) ((p5 &&& (2147483647 : Int32)) % (5 : Int32))), .int (fmin ((p4 &&& (2147483647 : Int32)) % (5 : Int32)) ((p5 &&& (2147483647 : Int32)) % (5 : Int32))), .int 2, .int c2])) rfl (by rw [hml]; rfl) (argsL := [(.int c2), (.int 2), (.int (fmin ((p4 &&& (2147483647 : Int32)) % (5 : Int32)) ((p5 &&& (2147483647 : Int32)) % (5 : Int32)))), (.int (fmax ((p4 &&& (2147483647 : Int32)) % (5 : Int32)) ((p5 &&& (2147483647 : Int32)) % (5 : Int32))))]) (rest := []) (lenOf pd_16 rfl) rfl (by show 2 * 0 + _ ≤ _; exact Nat.le_of_eq rfl) (hb hby at_119) (fun _ _ => ⟨rfl, hh21, (by decide : 4 + 0 ≤ _), (by decide : 20 + 0 ≤ _)⟩)
      dsimp only [Pt.U, Pt.locs, Pt.cells, Pt.slots] at X29 l29 y29 z29 st29 hQ29
      subst l29 y29 z29
      obtain ⟨rfl, N29q, hh29⟩ := hQ29
      have N29 := Fr.app N21 N29q
      refine own_of st29 ?_
      show own_Out p e below _ (T29.setTop (mkF m 122 #[iv p0, iv p1, iv p2, iv p3, iv p4, iv p5, rv oa, rv b1, iv ((p4 &&& (2147483647 : Int32)) % (5 : Int32)), iv ((p5 &&& (2147483647 : Int32)) % (5 : Int32)), iv (fmin ((p4 &&& (2147483647 : Int32)) % (5 : Int32)) ((p5 &&& (2147483647 : Int32)) % (5 : Int32))), iv (fmax ((p4 &&& (2147483647 : Int32)) % (5 : Int32)) ((p5 &&& (2147483647 : Int32)) % (5 : Int32))), .unset] [.int (fok c2 (2 : Int32) (fmin ((p4 &&& (2147483647 : Int32)) % (5 : Int32)) ((p5 &&& (2147483647 : Int32)) % (5 : Int32))) (fmax ((p4 &&& (2147483647 : Int32)) % (5 : Int32)) ((p5 &&& (2147483647 : Int32)) % (5 : Int32))))]))
      by_cases hc122_30 : (fok c2 (2 : Int32) (fmin ((p4 &&& (2147483647 : Int32)) % (5 : Int32)) ((p5 &&& (2147483647 : Int32)) % (5 : Int32))) (fmax ((p4 &&& (2147483647 : Int32)) % (5 : Int32)) ((p5 &&& (2147483647 : Int32)) % (5 : Int32)))) = (0 : Int32)
      · skip
        refine o_ifY X29 hx hby at_122 ((if0 _ _).trans (teq hc122_30).1) (by decide) (q := 144) (by decide) ?_
        refine o_iconst X29 hx hby at_144 (z := 0) rfl (q := 145) rfl ?_
        refine o_istore X29 hx hby at_145 (l' := #[iv p0, iv p1, iv p2, iv p3, iv p4, iv p5, rv oa, rv b1, iv ((p4 &&& (2147483647 : Int32)) % (5 : Int32)), iv ((p5 &&& (2147483647 : Int32)) % (5 : Int32)), iv (fmin ((p4 &&& (2147483647 : Int32)) % (5 : Int32)) ((p5 &&& (2147483647 : Int32)) % (5 : Int32))), iv (fmax ((p4 &&& (2147483647 : Int32)) % (5 : Int32)) ((p5 &&& (2147483647 : Int32)) % (5 : Int32))), iv 0]) rfl (q := 147) rfl ?_
        refine o_aload X29 hx hby at_147 rfl rfl (q := 149) rfl ?_
        refine o_iload X29 hx hby at_149 rfl (q := 151) rfl ?_
        refine o_iload X29 hx hby at_151 rfl (q := 153) rfl ?_
        have qz32 := (own_staK1 qz4 K2 (own_plainE A1))
        have qz33 := (own_staK1 (S_f.ext E1) K2 (own_plainE A1))
        have qz34 := (own_staK1 qz5 K2 (own_plainE A1))
        have qz35 := (own_staK1 qz6 K2 (own_plainE A1))
        have qz36 := (own_staK1 qz7 K2 (own_plainE A1))
        obtain ⟨_, _, ⟨T31, L31, k31, n31⟩, -, X31, ⟨Lc31, hQ31, l31, y31, z31⟩, st31⟩ := Jvm.LawKit.callS X29 hx (y := (⟨"com/example/fides/fides/ledger/Position", "hasOnlyAsciiDigits", "(Ljava/lang/String;II)Z"⟩ : MethodName)) hown (mvT hZ (w_ hw 46 rfl)) (mvT hZ (w_ hw 47 rfl)) (mvT hZ (w_ hw 48 rfl)) (mvT hZ (w_ hw 49 rfl)) (by decide) (backOf (W := 0) (has_use l Z a0 hw [] b1 (fmin ((p4 &&& (2147483647 : Int32)) % (5 : Int32)) ((p5 &&& (2147483647 : Int32)) % (5 : Int32))) (fmax ((p4 &&& (2147483647 : Int32)) % (5 : Int32)) ((p5 &&& (2147483647 : Int32)) % (5 : Int32))) cs vf T2.heap n0 qz10 Ho2 (Keep.refl T2.heap []) (own_mm p4 p5) qz32 hcs qz33 hvf qz34 qz35 qz36) hZ (w_ hw 49 rfl) (w_ hw 48 rfl) (by decide) (by decide)) (g := (mkF m 153 #[iv p0, iv p1, iv p2, iv p3, iv p4, iv p5, rv oa, rv b1, iv ((p4 &&& (2147483647 : Int32)) % (5 : Int32)), iv ((p5 &&& (2147483647 : Int32)) % (5 : Int32)), iv (fmin ((p4 &&& (2147483647 : Int32)) % (5 : Int32)) ((p5 &&& (2147483647 : Int32)) % (5 : Int32))), iv (fmax ((p4 &&& (2147483647 : Int32)) % (5 : Int32)) ((p5 &&& (2147483647 : Int32)) % (5 : Int32))), iv 0] [.int (fmax ((p4 &&& (2147483647 : Int32)) % (5 : Int32)) ((p5 &&& (2147483647 : Int32)) % (5 : Int32))), .int (fmin ((p4 &&& (2147483647 : Int32)) % (5 : Int32)) ((p5 &&& (2147483647 : Int32)) % (5 : Int32))), .ref b1])) rfl (by rw [hml]; rfl) (argsL := [(.ref b1), (.int (fmin ((p4 &&& (2147483647 : Int32)) % (5 : Int32)) ((p5 &&& (2147483647 : Int32)) % (5 : Int32)))), (.int (fmax ((p4 &&& (2147483647 : Int32)) % (5 : Int32)) ((p5 &&& (2147483647 : Int32)) % (5 : Int32))))]) (rest := []) (lenOf pd_17 rfl) rfl (by show 2 * 0 + _ ≤ _; exact Nat.le_of_eq rfl) (hb hby at_153) (fun _ _ => ⟨rfl, hh29, (by decide : 4 + 0 ≤ _), (by decide : 20 + 0 ≤ _)⟩)
        dsimp only [Pt.U, Pt.locs, Pt.cells, Pt.slots] at X31 l31 y31 z31 st31 hQ31
        subst l31 y31 z31
        obtain ⟨rfl, N31q, hh31⟩ := hQ31
        have N31 := Fr.app N29 N31q
        refine own_of st31 ?_
        show own_Out p e below _ (T31.setTop (mkF m 156 #[iv p0, iv p1, iv p2, iv p3, iv p4, iv p5, rv oa, rv b1, iv ((p4 &&& (2147483647 : Int32)) % (5 : Int32)), iv ((p5 &&& (2147483647 : Int32)) % (5 : Int32)), iv (fmin ((p4 &&& (2147483647 : Int32)) % (5 : Int32)) ((p5 &&& (2147483647 : Int32)) % (5 : Int32))), iv (fmax ((p4 &&& (2147483647 : Int32)) % (5 : Int32)) ((p5 &&& (2147483647 : Int32)) % (5 : Int32))), iv 0] [.int (fexp (fmin ((p4 &&& (2147483647 : Int32)) % (5 : Int32)) ((p5 &&& (2147483647 : Int32)) % (5 : Int32))) (fmax ((p4 &&& (2147483647 : Int32)) % (5 : Int32)) ((p5 &&& (2147483647 : Int32)) % (5 : Int32))) c0 c1 c2 c3)]))
        refine o_iload X31 hx hby at_156 rfl (q := 158) rfl ?_
        refine o_icN X31 hx hby at_158 (teq ((by simp only [fexp, if_neg hc92_14, if_neg hc107_22, if_pos hc122_30]) : (fexp (fmin ((p4 &&& (2147483647 : Int32)) % (5 : Int32)) ((p5 &&& (2147483647 : Int32)) % (5 : Int32))) (fmax ((p4 &&& (2147483647 : Int32)) % (5 : Int32)) ((p5 &&& (2147483647 : Int32)) % (5 : Int32))) c0 c1 c2 c3) = (0 : Int32))).2 (q := 161) rfl ?_
        refine o_iconst X31 hx hby at_161 (z := 1) rfl (q := 162) rfl ?_
        refine o_goto X31 hx hby at_162 (by decide) (q := 166) (by decide) ?_
        exact own_outN X31 hx hlk (t := .boolean) hret (by simp) (hb hby at_166) (z' := (1 : Int32)) rfl (Q := Q) (hQ _ _ N31) (by decide) (by decide)
      · skip
        refine o_ifN X29 hx hby at_122 ((if0 _ _).trans (feq hc122_30).1) (q := 125) rfl ?_
        refine o_aload X29 hx hby at_125 rfl rfl (q := 127) rfl ?_
        refine o_iconst X29 hx hby at_127 (z := 3) rfl (q := 128) rfl ?_
        refine o_caV X29 hx hby hZ hh29 qz12 ⟨by decide, by decide⟩ (v := .int c3) rfl at_128 (q := 129) rfl ?_
        refine o_iconst X29 hx hby at_129 (z := 3) rfl (q := 130) rfl ?_
        refine o_iload X29 hx hby at_130 rfl (q := 132) rfl ?_
        refine o_iload X29 hx hby at_132 rfl (q := 134) rfl ?_
        obtain ⟨_, _, ⟨T37, L37, k37, n37⟩, -, X37, ⟨Lc37, hQ37, l37, y37, z37⟩, st37⟩ := Jvm.LawKit.callS X29 hx (y := (⟨"com/example/fides/fides/ledger/PositionHasOnlyAsciiDigitsPinLaw", "ok", "(CIII)Z"⟩ : MethodName)) hown (mvT hZ (w_ hw 43 rfl)) (mvT hZ (w_ hw 44 rfl)) (mvT hZ (w_ hw 3 rfl)) (mvT hZ (w_ hw 45 rfl)) (by decide) (backOf (W := 0) (rm10 l Z a0 hw [] c3 (3 : Int32) (fmin ((p4 &&& (2147483647 : Int32)) % (5 : Int32)) ((p5 &&& (2147483647 : Int32)) % (5 : Int32))) (fmax ((p4 &&& (2147483647 : Int32)) % (5 : Int32)) ((p5 &&& (2147483647 : Int32)) % (5 : Int32))) T2.heap n0 qz10 ) hZ (w_ hw 45 rfl) (w_ hw 3 rfl) (by decide) (by decide)) (g := (mkF m 134 #[iv p0, iv p1, iv p2, iv p3, iv p4, iv p5, rv oa, rv b1, iv ((p4 &&& (2147483647 : Int32)) % (5 : Int32)), iv ((p5 &&& (2147483647 : Int32)) % (5 : Int32)), iv (fmin ((p4 &&& (2147483647 : Int32)) % (5 : Int32)) ((p5 &&& (2147483647 : Int32)) % (5 : Int32))), iv (fmax ((p4 &&& (2147483647 : Int32)) % (5 : Int32)) ((p5 &&& (2147483647 : Int32)) % (5 : Int32))), .unset] [.int (fmax ((p4 &&& (2147483647 : Int32)) % (5 : Int32)) ((p5 &&& (2147483647 : Int32)) % (5 : Int32))), .int (fmin ((p4 &&& (2147483647 : Int32)) % (5 : Int32)) ((p5 &&& (2147483647 : Int32)) % (5 : Int32))), .int 3, .int c3])) rfl (by rw [hml]; rfl) (argsL := [(.int c3), (.int 3), (.int (fmin ((p4 &&& (2147483647 : Int32)) % (5 : Int32)) ((p5 &&& (2147483647 : Int32)) % (5 : Int32)))), (.int (fmax ((p4 &&& (2147483647 : Int32)) % (5 : Int32)) ((p5 &&& (2147483647 : Int32)) % (5 : Int32))))]) (rest := []) (lenOf pd_16 rfl) rfl (by show 2 * 0 + _ ≤ _; exact Nat.le_of_eq rfl) (hb hby at_134) (fun _ _ => ⟨rfl, hh29, (by decide : 4 + 0 ≤ _), (by decide : 20 + 0 ≤ _)⟩)
        dsimp only [Pt.U, Pt.locs, Pt.cells, Pt.slots] at X37 l37 y37 z37 st37 hQ37
        subst l37 y37 z37
        obtain ⟨rfl, N37q, hh37⟩ := hQ37
        have N37 := Fr.app N29 N37q
        refine own_of st37 ?_
        show own_Out p e below _ (T37.setTop (mkF m 137 #[iv p0, iv p1, iv p2, iv p3, iv p4, iv p5, rv oa, rv b1, iv ((p4 &&& (2147483647 : Int32)) % (5 : Int32)), iv ((p5 &&& (2147483647 : Int32)) % (5 : Int32)), iv (fmin ((p4 &&& (2147483647 : Int32)) % (5 : Int32)) ((p5 &&& (2147483647 : Int32)) % (5 : Int32))), iv (fmax ((p4 &&& (2147483647 : Int32)) % (5 : Int32)) ((p5 &&& (2147483647 : Int32)) % (5 : Int32))), .unset] [.int (fok c3 (3 : Int32) (fmin ((p4 &&& (2147483647 : Int32)) % (5 : Int32)) ((p5 &&& (2147483647 : Int32)) % (5 : Int32))) (fmax ((p4 &&& (2147483647 : Int32)) % (5 : Int32)) ((p5 &&& (2147483647 : Int32)) % (5 : Int32))))]))
        by_cases hc137_38 : (fok c3 (3 : Int32) (fmin ((p4 &&& (2147483647 : Int32)) % (5 : Int32)) ((p5 &&& (2147483647 : Int32)) % (5 : Int32))) (fmax ((p4 &&& (2147483647 : Int32)) % (5 : Int32)) ((p5 &&& (2147483647 : Int32)) % (5 : Int32)))) = (0 : Int32)
        · skip
          refine o_ifY X37 hx hby at_137 ((if0 _ _).trans (teq hc137_38).1) (by decide) (q := 144) (by decide) ?_
          refine o_iconst X37 hx hby at_144 (z := 0) rfl (q := 145) rfl ?_
          refine o_istore X37 hx hby at_145 (l' := #[iv p0, iv p1, iv p2, iv p3, iv p4, iv p5, rv oa, rv b1, iv ((p4 &&& (2147483647 : Int32)) % (5 : Int32)), iv ((p5 &&& (2147483647 : Int32)) % (5 : Int32)), iv (fmin ((p4 &&& (2147483647 : Int32)) % (5 : Int32)) ((p5 &&& (2147483647 : Int32)) % (5 : Int32))), iv (fmax ((p4 &&& (2147483647 : Int32)) % (5 : Int32)) ((p5 &&& (2147483647 : Int32)) % (5 : Int32))), iv 0]) rfl (q := 147) rfl ?_
          refine o_aload X37 hx hby at_147 rfl rfl (q := 149) rfl ?_
          refine o_iload X37 hx hby at_149 rfl (q := 151) rfl ?_
          refine o_iload X37 hx hby at_151 rfl (q := 153) rfl ?_
          have qz40 := (own_staK1 qz4 K2 (own_plainE A1))
          have qz41 := (own_staK1 (S_f.ext E1) K2 (own_plainE A1))
          have qz42 := (own_staK1 qz5 K2 (own_plainE A1))
          have qz43 := (own_staK1 qz6 K2 (own_plainE A1))
          have qz44 := (own_staK1 qz7 K2 (own_plainE A1))
          obtain ⟨_, _, ⟨T39, L39, k39, n39⟩, -, X39, ⟨Lc39, hQ39, l39, y39, z39⟩, st39⟩ := Jvm.LawKit.callS X37 hx (y := (⟨"com/example/fides/fides/ledger/Position", "hasOnlyAsciiDigits", "(Ljava/lang/String;II)Z"⟩ : MethodName)) hown (mvT hZ (w_ hw 46 rfl)) (mvT hZ (w_ hw 47 rfl)) (mvT hZ (w_ hw 48 rfl)) (mvT hZ (w_ hw 49 rfl)) (by decide) (backOf (W := 0) (has_use l Z a0 hw [] b1 (fmin ((p4 &&& (2147483647 : Int32)) % (5 : Int32)) ((p5 &&& (2147483647 : Int32)) % (5 : Int32))) (fmax ((p4 &&& (2147483647 : Int32)) % (5 : Int32)) ((p5 &&& (2147483647 : Int32)) % (5 : Int32))) cs vf T2.heap n0 qz10 Ho2 (Keep.refl T2.heap []) (own_mm p4 p5) qz40 hcs qz41 hvf qz42 qz43 qz44) hZ (w_ hw 49 rfl) (w_ hw 48 rfl) (by decide) (by decide)) (g := (mkF m 153 #[iv p0, iv p1, iv p2, iv p3, iv p4, iv p5, rv oa, rv b1, iv ((p4 &&& (2147483647 : Int32)) % (5 : Int32)), iv ((p5 &&& (2147483647 : Int32)) % (5 : Int32)), iv (fmin ((p4 &&& (2147483647 : Int32)) % (5 : Int32)) ((p5 &&& (2147483647 : Int32)) % (5 : Int32))), iv (fmax ((p4 &&& (2147483647 : Int32)) % (5 : Int32)) ((p5 &&& (2147483647 : Int32)) % (5 : Int32))), iv 0] [.int (fmax ((p4 &&& (2147483647 : Int32)) % (5 : Int32)) ((p5 &&& (2147483647 : Int32)) % (5 : Int32))), .int (fmin ((p4 &&& (2147483647 : Int32)) % (5 : Int32)) ((p5 &&& (2147483647 : Int32)) % (5 : Int32))), .ref b1])) rfl (by rw [hml]; rfl) (argsL := [(.ref b1), (.int (fmin ((p4 &&& (2147483647 : Int32)) % (5 : Int32)) ((p5 &&& (2147483647 : Int32)) % (5 : Int32)))), (.int (fmax ((p4 &&& (2147483647 : Int32)) % (5 : Int32)) ((p5 &&& (2147483647 : Int32)) % (5 : Int32))))]) (rest := []) (lenOf pd_17 rfl) rfl (by show 2 * 0 + _ ≤ _; exact Nat.le_of_eq rfl) (hb hby at_153) (fun _ _ => ⟨rfl, hh37, (by decide : 4 + 0 ≤ _), (by decide : 20 + 0 ≤ _)⟩)
          dsimp only [Pt.U, Pt.locs, Pt.cells, Pt.slots] at X39 l39 y39 z39 st39 hQ39
          subst l39 y39 z39
          obtain ⟨rfl, N39q, hh39⟩ := hQ39
          have N39 := Fr.app N37 N39q
          refine own_of st39 ?_
          show own_Out p e below _ (T39.setTop (mkF m 156 #[iv p0, iv p1, iv p2, iv p3, iv p4, iv p5, rv oa, rv b1, iv ((p4 &&& (2147483647 : Int32)) % (5 : Int32)), iv ((p5 &&& (2147483647 : Int32)) % (5 : Int32)), iv (fmin ((p4 &&& (2147483647 : Int32)) % (5 : Int32)) ((p5 &&& (2147483647 : Int32)) % (5 : Int32))), iv (fmax ((p4 &&& (2147483647 : Int32)) % (5 : Int32)) ((p5 &&& (2147483647 : Int32)) % (5 : Int32))), iv 0] [.int (fexp (fmin ((p4 &&& (2147483647 : Int32)) % (5 : Int32)) ((p5 &&& (2147483647 : Int32)) % (5 : Int32))) (fmax ((p4 &&& (2147483647 : Int32)) % (5 : Int32)) ((p5 &&& (2147483647 : Int32)) % (5 : Int32))) c0 c1 c2 c3)]))
          refine o_iload X39 hx hby at_156 rfl (q := 158) rfl ?_
          refine o_icN X39 hx hby at_158 (teq ((by simp only [fexp, if_neg hc92_14, if_neg hc107_22, if_neg hc122_30, if_pos hc137_38]) : (fexp (fmin ((p4 &&& (2147483647 : Int32)) % (5 : Int32)) ((p5 &&& (2147483647 : Int32)) % (5 : Int32))) (fmax ((p4 &&& (2147483647 : Int32)) % (5 : Int32)) ((p5 &&& (2147483647 : Int32)) % (5 : Int32))) c0 c1 c2 c3) = (0 : Int32))).2 (q := 161) rfl ?_
          refine o_iconst X39 hx hby at_161 (z := 1) rfl (q := 162) rfl ?_
          refine o_goto X39 hx hby at_162 (by decide) (q := 166) (by decide) ?_
          exact own_outN X39 hx hlk (t := .boolean) hret (by simp) (hb hby at_166) (z' := (1 : Int32)) rfl (Q := Q) (hQ _ _ N39) (by decide) (by decide)
        · skip
          refine o_ifN X37 hx hby at_137 ((if0 _ _).trans (feq hc137_38).1) (q := 140) rfl ?_
          refine o_iconst X37 hx hby at_140 (z := 1) rfl (q := 141) rfl ?_
          refine o_goto X37 hx hby at_141 (by decide) (q := 145) (by decide) ?_
          refine o_istore X37 hx hby at_145 (l' := #[iv p0, iv p1, iv p2, iv p3, iv p4, iv p5, rv oa, rv b1, iv ((p4 &&& (2147483647 : Int32)) % (5 : Int32)), iv ((p5 &&& (2147483647 : Int32)) % (5 : Int32)), iv (fmin ((p4 &&& (2147483647 : Int32)) % (5 : Int32)) ((p5 &&& (2147483647 : Int32)) % (5 : Int32))), iv (fmax ((p4 &&& (2147483647 : Int32)) % (5 : Int32)) ((p5 &&& (2147483647 : Int32)) % (5 : Int32))), iv 1]) rfl (q := 147) rfl ?_
          refine o_aload X37 hx hby at_147 rfl rfl (q := 149) rfl ?_
          refine o_iload X37 hx hby at_149 rfl (q := 151) rfl ?_
          refine o_iload X37 hx hby at_151 rfl (q := 153) rfl ?_
          have qz46 := (own_staK1 qz4 K2 (own_plainE A1))
          have qz47 := (own_staK1 (S_f.ext E1) K2 (own_plainE A1))
          have qz48 := (own_staK1 qz5 K2 (own_plainE A1))
          have qz49 := (own_staK1 qz6 K2 (own_plainE A1))
          have qz50 := (own_staK1 qz7 K2 (own_plainE A1))
          obtain ⟨_, _, ⟨T45, L45, k45, n45⟩, -, X45, ⟨Lc45, hQ45, l45, y45, z45⟩, st45⟩ := Jvm.LawKit.callS X37 hx (y := (⟨"com/example/fides/fides/ledger/Position", "hasOnlyAsciiDigits", "(Ljava/lang/String;II)Z"⟩ : MethodName)) hown (mvT hZ (w_ hw 46 rfl)) (mvT hZ (w_ hw 47 rfl)) (mvT hZ (w_ hw 48 rfl)) (mvT hZ (w_ hw 49 rfl)) (by decide) (backOf (W := 0) (has_use l Z a0 hw [] b1 (fmin ((p4 &&& (2147483647 : Int32)) % (5 : Int32)) ((p5 &&& (2147483647 : Int32)) % (5 : Int32))) (fmax ((p4 &&& (2147483647 : Int32)) % (5 : Int32)) ((p5 &&& (2147483647 : Int32)) % (5 : Int32))) cs vf T2.heap n0 qz10 Ho2 (Keep.refl T2.heap []) (own_mm p4 p5) qz46 hcs qz47 hvf qz48 qz49 qz50) hZ (w_ hw 49 rfl) (w_ hw 48 rfl) (by decide) (by decide)) (g := (mkF m 153 #[iv p0, iv p1, iv p2, iv p3, iv p4, iv p5, rv oa, rv b1, iv ((p4 &&& (2147483647 : Int32)) % (5 : Int32)), iv ((p5 &&& (2147483647 : Int32)) % (5 : Int32)), iv (fmin ((p4 &&& (2147483647 : Int32)) % (5 : Int32)) ((p5 &&& (2147483647 : Int32)) % (5 : Int32))), iv (fmax ((p4 &&& (2147483647 : Int32)) % (5 : Int32)) ((p5 &&& (2147483647 : Int32)) % (5 : Int32))), iv 1] [.int (fmax ((p4 &&& (2147483647 : Int32)) % (5 : Int32)) ((p5 &&& (2147483647 : Int32)) % (5 : Int32))), .int (fmin ((p4 &&& (2147483647 : Int32)) % (5 : Int32)) ((p5 &&& (2147483647 : Int32)) % (5 : Int32))), .ref b1])) rfl (by rw [hml]; rfl) (argsL := [(.ref b1), (.int (fmin ((p4 &&& (2147483647 : Int32)) % (5 : Int32)) ((p5 &&& (2147483647 : Int32)) % (5 : Int32)))), (.int (fmax ((p4 &&& (2147483647 : Int32)) % (5 : Int32)) ((p5 &&& (2147483647 : Int32)) % (5 : Int32))))]) (rest := []) (lenOf pd_17 rfl) rfl (by show 2 * 0 + _ ≤ _; exact Nat.le_of_eq rfl) (hb hby at_153) (fun _ _ => ⟨rfl, hh37, (by decide : 4 + 0 ≤ _), (by decide : 20 + 0 ≤ _)⟩)
          dsimp only [Pt.U, Pt.locs, Pt.cells, Pt.slots] at X45 l45 y45 z45 st45 hQ45
          subst l45 y45 z45
          obtain ⟨rfl, N45q, hh45⟩ := hQ45
          have N45 := Fr.app N37 N45q
          refine own_of st45 ?_
          show own_Out p e below _ (T45.setTop (mkF m 156 #[iv p0, iv p1, iv p2, iv p3, iv p4, iv p5, rv oa, rv b1, iv ((p4 &&& (2147483647 : Int32)) % (5 : Int32)), iv ((p5 &&& (2147483647 : Int32)) % (5 : Int32)), iv (fmin ((p4 &&& (2147483647 : Int32)) % (5 : Int32)) ((p5 &&& (2147483647 : Int32)) % (5 : Int32))), iv (fmax ((p4 &&& (2147483647 : Int32)) % (5 : Int32)) ((p5 &&& (2147483647 : Int32)) % (5 : Int32))), iv 1] [.int (fexp (fmin ((p4 &&& (2147483647 : Int32)) % (5 : Int32)) ((p5 &&& (2147483647 : Int32)) % (5 : Int32))) (fmax ((p4 &&& (2147483647 : Int32)) % (5 : Int32)) ((p5 &&& (2147483647 : Int32)) % (5 : Int32))) c0 c1 c2 c3)]))
          refine o_iload X45 hx hby at_156 rfl (q := 158) rfl ?_
          refine o_icN X45 hx hby at_158 (teq ((by simp only [fexp, if_neg hc92_14, if_neg hc107_22, if_neg hc122_30, if_neg hc137_38]) : (fexp (fmin ((p4 &&& (2147483647 : Int32)) % (5 : Int32)) ((p5 &&& (2147483647 : Int32)) % (5 : Int32))) (fmax ((p4 &&& (2147483647 : Int32)) % (5 : Int32)) ((p5 &&& (2147483647 : Int32)) % (5 : Int32))) c0 c1 c2 c3) = (1 : Int32))).2 (q := 161) rfl ?_
          refine o_iconst X45 hx hby at_161 (z := 1) rfl (q := 162) rfl ?_
          refine o_goto X45 hx hby at_162 (by decide) (q := 166) (by decide) ?_
          exact own_outN X45 hx hlk (t := .boolean) hret (by simp) (hb hby at_166) (z' := (1 : Int32)) rfl (Q := Q) (hQ _ _ N45) (by decide) (by decide)
theorem ef_0 (m : MethodId) (x0 x1 x2 x3 x4 x5 : Int32) : entryFrame m #[(.int x0), (.int x1), (.int x2), (.int x3), (.int x4), (.int x5)] maxLocals = mkF m 0 #[.val (.int x0), .val (.int x1), .val (.int x2), .val (.int x3), .val (.int x4), .val (.int x5), .unset, .unset, .unset, .unset, .unset, .unset, .unset] [] := by first | (simp [entryFrame, mkF, argsToLocals, Value.category, maxLocals]; done) | rfl
def Q0 (Z : State) (p0 p1 p2 p3 p4 p5 cs : Int32) (vf : Value) (h0 : Heap) (n0 : Nat) (v : Option Value) (h : Heap) (L : List Loc) : Prop := v = some (.int 1) ∧ Fr n0 L
set_option maxRecDepth 65536 in
set_option maxHeartbeats 40000000 in
theorem rm0 (l : Launch) (Z : State) (a0 : Array Value) (hw : ∀ d ∈ tables_1, d.before a0 Z = true) (ws : List Jvm.Cond) (p0 p1 p2 p3 p4 p5 cs : Int32) (vf : Value) (h0 : Heap) (n0 : Nat) (Z0 : n0 ≤ h0.size) (S_cs : Sta Z h0 "java/lang/String" "COMPACT_STRINGS" "Z" (.int cs)) (hcs : ¬ (cs = (0 : Int32))) (S_f : Sta Z h0 "jdk/internal/util/Preconditions" "SIOOBE_FORMATTER" "Ljava/util/function/BiFunction;" vf) (hvf : vf.isRef = true) (S_ad : Sta Z h0 "java/lang/StringUTF16" "$assertionsDisabled" "Z" (.int 1)) (S_hi : Sta Z h0 "java/lang/StringUTF16" "HI_BYTE_SHIFT" "I" (.int 0)) (S_lo : Sta Z h0 "java/lang/StringUTF16" "LO_BYTE_SHIFT" "I" (.int 8)) :
    MetFree l x (head1 (Jvm.Cond.code x code maxLocals ret :: ws) room_1) (fun a U => a = #[(.int p0), (.int p1), (.int p2), (.int p3), (.int p4), (.int p5)] ∧ Z.Warmed39 U.vm ∧ U.heap = h0) (fun _ _ _ _ _ => True) (fun _ U o U' => ∃ v L, o = .returned v ∧ Q0 Z p0 p1 p2 p3 p4 p5 cs vf h0 n0 v U'.heap L ∧ FrameEnd U o U' L 16 128) := by
  refine MetFree.of_bodySF (plainFor_of_name pn_0) hisR ?_
  intro p e s m args below meth c s₁ Bd hml0 hP hK
  obtain ⟨rfl, hZ, hh⟩ := hP
  have hx := Bd.exec
  have hby := Bd.bytes
  have hml : c.maxLocals = 13 := hml0
  have hown : s.vm.findClass "com/example/fides/fides/ledger/PositionHasOnlyAsciiDigitsPinLaw" = some m.cls := findClass_of_methodNamed Bd.named
  have hnm := (name_of_methodNamed Bd.named Bd.method).1
  have X0 : Stand p l e room_1 s m #[(.int p0), (.int p1), (.int p2), (.int p3), (.int p4), (.int p5)] below meth c s₁ [] 0 0 := Stand.of_body Bd
  have e0 : s₁.heap = h0 := by rw [← hh, Bd.state]; rfl
  have N0 := Fr.nil n0
  have hret := Bd.returns
  have hlk := BodyLoose.notSynchronized Bd
  show own_Out p e below (fun o U' => ∃ v L, o = .returned v ∧ Q0 Z p0 p1 p2 p3 p4 p5 cs vf h0 n0 v U'.heap L ∧ FrameEnd s o U' L 16 128) (s₁.setTop (entryFrame m #[(.int p0), (.int p1), (.int p2), (.int p3), (.int p4), (.int p5)] maxLocals))
  refine own_of (fun t k => castTop (ef_0 m p0 p1 p2 p3 p4 p5) k) ?_
  show own_Out p e below _ (s₁.setTop (mkF m 0 #[iv p0, iv p1, iv p2, iv p3, iv p4, iv p5, .unset, .unset, .unset, .unset, .unset, .unset, .unset] []))
  refine o_iconst X0 hx hby at_0 (z := 4) rfl (q := 1) rfl ?_
  obtain ⟨T1, h1, k1, X1, e1, E1, A1, st1⟩ := newP X0 hx hZ (w_ hw 0 rfl) e0 (g := (mkF m 1 #[iv p0, iv p1, iv p2, iv p3, iv p4, iv p5, .unset, .unset, .unset, .unset, .unset, .unset, .unset] [.int 4])) rfl (hb hby at_1) rfl (by decide) (cap := 4) (by decide) (by decide) (by decide) (by decide)
  obtain ⟨b1, g1⟩ : ∃ z, z = h0.size := ⟨_, rfl⟩
  rw [← g1] at A1 st1
  have g_b1 : n0 ≤ b1 := Nat.le_trans Z0 (Nat.le_of_eq g1.symm)
  have V_b1 : Arv Z h1 b1 k1 .char (4 : Int32) [(.int 0), (.int 0), (.int 0), (.int 0)] (.int 0) := (Arv.new A1 (by decide)).pad (pad_rep [] (.int 0) 4)
  refine own_of st1 ?_
  show own_Out p e below _ (T1.setTop (mkF m 3 #[iv p0, iv p1, iv p2, iv p3, iv p4, iv p5, .unset, .unset, .unset, .unset, .unset, .unset, .unset] [.ref b1]))
  refine o_dup X1 hx hby at_3 rfl (q := 4) rfl ?_
  refine o_iconst X1 hx hby at_4 (z := 0) rfl (q := 5) rfl ?_
  refine o_iloadN X1 hx hby at_5 rfl (q := 6) rfl ?_
  have qz3 := (Nat.le_trans Z0 E1.1)
  obtain ⟨_, _, ⟨T2, L2, k2, n2⟩, -, X2, ⟨Lc2, hQ2, l2, y2, z2⟩, st2⟩ := Jvm.LawKit.callS X1 hx (y := (⟨"com/example/fides/fides/ledger/PositionHasOnlyAsciiDigitsPinLaw", "draw", "(I)C"⟩ : MethodName)) hown (mvT hZ (w_ hw 1 rfl)) (mvT hZ (w_ hw 2 rfl)) (mvT hZ (w_ hw 3 rfl)) (mvT hZ (w_ hw 4 rfl)) (by decide) (backOf (W := 3) (rm1 l Z a0 hw [] p0 h1 n0 qz3 ) hZ (w_ hw 4 rfl) (w_ hw 3 rfl) (by decide) (by decide)) (g := (mkF m 6 #[iv p0, iv p1, iv p2, iv p3, iv p4, iv p5, .unset, .unset, .unset, .unset, .unset, .unset, .unset] [.int p0, .int 0, .ref b1, .ref b1])) rfl (by rw [hml]; rfl) (argsL := [(.int p0)]) (rest := [(.int 0), (.ref b1), (.ref b1)]) (lenOf pd_4 rfl) rfl (by show 2 * 0 + _ ≤ _; exact Nat.le_of_eq rfl) (hb hby at_6) (fun _ _ => ⟨rfl, e1, (by decide : 1 + 0 ≤ _), (by decide : 4 + 0 ≤ _)⟩)
  dsimp only [Pt.U, Pt.locs, Pt.cells, Pt.slots] at X2 l2 y2 z2 st2 hQ2
  subst l2 y2 z2
  obtain ⟨rfl, N2q, hh2⟩ := hQ2
  have N2 := Fr.app N0 N2q
  refine own_of st2 ?_
  show own_Out p e below _ (T2.setTop (mkF m 9 #[iv p0, iv p1, iv p2, iv p3, iv p4, iv p5, .unset, .unset, .unset, .unset, .unset, .unset, .unset] [.int (fdraw p0), .int 0, .ref b1, .ref b1]))
  obtain ⟨cl4, Ar4, q4, S4, N4', H4, G4⟩ := id V_b1
  have hin5 : ¬ ((0 : Int32) < 0 ∨ cl4.slots.size ≤ ((0 : Int32)).toNatClampNeg) := inb_of S4 ⟨by decide, by decide⟩
  obtain ⟨T5, h5, X5, e5, W5, st5⟩ := stC X2 hx hZ hh2 Ar4 (j := (0 : Int32)) hin5 (g := (mkF m 9 #[iv p0, iv p1, iv p2, iv p3, iv p4, iv p5, .unset, .unset, .unset, .unset, .unset, .unset, .unset] [.int (fdraw p0), .int 0, .ref b1, .ref b1])) rfl rfl (hb hby at_9)
  have V5 := Arv.set Ar4 q4 S4 N4' H4 G4 (fits_nar_char _) W5 0 rfl (Nat.le_of_ble_eq_true rfl)
  refine own_of st5 ?_
  show own_Out p e below _ (T5.setTop (mkF m 10 #[iv p0, iv p1, iv p2, iv p3, iv p4, iv p5, .unset, .unset, .unset, .unset, .unset, .unset, .unset] [.ref b1]))
  refine o_dup X5 hx hby at_10 rfl (q := 11) rfl ?_
  refine o_iconst X5 hx hby at_11 (z := 1) rfl (q := 12) rfl ?_
  refine o_iloadN X5 hx hby at_12 rfl (q := 13) rfl ?_
  have qz7 := (Nat.le_trans qz3 (Keep.of_wr W5).1)
  obtain ⟨_, _, ⟨T6, L6, k6, n6⟩, -, X6, ⟨Lc6, hQ6, l6, y6, z6⟩, st6⟩ := Jvm.LawKit.callS X5 hx (y := (⟨"com/example/fides/fides/ledger/PositionHasOnlyAsciiDigitsPinLaw", "draw", "(I)C"⟩ : MethodName)) hown (mvT hZ (w_ hw 1 rfl)) (mvT hZ (w_ hw 2 rfl)) (mvT hZ (w_ hw 3 rfl)) (mvT hZ (w_ hw 4 rfl)) (by decide) (backOf (W := 3) (rm1 l Z a0 hw [] p1 h5 n0 qz7 ) hZ (w_ hw 4 rfl) (w_ hw 3 rfl) (by decide) (by decide)) (g := (mkF m 13 #[iv p0, iv p1, iv p2, iv p3, iv p4, iv p5, .unset, .unset, .unset, .unset, .unset, .unset, .unset] [.int p1, .int 1, .ref b1, .ref b1])) rfl (by rw [hml]; rfl) (argsL := [(.int p1)]) (rest := [(.int 1), (.ref b1), (.ref b1)]) (lenOf pd_4 rfl) rfl (by show 2 * 0 + _ ≤ _; exact Nat.le_of_eq rfl) (hb hby at_13) (fun _ _ => ⟨rfl, e5, (by decide : 1 + 0 ≤ _), (by decide : 4 + 0 ≤ _)⟩)
  dsimp only [Pt.U, Pt.locs, Pt.cells, Pt.slots] at X6 l6 y6 z6 st6 hQ6
  subst l6 y6 z6
  obtain ⟨rfl, N6q, hh6⟩ := hQ6
  have N6 := Fr.app (Fr.snoc X5 N2 g_b1) N6q
  refine own_of st6 ?_
  show own_Out p e below _ (T6.setTop (mkF m 16 #[iv p0, iv p1, iv p2, iv p3, iv p4, iv p5, .unset, .unset, .unset, .unset, .unset, .unset, .unset] [.int (fdraw p1), .int 1, .ref b1, .ref b1]))
  obtain ⟨cl8, Ar8, q8, S8, N8', H8, G8⟩ := id V5
  have hin9 : ¬ ((1 : Int32) < 0 ∨ cl8.slots.size ≤ ((1 : Int32)).toNatClampNeg) := inb_of S8 ⟨by decide, by decide⟩
  obtain ⟨T9, h9, X9, e9, W9, st9⟩ := stC X6 hx hZ hh6 Ar8 (j := (1 : Int32)) hin9 (g := (mkF m 16 #[iv p0, iv p1, iv p2, iv p3, iv p4, iv p5, .unset, .unset, .unset, .unset, .unset, .unset, .unset] [.int (fdraw p1), .int 1, .ref b1, .ref b1])) rfl rfl (hb hby at_16)
  have V9 := Arv.set Ar8 q8 S8 N8' H8 G8 (fits_nar_char _) W9 1 rfl (Nat.le_of_ble_eq_true rfl)
  refine own_of st9 ?_
  show own_Out p e below _ (T9.setTop (mkF m 17 #[iv p0, iv p1, iv p2, iv p3, iv p4, iv p5, .unset, .unset, .unset, .unset, .unset, .unset, .unset] [.ref b1]))
  refine o_dup X9 hx hby at_17 rfl (q := 18) rfl ?_
  refine o_iconst X9 hx hby at_18 (z := 2) rfl (q := 19) rfl ?_
  refine o_iloadN X9 hx hby at_19 rfl (q := 20) rfl ?_
  have qz11 := (Nat.le_trans qz7 (Keep.of_wr W9).1)
  obtain ⟨_, _, ⟨T10, L10, k10, n10⟩, -, X10, ⟨Lc10, hQ10, l10, y10, z10⟩, st10⟩ := Jvm.LawKit.callS X9 hx (y := (⟨"com/example/fides/fides/ledger/PositionHasOnlyAsciiDigitsPinLaw", "draw", "(I)C"⟩ : MethodName)) hown (mvT hZ (w_ hw 1 rfl)) (mvT hZ (w_ hw 2 rfl)) (mvT hZ (w_ hw 3 rfl)) (mvT hZ (w_ hw 4 rfl)) (by decide) (backOf (W := 3) (rm1 l Z a0 hw [] p2 h9 n0 qz11 ) hZ (w_ hw 4 rfl) (w_ hw 3 rfl) (by decide) (by decide)) (g := (mkF m 20 #[iv p0, iv p1, iv p2, iv p3, iv p4, iv p5, .unset, .unset, .unset, .unset, .unset, .unset, .unset] [.int p2, .int 2, .ref b1, .ref b1])) rfl (by rw [hml]; rfl) (argsL := [(.int p2)]) (rest := [(.int 2), (.ref b1), (.ref b1)]) (lenOf pd_4 rfl) rfl (by show 2 * 0 + _ ≤ _; exact Nat.le_of_eq rfl) (hb hby at_20) (fun _ _ => ⟨rfl, e9, (by decide : 1 + 0 ≤ _), (by decide : 4 + 0 ≤ _)⟩)
  dsimp only [Pt.U, Pt.locs, Pt.cells, Pt.slots] at X10 l10 y10 z10 st10 hQ10
  subst l10 y10 z10
  obtain ⟨rfl, N10q, hh10⟩ := hQ10
  have N10 := Fr.app (Fr.snoc X9 N6 g_b1) N10q
  refine own_of st10 ?_
  show own_Out p e below _ (T10.setTop (mkF m 23 #[iv p0, iv p1, iv p2, iv p3, iv p4, iv p5, .unset, .unset, .unset, .unset, .unset, .unset, .unset] [.int (fdraw p2), .int 2, .ref b1, .ref b1]))
  obtain ⟨cl12, Ar12, q12, S12, N12', H12, G12⟩ := id V9
  have hin13 : ¬ ((2 : Int32) < 0 ∨ cl12.slots.size ≤ ((2 : Int32)).toNatClampNeg) := inb_of S12 ⟨by decide, by decide⟩
  obtain ⟨T13, h13, X13, e13, W13, st13⟩ := stC X10 hx hZ hh10 Ar12 (j := (2 : Int32)) hin13 (g := (mkF m 23 #[iv p0, iv p1, iv p2, iv p3, iv p4, iv p5, .unset, .unset, .unset, .unset, .unset, .unset, .unset] [.int (fdraw p2), .int 2, .ref b1, .ref b1])) rfl rfl (hb hby at_23)
  have V13 := Arv.set Ar12 q12 S12 N12' H12 G12 (fits_nar_char _) W13 2 rfl (Nat.le_of_ble_eq_true rfl)
  refine own_of st13 ?_
  show own_Out p e below _ (T13.setTop (mkF m 24 #[iv p0, iv p1, iv p2, iv p3, iv p4, iv p5, .unset, .unset, .unset, .unset, .unset, .unset, .unset] [.ref b1]))
  refine o_dup X13 hx hby at_24 rfl (q := 25) rfl ?_
  refine o_iconst X13 hx hby at_25 (z := 3) rfl (q := 26) rfl ?_
  refine o_iloadN X13 hx hby at_26 rfl (q := 27) rfl ?_
  have qz15 := (Nat.le_trans qz11 (Keep.of_wr W13).1)
  obtain ⟨_, _, ⟨T14, L14, k14, n14⟩, -, X14, ⟨Lc14, hQ14, l14, y14, z14⟩, st14⟩ := Jvm.LawKit.callS X13 hx (y := (⟨"com/example/fides/fides/ledger/PositionHasOnlyAsciiDigitsPinLaw", "draw", "(I)C"⟩ : MethodName)) hown (mvT hZ (w_ hw 1 rfl)) (mvT hZ (w_ hw 2 rfl)) (mvT hZ (w_ hw 3 rfl)) (mvT hZ (w_ hw 4 rfl)) (by decide) (backOf (W := 3) (rm1 l Z a0 hw [] p3 h13 n0 qz15 ) hZ (w_ hw 4 rfl) (w_ hw 3 rfl) (by decide) (by decide)) (g := (mkF m 27 #[iv p0, iv p1, iv p2, iv p3, iv p4, iv p5, .unset, .unset, .unset, .unset, .unset, .unset, .unset] [.int p3, .int 3, .ref b1, .ref b1])) rfl (by rw [hml]; rfl) (argsL := [(.int p3)]) (rest := [(.int 3), (.ref b1), (.ref b1)]) (lenOf pd_4 rfl) rfl (by show 2 * 0 + _ ≤ _; exact Nat.le_of_eq rfl) (hb hby at_27) (fun _ _ => ⟨rfl, e13, (by decide : 1 + 0 ≤ _), (by decide : 4 + 0 ≤ _)⟩)
  dsimp only [Pt.U, Pt.locs, Pt.cells, Pt.slots] at X14 l14 y14 z14 st14 hQ14
  subst l14 y14 z14
  obtain ⟨rfl, N14q, hh14⟩ := hQ14
  have N14 := Fr.app (Fr.snoc X13 N10 g_b1) N14q
  refine own_of st14 ?_
  show own_Out p e below _ (T14.setTop (mkF m 30 #[iv p0, iv p1, iv p2, iv p3, iv p4, iv p5, .unset, .unset, .unset, .unset, .unset, .unset, .unset] [.int (fdraw p3), .int 3, .ref b1, .ref b1]))
  obtain ⟨cl16, Ar16, q16, S16, N16', H16, G16⟩ := id V13
  have hin17 : ¬ ((3 : Int32) < 0 ∨ cl16.slots.size ≤ ((3 : Int32)).toNatClampNeg) := inb_of S16 ⟨by decide, by decide⟩
  obtain ⟨T17, h17, X17, e17, W17, st17⟩ := stC X14 hx hZ hh14 Ar16 (j := (3 : Int32)) hin17 (g := (mkF m 30 #[iv p0, iv p1, iv p2, iv p3, iv p4, iv p5, .unset, .unset, .unset, .unset, .unset, .unset, .unset] [.int (fdraw p3), .int 3, .ref b1, .ref b1])) rfl rfl (hb hby at_30)
  have V17 := Arv.set Ar16 q16 S16 N16' H16 G16 (fits_nar_char _) W17 3 rfl (Nat.le_of_ble_eq_true rfl)
  refine own_of st17 ?_
  show own_Out p e below _ (T17.setTop (mkF m 31 #[iv p0, iv p1, iv p2, iv p3, iv p4, iv p5, .unset, .unset, .unset, .unset, .unset, .unset, .unset] [.ref b1]))
  refine o_astore X17 hx hby at_31 rfl (l' := #[iv p0, iv p1, iv p2, iv p3, iv p4, iv p5, rv b1, .unset, .unset, .unset, .unset, .unset, .unset]) rfl (q := 33) rfl ?_
  have qz18 := (Nat.le_trans qz15 (Keep.of_wr W17).1)
  have qz19 := (((((S_cs.ext E1).wr W5).wr W9).wr W13).wr W17)
  have qz20 := (((((S_f.ext E1).wr W5).wr W9).wr W13).wr W17)
  have qz21 := (((((S_ad.ext E1).wr W5).wr W9).wr W13).wr W17)
  have qz22 := (((((S_hi.ext E1).wr W5).wr W9).wr W13).wr W17)
  have qz23 := (((((S_lo.ext E1).wr W5).wr W9).wr W13).wr W17)
  exact sg33 (Q := Q0 Z p0 p1 p2 p3 p4 p5 cs vf h0 n0) p0 p1 p2 p3 p4 p5 b1 k1 ((fdraw p0).toUInt32.toUInt16.toUInt32.toInt32) ((fdraw p1).toUInt32.toUInt16.toUInt32.toInt32) ((fdraw p2).toUInt32.toUInt16.toUInt32.toInt32) ((fdraw p3).toUInt32.toUInt16.toUInt32.toInt32) cs vf h17 n0 X17 hx hZ hw hby hml hown hret hlk (fun _ _ N => ⟨rfl, N⟩) e17 qz18 (Fr.snoc X17 N14 g_b1) V17 (c_i2c (fdraw p0)).2 (c_i2c (fdraw p1)).2 (c_i2c (fdraw p2)).2 (c_i2c (fdraw p3)).2 qz19 hcs qz20 hvf qz21 qz22 qz23
theorem own_not0 {args : Array Value} {s : State} {t : Term} {x : Int32} (e : t.eval args s none [] s = some (.int x)) (h : (Jvm.Cond.not (Jvm.Cond.eq t (.int 0))).value args s none s [] = some true) : ¬ (x = (0 : Int32)) := gotF (Cond.eq_ints e (Term.int_eval 0)) (not_v h)
set_option maxRecDepth 65536 in
set_option maxHeartbeats 40000000 in
theorem comes_1 {Post : Tables → Env → Array Value → State → Outcome → State → Prop} (hpost : ∀ tb e args s v u, (limb_1_1.after args s (.returned v) u = true ∧ limb_1_2.after args s (.returned v) u = true ∧ True) → FrameEnd s (.returned v) u (Jvm.fieldLocs frame_1_writes args s ++ Jvm.arrayLocs frame_1_arrays args s ++ Jvm.staticLocs frame_1_statics s) 16 128 → Post tb e args s (.returned v) u) :
    ArmFor flags0 classFile x code maxLocals ret World_1 tables_1 room_1 Calls_1 rest_1 Pre_1 Post := by
  intro l hfl _ _ p e ha hc hk s m args below hf hA hF happ hP
  obtain ⟨hcalls, hrest, hpre⟩ := hP
  obtain ⟨-, -, -, hnamed, -, -, -, hat⟩ := (Spec.applies_iff hf).mp happ
  obtain ⟨hg, hn⟩ := and_e (Cond.before_iff.mp (show (Jvm.Cond.and given_1 narrow_1).before args s = true from hpre))
  obtain ⟨g1, g2⟩ := and_e hg
  obtain ⟨g3, g4⟩ := and_e g2
  obtain ⟨g5, g6⟩ := and_e g4
  obtain ⟨g7, g8⟩ := and_e g6
  obtain ⟨g9, g10⟩ := and_e g8
  obtain ⟨g11, g12⟩ := and_e g10
  obtain ⟨w0, w1, w2, w3, w4, w5, rfl⟩ : ∃ w0 w1 w2 w3 w4 w5 : Value, args = #[w0, w1, w2, w3, w4, w5] := by
    have hs : args.size = 6 := by simpa [Cond.value, given_1] using g1
    obtain ⟨L⟩ := args
    match L, hs with
    | [w0, w1, w2, w3, w4, w5], _ => exact ⟨w0, w1, w2, w3, w4, w5, rfl⟩
  have hw := fun d (hd : d ∈ tables_1) => atoms_spec (ws := Jvm.Cond.code x code maxLocals ret :: tables_1) hat d (List.mem_cons_of_mem _ hd)
  have hfit : Fit s := fun {y c} hc i hi => by
    obtain ⟨ha, rfl⟩ := Array.getElem?_eq_some_iff.mp hc
    have q := List.all_eq_true.mp ((Array.all_eq_true_iff_forall_mem.mp hF) _ (Array.getElem_mem ha)) i (List.mem_range.mpr hi)
    simpa [Array.getElem?_eq_getElem hi] using q
  obtain ⟨hsets, hown0⟩ := atoms_of _ (rest_1_c_eq ▸ (show rest_1_c.before _ s = true from hrest))
  have hr0 := Cond.before_iff.mp hown0
  obtain ⟨i0, ei0⟩ := is_v g3
  obtain rfl : w0 = (.int i0) := Option.some.inj ei0
  obtain ⟨i1, ei1⟩ := is_v g5
  obtain rfl : w1 = (.int i1) := Option.some.inj ei1
  obtain ⟨i2, ei2⟩ := is_v g7
  obtain rfl : w2 = (.int i2) := Option.some.inj ei2
  obtain ⟨i3, ei3⟩ := is_v g9
  obtain rfl : w3 = (.int i3) := Option.some.inj ei3
  obtain ⟨i4, ei4⟩ := is_v g11
  obtain rfl : w4 = (.int i4) := Option.some.inj ei4
  obtain ⟨i5, ei5⟩ := is_v g12
  obtain rfl : w5 = (.int i5) := Option.some.inj ei5
  obtain ⟨cs, ecs⟩ := is_v (Cond.before_iff.mp (hsets _ (List.mem_of_getElem? (i := 1) rfl)))
  have S_cs := Sta.start ecs (Or.inl (hsets _ (List.mem_of_getElem? (i := 0) rfl)))
  have hcs : ¬ (cs = (0 : Int32)) := own_not0 ecs (Cond.before_iff.mp (hsets _ (List.mem_of_getElem? (i := 2) rfl)))
  obtain ⟨vf, ef, hvf⟩ := isR_v (Cond.before_iff.mp (hsets _ (List.mem_of_getElem? (i := 8) rfl)))
  have S_f := Sta.start ef (Or.inl (hsets _ (List.mem_of_getElem? (i := 7) rfl)))
  have S_ad := Sta.start (eqv_i (Term.int_eval (1)) (Cond.before_iff.mp (hsets _ (List.mem_of_getElem? (i := 12) rfl)))) (Or.inl (hsets _ (List.mem_of_getElem? (i := 11) rfl)))
  have S_hi := Sta.start (eqv_i (Term.int_eval (0)) (Cond.before_iff.mp (hsets _ (List.mem_of_getElem? (i := 15) rfl)))) (Or.inl (hsets _ (List.mem_of_getElem? (i := 14) rfl)))
  have S_lo := Sta.start (eqv_i (Term.int_eval (8)) (Cond.before_iff.mp (hsets _ (List.mem_of_getElem? (i := 18) rfl)))) (Or.inl (hsets _ (List.mem_of_getElem? (i := 17) rfl)))
  obtain ⟨n, o, h1, h2, h3, _, L, rfl, ⟨rfl, N⟩, hq⟩ := rm0 l s _ hw tables_1 i0 i1 i2 i3 i4 i5 cs vf s.heap s.heap.size (Nat.le_refl _) S_cs hcs S_f hvf S_ad S_hi S_lo p e ha hc hk s m _ below hf ((Spec.applies_iff_loose hf).mp happ).1 ⟨rfl, State.Warmed39.refl s, rfl⟩ trivial
  refine ⟨n, _, h1, h2, h3, hpost _ _ _ _ _ _ ⟨Cond.after_iff.mpr rfl, Cond.after_iff.mpr (eq_i res_at (Term.int_eval (1)) rfl), trivial⟩ ⟨hq.1, hq.2.1, (hq.2.2.sift fun y hy => Or.inr (N y hy)).mono (by decide) (by decide)⟩⟩
theorem main_1_1 : Claimed_1_1 := comes_1 fun _ _ _ _ _ _ h hF => ⟨h.1, hF⟩
theorem main_1_2 : Claimed_1_2 := comes_1 fun _ _ _ _ _ _ h hF => ⟨h.2.1, hF⟩
end Jvm.Pilot.@@N@@
namespace Jvm.Pilot.@@N@@
open Jvm Jvm.ClassFile Sem Op Lib Jvm.Free Jvm.Stand Jvm.Pilot.@@N@@.Jvm.D
/-! MADE BY PROGRAM (witnessworld.py) out of the Statement's table words and the real class files: 22 classes; the members and pool entries that the words name. The judged class is class 1, her method 1. -/
namespace start1
open Jvm.ClassFile
def u (s : String) : CpInfo := .utf8 (stringToUtf16 s)
/-- a pool by its gaps: so many unusable entries, then the entry; so many at the end -/
def gap : Nat → List CpInfo → List CpInfo
  | 0, r => r
  | n + 1, r => .unusable :: gap n r
def poolList (es : List (Nat × CpInfo)) (last : Nat) : List CpInfo := es.foldr (fun e r => gap e.1 (e.2 :: r)) (gap last [])
def pool (es : List (Nat × CpInfo)) (last : Nat) : Array CpInfo := ⟨poolList es last⟩
def fileOf (pool : Array CpInfo) (this : Nat) (attrs : Array Attribute := #[]) (ms : Array MethodInfo := #[]) (fl : Nat := 33) (sup : Nat := 0) (ifs : Array Nat := #[]) (fds : Array FieldInfo := #[]) : ClassFile where
  minorVersion := 0
  majorVersion := 65
  constantPool := pool
  accessFlags := fl
  thisClass := this
  superClass := sup
  interfaces := ifs
  fields := fds
  methods := ms
  attributes := attrs
def plain (name : String) (sup : Option ClassId) : Class where
  name := name
  kind := .ordinary
  loader := none
  accessFlags := 33
  super := sup
  interfaces := #[]
  cf := none
  fields := #[]
  methods := #[]
  instanceTypes := #[]
  staticTypes := #[]
  resolved := #[]
  callSites := []
  init := .initialized
  statics := none
  mirror := none

def pool0 : Array CpInfo := pool [(5, u "<init>"), (0, u "()V"), (1, .class_ 10), (1, u "java/lang/Object")] 113

def k0c0 : Code := { maxStack := 0, maxLocals := 1, code := object_method_1_code, exceptionTable := #[], attributes := #[] }
def k0m0 : Method := { name := "<init>", desc := "()V", sig := { parameters := [], returnType := none }, accessFlags := 1, code := some k0c0 }
/-- java/lang/Object -/
def k0 : Class := { plain "java/lang/Object" none with
  accessFlags := 33
  interfaces := #[]
  cf := some (fileOf pool0 8 #[] #[{ accessFlags := 1, nameIndex := 5, descriptorIndex := 6, attributes := #[] }] 33 0 #[] #[])
  fields := #[]
  methods := #[k0m0]
  instanceTypes := #[]
  staticTypes := #[]
  resolved := Array.replicate 124 none
  statics := none }

def pool1 : Array CpInfo := pool [(2, .class_ 4), (1, u "java/lang/Object"), (0, u "<init>"), (0, u "()V"), (0, .methodref 8 9), (0, .class_ 10), (0, .nameAndType 11 12), (0, u "com/example/fides/fides/ledger/PositionHasOnlyAsciiDigitsPinLaw"), (0, u "draw"), (0, u "(I)C"), (0, .class_ 14), (0, u "java/lang/String"), (0, .methodref 13 16), (0, .nameAndType 5 17), (0, u "([C)V"), (0, .integer 2147483647), (0, .methodref 20 21), (0, .class_ 22), (0, .nameAndType 23 24), (0, u "java/lang/Math"), (0, u "min"), (0, u "(II)I"), (0, .methodref 20 26), (0, .nameAndType 27 24), (0, u "max"), (0, .methodref 8 29), (0, .nameAndType 30 31), (0, u "ok"), (0, u "(CIII)Z"), (0, .methodref 33 34), (0, .class_ 35), (0, .nameAndType 36 37), (0, u "com/example/fides/fides/ledger/Position"), (0, u "hasOnlyAsciiDigits"), (0, u "(Ljava/lang/String;II)Z"), (0, .integer 65535), (2, u "law"), (0, u "(IIIIII)Z")] 5

def k1m0 : Method := { name := "<init>", desc := "()V", sig := { parameters := [], returnType := none }, accessFlags := 1, code := none }
def k1c1 : Code := { maxStack := 4, maxLocals := 13, code := code, exceptionTable := #[], attributes := #[] }
def k1m1 : Method := { name := "law", desc := "(IIIIII)Z", sig := { parameters := [.int, .int, .int, .int, .int, .int], returnType := some .boolean }, accessFlags := 9, code := some k1c1 }
def k1c2 : Code := { maxStack := 3, maxLocals := 1, code := method_3_code, exceptionTable := #[], attributes := #[] }
def k1m2 : Method := { name := "draw", desc := "(I)C", sig := { parameters := [.int], returnType := some .char }, accessFlags := 10, code := some k1c2 }
def k1c3 : Code := { maxStack := 2, maxLocals := 4, code := method_4_code, exceptionTable := #[], attributes := #[] }
def k1m3 : Method := { name := "ok", desc := "(CIII)Z", sig := { parameters := [.char, .int, .int, .int], returnType := some .boolean }, accessFlags := 10, code := some k1c3 }
/-- com/example/fides/fides/ledger/PositionHasOnlyAsciiDigitsPinLaw -/
def k1 : Class := { plain "com/example/fides/fides/ledger/PositionHasOnlyAsciiDigitsPinLaw" (some 0) with
  accessFlags := 49
  interfaces := #[]
  cf := some (fileOf pool1 8 #[] #[{ accessFlags := 1, nameIndex := 5, descriptorIndex := 6, attributes := #[] }, { accessFlags := 9, nameIndex := 41, descriptorIndex := 42, attributes := #[] }, { accessFlags := 10, nameIndex := 11, descriptorIndex := 12, attributes := #[] }, { accessFlags := 10, nameIndex := 30, descriptorIndex := 31, attributes := #[] }] 49 2 #[] #[])
  fields := #[]
  methods := #[k1m0, k1m1, k1m2, k1m3]
  instanceTypes := #[]
  staticTypes := #[]
  resolved := Array.replicate 48 none
  statics := none }

def pool2 : Array CpInfo := pool [(1, .class_ 2), (0, u "java/io/Serializable"), (0, .class_ 4), (0, u "java/lang/Object")] 2

/-- java/io/Serializable -/
def k2 : Class := { plain "java/io/Serializable" (some 0) with
  accessFlags := 1537
  interfaces := #[]
  cf := some (fileOf pool2 1 #[] #[] 1537 3 #[] #[])
  fields := #[]
  methods := #[]
  instanceTypes := #[]
  staticTypes := #[]
  resolved := Array.replicate 7 none
  statics := none }

def pool3 : Array CpInfo := pool [(1, .class_ 2), (0, u "java/lang/Comparable"), (0, .class_ 4), (0, u "java/lang/Object")] 7

/-- java/lang/Comparable -/
def k3 : Class := { plain "java/lang/Comparable" (some 0) with
  accessFlags := 1537
  interfaces := #[]
  cf := some (fileOf pool3 1 #[] #[] 1537 3 #[] #[])
  fields := #[]
  methods := #[]
  instanceTypes := #[]
  staticTypes := #[]
  resolved := Array.replicate 12 none
  statics := none }

def pool4 : Array CpInfo := pool [(2, .class_ 4), (1, u "java/lang/CharSequence"), (42, .class_ 48), (0, u "java/lang/CharSequence$1CodePointIterator"), (10, .class_ 60), (0, u "java/lang/CharSequence$1CharIterator"), (5, .class_ 67), (0, u "java/lang/Object")] 63

/-- java/lang/CharSequence -/
def k4 : Class := { plain "java/lang/CharSequence" (some 0) with
  accessFlags := 1537
  interfaces := #[]
  cf := some (fileOf pool4 2 #[.nestMembers #[47, 59]] #[] 1537 66 #[] #[])
  fields := #[]
  methods := #[]
  instanceTypes := #[]
  staticTypes := #[]
  resolved := Array.replicate 131 none
  statics := none }

def pool5 : Array CpInfo := pool [(1, .class_ 2), (0, u "java/lang/constant/Constable"), (0, .class_ 4), (0, u "java/lang/Object")] 6

/-- java/lang/constant/Constable -/
def k5 : Class := { plain "java/lang/constant/Constable" (some 0) with
  accessFlags := 1537
  interfaces := #[]
  cf := some (fileOf pool5 1 #[] #[] 1537 3 #[] #[])
  fields := #[]
  methods := #[]
  instanceTypes := #[]
  staticTypes := #[]
  resolved := Array.replicate 11 none
  statics := none }

def pool6 : Array CpInfo := pool [(1, .class_ 2), (0, u "java/lang/constant/ConstantDesc"), (0, .class_ 4), (0, u "java/lang/Object")] 32

/-- java/lang/constant/ConstantDesc -/
def k6 : Class := { plain "java/lang/constant/ConstantDesc" (some 0) with
  accessFlags := 1537
  interfaces := #[]
  cf := some (fileOf pool6 1 #[] #[] 1537 3 #[] #[])
  fields := #[]
  methods := #[]
  instanceTypes := #[]
  staticTypes := #[]
  resolved := Array.replicate 37 none
  statics := none }

def pool7 : Array CpInfo := pool [(1, .methodref 2 3), (0, .class_ 4), (0, .nameAndType 5 6), (0, u "java/lang/Object"), (0, u "<init>"), (0, u "()V"), (2, .fieldref 10 11), (0, .class_ 12), (0, .nameAndType 13 14), (0, u "java/lang/String"), (0, u "value"), (0, u "[B"), (0, .fieldref 10 16), (0, .nameAndType 17 18), (0, u "coder"), (0, u "B"), (2, u "hash"), (0, u "I"), (2, u "hashIsZero"), (0, u "Z"), (0, .methodref 10 28), (0, .nameAndType 5 29), (0, u "([CIILjava/lang/Void;)V"), (8, .fieldref 10 39), (0, .nameAndType 40 26), (0, u "COMPACT_STRINGS"), (1, .class_ 44), (1, u "java/lang/StringUTF16"), (0, u "compress"), (1, .methodref 42 48), (0, .nameAndType 49 50), (0, u "coderFromArrayLen"), (0, u "([BI)B"), (56, .class_ 109), (1, u "java/lang/StringLatin1"), (32, u "()Z"), (34, .methodref 42 178), (0, .nameAndType 45 179), (0, u "([CII)[B"), (183, u "([BI)C"), (27, u "(II)V"), (35, u "(I)C"), (64, .methodref 10 493), (0, .nameAndType 494 142), (0, u "isLatin1"), (0, .methodref 107 496), (0, .nameAndType 497 363), (0, u "charAt"), (0, .methodref 42 496), (2, u "checkIndex"), (73, .class_ 576), (0, u "java/lang/CharSequence"), (22, u "CASE_INSENSITIVE_ORDER"), (0, u "Ljava/util/Comparator;"), (409, u "([C)V"), (42, .fieldref 1054 1055), (0, .class_ 1056), (0, .nameAndType 1057 1058), (0, u "jdk/internal/util/Preconditions"), (0, u "SIOOBE_FORMATTER"), (0, u "Ljava/util/function/BiFunction;"), (0, .methodref 1054 1060), (0, .nameAndType 501 1061), (0, u "(IILjava/util/function/BiFunction;)I"), (39, u "serialPersistentFields"), (0, u "[Ljava/io/ObjectStreamField;"), (0, .class_ 1104), (0, u "java/lang/String$CaseInsensitiveComparator"), (1, .class_ 1107), (0, u "java/io/Serializable"), (0, .class_ 1109), (0, u "java/lang/Comparable"), (0, .class_ 1111), (0, u "java/lang/constant/Constable"), (0, .class_ 1113), (0, u "java/lang/constant/ConstantDesc"), (2, u "serialVersionUID"), (0, u "J"), (3, u "REPL"), (0, u "C"), (2, u "LATIN1"), (1, u "UTF16")] 323

def k7m0 : Method := { name := "<init>", desc := "()V", sig := { parameters := [], returnType := none }, accessFlags := 1, code := none }
def k7c1 : Code := { maxStack := 5, maxLocals := 2, code := jdk_42_method_3_code, exceptionTable := #[], attributes := #[] }
def k7m1 : Method := { name := "<init>", desc := "([C)V", sig := { parameters := [(.array .char)], returnType := none }, accessFlags := 1, code := some k7c1 }
def k7c2 : Code := { maxStack := 2, maxLocals := 2, code := jdk_42_method_56_code, exceptionTable := #[], attributes := #[] }
def k7m2 : Method := { name := "charAt", desc := "(I)C", sig := { parameters := [.int], returnType := some .char }, accessFlags := 1, code := some k7c2 }
def k7c3 : Code := { maxStack := 4, maxLocals := 6, code := jdk_42_method_149_code, exceptionTable := #[], attributes := #[] }
def k7m3 : Method := { name := "<init>", desc := "([CIILjava/lang/Void;)V", sig := { parameters := [(.array .char), .int, .int, (.object "java/lang/Void")], returnType := none }, accessFlags := 2, code := some k7c3 }
def k7c4 : Code := { maxStack := 1, maxLocals := 1, code := jdk_42_method_154_code, exceptionTable := #[], attributes := #[] }
def k7m4 : Method := { name := "isLatin1", desc := "()Z", sig := { parameters := [], returnType := some .boolean }, accessFlags := 0, code := some k7c4 }
def k7c5 : Code := { maxStack := 3, maxLocals := 2, code := jdk_42_method_155_code, exceptionTable := #[], attributes := #[] }
def k7m5 : Method := { name := "checkIndex", desc := "(II)V", sig := { parameters := [.int, .int], returnType := none }, accessFlags := 8, code := some k7c5 }
/-- java/lang/String -/
def k7 : Class := { plain "java/lang/String" (some 0) with
  accessFlags := 49
  interfaces := #[2, 3, 4, 5, 6]
  cf := some (fileOf pool7 10 #[.nestMembers #[1103]] #[{ accessFlags := 1, nameIndex := 5, descriptorIndex := 6, attributes := #[] }, { accessFlags := 1, nameIndex := 5, descriptorIndex := 1010, attributes := #[] }, { accessFlags := 1, nameIndex := 497, descriptorIndex := 427, attributes := #[] }, { accessFlags := 2, nameIndex := 5, descriptorIndex := 29, attributes := #[] }, { accessFlags := 0, nameIndex := 494, descriptorIndex := 142, attributes := #[] }, { accessFlags := 8, nameIndex := 501, descriptorIndex := 391, attributes := #[] }] 49 2 #[1106, 1108, 575, 1110, 1112] #[{ accessFlags := 18, nameIndex := 13, descriptorIndex := 14, attributes := #[] }, { accessFlags := 18, nameIndex := 17, descriptorIndex := 18, attributes := #[] }, { accessFlags := 2, nameIndex := 21, descriptorIndex := 22, attributes := #[] }, { accessFlags := 2, nameIndex := 25, descriptorIndex := 26, attributes := #[] }, { accessFlags := 26, nameIndex := 1116, descriptorIndex := 1117, attributes := #[] }, { accessFlags := 24, nameIndex := 40, descriptorIndex := 26, attributes := #[] }, { accessFlags := 26, nameIndex := 1101, descriptorIndex := 1102, attributes := #[] }, { accessFlags := 26, nameIndex := 1121, descriptorIndex := 1122, attributes := #[] }, { accessFlags := 25, nameIndex := 599, descriptorIndex := 600, attributes := #[] }, { accessFlags := 24, nameIndex := 1125, descriptorIndex := 18, attributes := #[] }, { accessFlags := 24, nameIndex := 1127, descriptorIndex := 18, attributes := #[] }])
  fields := #[{ name := "value", type := (.array .byte), accessFlags := 18, slot := 0, constantValue := 0 }, { name := "coder", type := .byte, accessFlags := 18, slot := 1, constantValue := 0 }, { name := "hash", type := .int, accessFlags := 2, slot := 2, constantValue := 0 }, { name := "hashIsZero", type := .boolean, accessFlags := 2, slot := 3, constantValue := 0 }, { name := "serialVersionUID", type := .long, accessFlags := 26, slot := 0, constantValue := 0 }, { name := "COMPACT_STRINGS", type := .boolean, accessFlags := 24, slot := 1, constantValue := 0 }, { name := "serialPersistentFields", type := (.array (.object "java/io/ObjectStreamField")), accessFlags := 26, slot := 2, constantValue := 0 }, { name := "REPL", type := .char, accessFlags := 26, slot := 3, constantValue := 0 }, { name := "CASE_INSENSITIVE_ORDER", type := (.object "java/util/Comparator"), accessFlags := 25, slot := 4, constantValue := 0 }, { name := "LATIN1", type := .byte, accessFlags := 24, slot := 5, constantValue := 0 }, { name := "UTF16", type := .byte, accessFlags := 24, slot := 6, constantValue := 0 }]
  methods := #[k7m0, k7m1, k7m2, k7m3, k7m4, k7m5]
  instanceTypes := #[(.array .byte), .byte, .int, .boolean]
  staticTypes := #[.long, .boolean, (.array (.object "java/io/ObjectStreamField")), .char, (.object "java/util/Comparator"), .byte, .byte]
  resolved := Array.replicate 1451 none
  statics := some 0 }

def pool8 : Array CpInfo := pool [(3, .class_ 4), (0, u "java/lang/String"), (1, .class_ 8), (1, u "java/lang/Object"), (0, u "<init>"), (0, u "()V"), (0, .methodref 12 13), (0, .class_ 14), (0, .nameAndType 15 16), (0, u "java/lang/StringUTF16"), (0, u "newBytesLength"), (0, u "(I)I"), (3, .integer 1073741823), (23, .fieldref 12 45), (0, .nameAndType 46 47), (0, u "$assertionsDisabled"), (0, u "Z"), (0, .methodref 12 49), (0, .nameAndType 50 51), (0, u "length"), (0, u "([B)I"), (7, .fieldref 12 60), (0, .nameAndType 61 62), (0, u "HI_BYTE_SHIFT"), (0, u "I"), (0, .fieldref 12 64), (0, .nameAndType 65 62), (0, u "LO_BYTE_SHIFT"), (1, .methodref 12 68), (0, .nameAndType 69 70), (0, u "checkIndex"), (0, u "(I[B)V"), (0, .methodref 12 72), (0, .nameAndType 73 74), (0, u "getChar"), (0, u "([BI)C"), (32, .methodref 12 108), (0, .nameAndType 109 110), (0, u "newBytesFor"), (0, u "(I)[B"), (0, .methodref 12 112), (0, .nameAndType 113 114), (0, u "putChar"), (0, u "([BII)V"), (0, .methodref 12 116), (0, .nameAndType 117 118), (0, u "compress"), (0, u "([CI[BII)I"), (0, .methodref 12 120), (0, .nameAndType 121 122), (0, u "toBytes"), (0, u "([CII)[B"), (138, u "coderFromArrayLen"), (0, u "([BI)B"), (106, .class_ 371), (1, u "java/lang/StringUTF16$LinesSpliterator"), (20, u "charAt"), (21, .methodref 3 415), (0, .nameAndType 69 416), (0, u "(II)V"), (13, u "MAX_LENGTH"), (196, .class_ 628), (0, u "java/lang/StringUTF16$CodePointsSpliterator"), (0, .class_ 630), (0, u "java/lang/StringUTF16$CharsSpliterator")] 4

def k8m0 : Method := { name := "<init>", desc := "()V", sig := { parameters := [], returnType := none }, accessFlags := 0, code := none }
def k8c1 : Code := { maxStack := 1, maxLocals := 1, code := jdk_52_method_2_code, exceptionTable := #[], attributes := #[] }
def k8m1 : Method := { name := "newBytesFor", desc := "(I)[B", sig := { parameters := [.int], returnType := some (.array .byte) }, accessFlags := 9, code := some k8c1 }
def k8c2 : Code := { maxStack := 4, maxLocals := 1, code := jdk_52_method_3_code, exceptionTable := #[], attributes := #[] }
def k8m2 : Method := { name := "newBytesLength", desc := "(I)I", sig := { parameters := [.int], returnType := some .int }, accessFlags := 9, code := some k8c2 }
def k8c3 : Code := { maxStack := 4, maxLocals := 3, code := jdk_52_method_4_code, exceptionTable := #[], attributes := #[] }
def k8m3 : Method := { name := "putChar", desc := "([BII)V", sig := { parameters := [(.array .byte), .int, .int], returnType := none }, accessFlags := 8, code := some k8c3 }
def k8c4 : Code := { maxStack := 3, maxLocals := 2, code := jdk_52_method_5_code, exceptionTable := #[], attributes := #[] }
def k8m4 : Method := { name := "getChar", desc := "([BI)C", sig := { parameters := [(.array .byte), .int], returnType := some .char }, accessFlags := 8, code := some k8c4 }
def k8c5 : Code := { maxStack := 2, maxLocals := 1, code := jdk_52_method_6_code, exceptionTable := #[], attributes := #[] }
def k8m5 : Method := { name := "length", desc := "([B)I", sig := { parameters := [(.array .byte)], returnType := some .int }, accessFlags := 9, code := some k8c5 }
def k8c6 : Code := { maxStack := 4, maxLocals := 5, code := jdk_52_method_14_code, exceptionTable := #[], attributes := #[] }
def k8m6 : Method := { name := "toBytes", desc := "([CII)[B", sig := { parameters := [(.array .char), .int, .int], returnType := some (.array .byte) }, accessFlags := 9, code := some k8c6 }
def k8c7 : Code := { maxStack := 2, maxLocals := 2, code := jdk_52_method_15_code, exceptionTable := #[], attributes := #[] }
def k8m7 : Method := { name := "coderFromArrayLen", desc := "([BI)B", sig := { parameters := [(.array .byte), .int], returnType := some .byte }, accessFlags := 8, code := some k8c7 }
def k8c8 : Code := { maxStack := 5, maxLocals := 6, code := jdk_52_method_16_code, exceptionTable := #[], attributes := #[] }
def k8m8 : Method := { name := "compress", desc := "([CII)[B", sig := { parameters := [(.array .char), .int, .int], returnType := some (.array .byte) }, accessFlags := 9, code := some k8c8 }
def k8c9 : Code := { maxStack := 3, maxLocals := 7, code := jdk_52_method_21_code, exceptionTable := #[], attributes := #[] }
def k8m9 : Method := { name := "compress", desc := "([CI[BII)I", sig := { parameters := [(.array .char), .int, (.array .byte), .int, .int], returnType := some .int }, accessFlags := 9, code := some k8c9 }
def k8c10 : Code := { maxStack := 2, maxLocals := 2, code := jdk_52_method_83_code, exceptionTable := #[], attributes := #[] }
def k8m10 : Method := { name := "charAt", desc := "([BI)C", sig := { parameters := [(.array .byte), .int], returnType := some .char }, accessFlags := 9, code := some k8c10 }
def k8c11 : Code := { maxStack := 2, maxLocals := 2, code := jdk_52_method_91_code, exceptionTable := #[], attributes := #[] }
def k8m11 : Method := { name := "checkIndex", desc := "(I[B)V", sig := { parameters := [.int, (.array .byte)], returnType := none }, accessFlags := 9, code := some k8c11 }
/-- java/lang/StringUTF16 -/
def k8 : Class := { plain "java/lang/StringUTF16" (some 0) with
  accessFlags := 48
  interfaces := #[]
  cf := some (fileOf pool8 12 #[.nestMembers #[627, 629, 369]] #[{ accessFlags := 0, nameIndex := 9, descriptorIndex := 10, attributes := #[] }, { accessFlags := 9, nameIndex := 109, descriptorIndex := 110, attributes := #[] }, { accessFlags := 9, nameIndex := 15, descriptorIndex := 16, attributes := #[] }, { accessFlags := 8, nameIndex := 113, descriptorIndex := 114, attributes := #[] }, { accessFlags := 8, nameIndex := 73, descriptorIndex := 74, attributes := #[] }, { accessFlags := 9, nameIndex := 50, descriptorIndex := 51, attributes := #[] }, { accessFlags := 9, nameIndex := 121, descriptorIndex := 122, attributes := #[] }, { accessFlags := 8, nameIndex := 261, descriptorIndex := 262, attributes := #[] }, { accessFlags := 9, nameIndex := 117, descriptorIndex := 122, attributes := #[] }, { accessFlags := 9, nameIndex := 117, descriptorIndex := 118, attributes := #[] }, { accessFlags := 9, nameIndex := 392, descriptorIndex := 74, attributes := #[] }, { accessFlags := 9, nameIndex := 69, descriptorIndex := 70, attributes := #[] }] 48 6 #[] #[{ accessFlags := 26, nameIndex := 61, descriptorIndex := 62, attributes := #[] }, { accessFlags := 26, nameIndex := 65, descriptorIndex := 62, attributes := #[] }, { accessFlags := 24, nameIndex := 430, descriptorIndex := 62, attributes := #[] }, { accessFlags := 4120, nameIndex := 46, descriptorIndex := 47, attributes := #[] }])
  fields := #[{ name := "HI_BYTE_SHIFT", type := .int, accessFlags := 26, slot := 0, constantValue := 0 }, { name := "LO_BYTE_SHIFT", type := .int, accessFlags := 26, slot := 1, constantValue := 0 }, { name := "MAX_LENGTH", type := .int, accessFlags := 24, slot := 2, constantValue := 0 }, { name := "$assertionsDisabled", type := .boolean, accessFlags := 4120, slot := 3, constantValue := 0 }]
  methods := #[k8m0, k8m1, k8m2, k8m3, k8m4, k8m5, k8m6, k8m7, k8m8, k8m9, k8m10, k8m11]
  instanceTypes := #[]
  staticTypes := #[.int, .int, .int, .boolean]
  resolved := Array.replicate 635 none
  statics := some 1 }

def pool9 : Array CpInfo := pool [(1, .class_ 2), (0, u "java/lang/Math"), (1, .class_ 6), (1, u "java/lang/Object"), (0, u "<init>"), (0, u "()V"), (89, .class_ 100), (1, u "java/lang/Math$RandomNumberGeneratorHolder"), (71, u "negativeZeroFloatBits"), (0, u "J"), (2, u "negativeZeroDoubleBits"), (21, u "max"), (2, u "min"), (43, u "$assertionsDisabled"), (0, u "Z"), (88, u "(II)I"), (2, u "twoToTheDoubleScaleDown"), (0, u "D"), (4, u "twoToTheDoubleScaleUp"), (9, u "E"), (3, u "PI"), (2, u "TAU"), (2, u "DEGREES_TO_RADIANS"), (0, u "RADIANS_TO_DEGREES")] 94

def k9m0 : Method := { name := "<init>", desc := "()V", sig := { parameters := [], returnType := none }, accessFlags := 2, code := none }
def k9c1 : Code := { maxStack := 2, maxLocals := 2, code := jdk_29_method_65_code, exceptionTable := #[], attributes := #[] }
def k9m1 : Method := { name := "max", desc := "(II)I", sig := { parameters := [.int, .int], returnType := some .int }, accessFlags := 9, code := some k9c1 }
def k9c2 : Code := { maxStack := 2, maxLocals := 2, code := jdk_29_method_69_code, exceptionTable := #[], attributes := #[] }
def k9m2 : Method := { name := "min", desc := "(II)I", sig := { parameters := [.int, .int], returnType := some .int }, accessFlags := 9, code := some k9c2 }
/-- java/lang/Math -/
def k9 : Class := { plain "java/lang/Math" (some 0) with
  accessFlags := 49
  interfaces := #[]
  cf := some (fileOf pool9 1 #[.nestMembers #[98]] #[{ accessFlags := 2, nameIndex := 7, descriptorIndex := 8, attributes := #[] }, { accessFlags := 9, nameIndex := 198, descriptorIndex := 335, attributes := #[] }, { accessFlags := 9, nameIndex := 201, descriptorIndex := 335, attributes := #[] }] 49 4 #[] #[{ accessFlags := 25, nameIndex := 354, descriptorIndex := 339, attributes := #[] }, { accessFlags := 25, nameIndex := 358, descriptorIndex := 339, attributes := #[] }, { accessFlags := 25, nameIndex := 361, descriptorIndex := 339, attributes := #[] }, { accessFlags := 26, nameIndex := 364, descriptorIndex := 339, attributes := #[] }, { accessFlags := 26, nameIndex := 365, descriptorIndex := 339, attributes := #[] }, { accessFlags := 26, nameIndex := 172, descriptorIndex := 173, attributes := #[] }, { accessFlags := 26, nameIndex := 176, descriptorIndex := 173, attributes := #[] }, { accessFlags := 8, nameIndex := 344, descriptorIndex := 339, attributes := #[] }, { accessFlags := 8, nameIndex := 338, descriptorIndex := 339, attributes := #[] }, { accessFlags := 4120, nameIndex := 245, descriptorIndex := 246, attributes := #[] }])
  fields := #[{ name := "E", type := .double, accessFlags := 25, slot := 0, constantValue := 0 }, { name := "PI", type := .double, accessFlags := 25, slot := 1, constantValue := 0 }, { name := "TAU", type := .double, accessFlags := 25, slot := 2, constantValue := 0 }, { name := "DEGREES_TO_RADIANS", type := .double, accessFlags := 26, slot := 3, constantValue := 0 }, { name := "RADIANS_TO_DEGREES", type := .double, accessFlags := 26, slot := 4, constantValue := 0 }, { name := "negativeZeroFloatBits", type := .long, accessFlags := 26, slot := 5, constantValue := 0 }, { name := "negativeZeroDoubleBits", type := .long, accessFlags := 26, slot := 6, constantValue := 0 }, { name := "twoToTheDoubleScaleUp", type := .double, accessFlags := 8, slot := 7, constantValue := 0 }, { name := "twoToTheDoubleScaleDown", type := .double, accessFlags := 8, slot := 8, constantValue := 0 }, { name := "$assertionsDisabled", type := .boolean, accessFlags := 4120, slot := 9, constantValue := 0 }]
  methods := #[k9m0, k9m1, k9m2]
  instanceTypes := #[]
  staticTypes := #[.double, .double, .double, .double, .double, .long, .long, .double, .double, .boolean]
  resolved := Array.replicate 460 none
  statics := none }

def pool10 : Array CpInfo := pool [(2, .class_ 4), (1, u "java/lang/Object"), (0, u "<init>"), (0, u "()V"), (0, .class_ 8), (0, u "java/lang/Record")] 13

def k10m0 : Method := { name := "<init>", desc := "()V", sig := { parameters := [], returnType := none }, accessFlags := 4, code := none }
/-- java/lang/Record -/
def k10 : Class := { plain "java/lang/Record" (some 0) with
  accessFlags := 1057
  interfaces := #[]
  cf := some (fileOf pool10 7 #[] #[{ accessFlags := 4, nameIndex := 5, descriptorIndex := 6, attributes := #[] }] 1057 2 #[] #[])
  fields := #[]
  methods := #[k10m0]
  instanceTypes := #[]
  staticTypes := #[]
  resolved := Array.replicate 22 none
  statics := none }

def pool11 : Array CpInfo := pool [(2, .class_ 4), (1, u "java/lang/Record"), (12, .class_ 19), (1, u "com/example/fides/fides/ledger/Position"), (0, u "ledgerId"), (0, u "J"), (2, u "entryId"), (1, .class_ 28), (1, u "java/lang/String"), (4, u "hasOnlyAsciiDigits"), (0, u "(Ljava/lang/String;II)Z"), (24, u "LOG_ORDER"), (0, u "Ljava/util/Comparator;"), (7, .methodref 26 69), (0, .nameAndType 70 71), (0, u "charAt"), (0, u "(I)C"), (25, .class_ 98), (0, u "java/lang/Comparable")] 65

def k11c0 : Code := { maxStack := 2, maxLocals := 5, code := prog_28_method_5_code, exceptionTable := #[], attributes := #[] }
def k11m0 : Method := { name := "hasOnlyAsciiDigits", desc := "(Ljava/lang/String;II)Z", sig := { parameters := [(.object "java/lang/String"), .int, .int], returnType := some .boolean }, accessFlags := 8, code := some k11c0 }
/-- com/example/fides/fides/ledger/Position -/
def k11 : Class := { plain "com/example/fides/fides/ledger/Position" (some 10) with
  accessFlags := 49
  interfaces := #[3]
  cf := some (fileOf pool11 17 #[] #[{ accessFlags := 8, nameIndex := 33, descriptorIndex := 34, attributes := #[] }] 49 2 #[97] #[{ accessFlags := 18, nameIndex := 20, descriptorIndex := 21, attributes := #[] }, { accessFlags := 18, nameIndex := 24, descriptorIndex := 21, attributes := #[] }, { accessFlags := 26, nameIndex := 59, descriptorIndex := 60, attributes := #[] }])
  fields := #[{ name := "ledgerId", type := .long, accessFlags := 18, slot := 0, constantValue := 0 }, { name := "entryId", type := .long, accessFlags := 18, slot := 1, constantValue := 0 }, { name := "LOG_ORDER", type := (.object "java/util/Comparator"), accessFlags := 26, slot := 0, constantValue := 0 }]
  methods := #[k11m0]
  instanceTypes := #[.long, .long]
  staticTypes := #[(.object "java/util/Comparator")]
  resolved := Array.replicate 164 none
  statics := none }

def pool12 : Array CpInfo := pool [(1, .class_ 2), (0, u "java/lang/String"), (1, .class_ 6), (1, u "java/lang/Object"), (0, u "<init>"), (0, u "()V"), (0, .methodref 1 10), (0, .nameAndType 11 12), (0, u "checkIndex"), (0, u "(II)V"), (1, .class_ 16), (1, u "java/lang/StringLatin1"), (36, u "([BI)C"), (67, u "$assertionsDisabled"), (0, u "Z"), (98, .class_ 223), (1, u "java/lang/StringLatin1$LinesSpliterator"), (28, u "charAt"), (137, .class_ 391), (0, u "java/lang/StringLatin1$CharsSpliterator")] 3

def k12m0 : Method := { name := "<init>", desc := "()V", sig := { parameters := [], returnType := none }, accessFlags := 0, code := none }
def k12c1 : Code := { maxStack := 2, maxLocals := 2, code := jdk_43_method_2_code, exceptionTable := #[], attributes := #[] }
def k12m1 : Method := { name := "charAt", desc := "([BI)C", sig := { parameters := [(.array .byte), .int], returnType := some .char }, accessFlags := 9, code := some k12c1 }
/-- java/lang/StringLatin1 -/
def k12 : Class := { plain "java/lang/StringLatin1" (some 0) with
  accessFlags := 48
  interfaces := #[]
  cf := some (fileOf pool12 14 #[.nestMembers #[390, 221]] #[{ accessFlags := 0, nameIndex := 7, descriptorIndex := 8, attributes := #[] }, { accessFlags := 9, nameIndex := 252, descriptorIndex := 53, attributes := #[] }] 48 4 #[] #[{ accessFlags := 4120, nameIndex := 121, descriptorIndex := 122, attributes := #[] }])
  fields := #[{ name := "$assertionsDisabled", type := .boolean, accessFlags := 4120, slot := 0, constantValue := 0 }]
  methods := #[k12m0, k12m1]
  instanceTypes := #[]
  staticTypes := #[.boolean]
  resolved := Array.replicate 395 none
  statics := none }

def pool13 : Array CpInfo := pool [(2, .class_ 4), (1, u "java/lang/Object"), (0, u "<init>"), (0, u "()V"), (17, .class_ 26), (1, u "jdk/internal/util/Preconditions"), (6, u "checkIndex"), (21, .class_ 56), (0, u "jdk/internal/util/Preconditions$4"), (57, .class_ 115), (0, u "jdk/internal/util/Preconditions$1"), (7, u "SIOOBE_FORMATTER"), (0, u "Ljava/util/function/BiFunction;"), (0, .class_ 126), (0, u "jdk/internal/util/Preconditions$2"), (3, u "AIOOBE_FORMATTER"), (0, .class_ 132), (0, u "jdk/internal/util/Preconditions$3"), (3, u "IOOBE_FORMATTER"), (41, u "(IILjava/util/function/BiFunction;)I")] 15

def k13m0 : Method := { name := "<init>", desc := "()V", sig := { parameters := [], returnType := none }, accessFlags := 1, code := none }
def k13c1 : Code := { maxStack := 3, maxLocals := 3, code := jdk_41_method_11_code, exceptionTable := #[], attributes := #[] }
def k13m1 : Method := { name := "checkIndex", desc := "(IILjava/util/function/BiFunction;)I", sig := { parameters := [.int, .int, (.object "java/util/function/BiFunction")], returnType := some .int }, accessFlags := 9, code := some k13c1 }
/-- jdk/internal/util/Preconditions -/
def k13 : Class := { plain "jdk/internal/util/Preconditions" (some 0) with
  accessFlags := 33
  interfaces := #[]
  cf := some (fileOf pool13 24 #[.nestMembers #[55, 131, 125, 114]] #[{ accessFlags := 1, nameIndex := 5, descriptorIndex := 6, attributes := #[] }, { accessFlags := 9, nameIndex := 33, descriptorIndex := 178, attributes := #[] }] 33 2 #[] #[{ accessFlags := 25, nameIndex := 123, descriptorIndex := 124, attributes := #[] }, { accessFlags := 25, nameIndex := 130, descriptorIndex := 124, attributes := #[] }, { accessFlags := 25, nameIndex := 136, descriptorIndex := 124, attributes := #[] }])
  fields := #[{ name := "SIOOBE_FORMATTER", type := (.object "java/util/function/BiFunction"), accessFlags := 25, slot := 0, constantValue := 0 }, { name := "AIOOBE_FORMATTER", type := (.object "java/util/function/BiFunction"), accessFlags := 25, slot := 1, constantValue := 0 }, { name := "IOOBE_FORMATTER", type := (.object "java/util/function/BiFunction"), accessFlags := 25, slot := 2, constantValue := 0 }]
  methods := #[k13m0, k13m1]
  instanceTypes := #[]
  staticTypes := #[(.object "java/util/function/BiFunction"), (.object "java/util/function/BiFunction"), (.object "java/util/function/BiFunction")]
  resolved := Array.replicate 194 none
  statics := some 2 }

def pool14 : Array CpInfo := pool [(9, u "<init>"), (6, .class_ 18), (1, u "java/lang/Object"), (0, u "()V"), (1, .class_ 23), (1, u "jdk/internal/util/ArraysSupport"), (0, u "LOG2_ARRAY_LONG_INDEX_SCALE"), (0, u "I"), (2, u "U"), (0, u "Ljdk/internal/misc/Unsafe;"), (8, u "BIG_ENDIAN"), (0, u "Z"), (8, u "LOG2_BYTE_BIT_SIZE"), (4, u "LOG2_ARRAY_INT_INDEX_SCALE"), (54, u "JLA"), (0, u "Ljdk/internal/access/JavaLangAccess;"), (11, u "LOG2_ARRAY_BOOLEAN_INDEX_SCALE"), (9, u "LOG2_ARRAY_BYTE_INDEX_SCALE"), (5, u "LOG2_ARRAY_CHAR_INDEX_SCALE"), (5, u "LOG2_ARRAY_SHORT_INDEX_SCALE"), (18, u "LOG2_ARRAY_FLOAT_INDEX_SCALE"), (24, u "LOG2_ARRAY_DOUBLE_INDEX_SCALE"), (89, u "T_BOOLEAN"), (2, u "T_CHAR"), (1, u "T_FLOAT"), (1, u "T_DOUBLE"), (1, u "T_BYTE"), (1, u "T_SHORT"), (1, u "T_INT"), (1, u "T_LONG"), (1, u "SOFT_MAX_ARRAY_LENGTH")] 83

def k14m0 : Method := { name := "<init>", desc := "()V", sig := { parameters := [], returnType := none }, accessFlags := 2, code := none }
/-- jdk/internal/util/ArraysSupport -/
def k14 : Class := { plain "jdk/internal/util/ArraysSupport" (some 0) with
  accessFlags := 33
  interfaces := #[]
  cf := some (fileOf pool14 21 #[] #[{ accessFlags := 2, nameIndex := 9, descriptorIndex := 19, attributes := #[] }] 33 16 #[] #[{ accessFlags := 24, nameIndex := 28, descriptorIndex := 29, attributes := #[] }, { accessFlags := 26, nameIndex := 38, descriptorIndex := 39, attributes := #[] }, { accessFlags := 25, nameIndex := 121, descriptorIndex := 25, attributes := #[] }, { accessFlags := 25, nameIndex := 131, descriptorIndex := 25, attributes := #[] }, { accessFlags := 25, nameIndex := 137, descriptorIndex := 25, attributes := #[] }, { accessFlags := 25, nameIndex := 143, descriptorIndex := 25, attributes := #[] }, { accessFlags := 25, nameIndex := 53, descriptorIndex := 25, attributes := #[] }, { accessFlags := 25, nameIndex := 24, descriptorIndex := 25, attributes := #[] }, { accessFlags := 25, nameIndex := 162, descriptorIndex := 25, attributes := #[] }, { accessFlags := 25, nameIndex := 187, descriptorIndex := 25, attributes := #[] }, { accessFlags := 26, nameIndex := 48, descriptorIndex := 25, attributes := #[] }, { accessFlags := 25, nameIndex := 277, descriptorIndex := 25, attributes := #[] }, { accessFlags := 25, nameIndex := 280, descriptorIndex := 25, attributes := #[] }, { accessFlags := 25, nameIndex := 282, descriptorIndex := 25, attributes := #[] }, { accessFlags := 25, nameIndex := 284, descriptorIndex := 25, attributes := #[] }, { accessFlags := 25, nameIndex := 286, descriptorIndex := 25, attributes := #[] }, { accessFlags := 25, nameIndex := 288, descriptorIndex := 25, attributes := #[] }, { accessFlags := 25, nameIndex := 290, descriptorIndex := 25, attributes := #[] }, { accessFlags := 25, nameIndex := 292, descriptorIndex := 25, attributes := #[] }, { accessFlags := 26, nameIndex := 108, descriptorIndex := 109, attributes := #[] }, { accessFlags := 25, nameIndex := 294, descriptorIndex := 25, attributes := #[] }])
  fields := #[{ name := "U", type := (.object "jdk/internal/misc/Unsafe"), accessFlags := 24, slot := 0, constantValue := 0 }, { name := "BIG_ENDIAN", type := .boolean, accessFlags := 26, slot := 1, constantValue := 0 }, { name := "LOG2_ARRAY_BOOLEAN_INDEX_SCALE", type := .int, accessFlags := 25, slot := 2, constantValue := 0 }, { name := "LOG2_ARRAY_BYTE_INDEX_SCALE", type := .int, accessFlags := 25, slot := 3, constantValue := 0 }, { name := "LOG2_ARRAY_CHAR_INDEX_SCALE", type := .int, accessFlags := 25, slot := 4, constantValue := 0 }, { name := "LOG2_ARRAY_SHORT_INDEX_SCALE", type := .int, accessFlags := 25, slot := 5, constantValue := 0 }, { name := "LOG2_ARRAY_INT_INDEX_SCALE", type := .int, accessFlags := 25, slot := 6, constantValue := 0 }, { name := "LOG2_ARRAY_LONG_INDEX_SCALE", type := .int, accessFlags := 25, slot := 7, constantValue := 0 }, { name := "LOG2_ARRAY_FLOAT_INDEX_SCALE", type := .int, accessFlags := 25, slot := 8, constantValue := 0 }, { name := "LOG2_ARRAY_DOUBLE_INDEX_SCALE", type := .int, accessFlags := 25, slot := 9, constantValue := 0 }, { name := "LOG2_BYTE_BIT_SIZE", type := .int, accessFlags := 26, slot := 10, constantValue := 0 }, { name := "T_BOOLEAN", type := .int, accessFlags := 25, slot := 11, constantValue := 0 }, { name := "T_CHAR", type := .int, accessFlags := 25, slot := 12, constantValue := 0 }, { name := "T_FLOAT", type := .int, accessFlags := 25, slot := 13, constantValue := 0 }, { name := "T_DOUBLE", type := .int, accessFlags := 25, slot := 14, constantValue := 0 }, { name := "T_BYTE", type := .int, accessFlags := 25, slot := 15, constantValue := 0 }, { name := "T_SHORT", type := .int, accessFlags := 25, slot := 16, constantValue := 0 }, { name := "T_INT", type := .int, accessFlags := 25, slot := 17, constantValue := 0 }, { name := "T_LONG", type := .int, accessFlags := 25, slot := 18, constantValue := 0 }, { name := "JLA", type := (.object "jdk/internal/access/JavaLangAccess"), accessFlags := 26, slot := 19, constantValue := 0 }, { name := "SOFT_MAX_ARRAY_LENGTH", type := .int, accessFlags := 25, slot := 20, constantValue := 0 }]
  methods := #[k14m0]
  instanceTypes := #[]
  staticTypes := #[(.object "jdk/internal/misc/Unsafe"), .boolean, .int, .int, .int, .int, .int, .int, .int, .int, .int, .int, .int, .int, .int, .int, .int, .int, .int, (.object "jdk/internal/access/JavaLangAccess"), .int]
  resolved := Array.replicate 378 none
  statics := none }

def pool15 : Array CpInfo := pool [(1, u "java/lang/Cloneable"), (0, .class_ 1), (0, u "java/lang/Object"), (0, .class_ 3)] 3

/-- java/lang/Cloneable -/
def k15 : Class := { plain "java/lang/Cloneable" (some 0) with
  accessFlags := 1537
  interfaces := #[]
  cf := some (fileOf pool15 2 #[] #[] 1537 4 #[] #[])
  fields := #[]
  methods := #[]
  instanceTypes := #[]
  staticTypes := #[]
  resolved := Array.replicate 8 none
  statics := none }

/-- the primitive byte -/
def k16 : Class := { plain "byte" none with kind := .primitive 'B', accessFlags := 0x411 }
/-- [B -/
def k17 : Class := { plain "[B" (some 0) with kind := .array 16 .byte, interfaces := #[15, 2], accessFlags := 1041 }

/-- the primitive char -/
def k18 : Class := { plain "char" none with kind := .primitive 'C', accessFlags := 0x411 }
/-- [C -/
def k19 : Class := { plain "[C" (some 0) with kind := .array 18 .char, interfaces := #[15, 2], accessFlags := 1041 }

/-- the primitive int -/
def k20 : Class := { plain "int" none with kind := .primitive 'I', accessFlags := 0x411 }
/-- [I -/
def k21 : Class := { plain "[I" (some 0) with kind := .array 20 .int, interfaces := #[15, 2], accessFlags := 1041 }

def heap : Heap := #[{ cls := 7, slots := #[.long 0, .int 1, .null, .int 0, .null, .int 0, .int 0], vm := .statics 7 },
  { cls := 8, slots := #[.int 0, .int 8, .int 0, .int 1], vm := .statics 8 },
  { cls := 13, slots := #[.null, .null, .null], vm := .statics 13 }]
def classes : Array Class := #[k0, k1, k2, k3, k4, k5, k6, k7, k8, k9, k10, k11, k12, k13, k14, k15, k16, k17, k18, k19, k20, k21]
def interned : List (Array UInt16 × Addr) := []
def slotsUsed : Nat := 14
def theMethod : MethodId := ⟨1, 1⟩
def args0 : Array Value := #[.int 5, .int 5, .int 5, .int 5, .int 5, .int 5]
def aboutOver (below : List Frame) : State where
  vm := { classes := classes, interned := interned.toArray }
  heap := heap
  slotsUsed := slotsUsed
  threads := #[{ frames := .invoking theMethod args0 :: below }]
def below0 : List Frame := [.native { method := ⟨0, 0⟩, args := #[] }]
def about1 : State := aboutOver below0
def p0 : Program := .bare "" "" ""
def e0 : Env := launch0.env 0 0 0
theorem w_frames : about1.frames = Frame.invoking theMethod args0 :: below0 := rfl
set_option maxRecDepth 65536 in
theorem w_args : argsFit about1.vm theMethod args0 = true := by decide +kernel
set_option maxRecDepth 65536 in
theorem w_heap : heapFits about1 = true := by decide +kernel
set_option maxRecDepth 65536 in
theorem w_runnable : about1.curStatus? = some .runnable := by decide +kernel
set_option maxRecDepth 65536 in
theorem w_alone : about1.alone = true := by decide +kernel
set_option maxRecDepth 65536 in
theorem w_named : about1.methodNamed? x = some theMethod := by decide +kernel
set_option maxRecDepth 65536 in
theorem w_hears : about1.hears theMethod below0 = true := by decide +kernel
set_option maxRecDepth 65536 in
theorem w_ripe : about1.ripe theMethod args0 below0 = true := by decide +kernel
theorem w_running : about1.status = .running := rfl
set_option maxRecDepth 65536 in
theorem w_room : about1.hasRoom e0.platform room_1 = true :=
  launch0.hasRoom_least _ room_1 (by decide +kernel) (by decide +kernel) (by decide +kernel) (by decide +kernel) (by decide +kernel) (by decide +kernel)
theorem allAtoms_all (ts : List Jvm.Cond) (a : Array Jvm.Value) (st : Jvm.State) : (allAtoms ts).before a st = ts.all (fun c => c.before a st) := by
  induction ts with
  | nil => rfl
  | cons c t ih =>
    show (Jvm.Cond.and c (allAtoms t)).before a st = _
    rw [Jvm.Cond.before_and, ih, List.all_cons]
def words1 : List Jvm.Cond := Jvm.Cond.code x code maxLocals ret :: tables_1
/-- a 'code' word, met by the world's own term for the bytes: nothing is compared byte by byte -/
theorem code_word {y : MethodName} {bytes : ByteArray} {mx : Nat} {rt : Option FieldType} {a : Array Value} {s : State} {m : MethodId} {meth : Method} {c : Code} (h1 : s.methodNamed? y = some m) (h2 : s.vm.method? m = some meth) (h3 : meth.code = some c) (h4 : c.code = bytes)
    (h5 : (c.maxLocals == mx && c.exceptionTable.isEmpty && decide (c.maxStack ≤ mostOperands) && decide (meth.sig.returnType = rt) && !meth.locks && decide (parseMethodDescriptor y.desc = some meth.sig)) = true) : (Jvm.Cond.code y bytes mx rt).before a s = true := by
  simp only [Bool.and_eq_true, beq_iff_eq, Bool.not_eq_true', decide_eq_true_eq] at h5
  obtain ⟨⟨⟨⟨⟨g1, g2⟩, g3⟩, g4⟩, g5⟩, g6⟩ := h5
  simp [Cond.before, Cond.holds, Cond.value, h1, h2, h3, h4, g1, g2, g3, g4, g5, g6]
def isCode : Jvm.Cond → Bool
  | .code _ _ _ _ => true
  | _ => false
theorem all_split {L : List Jvm.Cond} {P : Jvm.Cond → Bool} (h1 : L.all (fun c => isCode c || P c) = true) (h2 : ∀ c ∈ L.filter isCode, P c = true) : L.all P = true := by
  refine List.all_eq_true.mpr fun c hc => ?_
  have h := List.all_eq_true.mp h1 c hc
  rcases Bool.eq_false_or_eq_true (isCode c) with hi | hi
  · exact h2 c (List.mem_filter.mpr ⟨hc, hi⟩)
  · simpa [hi] using h
set_option maxRecDepth 65536 in
theorem w_c0 : (Jvm.Cond.code x code maxLocals ret).before args0 about1 = true := code_word (m := ⟨1, 1⟩) (meth := k1m1) (c := k1c1) (by decide +kernel) rfl rfl rfl (by decide +kernel)
set_option maxRecDepth 65536 in
theorem w_c1 : (Jvm.Cond.code ({ cls := "com/example/fides/fides/ledger/PositionHasOnlyAsciiDigitsPinLaw", name := "draw", desc := "(I)C" } : Jvm.MethodName) method_3_code (1 : Nat) (Option.some Jvm.ClassFile.FieldType.char)).before args0 about1 = true := code_word (m := ⟨1, 2⟩) (meth := k1m2) (c := k1c2) (by decide +kernel) rfl rfl rfl (by decide +kernel)
set_option maxRecDepth 65536 in
theorem w_c2 : (Jvm.Cond.code ({ cls := "java/lang/String", name := "<init>", desc := "([C)V" } : Jvm.MethodName) jdk_42_method_3_code (2 : Nat) (Option.none : Option Jvm.ClassFile.FieldType)).before args0 about1 = true := code_word (m := ⟨7, 1⟩) (meth := k7m1) (c := k7c1) (by decide +kernel) rfl rfl rfl (by decide +kernel)
set_option maxRecDepth 65536 in
theorem w_c3 : (Jvm.Cond.code ({ cls := "java/lang/String", name := "<init>", desc := "([CIILjava/lang/Void;)V" } : Jvm.MethodName) jdk_42_method_149_code (6 : Nat) (Option.none : Option Jvm.ClassFile.FieldType)).before args0 about1 = true := code_word (m := ⟨7, 3⟩) (meth := k7m3) (c := k7c3) (by decide +kernel) rfl rfl rfl (by decide +kernel)
set_option maxRecDepth 65536 in
theorem w_c4 : (Jvm.Cond.code ({ cls := "java/lang/Object", name := "<init>", desc := "()V" } : Jvm.MethodName) object_method_1_code (1 : Nat) (Option.none : Option Jvm.ClassFile.FieldType)).before args0 about1 = true := code_word (m := ⟨0, 0⟩) (meth := k0m0) (c := k0c0) (by decide +kernel) rfl rfl rfl (by decide +kernel)
set_option maxRecDepth 65536 in
theorem w_c5 : (Jvm.Cond.code ({ cls := "java/lang/StringUTF16", name := "compress", desc := "([CII)[B" } : Jvm.MethodName) jdk_52_method_16_code (6 : Nat) (Option.some (Jvm.ClassFile.FieldType.array Jvm.ClassFile.FieldType.byte))).before args0 about1 = true := code_word (m := ⟨8, 8⟩) (meth := k8m8) (c := k8c8) (by decide +kernel) rfl rfl rfl (by decide +kernel)
set_option maxRecDepth 65536 in
theorem w_c6 : (Jvm.Cond.code ({ cls := "java/lang/StringUTF16", name := "compress", desc := "([CI[BII)I" } : Jvm.MethodName) jdk_52_method_21_code (7 : Nat) (Option.some Jvm.ClassFile.FieldType.int)).before args0 about1 = true := code_word (m := ⟨8, 9⟩) (meth := k8m9) (c := k8c9) (by decide +kernel) rfl rfl rfl (by decide +kernel)
set_option maxRecDepth 65536 in
theorem w_c7 : (Jvm.Cond.code ({ cls := "java/lang/StringUTF16", name := "coderFromArrayLen", desc := "([BI)B" } : Jvm.MethodName) jdk_52_method_15_code (2 : Nat) (Option.some Jvm.ClassFile.FieldType.byte)).before args0 about1 = true := code_word (m := ⟨8, 7⟩) (meth := k8m7) (c := k8c7) (by decide +kernel) rfl rfl rfl (by decide +kernel)
set_option maxRecDepth 65536 in
theorem w_c8 : (Jvm.Cond.code ({ cls := "java/lang/Math", name := "min", desc := "(II)I" } : Jvm.MethodName) jdk_29_method_69_code (2 : Nat) (Option.some Jvm.ClassFile.FieldType.int)).before args0 about1 = true := code_word (m := ⟨9, 2⟩) (meth := k9m2) (c := k9c2) (by decide +kernel) rfl rfl rfl (by decide +kernel)
set_option maxRecDepth 65536 in
theorem w_c9 : (Jvm.Cond.code ({ cls := "java/lang/Math", name := "max", desc := "(II)I" } : Jvm.MethodName) jdk_29_method_65_code (2 : Nat) (Option.some Jvm.ClassFile.FieldType.int)).before args0 about1 = true := code_word (m := ⟨9, 1⟩) (meth := k9m1) (c := k9c1) (by decide +kernel) rfl rfl rfl (by decide +kernel)
set_option maxRecDepth 65536 in
theorem w_c10 : (Jvm.Cond.code ({ cls := "com/example/fides/fides/ledger/PositionHasOnlyAsciiDigitsPinLaw", name := "ok", desc := "(CIII)Z" } : Jvm.MethodName) method_4_code (4 : Nat) (Option.some Jvm.ClassFile.FieldType.boolean)).before args0 about1 = true := code_word (m := ⟨1, 3⟩) (meth := k1m3) (c := k1c3) (by decide +kernel) rfl rfl rfl (by decide +kernel)
set_option maxRecDepth 65536 in
theorem w_c11 : (Jvm.Cond.code ({ cls := "com/example/fides/fides/ledger/Position", name := "hasOnlyAsciiDigits", desc := "(Ljava/lang/String;II)Z" } : Jvm.MethodName) prog_28_method_5_code (5 : Nat) (Option.some Jvm.ClassFile.FieldType.boolean)).before args0 about1 = true := code_word (m := ⟨11, 0⟩) (meth := k11m0) (c := k11c0) (by decide +kernel) rfl rfl rfl (by decide +kernel)
set_option maxRecDepth 65536 in
theorem w_c12 : (Jvm.Cond.code ({ cls := "java/lang/String", name := "charAt", desc := "(I)C" } : Jvm.MethodName) jdk_42_method_56_code (2 : Nat) (Option.some Jvm.ClassFile.FieldType.char)).before args0 about1 = true := code_word (m := ⟨7, 2⟩) (meth := k7m2) (c := k7c2) (by decide +kernel) rfl rfl rfl (by decide +kernel)
set_option maxRecDepth 65536 in
theorem w_c13 : (Jvm.Cond.code ({ cls := "java/lang/String", name := "isLatin1", desc := "()Z" } : Jvm.MethodName) jdk_42_method_154_code (1 : Nat) (Option.some Jvm.ClassFile.FieldType.boolean)).before args0 about1 = true := code_word (m := ⟨7, 4⟩) (meth := k7m4) (c := k7c4) (by decide +kernel) rfl rfl rfl (by decide +kernel)
set_option maxRecDepth 65536 in
theorem w_c14 : (Jvm.Cond.code ({ cls := "java/lang/StringLatin1", name := "charAt", desc := "([BI)C" } : Jvm.MethodName) jdk_43_method_2_code (2 : Nat) (Option.some Jvm.ClassFile.FieldType.char)).before args0 about1 = true := code_word (m := ⟨12, 1⟩) (meth := k12m1) (c := k12c1) (by decide +kernel) rfl rfl rfl (by decide +kernel)
set_option maxRecDepth 65536 in
theorem w_c15 : (Jvm.Cond.code ({ cls := "java/lang/String", name := "checkIndex", desc := "(II)V" } : Jvm.MethodName) jdk_42_method_155_code (2 : Nat) (Option.none : Option Jvm.ClassFile.FieldType)).before args0 about1 = true := code_word (m := ⟨7, 5⟩) (meth := k7m5) (c := k7c5) (by decide +kernel) rfl rfl rfl (by decide +kernel)
set_option maxRecDepth 65536 in
theorem w_c16 : (Jvm.Cond.code ({ cls := "jdk/internal/util/Preconditions", name := "checkIndex", desc := "(IILjava/util/function/BiFunction;)I" } : Jvm.MethodName) jdk_41_method_11_code (3 : Nat) (Option.some Jvm.ClassFile.FieldType.int)).before args0 about1 = true := code_word (m := ⟨13, 1⟩) (meth := k13m1) (c := k13c1) (by decide +kernel) rfl rfl rfl (by decide +kernel)
set_option maxRecDepth 65536 in
theorem w_c17 : (Jvm.Cond.code ({ cls := "java/lang/StringUTF16", name := "toBytes", desc := "([CII)[B" } : Jvm.MethodName) jdk_52_method_14_code (5 : Nat) (Option.some (Jvm.ClassFile.FieldType.array Jvm.ClassFile.FieldType.byte))).before args0 about1 = true := code_word (m := ⟨8, 6⟩) (meth := k8m6) (c := k8c6) (by decide +kernel) rfl rfl rfl (by decide +kernel)
set_option maxRecDepth 65536 in
theorem w_c18 : (Jvm.Cond.code ({ cls := "java/lang/StringUTF16", name := "newBytesFor", desc := "(I)[B" } : Jvm.MethodName) jdk_52_method_2_code (1 : Nat) (Option.some (Jvm.ClassFile.FieldType.array Jvm.ClassFile.FieldType.byte))).before args0 about1 = true := code_word (m := ⟨8, 1⟩) (meth := k8m1) (c := k8c1) (by decide +kernel) rfl rfl rfl (by decide +kernel)
set_option maxRecDepth 65536 in
theorem w_c19 : (Jvm.Cond.code ({ cls := "java/lang/StringUTF16", name := "newBytesLength", desc := "(I)I" } : Jvm.MethodName) jdk_52_method_3_code (1 : Nat) (Option.some Jvm.ClassFile.FieldType.int)).before args0 about1 = true := code_word (m := ⟨8, 2⟩) (meth := k8m2) (c := k8c2) (by decide +kernel) rfl rfl rfl (by decide +kernel)
set_option maxRecDepth 65536 in
theorem w_c20 : (Jvm.Cond.code ({ cls := "java/lang/StringUTF16", name := "putChar", desc := "([BII)V" } : Jvm.MethodName) jdk_52_method_4_code (3 : Nat) (Option.none : Option Jvm.ClassFile.FieldType)).before args0 about1 = true := code_word (m := ⟨8, 3⟩) (meth := k8m3) (c := k8c3) (by decide +kernel) rfl rfl rfl (by decide +kernel)
set_option maxRecDepth 65536 in
theorem w_c21 : (Jvm.Cond.code ({ cls := "java/lang/StringUTF16", name := "getChar", desc := "([BI)C" } : Jvm.MethodName) jdk_52_method_5_code (2 : Nat) (Option.some Jvm.ClassFile.FieldType.char)).before args0 about1 = true := code_word (m := ⟨8, 4⟩) (meth := k8m4) (c := k8c4) (by decide +kernel) rfl rfl rfl (by decide +kernel)
set_option maxRecDepth 65536 in
theorem w_c22 : (Jvm.Cond.code ({ cls := "java/lang/StringUTF16", name := "charAt", desc := "([BI)C" } : Jvm.MethodName) jdk_52_method_83_code (2 : Nat) (Option.some Jvm.ClassFile.FieldType.char)).before args0 about1 = true := code_word (m := ⟨8, 10⟩) (meth := k8m10) (c := k8c10) (by decide +kernel) rfl rfl rfl (by decide +kernel)
set_option maxRecDepth 65536 in
theorem w_c23 : (Jvm.Cond.code ({ cls := "java/lang/StringUTF16", name := "checkIndex", desc := "(I[B)V" } : Jvm.MethodName) jdk_52_method_91_code (2 : Nat) (Option.none : Option Jvm.ClassFile.FieldType)).before args0 about1 = true := code_word (m := ⟨8, 11⟩) (meth := k8m11) (c := k8c11) (by decide +kernel) rfl rfl rfl (by decide +kernel)
set_option maxRecDepth 65536 in
theorem w_c24 : (Jvm.Cond.code ({ cls := "java/lang/StringUTF16", name := "length", desc := "([B)I" } : Jvm.MethodName) jdk_52_method_6_code (1 : Nat) (Option.some Jvm.ClassFile.FieldType.int)).before args0 about1 = true := code_word (m := ⟨8, 5⟩) (meth := k8m5) (c := k8c5) (by decide +kernel) rfl rfl rfl (by decide +kernel)
def codes1 : List Jvm.Cond := [Jvm.Cond.code x code maxLocals ret, Jvm.Cond.code ({ cls := "com/example/fides/fides/ledger/PositionHasOnlyAsciiDigitsPinLaw", name := "draw", desc := "(I)C" } : Jvm.MethodName) method_3_code (1 : Nat) (Option.some Jvm.ClassFile.FieldType.char), Jvm.Cond.code ({ cls := "java/lang/String", name := "<init>", desc := "([C)V" } : Jvm.MethodName) jdk_42_method_3_code (2 : Nat) (Option.none : Option Jvm.ClassFile.FieldType), Jvm.Cond.code ({ cls := "java/lang/String", name := "<init>", desc := "([CIILjava/lang/Void;)V" } : Jvm.MethodName) jdk_42_method_149_code (6 : Nat) (Option.none : Option Jvm.ClassFile.FieldType), Jvm.Cond.code ({ cls := "java/lang/Object", name := "<init>", desc := "()V" } : Jvm.MethodName) object_method_1_code (1 : Nat) (Option.none : Option Jvm.ClassFile.FieldType), Jvm.Cond.code ({ cls := "java/lang/StringUTF16", name := "compress", desc := "([CII)[B" } : Jvm.MethodName) jdk_52_method_16_code (6 : Nat) (Option.some (Jvm.ClassFile.FieldType.array Jvm.ClassFile.FieldType.byte)), Jvm.Cond.code ({ cls := "java/lang/StringUTF16", name := "compress", desc := "([CI[BII)I" } : Jvm.MethodName) jdk_52_method_21_code (7 : Nat) (Option.some Jvm.ClassFile.FieldType.int), Jvm.Cond.code ({ cls := "java/lang/StringUTF16", name := "coderFromArrayLen", desc := "([BI)B" } : Jvm.MethodName) jdk_52_method_15_code (2 : Nat) (Option.some Jvm.ClassFile.FieldType.byte), Jvm.Cond.code ({ cls := "java/lang/Math", name := "min", desc := "(II)I" } : Jvm.MethodName) jdk_29_method_69_code (2 : Nat) (Option.some Jvm.ClassFile.FieldType.int), Jvm.Cond.code ({ cls := "java/lang/Math", name := "max", desc := "(II)I" } : Jvm.MethodName) jdk_29_method_65_code (2 : Nat) (Option.some Jvm.ClassFile.FieldType.int), Jvm.Cond.code ({ cls := "com/example/fides/fides/ledger/PositionHasOnlyAsciiDigitsPinLaw", name := "ok", desc := "(CIII)Z" } : Jvm.MethodName) method_4_code (4 : Nat) (Option.some Jvm.ClassFile.FieldType.boolean), Jvm.Cond.code ({ cls := "com/example/fides/fides/ledger/Position", name := "hasOnlyAsciiDigits", desc := "(Ljava/lang/String;II)Z" } : Jvm.MethodName) prog_28_method_5_code (5 : Nat) (Option.some Jvm.ClassFile.FieldType.boolean), Jvm.Cond.code ({ cls := "java/lang/String", name := "charAt", desc := "(I)C" } : Jvm.MethodName) jdk_42_method_56_code (2 : Nat) (Option.some Jvm.ClassFile.FieldType.char), Jvm.Cond.code ({ cls := "java/lang/String", name := "isLatin1", desc := "()Z" } : Jvm.MethodName) jdk_42_method_154_code (1 : Nat) (Option.some Jvm.ClassFile.FieldType.boolean), Jvm.Cond.code ({ cls := "java/lang/StringLatin1", name := "charAt", desc := "([BI)C" } : Jvm.MethodName) jdk_43_method_2_code (2 : Nat) (Option.some Jvm.ClassFile.FieldType.char), Jvm.Cond.code ({ cls := "java/lang/String", name := "checkIndex", desc := "(II)V" } : Jvm.MethodName) jdk_42_method_155_code (2 : Nat) (Option.none : Option Jvm.ClassFile.FieldType), Jvm.Cond.code ({ cls := "jdk/internal/util/Preconditions", name := "checkIndex", desc := "(IILjava/util/function/BiFunction;)I" } : Jvm.MethodName) jdk_41_method_11_code (3 : Nat) (Option.some Jvm.ClassFile.FieldType.int), Jvm.Cond.code ({ cls := "java/lang/StringUTF16", name := "toBytes", desc := "([CII)[B" } : Jvm.MethodName) jdk_52_method_14_code (5 : Nat) (Option.some (Jvm.ClassFile.FieldType.array Jvm.ClassFile.FieldType.byte)), Jvm.Cond.code ({ cls := "java/lang/StringUTF16", name := "newBytesFor", desc := "(I)[B" } : Jvm.MethodName) jdk_52_method_2_code (1 : Nat) (Option.some (Jvm.ClassFile.FieldType.array Jvm.ClassFile.FieldType.byte)), Jvm.Cond.code ({ cls := "java/lang/StringUTF16", name := "newBytesLength", desc := "(I)I" } : Jvm.MethodName) jdk_52_method_3_code (1 : Nat) (Option.some Jvm.ClassFile.FieldType.int), Jvm.Cond.code ({ cls := "java/lang/StringUTF16", name := "putChar", desc := "([BII)V" } : Jvm.MethodName) jdk_52_method_4_code (3 : Nat) (Option.none : Option Jvm.ClassFile.FieldType), Jvm.Cond.code ({ cls := "java/lang/StringUTF16", name := "getChar", desc := "([BI)C" } : Jvm.MethodName) jdk_52_method_5_code (2 : Nat) (Option.some Jvm.ClassFile.FieldType.char), Jvm.Cond.code ({ cls := "java/lang/StringUTF16", name := "charAt", desc := "([BI)C" } : Jvm.MethodName) jdk_52_method_83_code (2 : Nat) (Option.some Jvm.ClassFile.FieldType.char), Jvm.Cond.code ({ cls := "java/lang/StringUTF16", name := "checkIndex", desc := "(I[B)V" } : Jvm.MethodName) jdk_52_method_91_code (2 : Nat) (Option.none : Option Jvm.ClassFile.FieldType), Jvm.Cond.code ({ cls := "java/lang/StringUTF16", name := "length", desc := "([B)I" } : Jvm.MethodName) jdk_52_method_6_code (1 : Nat) (Option.some Jvm.ClassFile.FieldType.int)]
set_option maxRecDepth 65536 in
theorem codes_eq : words1.filter isCode = codes1 := rfl
theorem w_codes : ∀ c ∈ words1.filter isCode, c.before args0 about1 = true := by
  rw [codes_eq]
  intro c hc
  simp only [codes1, List.mem_cons, List.not_mem_nil, or_false] at hc
  rcases hc with rfl | rfl | rfl | rfl | rfl | rfl | rfl | rfl | rfl | rfl | rfl | rfl | rfl | rfl | rfl | rfl | rfl | rfl | rfl | rfl | rfl | rfl | rfl | rfl | rfl
  · exact w_c0
  · exact w_c1
  · exact w_c2
  · exact w_c3
  · exact w_c4
  · exact w_c5
  · exact w_c6
  · exact w_c7
  · exact w_c8
  · exact w_c9
  · exact w_c10
  · exact w_c11
  · exact w_c12
  · exact w_c13
  · exact w_c14
  · exact w_c15
  · exact w_c16
  · exact w_c17
  · exact w_c18
  · exact w_c19
  · exact w_c20
  · exact w_c21
  · exact w_c22
  · exact w_c23
  · exact w_c24
set_option maxRecDepth 65536 in
theorem w_t1 : (words1.take 24).all (fun c => isCode c || c.before args0 about1) = true := by decide +kernel
set_option maxRecDepth 65536 in
theorem w_t2 : ((words1.drop 24).take 24).all (fun c => isCode c || c.before args0 about1) = true := by decide +kernel
set_option maxRecDepth 65536 in
theorem w_t3 : (((words1.drop 24).drop 24).take 24).all (fun c => isCode c || c.before args0 about1) = true := by decide +kernel
set_option maxRecDepth 65536 in
theorem w_t4 : ((((words1.drop 24).drop 24).drop 24).take 24).all (fun c => isCode c || c.before args0 about1) = true := by decide +kernel
set_option maxRecDepth 65536 in
theorem w_t5 : ((((words1.drop 24).drop 24).drop 24).drop 24).all (fun c => isCode c || c.before args0 about1) = true := by decide +kernel
theorem w_tables : (allAtoms (Jvm.Cond.code x code maxLocals ret :: tables_1)).before args0 about1 = true := by
  rw [allAtoms_all]
  show words1.all (fun c => c.before args0 about1) = true
  refine all_split ?_ w_codes
  rw [← List.take_append_drop 24 words1, List.all_append, w_t1, ← List.take_append_drop 24 (words1.drop 24), List.all_append, w_t2, ← List.take_append_drop 24 ((words1.drop 24).drop 24), List.all_append, w_t3, ← List.take_append_drop 24 (((words1.drop 24).drop 24).drop 24), List.all_append, w_t4, w_t5]
  rfl
set_option maxRecDepth 65536 in
theorem w_rest : rest_1_c.before args0 about1 = true := by decide +kernel
set_option maxRecDepth 65536 in
theorem w_case : (Jvm.Cond.and given_1 narrow_1).before args0 about1 = true := by decide +kernel
theorem w_applies : (headSpec (Jvm.Cond.code x code maxLocals ret :: tables_1) room_1).applies x e0.platform about1 = true :=
  (Spec.applies_iff w_frames).mpr ⟨w_running, w_runnable, w_alone, w_named, w_hears, w_ripe, w_room, w_tables⟩
theorem atStart : AtStart classFile x code maxLocals ret World_1 tables_1 room_1 Calls_1 rest_1 Pre_1 launch0 p0 e0 about1 theMethod args0 below0 :=
  ⟨lists_1, trivial, launch0.admits_env _ _ _, launch0.least_env, fairChoices_fair.cas, fairChoices_fair.clock, w_frames, w_args, w_heap, w_applies, trivial, w_rest, w_case⟩
end start1
theorem witness_1 : WitnessClaimed_1 := ⟨start1.p0, start1.e0, start1.about1, start1.theMethod, start1.args0, start1.below0, start1.atStart⟩
end Jvm.Pilot.@@N@@
