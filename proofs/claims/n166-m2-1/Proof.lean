import JvmDerived
import JvmDerived.Pilot.@@N@@Statement
import JvmDerived.Pilot.@@N@@Code
set_option linter.unusedVariables false
set_option linter.unusedSimpArgs false
@@BLOCK:NumsL.lean.txt@@
namespace Jvm.RoadKit
open Sem ClassFile Op Lib Jvm.Stand Jvm.Free Jvm.LawKit
/-- from the state S the run comes to an end that P holds of -/
def own_Out (p : Program) (e : Env) (below : List Frame) (P : Outcome → State → Prop) (S : State) : Prop := ∃ s₂ o, Steps p.tables e below S s₂ ∧ s₂.status = .running ∧ Ended s₂ below o ∧ P o s₂
theorem own_of {p : Program} {e : Env} {below : List Frame} {P : Outcome → State → Prop} {S S' : State} (h : ∀ t, Steps p.tables e below S' t → Steps p.tables e below S t) (k : own_Out p e below P S') : own_Out p e below P S := by
  obtain ⟨a, b, c, d⟩ := k
  exact ⟨a, b, h a c, d⟩
section New
variable {p : Program} {l : Launch} {e : Env} {R : Room} {s : State} {m : MethodId} {args : Array Value} {below : List Frame} {meth : Method} {c : Code} {T : State} {locs : List Loc} {cells slots : Nat}
theorem own_retI (X : Stand p l e R s m args below meth c T locs cells slots) (hx : p.tables.exec = Jvm.exec) {pc : Nat} {Ls : Array Slot} {z : Int32} {rest : List Value} (hret : meth.sig.returnType = some .int) (hd : decode c.code pc = .ok (.ireturn, 1)) {fs : List Frame}
    (hl : ∀ (f : JFrame) (acts : List Action), f.method = m → f.locked = none → f.entered = [] → (doReturn e (T.setTop f) acts (some (.int z))).1 = T.setFrames fs) : Steps p.tables e below (T.setTop (mkF m pc Ls (.int z :: rest))) (T.setFrames fs) := retOut X hx hret rfl (Or.inl ⟨rfl, Or.inl rfl, z, rfl⟩) hd hl
theorem own_end (X : Stand p l e R s m args below meth c T locs cells slots) (hlk : meth.locks = false) {v : Option Value} (hv : meth.sig.returnType = none → v = none) {g : JFrame}
    (hs : ∀ fs, (∀ (f : JFrame) (acts : List Action), f.method = m → f.locked = none → f.entered = [] → (doReturn e (T.setTop f) acts v).1 = T.setFrames fs) → Steps p.tables e below (T.setTop g) (T.setFrames fs))
    {Q : Option Value → Heap → List Loc → Prop} (hQ : Q v T.heap locs) {C N : Nat} (hC : cells ≤ C) (hN : slots ≤ N) :
    own_Out p e below (fun o U' => ∃ v L, o = .returned v ∧ Q v U'.heap L ∧ FrameEnd s o U' L C N) (T.setTop g) := by
  obtain ⟨fs, hr, hrun, hended, hW, hsame⟩ := X.leave (v := v) hv hlk
  exact ⟨_, _, hs fs hr, hrun, hended, _, _, rfl, hQ, ⟨_, rfl⟩, hW, hsame.mono hC hN⟩
theorem own_outI (X : Stand p l e R s m args below meth c T locs cells slots) (hx : p.tables.exec = Jvm.exec) (hlk : meth.locks = false) {pc : Nat} {Ls : Array Slot} {z : Int32} {rest : List Value} (hret : meth.sig.returnType = some .int) (hd : decode c.code pc = .ok (.ireturn, 1))
    {Q : Option Value → Heap → List Loc → Prop} (hQ : Q (some (.int z)) T.heap locs) {C N : Nat} (hC : cells ≤ C) (hN : slots ≤ N) :
    own_Out p e below (fun o U' => ∃ v L, o = .returned v ∧ Q v U'.heap L ∧ FrameEnd s o U' L C N) (T.setTop (mkF m pc Ls (.int z :: rest))) :=
  own_end X hlk (fun h => by rw [hret] at h; cases h) (fun fs hr => own_retI X hx hret hd hr) hQ hC hN
theorem own_outN (X : Stand p l e R s m args below meth c T locs cells slots) (hx : p.tables.exec = Jvm.exec) (hlk : meth.locks = false) {pc : Nat} {Ls : Array Slot} {z z' : Int32} {t : FieldType} {rest : List Value} (hret : meth.sig.returnType = some t) (ht : t = .boolean ∨ t = .byte ∨ t = .char ∨ t = .short) (hd : decode c.code pc = .ok (.ireturn, 1)) (hz : nar t z = z')
    {Q : Option Value → Heap → List Loc → Prop} (hQ : Q (some (.int z')) T.heap locs) {C N : Nat} (hC : cells ≤ C) (hN : slots ≤ N) :
    own_Out p e below (fun o U' => ∃ v L, o = .returned v ∧ Q v U'.heap L ∧ FrameEnd s o U' L C N) (T.setTop (mkF m pc Ls (.int z :: rest))) :=
  own_end X hlk (fun h => by rw [hret] at h; cases h) (fun fs hr => retN X hx hret ht hd (by rw [hz]; exact hr)) hQ hC hN
theorem own_outL (X : Stand p l e R s m args below meth c T locs cells slots) (hx : p.tables.exec = Jvm.exec) (hlk : meth.locks = false) {pc : Nat} {Ls : Array Slot} {z : Int64} {rest : List Value} (hret : meth.sig.returnType = some .long) (hd : decode c.code pc = .ok (.lreturn, 1))
    {Q : Option Value → Heap → List Loc → Prop} (hQ : Q (some (.long z)) T.heap locs) {C N : Nat} (hC : cells ≤ C) (hN : slots ≤ N) :
    own_Out p e below (fun o U' => ∃ v L, o = .returned v ∧ Q v U'.heap L ∧ FrameEnd s o U' L C N) (T.setTop (mkF m pc Ls (.long z :: rest))) :=
  own_end X hlk (fun h => by rw [hret] at h; cases h) (fun fs hr => retOut X hx hret rfl (Or.inr (Or.inl ⟨rfl, rfl, z, rfl⟩)) hd hr) hQ hC hN
theorem own_outR (X : Stand p l e R s m args below meth c T locs cells slots) (hx : p.tables.exec = Jvm.exec) (hlk : meth.locks = false) {pc : Nat} {Ls : Array Slot} {w : Value} {t : FieldType} {rest : List Value} (hret : meth.sig.returnType = some t) (ht : t.isReference = true) (hw : w.isRef = true) (hn : narrow t w = w) (hd : decode c.code pc = .ok (.areturn, 1))
    {Q : Option Value → Heap → List Loc → Prop} (hQ : Q (some w) T.heap locs) {C N : Nat} (hC : cells ≤ C) (hN : slots ≤ N) :
    own_Out p e below (fun o U' => ∃ v L, o = .returned v ∧ Q v U'.heap L ∧ FrameEnd s o U' L C N) (T.setTop (mkF m pc Ls (w :: rest))) :=
  own_end X hlk (fun h => by rw [hret] at h; cases h) (fun fs hr => retOut X hx hret hn (Or.inr (Or.inr (Or.inr (Or.inr ⟨rfl, ht, hw⟩)))) hd hr) hQ hC hN
theorem own_outV (X : Stand p l e R s m args below meth c T locs cells slots) (hx : p.tables.exec = Jvm.exec) (hlk : meth.locks = false) {pc : Nat} {Ls : Array Slot} (hret : meth.sig.returnType = none) (hd : decode c.code pc = .ok (.return_, 1))
    {Q : Option Value → Heap → List Loc → Prop} (hQ : Q none T.heap locs) {C N : Nat} (hC : cells ≤ C) (hN : slots ≤ N) :
    own_Out p e below (fun o U' => ∃ v L, o = .returned v ∧ Q v U'.heap L ∧ FrameEnd s o U' L C N) (T.setTop (mkF m pc Ls [])) :=
  own_end X hlk (fun _ => rfl) (fun fs hr => X.returnOut hx hret hd hr) hQ hC hN
end New
theorem own_ltlt {x y : Int64} (h : x < y) : ifCond.holds .lt (lcmpW x y) = true ∧ ifCond.holds .ge (lcmpW x y) = false ∧ ifCond.holds .gt (lcmpW y x) = true ∧ ifCond.holds .le (lcmpW y x) = false := by
  have h1 : ¬ x > y := fun q => by rw [gt_iff_lt, Int64.lt_iff_toInt_lt] at q; rw [Int64.lt_iff_toInt_lt] at h; omega
  have h2 : ¬ x = y := fun q => by subst q; rw [Int64.lt_iff_toInt_lt] at h; omega
  have e1 : lcmpW x y = -1 := by simp only [lcmpW, if_neg h1, if_neg h2]
  have e2 : lcmpW y x = 1 := by simp only [lcmpW, if_pos (show y > x from h)]
  rw [e1, e2]; decide
theorem own_staK1 {Z : State} {h h' : Heap} {C n d : String} {v : Value} {a : Addr} (F : Sta Z h C n d v) (K : Keep h h' [a]) (q : ∀ cell : Cell, h[a]? = some cell → cell.vm.isStatics = false) : Sta Z h' C n d v := by
  obtain ⟨cf, i, k, f, st, cell, h1, h2, h3, h4, h5, h6, h7⟩ := F
  have ne : st ≠ a := fun e => by subst e; rw [q _ h5] at h6; cases h6
  exact ⟨cf, i, k, f, st, cell, h1, h2, h3, h4, K.2.1 st cell h5 (ninS ne nin0), h6, h7⟩
theorem own_plainE {Z : State} {h : Heap} {a : Addr} {C : String} (E : Exa Z h a C) : ∀ cell : Cell, h[a]? = some cell → cell.vm.isStatics = false := fun cell hc => by
  obtain ⟨c, k, h1, -, -, h4, -⟩ := E; cases h1.symm.trans hc; exact h4
section Bounds
variable {x a k : Int32} {u : Int}
theorem own_U2 (h : ¬ (a < x)) : x.toInt ≤ a.toInt := by rw [Int32.lt_iff_toInt_lt] at h; omega
theorem own_U3 (h : x = a) : x.toInt ≤ a.toInt := by subst h; omega
theorem own_T4 (h : x.toInt ≤ u) (d : u ≤ k.toInt) : ¬ (k < x) := by rw [Int32.lt_iff_toInt_lt]; omega
end Bounds
section Rel
theorem own_IR3' {a b : Int32} (h : a = b) : ¬ (b < a) := fun q => by subst h; rw [Int32.lt_iff_toInt_lt] at q; omega
end Rel
end Jvm.RoadKit
namespace Jvm.RoadKit
open Sem ClassFile Op Lib Jvm.Stand Jvm.Free Jvm.LawKit
section Short
variable {p : Program} {l : Launch} {e : Env} {R : Room} {s : State} {m : MethodId} {args : Array Value} {below : List Frame} {meth : Method} {c : Code} {T : State} {locs : List Loc} {cells slots : Nat} {P : Outcome → State → Prop} {bytes : ByteArray} {pc q : Nat} {ls l' : Array Slot} {st : List Value}
theorem o_iloadN (X : Stand p l e R s m args below meth c T locs cells slots) (hx : p.tables.exec = Jvm.exec) (hby : c.code = bytes) {k : Fin 4} {v : Int32} (hd : decode bytes pc = .ok (.iload_n k, 1)) (hl : ls[k.val]? = some (.val (.int v))) (hq : pc + 1 = q) (hr : own_Out p e below P (T.setTop (mkF m q ls (.int v :: st)))) : own_Out p e below P (T.setTop (mkF m pc ls (st))) := by
  subst hq; exact own_of (fun _ k => XS.iloadN X.here hx rfl (hb hby hd) hl k) hr
theorem o_iload (X : Stand p l e R s m args below meth c T locs cells slots) (hx : p.tables.exec = Jvm.exec) (hby : c.code = bytes) {k : Nat} {v : Int32} (hd : decode bytes pc = .ok (.iload k, 2)) (hl : ls[k]? = some (.val (.int v))) (hq : pc + 2 = q) (hr : own_Out p e below P (T.setTop (mkF m q ls (.int v :: st)))) : own_Out p e below P (T.setTop (mkF m pc ls (st))) := by
  subst hq; exact own_of (fun _ k => XS.iload X.here hx rfl (hb hby hd) hl k) hr
theorem o_istoreN (X : Stand p l e R s m args below meth c T locs cells slots) (hx : p.tables.exec = Jvm.exec) (hby : c.code = bytes) {k : Fin 4} {x : Int32} (hd : decode bytes pc = .ok (.istore_n k, 1)) (hl : storeLocals ls k.val (.int x) = some l') (hq : pc + 1 = q) (hr : own_Out p e below P (T.setTop (mkF m q l' (st)))) : own_Out p e below P (T.setTop (mkF m pc ls (.int x :: st))) := by
  subst hq; exact own_of (fun _ k => XS.istoreN X.here hx rfl (hb hby hd) rfl hl k) hr
theorem o_istore (X : Stand p l e R s m args below meth c T locs cells slots) (hx : p.tables.exec = Jvm.exec) (hby : c.code = bytes) {k : Nat} {x : Int32} (hd : decode bytes pc = .ok (.istore k, 2)) (hl : storeLocals ls k (.int x) = some l') (hq : pc + 2 = q) (hr : own_Out p e below P (T.setTop (mkF m q l' (st)))) : own_Out p e below P (T.setTop (mkF m pc ls (.int x :: st))) := by
  subst hq; exact own_of (fun _ k => XS.istore X.here hx rfl (hb hby hd) rfl hl k) hr
theorem o_lloadN (X : Stand p l e R s m args below meth c T locs cells slots) (hx : p.tables.exec = Jvm.exec) (hby : c.code = bytes) {k : Fin 4} {v : Int64} (hd : decode bytes pc = .ok (.lload_n k, 1)) (hl : ls[k.val]? = some (.val (.long v))) (hq : pc + 1 = q) (hr : own_Out p e below P (T.setTop (mkF m q ls (.long v :: st)))) : own_Out p e below P (T.setTop (mkF m pc ls (st))) := by
  subst hq; exact own_of (fun _ k => XS.lloadN X.here hx rfl (hb hby hd) hl k) hr
theorem o_lstoreN (X : Stand p l e R s m args below meth c T locs cells slots) (hx : p.tables.exec = Jvm.exec) (hby : c.code = bytes) {k : Fin 4} {x : Int64} (hd : decode bytes pc = .ok (.lstore_n k, 1)) (hl : storeLocals ls k.val (.long x) = some l') (hq : pc + 1 = q) (hr : own_Out p e below P (T.setTop (mkF m q l' (st)))) : own_Out p e below P (T.setTop (mkF m pc ls (.long x :: st))) := by
  subst hq; exact own_of (fun _ k => XS.lstoreN X.here hx rfl (hb hby hd) rfl hl k) hr
theorem o_aloadN (X : Stand p l e R s m args below meth c T locs cells slots) (hx : p.tables.exec = Jvm.exec) (hby : c.code = bytes) {k : Fin 4} {v : Value} (hd : decode bytes pc = .ok (.aload_n k, 1)) (hl : ls[k.val]? = some (.val v)) (hv : v.isRef = true) (hq : pc + 1 = q) (hr : own_Out p e below P (T.setTop (mkF m q ls (v :: st)))) : own_Out p e below P (T.setTop (mkF m pc ls (st))) := by
  subst hq; exact own_of (fun _ k => XS.aloadN X.here hx rfl (hb hby hd) hl hv k) hr
theorem o_aload (X : Stand p l e R s m args below meth c T locs cells slots) (hx : p.tables.exec = Jvm.exec) (hby : c.code = bytes) {k : Nat} {v : Value} (hd : decode bytes pc = .ok (.aload k, 2)) (hl : ls[k]? = some (.val v)) (hv : v.isRef = true) (hq : pc + 2 = q) (hr : own_Out p e below P (T.setTop (mkF m q ls (v :: st)))) : own_Out p e below P (T.setTop (mkF m pc ls (st))) := by
  subst hq; exact own_of (fun _ k => XS.aload X.here hx rfl (hb hby hd) hl hv k) hr
theorem o_astoreN (X : Stand p l e R s m args below meth c T locs cells slots) (hx : p.tables.exec = Jvm.exec) (hby : c.code = bytes) {k : Fin 4} {x : Value} (hd : decode bytes pc = .ok (.astore_n k, 1)) (hv : x.isRef = true) (hl : storeLocals ls k.val x = some l') (hq : pc + 1 = q) (hr : own_Out p e below P (T.setTop (mkF m q l' (st)))) : own_Out p e below P (T.setTop (mkF m pc ls (x :: st))) := by
  subst hq; exact own_of (fun _ k => XS.astoreN X.here hx rfl (hb hby hd) rfl hv hl k) hr
theorem o_astore (X : Stand p l e R s m args below meth c T locs cells slots) (hx : p.tables.exec = Jvm.exec) (hby : c.code = bytes) {k : Nat} {x : Value} (hd : decode bytes pc = .ok (.astore k, 2)) (hv : x.isRef = true) (hl : storeLocals ls k x = some l') (hq : pc + 2 = q) (hr : own_Out p e below P (T.setTop (mkF m q l' (st)))) : own_Out p e below P (T.setTop (mkF m pc ls (x :: st))) := by
  subst hq; exact own_of (fun _ k => XS.astore X.here hx rfl (hb hby hd) rfl hv hl k) hr
theorem o_iinc (X : Stand p l e R s m args below meth c T locs cells slots) (hx : p.tables.exec = Jvm.exec) (hby : c.code = bytes) {k : Nat} {cst : Int} {x : Int32} (hd : decode bytes pc = .ok (.iinc k cst, 3)) (hl : ls[k]? = some (.val (.int x))) (hl' : storeLocals ls k (.int (x + Int32.ofInt cst)) = some l') (hq : pc + 3 = q) (hr : own_Out p e below P (T.setTop (mkF m q l' (st)))) : own_Out p e below P (T.setTop (mkF m pc ls (st))) := by
  subst hq; exact own_of (fun _ k => XS.iinc X.here hx rfl (hb hby hd) hl hl' k) hr
theorem o_iconst (X : Stand p l e R s m args below meth c T locs cells slots) (hx : p.tables.exec = Jvm.exec) (hby : c.code = bytes) {i : Int} {z : Int32} (hd : decode bytes pc = .ok (.iconst i, 1)) (hz : Int32.ofInt i = z) (hq : pc + 1 = q) (hr : own_Out p e below P (T.setTop (mkF m q ls (.int z :: st)))) : own_Out p e below P (T.setTop (mkF m pc ls (st))) := by
  subst hq; exact own_of (fun _ k => XS.iconst X.here hx rfl (hb hby hd) (by rw [hz]; exact k)) hr
theorem o_bipush (X : Stand p l e R s m args below meth c T locs cells slots) (hx : p.tables.exec = Jvm.exec) (hby : c.code = bytes) {i : Int} {z : Int32} (hd : decode bytes pc = .ok (.bipush i, 2)) (hz : (Int8.ofInt i).toInt32 = z) (hq : pc + 2 = q) (hr : own_Out p e below P (T.setTop (mkF m q ls (.int z :: st)))) : own_Out p e below P (T.setTop (mkF m pc ls (st))) := by
  subst hq; exact own_of (fun _ k => XS.bipush X.here hx rfl (hb hby hd) (by rw [hz]; exact k)) hr
theorem o_sipush (X : Stand p l e R s m args below meth c T locs cells slots) (hx : p.tables.exec = Jvm.exec) (hby : c.code = bytes) {i : Int} {z : Int32} (hd : decode bytes pc = .ok (.sipush i, 3)) (hz : (Int16.ofInt i).toInt32 = z) (hq : pc + 3 = q) (hr : own_Out p e below P (T.setTop (mkF m q ls (.int z :: st)))) : own_Out p e below P (T.setTop (mkF m pc ls (st))) := by
  subst hq; exact own_of (fun _ k => XS.sipush X.here hx rfl (hb hby hd) (by rw [hz]; exact k)) hr
theorem o_aconst_null (X : Stand p l e R s m args below meth c T locs cells slots) (hx : p.tables.exec = Jvm.exec) (hby : c.code = bytes)  (hd : decode bytes pc = .ok (.aconst_null, 1))  (hq : pc + 1 = q) (hr : own_Out p e below P (T.setTop (mkF m q ls (.null :: st)))) : own_Out p e below P (T.setTop (mkF m pc ls (st))) := by
  subst hq; exact own_of (fun _ k => XS.aconstNull X.here hx rfl (hb hby hd) k) hr
theorem o_iadd (X : Stand p l e R s m args below meth c T locs cells slots) (hx : p.tables.exec = Jvm.exec) (hby : c.code = bytes) {x y z : Int32} (hd : decode bytes pc = .ok (.iadd, 1)) (hz : x + y = z) (hq : pc + 1 = q) (hr : own_Out p e below P (T.setTop (mkF m q ls (.int z :: st)))) : own_Out p e below P (T.setTop (mkF m pc ls (.int y :: .int x :: st))) := by
  subst hq; exact own_of (fun _ k => XS.iadd X.here hx rfl (hb hby hd) rfl (by rw [hz]; exact k)) hr
theorem o_ladd (X : Stand p l e R s m args below meth c T locs cells slots) (hx : p.tables.exec = Jvm.exec) (hby : c.code = bytes) {x y z : Int64} (hd : decode bytes pc = .ok (.ladd, 1)) (hz : x + y = z) (hq : pc + 1 = q) (hr : own_Out p e below P (T.setTop (mkF m q ls (.long z :: st)))) : own_Out p e below P (T.setTop (mkF m pc ls (.long y :: .long x :: st))) := by
  subst hq; exact own_of (fun _ k => XS.ladd X.here hx rfl (hb hby hd) rfl (by rw [hz]; exact k)) hr
theorem o_isub (X : Stand p l e R s m args below meth c T locs cells slots) (hx : p.tables.exec = Jvm.exec) (hby : c.code = bytes) {x y z : Int32} (hd : decode bytes pc = .ok (.isub, 1)) (hz : x - y = z) (hq : pc + 1 = q) (hr : own_Out p e below P (T.setTop (mkF m q ls (.int z :: st)))) : own_Out p e below P (T.setTop (mkF m pc ls (.int y :: .int x :: st))) := by
  subst hq; exact own_of (fun _ k => XS.isub X.here hx rfl (hb hby hd) rfl (by rw [hz]; exact k)) hr
theorem o_imul (X : Stand p l e R s m args below meth c T locs cells slots) (hx : p.tables.exec = Jvm.exec) (hby : c.code = bytes) {x y z : Int32} (hd : decode bytes pc = .ok (.imul, 1)) (hz : x * y = z) (hq : pc + 1 = q) (hr : own_Out p e below P (T.setTop (mkF m q ls (.int z :: st)))) : own_Out p e below P (T.setTop (mkF m pc ls (.int y :: .int x :: st))) := by
  subst hq; exact own_of (fun _ k => XS.imul X.here hx rfl (hb hby hd) rfl (by rw [hz]; exact k)) hr
theorem o_iand (X : Stand p l e R s m args below meth c T locs cells slots) (hx : p.tables.exec = Jvm.exec) (hby : c.code = bytes) {x y z : Int32} (hd : decode bytes pc = .ok (.iand, 1)) (hz : x &&& y = z) (hq : pc + 1 = q) (hr : own_Out p e below P (T.setTop (mkF m q ls (.int z :: st)))) : own_Out p e below P (T.setTop (mkF m pc ls (.int y :: .int x :: st))) := by
  subst hq; exact own_of (fun _ k => XS.iand X.here hx rfl (hb hby hd) rfl (by rw [hz]; exact k)) hr
theorem o_iushr (X : Stand p l e R s m args below meth c T locs cells slots) (hx : p.tables.exec = Jvm.exec) (hby : c.code = bytes) {x z : Int32} {y : Int32} (hd : decode bytes pc = .ok (.iushr, 1)) (hz : ((x.toUInt32 >>> (y &&& 31).toUInt32).toInt32) = z) (hq : pc + 1 = q) (hr : own_Out p e below P (T.setTop (mkF m q ls (.int z :: st)))) : own_Out p e below P (T.setTop (mkF m pc ls (.int y :: .int x :: st))) := by
  subst hq; exact own_of (fun _ k => XS.iushr X.here hx rfl (hb hby hd) rfl (by rw [hz]; exact k)) hr
theorem o_i2l (X : Stand p l e R s m args below meth c T locs cells slots) (hx : p.tables.exec = Jvm.exec) (hby : c.code = bytes) {x : Int32} {z : Int64} (hd : decode bytes pc = .ok (.i2l, 1)) (hz : x.toInt64 = z) (hq : pc + 1 = q) (hr : own_Out p e below P (T.setTop (mkF m q ls (.long z :: st)))) : own_Out p e below P (T.setTop (mkF m pc ls (.int x :: st))) := by
  subst hq; exact own_of (fun _ k => XS.i2l X.here hx rfl (hb hby hd) rfl (by rw [hz]; exact k)) hr
theorem o_l2i (X : Stand p l e R s m args below meth c T locs cells slots) (hx : p.tables.exec = Jvm.exec) (hby : c.code = bytes) {x : Int64} {z : Int32} (hd : decode bytes pc = .ok (.l2i, 1)) (hz : x.toInt32 = z) (hq : pc + 1 = q) (hr : own_Out p e below P (T.setTop (mkF m q ls (.int z :: st)))) : own_Out p e below P (T.setTop (mkF m pc ls (.long x :: st))) := by
  subst hq; exact own_of (fun _ k => XS.l2i X.here hx rfl (hb hby hd) rfl (by rw [hz]; exact k)) hr
theorem o_lcmp (X : Stand p l e R s m args below meth c T locs cells slots) (hx : p.tables.exec = Jvm.exec) (hby : c.code = bytes) {x y : Int64} (hd : decode bytes pc = .ok (.lcmp, 1))  (hq : pc + 1 = q) (hr : own_Out p e below P (T.setTop (mkF m q ls (.int (lcmpW x y) :: st)))) : own_Out p e below P (T.setTop (mkF m pc ls (.long y :: .long x :: st))) := by
  subst hq; exact own_of (fun _ k => XS.lcmp X.here hx rfl (hb hby hd) rfl k) hr
theorem o_irem (X : Stand p l e R s m args below meth c T locs cells slots) (hx : p.tables.exec = Jvm.exec) (hby : c.code = bytes) {x y : Int32} (hd : decode bytes pc = .ok (.irem, 1)) (hy : y ≠ 0) (hq : pc + 1 = q) (hr : own_Out p e below P (T.setTop (mkF m q ls (.int (x % y) :: st)))) : own_Out p e below P (T.setTop (mkF m pc ls (.int y :: .int x :: st))) := by
  subst hq; exact own_of (fun _ k => iremM X hx rfl (hb hby hd) rfl hy k) hr
theorem o_goto (X : Stand p l e R s m args below meth c T locs cells slots) (hx : p.tables.exec = Jvm.exec) (hby : c.code = bytes) {o : Int} (hd : decode bytes pc = .ok (.goto o, 3))  (ho : 0 ≤ (pc : Int) + o) (hq : ((pc : Int) + o).toNat = q) (hr : own_Out p e below P (T.setTop (mkF m q ls (st)))) : own_Out p e below P (T.setTop (mkF m pc ls (st))) := by
  exact own_of (fun _ k => XS.goto X.here hx rfl rfl (hb hby hd) ho hq k) hr
theorem o_ifY (X : Stand p l e R s m args below meth c T locs cells slots) (hx : p.tables.exec = Jvm.exec) (hby : c.code = bytes) {cd : ClassFile.Cond} {x : Int32} {o : Int} (hd : decode bytes pc = .ok (.ifCond cd o, 3)) (hc : ifCond.holds cd x = true) (ho : 0 ≤ (pc : Int) + o) (hq : ((pc : Int) + o).toNat = q) (hr : own_Out p e below P (T.setTop (mkF m q ls (st)))) : own_Out p e below P (T.setTop (mkF m pc ls (.int x :: st))) := by
  exact own_of (fun _ k => XS.ifYes X.here hx rfl rfl (hb hby hd) rfl hc ho hq k) hr
theorem o_ifN (X : Stand p l e R s m args below meth c T locs cells slots) (hx : p.tables.exec = Jvm.exec) (hby : c.code = bytes) {cd : ClassFile.Cond} {x : Int32} {o : Int} (hd : decode bytes pc = .ok (.ifCond cd o, 3)) (hc : ifCond.holds cd x = false) (hq : pc + 3 = q) (hr : own_Out p e below P (T.setTop (mkF m q ls (st)))) : own_Out p e below P (T.setTop (mkF m pc ls (.int x :: st))) := by
  subst hq; exact own_of (fun _ k => XS.ifNo X.here hx rfl (hb hby hd) rfl hc k) hr
theorem o_icY (X : Stand p l e R s m args below meth c T locs cells slots) (hx : p.tables.exec = Jvm.exec) (hby : c.code = bytes) {cd : ClassFile.Cond} {x y : Int32} {o : Int} (hd : decode bytes pc = .ok (.if_icmp cd o, 3)) (hc : if_icmp.holds cd x y = true) (ho : 0 ≤ (pc : Int) + o) (hq : ((pc : Int) + o).toNat = q) (hr : own_Out p e below P (T.setTop (mkF m q ls (st)))) : own_Out p e below P (T.setTop (mkF m pc ls (.int y :: .int x :: st))) := by
  exact own_of (fun _ k => XS.icmpYes X.here hx rfl rfl (hb hby hd) rfl hc ho hq k) hr
theorem o_icN (X : Stand p l e R s m args below meth c T locs cells slots) (hx : p.tables.exec = Jvm.exec) (hby : c.code = bytes) {cd : ClassFile.Cond} {x y : Int32} {o : Int} (hd : decode bytes pc = .ok (.if_icmp cd o, 3)) (hc : if_icmp.holds cd x y = false) (hq : pc + 3 = q) (hr : own_Out p e below P (T.setTop (mkF m q ls (st)))) : own_Out p e below P (T.setTop (mkF m pc ls (.int y :: .int x :: st))) := by
  subst hq; exact own_of (fun _ k => XS.icmpNo X.here hx rfl (hb hby hd) rfl hc k) hr
theorem o_dup (X : Stand p l e R s m args below meth c T locs cells slots) (hx : p.tables.exec = Jvm.exec) (hby : c.code = bytes) {x : Value} (hd : decode bytes pc = .ok (.dup, 1)) (hc : x.category = 1) (hq : pc + 1 = q) (hr : own_Out p e below P (T.setTop (mkF m q ls (x :: x :: st)))) : own_Out p e below P (T.setTop (mkF m pc ls (x :: st))) := by
  subst hq; exact own_of (fun _ k => XS.dup X.here hx rfl (hb hby hd) rfl hc k) hr
variable {Z : State} {a0 : Array Value} {h : Heap}
theorem o_ldcI (X : Stand p l e R s m args below meth c T locs cells slots) (hx : p.tables.exec = Jvm.exec) (hZ : Z.Warmed39 s.vm) {own : String} (hown : s.vm.findClass own = some m.cls) (hby : c.code = bytes) {i : Nat} {v : Int32} (w : (Cond.constant own i v).before a0 Z = true) (hd : decode bytes pc = .ok (.ldc i, 2)) (hq : pc + 2 = q) (hr : own_Out p e below P (T.setTop (mkF m q ls (.int v :: st)))) : own_Out p e below P (T.setTop (mkF m pc ls st)) := by
  subst hq; exact own_of (X.ldcInt hx hown (mvT hZ w) (g := mkF m pc ls st) rfl (hb hby hd)) hr
theorem o_getF (X : Stand p l e R s m args below meth c T locs cells slots) (hx : p.tables.exec = Jvm.exec) (hZ : Z.Warmed39 s.vm) {own R0 O n d : String} (hown : s.vm.findClass own = some m.cls) (hby : c.code = bytes) {i : Nat} (w : (Cond.fieldLink own i R0 n d).before a0 Z = true) (via : Via Z R0 O n d) (eT : T.heap = h) {a : Addr} {v : Value} (F : Fld Z h a O n d v) (hd : decode bytes pc = .ok (.getfield i, 3)) (hq : pc + 3 = q)
    (hr : ∀ T', Stand p l e R s m args below meth c T' locs cells slots → T'.heap = h → own_Out p e below P (T'.setTop (mkF m q ls (v :: st)))) : own_Out p e below P (T.setTop (mkF m pc ls (.ref a :: st))) := by
  subst hq
  obtain ⟨T', X', e', t⟩ := getF X hx hZ hown (host := "") (Or.inl w) via eT F (g := mkF m pc ls (.ref a :: st)) rfl rfl (hb hby hd)
  exact own_of t (hr T' X' e')
theorem o_stI (X : Stand p l e R s m args below meth c T locs cells slots) (hx : p.tables.exec = Jvm.exec) (hZ : Z.Warmed39 s.vm) (hby : c.code = bytes) (eT : T.heap = h) {a : Addr} {cl : Cell} (A : Arr Z h a cl .int) {j x : Int32} (hj : ¬ (j < 0 ∨ cl.slots.size ≤ j.toNatClampNeg)) (hd : decode bytes pc = .ok (.iastore, 1)) (hq : pc + 1 = q)
    (hr : ∀ T' h', Stand p l e R s m args below meth c T' (locs ++ [⟨a, j.toNatClampNeg⟩]) cells slots → T'.heap = h' → Wr h h' a j.toNatClampNeg (.int x) → own_Out p e below P (T'.setTop (mkF m q ls st))) : own_Out p e below P (T.setTop (mkF m pc ls (.int x :: .int j :: .ref a :: st))) := by
  subst hq
  obtain ⟨T', h', X', e', W', t⟩ := stI X hx hZ eT A hj (g := mkF m pc ls (.int x :: .int j :: .ref a :: st)) rfl rfl (hb hby hd)
  exact own_of t (hr T' h' X' e' W')
theorem o_iaload (X : Stand p l e R s m args below meth c T locs cells slots) (hx : p.tables.exec = Jvm.exec) (hZ : Z.Warmed39 s.vm) (hby : c.code = bytes) (eT : T.heap = h) {a : Addr} {cl : Cell} (A : Arr Z h a cl .int) {j : Int32} {v : Value} (hj : ¬ (j < 0 ∨ cl.slots.size ≤ j.toNatClampNeg)) (hv : cl.slots[j.toNatClampNeg]? = some v) (hd : decode bytes pc = .ok (.iaload, 1)) (hq : pc + 1 = q)
    (hr : own_Out p e below P (T.setTop (mkF m q ls (v :: st)))) : own_Out p e below P (T.setTop (mkF m pc ls (.int j :: .ref a :: st))) := by
  subst hq
  exact own_of (X.iaload hx (by rw [eT]; exact A.1) (State.isArrayOf_alike hZ.alike A.2.1) A.2.2 hj hv (g := mkF m pc ls (.int j :: .ref a :: st)) rfl rfl (hb hby hd)) hr
theorem o_len (X : Stand p l e R s m args below meth c T locs cells slots) (hx : p.tables.exec = Jvm.exec) (hZ : Z.Warmed39 s.vm) (hby : c.code = bytes) (eT : T.heap = h) {a : Addr} {cl : Cell} {ty : FieldType} (A : Arr Z h a cl ty) {z : Int32} (S : cl.slots.size = z.toNatClampNeg) (N : ¬ z < 0) (hd : decode bytes pc = .ok (.arraylength, 1)) (hq : pc + 1 = q)
    (hr : own_Out p e below P (T.setTop (mkF m q ls (.int z :: st)))) : own_Out p e below P (T.setTop (mkF m pc ls (.ref a :: st))) := by
  subst hq
  refine own_of (X.arraylength hx (by rw [eT]; exact A.1) (State.isArrayOf_alike hZ.alike A.2.1) (g := mkF m pc ls (.ref a :: st)) rfl rfl (hb hby hd)) ?_
  rw [len_of S N]; exact hr
variable {a : Addr} {k : ClassId} {z j : Int32} {vs : List Value} {dv v : Value} {ty : FieldType}
theorem o_nin {c : Cell} (S : c.slots.size = z.toNatClampNeg) (hj : ¬ j < 0 ∧ j < z) : j.toNatClampNeg < c.slots.size := Nat.lt_of_not_le fun q => inb_of S hj (Or.inr q)
theorem o_iaV (X : Stand p l e R s m args below meth c T locs cells slots) (hx : p.tables.exec = Jvm.exec) (hby : c.code = bytes) (hZ : Z.Warmed39 s.vm) (eT : T.heap = h) (V : Arv Z h a k .int z vs dv) (hj : ¬ j < 0 ∧ j < z) (hv : vs.getD j.toNatClampNeg dv = v) (hd : decode bytes pc = .ok (.iaload, 1)) (hq : pc + 1 = q)
    (hr : own_Out p e below P (T.setTop (mkF m q ls (v :: st)))) : own_Out p e below P (T.setTop (mkF m pc ls (.int j :: .ref a :: st))) := by
  obtain ⟨cl, A, q1, S, N, H, G⟩ := V
  exact o_iaload X hx hZ hby eT A (inb_of S hj) ((H _ (o_nin S hj)).trans (by rw [hv])) hd hq hr
theorem o_lenV (X : Stand p l e R s m args below meth c T locs cells slots) (hx : p.tables.exec = Jvm.exec) (hby : c.code = bytes) (hZ : Z.Warmed39 s.vm) (eT : T.heap = h) (V : Arv Z h a k ty z vs dv) (hd : decode bytes pc = .ok (.arraylength, 1)) (hq : pc + 1 = q)
    (hr : own_Out p e below P (T.setTop (mkF m q ls (.int z :: st)))) : own_Out p e below P (T.setTop (mkF m pc ls (.ref a :: st))) := by
  obtain ⟨cl, A, q1, S, N, H, G⟩ := V
  exact o_len X hx hZ hby eT A S N hd hq hr
theorem o_stV (X : Stand p l e R s m args below meth c T locs cells slots) (hx : p.tables.exec = Jvm.exec) (hby : c.code = bytes) (hZ : Z.Warmed39 s.vm) (eT : T.heap = h) (V : Arv Z h a k .int z vs dv) (hj : ¬ j < 0 ∧ j < z) (i : Nat) (hi : j.toNatClampNeg = i) (hl : i < vs.length) {x : Int32} (hd : decode bytes pc = .ok (.iastore, 1)) (hq : pc + 1 = q)
    (hr : ∀ T' h', Stand p l e R s m args below meth c T' (locs ++ [⟨a, j.toNatClampNeg⟩]) cells slots → T'.heap = h' → Wr h h' a j.toNatClampNeg (.int x) → Arv Z h' a k .int z (vs.set i (.int x)) dv → own_Out p e below P (T'.setTop (mkF m q ls st))) : own_Out p e below P (T.setTop (mkF m pc ls (.int x :: .int j :: .ref a :: st))) := by
  obtain ⟨cl, A, q1, S, N, H, G⟩ := V
  exact o_stI X hx hZ hby eT A (inb_of S hj) hd hq fun T' h' X' e' W' => hr T' h' X' e' W' (Arv.set A q1 S N H G rfl W' i hi hl)
end Short
end Jvm.RoadKit
namespace Jvm.Pilot.@@N@@
open Jvm Jvm.ClassFile Sem Op Lib Jvm.Free Jvm.Stand Jvm.LawKit Jvm.RoadKit Bundle Jvm.Pilot.@@N@@.Jvm.D
abbrev mn_0 : MethodName := ⟨"java/util/AbstractCollection", "<init>", "()V"⟩
abbrev mn_1 : MethodName := ⟨"java/util/AbstractList", "<init>", "()V"⟩
abbrev mn_2 : MethodName := ⟨"java/util/ArrayList", "<init>", "()V"⟩
abbrev mn_3 : MethodName := ⟨"java/util/ArrayList", "size", "()I"⟩
abbrev mn_4 : MethodName := ⟨"com/example/headway/headway/engine/RowBuffer", "<init>", "(Ljava/util/List;IZ)V"⟩
abbrev mn_5 : MethodName := ⟨"java/util/List", "size", "()I"⟩
abbrev mn_6 : MethodName := ⟨"com/example/headway/headway/engine/RowBuffer", "<init>", "(Ljava/util/List;)V"⟩
abbrev mn_7 : MethodName := ⟨"java/util/Arrays", "fill", "([II)V"⟩
abbrev mn_8 : MethodName := ⟨"com/example/headway/headway/engine/HashIndex", "<init>", "(Lcom/example/headway/headway/engine/RowBuffer;Ljava/util/List;)V"⟩
abbrev mn_9 : MethodName := ⟨"com/example/headway/headway/engine/RowBuffer", "size", "()I"⟩
abbrev mn_10 : MethodName := ⟨"java/lang/Math", "max", "(II)I"⟩
abbrev mn_11 : MethodName := ⟨"java/lang/Math", "min", "(JJ)J"⟩
abbrev mn_12 : MethodName := ⟨"com/example/headway/headway/engine/RowBuffer", "grow", "()V"⟩
abbrev mn_13 : MethodName := ⟨"com/example/headway/headway/engine/RowBuffer", "append", "(Lcom/example/headway/headway/engine/Row;)V"⟩
abbrev mn_14 : MethodName := ⟨"com/example/headway/headway/engine/HashIndexStopGrowingPinLaw", "appendRows", "(Lcom/example/headway/headway/engine/RowBuffer;I)V"⟩
abbrev mn_15 : MethodName := ⟨"java/lang/Integer", "numberOfLeadingZeros", "(I)I"⟩
abbrev mn_16 : MethodName := ⟨"com/example/headway/headway/engine/HashIndex", "bucketOf", "(I[I)I"⟩
abbrev mn_17 : MethodName := ⟨"com/example/headway/headway/engine/HashIndex", "link", "(II[I[I)V"⟩
abbrev mn_18 : MethodName := ⟨"com/example/headway/headway/engine/HashIndex", "hashOf", "(I)I"⟩
abbrev mn_19 : MethodName := ⟨"com/example/headway/headway/engine/HashIndex", "hashOf", "(Lcom/example/headway/headway/engine/Row;[I)I"⟩
abbrev mn_20 : MethodName := ⟨"com/example/headway/headway/engine/HashIndex", "keyEquals", "(ILcom/example/headway/headway/engine/Row;[I)Z"⟩
abbrev mn_21 : MethodName := ⟨"com/example/headway/headway/engine/HashIndex", "matchFrom", "(IILcom/example/headway/headway/engine/Row;[I)I"⟩
abbrev mn_22 : MethodName := ⟨"com/example/headway/headway/engine/HashIndex", "find", "(Lcom/example/headway/headway/engine/Row;[I)I"⟩
abbrev mn_23 : MethodName := ⟨"com/example/headway/headway/engine/HashIndex", "findNext", "(ILcom/example/headway/headway/engine/Row;[I)I"⟩
abbrev mn_24 : MethodName := ⟨"com/example/headway/headway/engine/HashIndex", "stopGrowing", "()V"⟩
abbrev mn_25 : MethodName := ⟨"com/example/headway/headway/engine/HashIndex", "buildLarger", "()V"⟩
abbrev mn_26 : MethodName := ⟨"java/lang/Math", "min", "(II)I"⟩
abbrev mn_27 : MethodName := ⟨"com/example/headway/headway/engine/HashIndex", "linkIntoLarger", "()V"⟩
abbrev mn_28 : MethodName := ⟨"java/util/Arrays", "copyOf", "([II)[I"⟩
abbrev mn_29 : MethodName := ⟨"com/example/headway/headway/engine/HashIndex", "indexNewRows", "()V"⟩
theorem w_ {a0 : Array Value} {Z : State} (hw : ∀ d ∈ tables_1, d.before a0 Z = true) (i : Nat) {d : Jvm.Cond} (h : tables_1[i]? = some d) : d.before a0 Z = true := hw _ (List.mem_of_getElem? h)
def fl (mm : Int32) (nf : Nat) : List Value := (.int (mm - 1)) :: List.replicate nf (.int (-1))
def zr (nl : Nat) : List Value := List.replicate nl (.int 0)
def NX (mm : Int32) (vs : List Value) : Prop := ∀ k : Int32, ¬ k < 0 → k < mm → vs.getD k.toNatClampNeg (.int 0) = .int (k - 1)
theorem own_zr (n i : Nat) : (zr n).getD i (.int 0) = .int 0 := by
  unfold zr; rw [List.getD_eq_getElem?_getD, List.getElem?_replicate]; split <;> rfl
theorem own_zset (n i : Nat) : (zr n).set i (.int 0) = zr n := by
  apply List.ext_getElem?; intro j
  unfold zr; rw [List.getElem?_set, List.getElem?_replicate]
  simp only [List.length_replicate]
  split <;> split <;> simp_all
theorem own_nat {k : Int32} (h : ¬ k < 0) : (k.toNatClampNeg : Int) = k.toInt := by
  have n0 : (0 : Int32).toInt = 0 := rfl
  rw [Int32.lt_iff_toInt_lt] at h; unfold Int32.toNatClampNeg; omega
theorem own_add1 {m : Int32} (h : m.toInt < 1000) : (m + 1).toInt = m.toInt + 1 := by
  have n1 : (1 : Int32).toInt = 1 := rfl
  have e := c_iadd m 1; have r := rng32 m; have r2 := rng32 (m + 1); omega
theorem own_sub1 {m : Int32} (h : -1000 < m.toInt) : (m - 1).toInt = m.toInt - 1 := by
  have n1 : (1 : Int32).toInt = 1 := rfl
  have e := c_isub m 1; have r := rng32 m; have r2 := rng32 (m - 1); omega
theorem own_pm (m : Int32) : (m + 1) - 1 = m := by rw [Int32.add_sub_cancel]
theorem NX.put {m : Int32} {vs : List Value} (N : NX m vs) (h0 : 0 ≤ m.toInt) (h1 : m.toInt < 1000) (hl : m.toNatClampNeg < vs.length) : NX (m + 1) (vs.set m.toNatClampNeg (.int (m - 1))) := fun k k0 k1 => by
  rw [Int32.lt_iff_toInt_lt, own_add1 h1] at k1
  have n0 : (0 : Int32).toInt = 0 := rfl
  have hm : ¬ m < 0 := by rw [Int32.lt_iff_toInt_lt]; omega
  by_cases e : k = m
  · subst e; rw [List.getD_eq_getElem?_getD, List.getElem?_set_self hl]; rfl
  · have ne : ¬ m.toNatClampNeg = k.toNatClampNeg := fun q => e (Int32.toInt_inj.mp (by rw [← own_nat k0, ← own_nat hm, q]))
    have lt : k < m := by
      rw [Int32.lt_iff_toInt_lt]
      have : ¬ k.toInt = m.toInt := fun q => e (Int32.toInt_inj.mp q)
      omega
    rw [← N k k0 lt, List.getD_eq_getElem?_getD, List.getElem?_set_ne ne, List.getD_eq_getElem?_getD]
theorem d3_0 : decode jdk_22_method_1_code 0 = .ok (.aload_n 0, 1) := by decide +kernel
theorem d3_1 : decode jdk_22_method_1_code 1 = .ok (.invokespecial 1, 3) := by decide +kernel
theorem d3_4 : decode jdk_22_method_1_code 4 = .ok (.return_, 1) := by decide +kernel
theorem pn_0 : plainName "java/util/AbstractCollection" = true := by first | (simp [plainName, overriddenIn]; done) | decide +kernel
theorem ef_3 (m : MethodId) (x0 : Addr) : entryFrame m #[(.ref x0)] 1 = mkF m 0 #[.val (.ref x0)] [] := by first | (simp [entryFrame, mkF, argsToLocals, Value.category]; done) | rfl
def Q3 (Z : State) (o0 : Addr) (h0 : Heap) (n0 : Nat) (v : Option Value) (h : Heap) (L : List Loc) : Prop := v = none ∧ Fr n0 L ∧ h = h0
set_option maxRecDepth 65536 in
set_option maxHeartbeats 40000000 in
theorem rm3 (l : Launch) (Z : State) (a0 : Array Value) (hw : ∀ d ∈ tables_1, d.before a0 Z = true) (ws : List Jvm.Cond) (o0 : Addr) (h0 : Heap) (n0 : Nat) (Z0 : n0 ≤ h0.size) :
    MetFree l mn_0 (head1 (Jvm.Cond.code mn_0 jdk_22_method_1_code 1 none :: ws) (⟨1, 0, 0, 12⟩ : Room)) (fun a U => a = #[(.ref o0)] ∧ Z.Warmed39 U.vm ∧ U.heap = h0) (fun _ _ _ _ _ => True) (fun _ U o U' => ∃ v L, o = .returned v ∧ Q3 Z o0 h0 n0 v U'.heap L ∧ FrameEnd U o U' L (⟨1, 0, 0, 12⟩ : Room).cells (⟨1, 0, 0, 12⟩ : Room).slots) := by
  refine MetFree.of_bodySF (plainFor_of_name pn_0) hisR ?_
  intro p e s m args below meth c s₁ Bd hml0 hP hK
  obtain ⟨rfl, hZ, hh⟩ := hP
  have hx := Bd.exec
  have hby := Bd.bytes
  have hml : c.maxLocals = 1 := hml0
  have hown : s.vm.findClass "java/util/AbstractCollection" = some m.cls := findClass_of_methodNamed Bd.named
  have hnm := (name_of_methodNamed Bd.named Bd.method).1
  have X0 : Stand p l e (⟨1, 0, 0, 12⟩ : Room) s m #[(.ref o0)] below meth c s₁ [] 0 0 := Stand.of_body Bd
  have e0 : s₁.heap = h0 := by rw [← hh, Bd.state]; rfl
  have N0 := Fr.nil n0
  have hret := Bd.returns
  have hlk := BodyLoose.notSynchronized Bd
  show own_Out p e below (fun o U' => ∃ v L, o = .returned v ∧ Q3 Z o0 h0 n0 v U'.heap L ∧ FrameEnd s o U' L (⟨1, 0, 0, 12⟩ : Room).cells (⟨1, 0, 0, 12⟩ : Room).slots) (s₁.setTop (entryFrame m #[(.ref o0)] 1))
  refine own_of (fun t k => castTop (ef_3 m o0) k) ?_
  show own_Out p e below _ (s₁.setTop (mkF m 0 #[rv o0] []))
  refine o_aloadN X0 hx hby d3_0 rfl rfl (q := 1) rfl ?_
  obtain ⟨T1, X1, e1, st1⟩ := initO X0 hx hZ hown (w_ hw 22 rfl) (w_ hw 23 rfl) (w_ hw 24 rfl) e0 (g := (mkF m 1 #[rv o0] [.ref o0])) rfl (by rw [hml]; rfl) rfl (hb hby d3_1) (by decide) (W := 0) (by show 2 * 0 + _ ≤ _; exact Nat.le_of_eq rfl) (by decide)
  refine own_of st1 ?_
  show own_Out p e below _ (T1.setTop (mkF m 4 #[rv o0] []))
  exact own_outV X1 hx hlk hret (hb hby d3_4) (Q := Q3 Z o0 h0 n0) ⟨rfl, N0, e1⟩ (by decide) (by decide)
theorem pd_0 : parseMethodDescriptor "()V" = some ⟨[], none⟩ := by decide +kernel
theorem d2_0 : decode jdk_39_method_1_code 0 = .ok (.aload_n 0, 1) := by decide +kernel
theorem d2_1 : decode jdk_39_method_1_code 1 = .ok (.invokespecial 1, 3) := by decide +kernel
theorem d2_4 : decode jdk_39_method_1_code 4 = .ok (.aload_n 0, 1) := by decide +kernel
theorem d2_5 : decode jdk_39_method_1_code 5 = .ok (.iconst 0, 1) := by decide +kernel
theorem d2_6 : decode jdk_39_method_1_code 6 = .ok (.putfield 7, 3) := by decide +kernel
theorem d2_9 : decode jdk_39_method_1_code 9 = .ok (.return_, 1) := by decide +kernel
theorem pn_1 : plainName "java/util/AbstractList" = true := by first | (simp [plainName, overriddenIn]; done) | decide +kernel
theorem ef_2 (m : MethodId) (x0 : Addr) : entryFrame m #[(.ref x0)] 1 = mkF m 0 #[.val (.ref x0)] [] := by first | (simp [entryFrame, mkF, argsToLocals, Value.category]; done) | rfl
def Q2 (Z : State) (o0 : Addr) (h0 : Heap) (n0 : Nat) (v : Option Value) (h : Heap) (L : List Loc) : Prop := v = none ∧ Fr n0 L ∧ Keep h0 h [o0] ∧ Exa Z h o0 "java/util/ArrayList" ∧ Fld Z h o0 "java/util/AbstractList" "modCount" "I" (.int 0) ∧ Fld Z h o0 "java/util/ArrayList" "elementData" "[Ljava/lang/Object;" .null ∧ Fld Z h o0 "java/util/ArrayList" "size" "I" (.int 0)
set_option maxRecDepth 65536 in
set_option maxHeartbeats 40000000 in
theorem rm2 (l : Launch) (Z : State) (a0 : Array Value) (hw : ∀ d ∈ tables_1, d.before a0 Z = true) (ws : List Jvm.Cond) (o0 : Addr) (h0 : Heap) (n0 : Nat) (Z0 : n0 ≤ h0.size) (E : Exa Z h0 o0 "java/util/ArrayList") (F_modCount : Fld Z h0 o0 "java/util/AbstractList" "modCount" "I" (.int 0)) (F_elementData : Fld Z h0 o0 "java/util/ArrayList" "elementData" "[Ljava/lang/Object;" .null) (F_size : Fld Z h0 o0 "java/util/ArrayList" "size" "I" (.int 0)) (g_o0 : n0 ≤ o0) :
    MetFree l mn_1 (head1 (Jvm.Cond.code mn_1 jdk_39_method_1_code 1 none :: ws) (⟨2, 0, 0, 24⟩ : Room)) (fun a U => a = #[(.ref o0)] ∧ Z.Warmed39 U.vm ∧ U.heap = h0) (fun _ _ _ _ _ => True) (fun _ U o U' => ∃ v L, o = .returned v ∧ Q2 Z o0 h0 n0 v U'.heap L ∧ FrameEnd U o U' L (⟨2, 0, 0, 24⟩ : Room).cells (⟨2, 0, 0, 24⟩ : Room).slots) := by
  refine MetFree.of_bodySF (plainFor_of_name pn_1) hisR ?_
  intro p e s m args below meth c s₁ Bd hml0 hP hK
  obtain ⟨rfl, hZ, hh⟩ := hP
  have hx := Bd.exec
  have hby := Bd.bytes
  have hml : c.maxLocals = 1 := hml0
  have hown : s.vm.findClass "java/util/AbstractList" = some m.cls := findClass_of_methodNamed Bd.named
  have hnm := (name_of_methodNamed Bd.named Bd.method).1
  have X0 : Stand p l e (⟨2, 0, 0, 24⟩ : Room) s m #[(.ref o0)] below meth c s₁ [] 0 0 := Stand.of_body Bd
  have e0 : s₁.heap = h0 := by rw [← hh, Bd.state]; rfl
  have N0 := Fr.nil n0
  have hret := Bd.returns
  have hlk := BodyLoose.notSynchronized Bd
  show own_Out p e below (fun o U' => ∃ v L, o = .returned v ∧ Q2 Z o0 h0 n0 v U'.heap L ∧ FrameEnd s o U' L (⟨2, 0, 0, 24⟩ : Room).cells (⟨2, 0, 0, 24⟩ : Room).slots) (s₁.setTop (entryFrame m #[(.ref o0)] 1))
  refine own_of (fun t k => castTop (ef_2 m o0) k) ?_
  show own_Out p e below _ (s₁.setTop (mkF m 0 #[rv o0] []))
  refine o_aloadN X0 hx hby d2_0 rfl rfl (q := 1) rfl ?_
  obtain ⟨_, _, ⟨T1, L1, k1, n1⟩, -, X1, ⟨Lc1, hQ1, l1, y1, z1⟩, st1⟩ := X0.specialBack hx (y := mn_0) rfl hown (mvT hZ (w_ hw 16 rfl)) (mvT hZ (w_ hw 17 rfl)) (mvT hZ (w_ hw 21 rfl)) (by decide) (backOf (W := 0) (rm3 l Z a0 hw [] o0 h0 n0 Z0 ) hZ (w_ hw 21 rfl) (w_ hw 20 rfl) (by decide) (by decide)) (g := (mkF m 1 #[rv o0] [.ref o0])) rfl (by rw [hml]; rfl) (Steps.refl _) (a := o0) (argsL := []) (rest := []) (lenOf pd_0 rfl) rfl (by show 2 * 0 + _ ≤ _; exact Nat.le_of_eq rfl) (hb hby d2_1) (fun _ _ => ⟨rfl, e0, (by decide : 0 + 0 ≤ _), (by decide : 0 + 0 ≤ _)⟩)
  dsimp only [Pt.U, Pt.locs, Pt.cells, Pt.slots] at X1 l1 y1 z1 st1 hQ1
  subst l1 y1 z1
  obtain ⟨rfl, N1q, hh1⟩ := hQ1
  have N1 := Fr.app N0 N1q
  refine own_of (fun _ k => st1.trans k) ?_
  show own_Out p e below _ (T1.setTop (mkF m 4 #[rv o0] []))
  refine o_aloadN X1 hx hby d2_4 rfl rfl (q := 5) rfl ?_
  refine o_iconst X1 hx hby d2_5 (z := 0) rfl (q := 6) rfl ?_
  obtain ⟨T2, h2, X2, e2, W2, st2⟩ := putF X1 hx hZ hown (host := "") (Or.inl (w_ hw 25 rfl)) Via.refl hh1 F_modCount E (Or.inl (w_ hw 26 rfl)) (w_ hw 5 rfl) (ty := .int) (by decide) rfl rfl (g := (mkF m 6 #[rv o0] [.int 0, .ref o0])) rfl rfl (hb hby d2_6)
  have Fw2 := F_modCount.same W2
  refine own_of st2 ?_
  show own_Out p e below _ (T2.setTop (mkF m 9 #[rv o0] []))
  have qz3 := ((Keep.refl h0 [o0]).wr W2 (Or.inl (List.mem_of_getElem? (i := 0) rfl)))
  have qz4 := (E.wr W2)
  have qz5 := (F_elementData.other W2 (Or.inr (slot_ne (Or.inl (w_ hw 29 rfl)) (Or.inl (w_ hw 26 rfl)) (by decide) (t := (.array (.object "java/lang/Object"))) (t' := .int) (by decide) (by decide))))
  have qz6 := (F_size.other W2 (Or.inr (slot_ne (Or.inl (w_ hw 48 rfl)) (Or.inl (w_ hw 26 rfl)) (by decide) (t := .int) (t' := .int) (by decide) (by decide))))
  exact own_outV X2 hx hlk hret (hb hby d2_9) (Q := Q2 Z o0 h0 n0) (by rw [e2]; exact ⟨rfl, (Fr.snoc X2 N1 g_o0), qz3, qz4, Fw2, qz5, qz6⟩) (by decide) (by decide)
theorem d1_0 : decode jdk_38_method_2_code 0 = .ok (.aload_n 0, 1) := by decide +kernel
theorem d1_1 : decode jdk_38_method_2_code 1 = .ok (.invokespecial 1, 3) := by decide +kernel
theorem d1_4 : decode jdk_38_method_2_code 4 = .ok (.aload_n 0, 1) := by decide +kernel
theorem d1_5 : decode jdk_38_method_2_code 5 = .ok (.getstatic 39, 3) := by decide +kernel
theorem d1_8 : decode jdk_38_method_2_code 8 = .ok (.putfield 9, 3) := by decide +kernel
theorem d1_11 : decode jdk_38_method_2_code 11 = .ok (.return_, 1) := by decide +kernel
theorem pn_2 : plainName "java/util/ArrayList" = true := by first | (simp [plainName, overriddenIn]; done) | decide +kernel
theorem ef_1 (m : MethodId) (x0 : Addr) : entryFrame m #[(.ref x0)] 1 = mkF m 0 #[.val (.ref x0)] [] := by first | (simp [entryFrame, mkF, argsToLocals, Value.category]; done) | rfl
def Q1 (Z : State) (o0 wE : Addr) (h0 : Heap) (n0 : Nat) (v : Option Value) (h : Heap) (L : List Loc) : Prop := v = none ∧ Fr n0 L ∧ Keep h0 h [o0] ∧ Exa Z h o0 "java/util/ArrayList" ∧ Fld Z h o0 "java/util/AbstractList" "modCount" "I" (.int 0) ∧ Fld Z h o0 "java/util/ArrayList" "elementData" "[Ljava/lang/Object;" (.ref wE) ∧ Fld Z h o0 "java/util/ArrayList" "size" "I" (.int 0)
set_option maxRecDepth 65536 in
set_option maxHeartbeats 40000000 in
theorem rm1 (l : Launch) (Z : State) (a0 : Array Value) (hw : ∀ d ∈ tables_1, d.before a0 Z = true) (ws : List Jvm.Cond) (o0 wE : Addr) (h0 : Heap) (n0 : Nat) (Z0 : n0 ≤ h0.size) (E : Exa Z h0 o0 "java/util/ArrayList") (F_modCount : Fld Z h0 o0 "java/util/AbstractList" "modCount" "I" (.int 0)) (F_elementData : Fld Z h0 o0 "java/util/ArrayList" "elementData" "[Ljava/lang/Object;" .null) (F_size : Fld Z h0 o0 "java/util/ArrayList" "size" "I" (.int 0)) (g_o0 : n0 ≤ o0) (S_e : Sta Z h0 "java/util/ArrayList" "DEFAULTCAPACITY_EMPTY_ELEMENTDATA" "[Ljava/lang/Object;" (.ref wE)) :
    MetFree l mn_2 (head1 (Jvm.Cond.code mn_2 jdk_38_method_2_code 1 none :: ws) (⟨3, 0, 0, 36⟩ : Room)) (fun a U => a = #[(.ref o0)] ∧ Z.Warmed39 U.vm ∧ U.heap = h0) (fun _ _ _ _ _ => True) (fun _ U o U' => ∃ v L, o = .returned v ∧ Q1 Z o0 wE h0 n0 v U'.heap L ∧ FrameEnd U o U' L (⟨3, 0, 0, 36⟩ : Room).cells (⟨3, 0, 0, 36⟩ : Room).slots) := by
  refine MetFree.of_bodySF (plainFor_of_name pn_2) hisR ?_
  intro p e s m args below meth c s₁ Bd hml0 hP hK
  obtain ⟨rfl, hZ, hh⟩ := hP
  have hx := Bd.exec
  have hby := Bd.bytes
  have hml : c.maxLocals = 1 := hml0
  have hown : s.vm.findClass "java/util/ArrayList" = some m.cls := findClass_of_methodNamed Bd.named
  have hnm := (name_of_methodNamed Bd.named Bd.method).1
  have X0 : Stand p l e (⟨3, 0, 0, 36⟩ : Room) s m #[(.ref o0)] below meth c s₁ [] 0 0 := Stand.of_body Bd
  have e0 : s₁.heap = h0 := by rw [← hh, Bd.state]; rfl
  have N0 := Fr.nil n0
  have hret := Bd.returns
  have hlk := BodyLoose.notSynchronized Bd
  show own_Out p e below (fun o U' => ∃ v L, o = .returned v ∧ Q1 Z o0 wE h0 n0 v U'.heap L ∧ FrameEnd s o U' L (⟨3, 0, 0, 36⟩ : Room).cells (⟨3, 0, 0, 36⟩ : Room).slots) (s₁.setTop (entryFrame m #[(.ref o0)] 1))
  refine own_of (fun t k => castTop (ef_1 m o0) k) ?_
  show own_Out p e below _ (s₁.setTop (mkF m 0 #[rv o0] []))
  refine o_aloadN X0 hx hby d1_0 rfl rfl (q := 1) rfl ?_
  obtain ⟨_, _, ⟨T1, L1, k1, n1⟩, -, X1, ⟨Lc1, hQ1, l1, y1, z1⟩, st1⟩ := X0.specialBack hx (y := mn_1) rfl hown (mvT hZ (w_ hw 10 rfl)) (mvT hZ (w_ hw 11 rfl)) (mvT hZ (w_ hw 15 rfl)) (by decide) (backOf (W := 0) (rm2 l Z a0 hw [] o0 h0 n0 Z0 E F_modCount F_elementData F_size g_o0) hZ (w_ hw 15 rfl) (w_ hw 14 rfl) (by decide) (by decide)) (g := (mkF m 1 #[rv o0] [.ref o0])) rfl (by rw [hml]; rfl) (Steps.refl _) (a := o0) (argsL := []) (rest := []) (lenOf pd_0 rfl) rfl (by show 2 * 0 + _ ≤ _; exact Nat.le_of_eq rfl) (hb hby d1_1) (fun _ _ => ⟨rfl, e0, (by decide : 0 + 0 ≤ _), (by decide : 0 + 0 ≤ _)⟩)
  dsimp only [Pt.U, Pt.locs, Pt.cells, Pt.slots] at X1 l1 y1 z1 st1 hQ1
  subst l1 y1 z1
  obtain ⟨rfl, N1q, K1, E1, F1_modCount, F1_elementData, F1_size⟩ := hQ1
  have N1 := Fr.app N0 N1q
  refine own_of (fun _ k => st1.trans k) ?_
  show own_Out p e below _ (T1.setTop (mkF m 4 #[rv o0] []))
  refine o_aloadN X1 hx hby d1_4 rfl rfl (q := 5) rfl ?_
  have qz3 := (own_staK1 S_e K1 (own_plainE E))
  obtain ⟨T2, X2, e2, st2⟩ := getS2 X1 hx hZ hown (host := "") (Or.inl (w_ hw 27 rfl)) Via.refl rfl qz3 (g := (mkF m 5 #[rv o0] [.ref o0])) rfl (hb hby d1_5)
  refine own_of st2 ?_
  show own_Out p e below _ (T2.setTop (mkF m 8 #[rv o0] [.ref wE, .ref o0]))
  obtain ⟨T4, h4, X4, e4, W4, st4⟩ := putF X2 hx hZ hown (host := "") (Or.inl (w_ hw 28 rfl)) Via.refl e2 F1_elementData E1 (Or.inl (w_ hw 29 rfl)) (w_ hw 5 rfl) (ty := (.array (.object "java/lang/Object"))) (by decide) rfl rfl (g := (mkF m 8 #[rv o0] [.ref wE, .ref o0])) rfl rfl (hb hby d1_8)
  have Fw4 := F1_elementData.same W4
  refine own_of st4 ?_
  show own_Out p e below _ (T4.setTop (mkF m 11 #[rv o0] []))
  have qz5 := (((Keep.refl h0 [o0]).trans K1 (allS (Or.inl (List.mem_of_getElem? (i := 0) rfl)) all0)).wr W4 (Or.inl (List.mem_of_getElem? (i := 0) rfl)))
  have qz6 := (E1.wr W4)
  have qz7 := (F1_modCount.other W4 (Or.inr (slot_ne (Or.inl (w_ hw 26 rfl)) (Or.inl (w_ hw 29 rfl)) (by decide) (t := .int) (t' := (.array (.object "java/lang/Object"))) (by decide) (by decide))))
  have qz8 := (F1_size.other W4 (Or.inr (slot_ne (Or.inl (w_ hw 48 rfl)) (Or.inl (w_ hw 29 rfl)) (by decide) (t := .int) (t' := (.array (.object "java/lang/Object"))) (by decide) (by decide))))
  exact own_outV X4 hx hlk hret (hb hby d1_11) (Q := Q1 Z o0 wE h0 n0) (by rw [e4]; exact ⟨rfl, (Fr.snoc X4 N1 g_o0), qz5, qz6, qz7, Fw4, qz8⟩) (by decide) (by decide)
theorem d7_0 : decode jdk_38_method_8_code 0 = .ok (.aload_n 0, 1) := by decide +kernel
theorem d7_1 : decode jdk_38_method_8_code 1 = .ok (.getfield 48, 3) := by decide +kernel
theorem d7_4 : decode jdk_38_method_8_code 4 = .ok (.ireturn, 1) := by decide +kernel
theorem ef_7 (m : MethodId) (x0 : Addr) : entryFrame m #[(.ref x0)] 1 = mkF m 0 #[.val (.ref x0)] [] := by first | (simp [entryFrame, mkF, argsToLocals, Value.category]; done) | rfl
def Q7 (Z : State) (o0 : Addr) (h0 : Heap) (n0 : Nat) (v : Option Value) (h : Heap) (L : List Loc) : Prop := v = some (.int 0) ∧ Fr n0 L ∧ h = h0
set_option maxRecDepth 65536 in
set_option maxHeartbeats 40000000 in
theorem rm7 (l : Launch) (Z : State) (a0 : Array Value) (hw : ∀ d ∈ tables_1, d.before a0 Z = true) (ws : List Jvm.Cond) (o0 : Addr) (h0 : Heap) (n0 : Nat) (Z0 : n0 ≤ h0.size) (Fz : Fld Z h0 o0 "java/util/ArrayList" "size" "I" (.int 0)) :
    MetFree l mn_3 (head1 (Jvm.Cond.code mn_3 jdk_38_method_8_code 1 (some .int) :: ws) (⟨0, 0, 0, 0⟩ : Room)) (fun a U => a = #[(.ref o0)] ∧ Z.Warmed39 U.vm ∧ U.heap = h0) (fun _ _ _ _ _ => True) (fun _ U o U' => ∃ v L, o = .returned v ∧ Q7 Z o0 h0 n0 v U'.heap L ∧ FrameEnd U o U' L (⟨0, 0, 0, 0⟩ : Room).cells (⟨0, 0, 0, 0⟩ : Room).slots) := by
  refine MetFree.of_bodySF (plainFor_of_name pn_2) hisR ?_
  intro p e s m args below meth c s₁ Bd hml0 hP hK
  obtain ⟨rfl, hZ, hh⟩ := hP
  have hx := Bd.exec
  have hby := Bd.bytes
  have hml : c.maxLocals = 1 := hml0
  have hown : s.vm.findClass "java/util/ArrayList" = some m.cls := findClass_of_methodNamed Bd.named
  have hnm := (name_of_methodNamed Bd.named Bd.method).1
  have X0 : Stand p l e (⟨0, 0, 0, 0⟩ : Room) s m #[(.ref o0)] below meth c s₁ [] 0 0 := Stand.of_body Bd
  have e0 : s₁.heap = h0 := by rw [← hh, Bd.state]; rfl
  have N0 := Fr.nil n0
  have hret := Bd.returns
  have hlk := BodyLoose.notSynchronized Bd
  show own_Out p e below (fun o U' => ∃ v L, o = .returned v ∧ Q7 Z o0 h0 n0 v U'.heap L ∧ FrameEnd s o U' L (⟨0, 0, 0, 0⟩ : Room).cells (⟨0, 0, 0, 0⟩ : Room).slots) (s₁.setTop (entryFrame m #[(.ref o0)] 1))
  refine own_of (fun t k => castTop (ef_7 m o0) k) ?_
  show own_Out p e below _ (s₁.setTop (mkF m 0 #[rv o0] []))
  refine o_aloadN X0 hx hby d7_0 rfl rfl (q := 1) rfl ?_
  refine o_getF X0 hx hZ hown hby (w_ hw 47 rfl) Via.refl e0 Fz d7_1 (q := 4) rfl fun T1 X1 e1 => ?_
  exact own_outI X1 hx hlk hret (hb hby d7_4) (Q := Q7 Z o0 h0 n0) ⟨rfl, N0, e1⟩ (by decide) (by decide)
theorem pd_1 : parseMethodDescriptor "()I" = some ⟨[], some .int⟩ := by decide +kernel
theorem d6_0 : decode prog_83_method_3_code 0 = .ok (.aload_n 0, 1) := by decide +kernel
theorem d6_1 : decode prog_83_method_3_code 1 = .ok (.invokespecial 9, 3) := by decide +kernel
theorem d6_4 : decode prog_83_method_3_code 4 = .ok (.iload_n 2, 1) := by decide +kernel
theorem d6_5 : decode prog_83_method_3_code 5 = .ok (.ifCond .lt 9, 3) := by decide +kernel
theorem d6_8 : decode prog_83_method_3_code 8 = .ok (.iload_n 2, 1) := by decide +kernel
theorem d6_9 : decode prog_83_method_3_code 9 = .ok (.ldc 14, 2) := by decide +kernel
theorem d6_11 : decode prog_83_method_3_code 11 = .ok (.if_icmp .le 17, 3) := by decide +kernel
theorem d6_28 : decode prog_83_method_3_code 28 = .ok (.aload_n 0, 1) := by decide +kernel
theorem d6_29 : decode prog_83_method_3_code 29 = .ok (.aload_n 1, 1) := by decide +kernel
theorem d6_30 : decode prog_83_method_3_code 30 = .ok (.invokeinterface 24 1, 5) := by decide +kernel
theorem d6_35 : decode prog_83_method_3_code 35 = .ok (.anewarray 30, 3) := by decide +kernel
theorem d6_38 : decode prog_83_method_3_code 38 = .ok (.putfield 32, 3) := by decide +kernel
theorem d6_41 : decode prog_83_method_3_code 41 = .ok (.aload_n 0, 1) := by decide +kernel
theorem d6_42 : decode prog_83_method_3_code 42 = .ok (.aload_n 1, 1) := by decide +kernel
theorem d6_43 : decode prog_83_method_3_code 43 = .ok (.invokeinterface 24 1, 5) := by decide +kernel
theorem d6_48 : decode prog_83_method_3_code 48 = .ok (.anewarray 36, 3) := by decide +kernel
theorem d6_51 : decode prog_83_method_3_code 51 = .ok (.putfield 38, 3) := by decide +kernel
theorem d6_54 : decode prog_83_method_3_code 54 = .ok (.iconst 0, 1) := by decide +kernel
theorem d6_55 : decode prog_83_method_3_code 55 = .ok (.istore 4, 2) := by decide +kernel
theorem d6_57 : decode prog_83_method_3_code 57 = .ok (.iload 4, 2) := by decide +kernel
theorem d6_59 : decode prog_83_method_3_code 59 = .ok (.aload_n 1, 1) := by decide +kernel
theorem d6_60 : decode prog_83_method_3_code 60 = .ok (.invokeinterface 24 1, 5) := by decide +kernel
theorem d6_65 : decode prog_83_method_3_code 65 = .ok (.if_icmp .ge 56, 3) := by decide +kernel
theorem d6_121 : decode prog_83_method_3_code 121 = .ok (.aload_n 0, 1) := by decide +kernel
theorem d6_122 : decode prog_83_method_3_code 122 = .ok (.iload_n 2, 1) := by decide +kernel
theorem d6_123 : decode prog_83_method_3_code 123 = .ok (.putfield 66, 3) := by decide +kernel
theorem d6_126 : decode prog_83_method_3_code 126 = .ok (.aload_n 0, 1) := by decide +kernel
theorem d6_127 : decode prog_83_method_3_code 127 = .ok (.iload_n 3, 1) := by decide +kernel
theorem d6_128 : decode prog_83_method_3_code 128 = .ok (.putfield 70, 3) := by decide +kernel
theorem d6_131 : decode prog_83_method_3_code 131 = .ok (.return_, 1) := by decide +kernel
theorem pn_3 : plainName "com/example/headway/headway/engine/RowBuffer" = true := by first | (simp [plainName, overriddenIn]; done) | decide +kernel
theorem ef_6 (m : MethodId) (x0 x1 : Addr) : entryFrame m #[(.ref x0), (.ref x1), (.int 0), (.int 1)] 5 = mkF m 0 #[.val (.ref x0), .val (.ref x1), .val (.int 0), .val (.int 1), .unset] [] := by first | (simp [entryFrame, mkF, argsToLocals, Value.category]; done) | rfl
def Q6 (Z : State) (o0 o1 : Addr) (h0 : Heap) (n0 : Nat) (v : Option Value) (h : Heap) (L : List Loc) : Prop := ∃ (b : Addr) (k : ClassId), v = none ∧ Fr n0 L ∧ Keep h0 h [o0] ∧ Exa Z h o0 "com/example/headway/headway/engine/RowBuffer" ∧ Fld Z h o0 "com/example/headway/headway/engine/RowBuffer" "numbers" "[[J" (.ref b) ∧ Fld Z h o0 "com/example/headway/headway/engine/RowBuffer" "capacity" "I" (.int 0) ∧ Fld Z h o0 "com/example/headway/headway/engine/RowBuffer" "size" "I" (.int 0) ∧ Fld Z h o0 "com/example/headway/headway/engine/RowBuffer" "doubles" "Z" (.int 1) ∧ Arv Z h b k (.array .long) (0 : Int32) [] .null ∧ n0 ≤ b ∧ h0.size ≤ b
set_option maxRecDepth 65536 in
set_option maxHeartbeats 40000000 in
theorem rm6 (l : Launch) (Z : State) (a0 : Array Value) (hw : ∀ d ∈ tables_1, d.before a0 Z = true) (ws : List Jvm.Cond) (o0 o1 : Addr) (h0 : Heap) (n0 : Nat) (Z0 : n0 ≤ h0.size) (E : Exa Z h0 o0 "com/example/headway/headway/engine/RowBuffer") (F_numbers : Fld Z h0 o0 "com/example/headway/headway/engine/RowBuffer" "numbers" "[[J" .null) (F_strings : Fld Z h0 o0 "com/example/headway/headway/engine/RowBuffer" "strings" "[[Ljava/lang/String;" .null) (F_doubles : Fld Z h0 o0 "com/example/headway/headway/engine/RowBuffer" "doubles" "Z" (.int 0)) (F_capacity : Fld Z h0 o0 "com/example/headway/headway/engine/RowBuffer" "capacity" "I" (.int 0)) (F_size : Fld Z h0 o0 "com/example/headway/headway/engine/RowBuffer" "size" "I" (.int 0)) (g_o0 : n0 ≤ o0) (Eo1 : Exa Z h0 o1 "java/util/ArrayList") (Fz : Fld Z h0 o1 "java/util/ArrayList" "size" "I" (.int 0)) (n10 : o1 ≠ o0) :
    MetFree l mn_4 (head1 (Jvm.Cond.code mn_4 prog_83_method_3_code 5 none :: ws) (⟨1, 2, 0, 13⟩ : Room)) (fun a U => a = #[(.ref o0), (.ref o1), (.int 0), (.int 1)] ∧ Z.Warmed39 U.vm ∧ U.heap = h0) (fun _ _ _ _ _ => True) (fun _ U o U' => ∃ v L, o = .returned v ∧ Q6 Z o0 o1 h0 n0 v U'.heap L ∧ FrameEnd U o U' L (⟨1, 2, 0, 13⟩ : Room).cells (⟨1, 2, 0, 13⟩ : Room).slots) := by
  refine MetFree.of_bodySF (plainFor_of_name pn_3) hisR ?_
  intro p e s m args below meth c s₁ Bd hml0 hP hK
  obtain ⟨rfl, hZ, hh⟩ := hP
  have hx := Bd.exec
  have hby := Bd.bytes
  have hml : c.maxLocals = 5 := hml0
  have hown : s.vm.findClass "com/example/headway/headway/engine/RowBuffer" = some m.cls := findClass_of_methodNamed Bd.named
  have hnm := (name_of_methodNamed Bd.named Bd.method).1
  have X0 : Stand p l e (⟨1, 2, 0, 13⟩ : Room) s m #[(.ref o0), (.ref o1), (.int 0), (.int 1)] below meth c s₁ [] 0 0 := Stand.of_body Bd
  have e0 : s₁.heap = h0 := by rw [← hh, Bd.state]; rfl
  have N0 := Fr.nil n0
  have hret := Bd.returns
  have hlk := BodyLoose.notSynchronized Bd
  show own_Out p e below (fun o U' => ∃ v L, o = .returned v ∧ Q6 Z o0 o1 h0 n0 v U'.heap L ∧ FrameEnd s o U' L (⟨1, 2, 0, 13⟩ : Room).cells (⟨1, 2, 0, 13⟩ : Room).slots) (s₁.setTop (entryFrame m #[(.ref o0), (.ref o1), (.int 0), (.int 1)] 5))
  refine own_of (fun t k => castTop (ef_6 m o0 o1) k) ?_
  show own_Out p e below _ (s₁.setTop (mkF m 0 #[rv o0, rv o1, iv 0, iv 1, .unset] []))
  refine o_aloadN X0 hx hby d6_0 rfl rfl (q := 1) rfl ?_
  obtain ⟨T1, X1, e1, st1⟩ := initO X0 hx hZ hown (w_ hw 36 rfl) (w_ hw 23 rfl) (w_ hw 24 rfl) e0 (g := (mkF m 1 #[rv o0, rv o1, iv 0, iv 1, .unset] [.ref o0])) rfl (by rw [hml]; rfl) rfl (hb hby d6_1) (by decide) (W := 0) (by show 2 * 0 + _ ≤ _; exact Nat.le_of_eq rfl) (by decide)
  refine own_of st1 ?_
  show own_Out p e below _ (T1.setTop (mkF m 4 #[rv o0, rv o1, iv 0, iv 1, .unset] []))
  refine o_iloadN X1 hx hby d6_4 rfl (q := 5) rfl ?_
  refine o_ifN X1 hx hby d6_5 ((if0 _ _).trans (flt (by decide : ¬ ((0 : Int32) < (0 : Int32)))).1) (q := 8) rfl ?_
  refine o_iloadN X1 hx hby d6_8 rfl (q := 9) rfl ?_
  refine o_ldcI X1 hx hZ hown hby (w_ hw 37 rfl) d6_9 (q := 11) rfl ?_
  refine o_icY X1 hx hby d6_11 (flt (by decide : ¬ ((2147483639 : Int32) < (0 : Int32)))).2.2.2 (by decide) (q := 28) (by decide) ?_
  refine o_aloadN X1 hx hby d6_28 rfl rfl (q := 29) rfl ?_
  refine o_aloadN X1 hx hby d6_29 rfl rfl (q := 30) rfl ?_
  obtain ⟨cq2, kq2, q2a, q2b, q2c⟩ := isOf hZ e1 Eo1
  obtain ⟨_, _, ⟨T2, L2, k2, n2⟩, -, X2, ⟨Lc2, hQ2, l2, y2, z2⟩, st2⟩ := X1.interfaceBack hx (xi := mn_5) (y := mn_3) hown (mvT hZ (w_ hw 38 rfl)) (mvT hZ (w_ hw 39 rfl)) (mvT hZ (w_ hw 40 rfl)) (mvT hZ (w_ hw 41 rfl)) (mvT hZ (w_ hw 42 rfl)) (mvT hZ (w_ hw 43 rfl)) (mvT hZ (w_ hw 44 rfl)) (mvT hZ (w_ hw 45 rfl)) (by decide) (backOf (W := 1) (rm7 l Z a0 hw [] o1 h0 n0 Z0 Fz) hZ (w_ hw 46 rfl) (w_ hw 6 rfl) (by decide) (by decide)) q2a q2b q2c (g := (mkF m 30 #[rv o0, rv o1, iv 0, iv 1, .unset] [.ref o1, .ref o0])) rfl (by rw [hml]; rfl) (Steps.refl _) (argsL := []) (rest := [(.ref o0)]) (lenOf pd_1 rfl) rfl (by show 2 * 0 + _ ≤ _; exact Nat.le_of_eq rfl) (hb hby d6_30) (fun _ _ => ⟨rfl, e1, (by decide : 0 + 0 ≤ _), (by decide : 0 + 0 ≤ _)⟩)
  dsimp only [Pt.U, Pt.locs, Pt.cells, Pt.slots] at X2 l2 y2 z2 st2 hQ2
  subst l2 y2 z2
  obtain ⟨rfl, N2q, hh2⟩ := hQ2
  have N2 := Fr.app N0 N2q
  refine own_of (fun _ k => st2.trans k) ?_
  show own_Out p e below _ (T2.setTop (mkF m 35 #[rv o0, rv o1, iv 0, iv 1, .unset] [.int 0, .ref o0]))
  obtain ⟨T3, h3, k3, X3, e3, E3, A3, Ex3, O3, st3⟩ := newRA X2 hx hZ hown (ty := .long) (by decide +kernel) (w_ hw 49 rfl) (w_ hw 50 rfl) hh2 (g := (mkF m 35 #[rv o0, rv o1, iv 0, iv 1, .unset] [.int 0, .ref o0])) rfl (hb hby d6_35) rfl (by decide) (cap := 0) (by decide) (by decide) (by decide) (by decide) (ad := "[[J") (by decide +kernel)
  obtain ⟨b3, g3⟩ : ∃ z, z = h0.size := ⟨_, rfl⟩
  rw [← g3] at A3 Ex3 st3
  have g_b3 : n0 ≤ b3 := Nat.le_trans Z0 (Nat.le_of_eq g3.symm)
  have sz_b3 : h0.size ≤ b3 := Nat.le_trans (Nat.le_refl h0.size) (Nat.le_of_eq g3.symm)
  have V_b3 : Arv Z h3 b3 k3 (.array .long) (0 : Int32) [] .null := (Arv.new A3 (by decide)).pad (pad_rep [] .null 0)
  refine own_of st3 ?_
  show own_Out p e below _ (T3.setTop (mkF m 38 #[rv o0, rv o1, iv 0, iv 1, .unset] [.ref b3, .ref o0]))
  have qz5 := (F_numbers.ext E3)
  have qz6 := (E.ext E3)
  obtain ⟨T4, h4, X4, e4, W4, st4⟩ := putF X3 hx hZ hown (host := "") (Or.inl (w_ hw 51 rfl)) Via.refl e3 qz5 qz6 (Or.inr ⟨(w_ hw 52 rfl), rfl, hnm⟩) (w_ hw 2 rfl) (ty := (.array (.array .long))) (by decide) rfl rfl (g := (mkF m 38 #[rv o0, rv o1, iv 0, iv 1, .unset] [.ref b3, .ref o0])) rfl rfl (hb hby d6_38)
  have qz7 := (F_numbers.ext E3)
  have Fw4 := qz7.same W4
  refine own_of st4 ?_
  show own_Out p e below _ (T4.setTop (mkF m 41 #[rv o0, rv o1, iv 0, iv 1, .unset] []))
  refine o_aloadN X4 hx hby d6_41 rfl rfl (q := 42) rfl ?_
  refine o_aloadN X4 hx hby d6_42 rfl rfl (q := 43) rfl ?_
  have qz9 := ((Fz.ext E3).other W4 (Or.inl n10))
  have qz10 := (Nat.le_trans (Nat.le_trans Z0 E3.1) (Keep.of_wr W4).1)
  have qz11 := ((Eo1.ext E3).wr W4)
  obtain ⟨cq8, kq8, q8a, q8b, q8c⟩ := isOf hZ e4 qz11
  obtain ⟨_, _, ⟨T8, L8, k8, n8⟩, -, X8, ⟨Lc8, hQ8, l8, y8, z8⟩, st8⟩ := X4.interfaceBack hx (xi := mn_5) (y := mn_3) hown (mvT hZ (w_ hw 38 rfl)) (mvT hZ (w_ hw 39 rfl)) (mvT hZ (w_ hw 40 rfl)) (mvT hZ (w_ hw 41 rfl)) (mvT hZ (w_ hw 42 rfl)) (mvT hZ (w_ hw 43 rfl)) (mvT hZ (w_ hw 44 rfl)) (mvT hZ (w_ hw 45 rfl)) (by decide) (backOf (W := 1) (rm7 l Z a0 hw [] o1 h4 n0 qz10 qz9) hZ (w_ hw 46 rfl) (w_ hw 6 rfl) (by decide) (by decide)) q8a q8b q8c (g := (mkF m 43 #[rv o0, rv o1, iv 0, iv 1, .unset] [.ref o1, .ref o0])) rfl (by rw [hml]; rfl) (Steps.refl _) (argsL := []) (rest := [(.ref o0)]) (lenOf pd_1 rfl) rfl (by show 2 * 0 + _ ≤ _; exact Nat.le_of_eq rfl) (hb hby d6_43) (fun _ _ => ⟨rfl, e4, (by decide : 1 + 0 ≤ _), (by decide : 0 + 0 ≤ _)⟩)
  dsimp only [Pt.U, Pt.locs, Pt.cells, Pt.slots] at X8 l8 y8 z8 st8 hQ8
  subst l8 y8 z8
  obtain ⟨rfl, N8q, hh8⟩ := hQ8
  have N8 := Fr.app (Fr.snoc X4 N2 g_o0) N8q
  refine own_of (fun _ k => st8.trans k) ?_
  show own_Out p e below _ (T8.setTop (mkF m 48 #[rv o0, rv o1, iv 0, iv 1, .unset] [.int 0, .ref o0]))
  obtain ⟨T12, h12, k12, X12, e12, E12, A12, Ex12, O12, st12⟩ := newRA X8 hx hZ hown (ty := (.object "java/lang/String")) (by decide +kernel) (w_ hw 53 rfl) (w_ hw 54 rfl) hh8 (g := (mkF m 48 #[rv o0, rv o1, iv 0, iv 1, .unset] [.int 0, .ref o0])) rfl (hb hby d6_48) rfl (by decide) (cap := 0) (by decide) (by decide) (by decide) (by decide) (ad := "[[Ljava/lang/String;") (by decide +kernel)
  obtain ⟨b12, g12⟩ : ∃ z, z = h4.size := ⟨_, rfl⟩
  rw [← g12] at A12 Ex12 st12
  have g_b12 : n0 ≤ b12 := Nat.le_trans qz10 (Nat.le_of_eq g12.symm)
  have qz13 := (Nat.le_trans (Nat.le_trans (Nat.le_refl h0.size) E3.1) (Keep.of_wr W4).1)
  have sz_b12 : h0.size ≤ b12 := Nat.le_trans qz13 (Nat.le_of_eq g12.symm)
  have V_b12 : Arv Z h12 b12 k12 (.array (.object "java/lang/String")) (0 : Int32) [] .null := (Arv.new A12 (by decide)).pad (pad_rep [] .null 0)
  refine own_of st12 ?_
  show own_Out p e below _ (T12.setTop (mkF m 51 #[rv o0, rv o1, iv 0, iv 1, .unset] [.ref b12, .ref o0]))
  have qz15 := (((F_strings.ext E3).other W4 (Or.inr (slot_ne (Or.inr (w_ hw 56 rfl)) (Or.inr (w_ hw 52 rfl)) (by decide) (t := (.array (.array (.object "java/lang/String")))) (t' := (.array (.array .long))) (by decide) (by decide)))).ext E12)
  have qz16 := ((qz6.wr W4).ext E12)
  obtain ⟨T14, h14, X14, e14, W14, st14⟩ := putF X12 hx hZ hown (host := "") (Or.inl (w_ hw 55 rfl)) Via.refl e12 qz15 qz16 (Or.inr ⟨(w_ hw 56 rfl), rfl, hnm⟩) (w_ hw 2 rfl) (ty := (.array (.array (.object "java/lang/String")))) (by decide) rfl rfl (g := (mkF m 51 #[rv o0, rv o1, iv 0, iv 1, .unset] [.ref b12, .ref o0])) rfl rfl (hb hby d6_51)
  have qz17 := (((F_strings.ext E3).other W4 (Or.inr (slot_ne (Or.inr (w_ hw 56 rfl)) (Or.inr (w_ hw 52 rfl)) (by decide) (t := (.array (.array (.object "java/lang/String")))) (t' := (.array (.array .long))) (by decide) (by decide)))).ext E12)
  have Fw14 := qz17.same W14
  refine own_of st14 ?_
  show own_Out p e below _ (T14.setTop (mkF m 54 #[rv o0, rv o1, iv 0, iv 1, .unset] []))
  refine o_iconst X14 hx hby d6_54 (z := 0) rfl (q := 55) rfl ?_
  refine o_istore X14 hx hby d6_55 (l' := #[rv o0, rv o1, iv 0, iv 1, iv 0]) rfl (q := 57) rfl ?_
  refine o_iload X14 hx hby d6_57 rfl (q := 59) rfl ?_
  refine o_aloadN X14 hx hby d6_59 rfl rfl (q := 60) rfl ?_
  have qz19 := ((qz9.ext E12).other W14 (Or.inl n10))
  have qz20 := (Nat.le_trans (Nat.le_trans qz10 E12.1) (Keep.of_wr W14).1)
  have qz21 := ((qz11.ext E12).wr W14)
  obtain ⟨cq18, kq18, q18a, q18b, q18c⟩ := isOf hZ e14 qz21
  obtain ⟨_, _, ⟨T18, L18, k18, n18⟩, -, X18, ⟨Lc18, hQ18, l18, y18, z18⟩, st18⟩ := X14.interfaceBack hx (xi := mn_5) (y := mn_3) hown (mvT hZ (w_ hw 38 rfl)) (mvT hZ (w_ hw 39 rfl)) (mvT hZ (w_ hw 40 rfl)) (mvT hZ (w_ hw 41 rfl)) (mvT hZ (w_ hw 42 rfl)) (mvT hZ (w_ hw 43 rfl)) (mvT hZ (w_ hw 44 rfl)) (mvT hZ (w_ hw 45 rfl)) (by decide) (backOf (W := 1) (rm7 l Z a0 hw [] o1 h14 n0 qz20 qz19) hZ (w_ hw 46 rfl) (w_ hw 6 rfl) (by decide) (by decide)) q18a q18b q18c (g := (mkF m 60 #[rv o0, rv o1, iv 0, iv 1, iv 0] [.ref o1, .int 0])) rfl (by rw [hml]; rfl) (Steps.refl _) (argsL := []) (rest := [(.int 0)]) (lenOf pd_1 rfl) rfl (by show 2 * 0 + _ ≤ _; exact Nat.le_of_eq rfl) (hb hby d6_60) (fun _ _ => ⟨rfl, e14, (by decide : 2 + 0 ≤ _), (by decide : 0 + 0 ≤ _)⟩)
  dsimp only [Pt.U, Pt.locs, Pt.cells, Pt.slots] at X18 l18 y18 z18 st18 hQ18
  subst l18 y18 z18
  obtain ⟨rfl, N18q, hh18⟩ := hQ18
  have N18 := Fr.app (Fr.snoc X14 N8 g_o0) N18q
  refine own_of (fun _ k => st18.trans k) ?_
  show own_Out p e below _ (T18.setTop (mkF m 65 #[rv o0, rv o1, iv 0, iv 1, iv 0] [.int 0, .int 0]))
  refine o_icY X18 hx hby d6_65 (flt (by decide : ¬ ((0 : Int32) < (0 : Int32)))).2.1 (by decide) (q := 121) (by decide) ?_
  refine o_aloadN X18 hx hby d6_121 rfl rfl (q := 122) rfl ?_
  refine o_iloadN X18 hx hby d6_122 rfl (q := 123) rfl ?_
  have qz23 := ((((F_capacity.ext E3).other W4 (Or.inr (slot_ne (Or.inl (w_ hw 58 rfl)) (Or.inr (w_ hw 52 rfl)) (by decide) (t := .int) (t' := (.array (.array .long))) (by decide) (by decide)))).ext E12).other W14 (Or.inr (slot_ne (Or.inl (w_ hw 58 rfl)) (Or.inr (w_ hw 56 rfl)) (by decide) (t := .int) (t' := (.array (.array (.object "java/lang/String")))) (by decide) (by decide))))
  have qz24 := (qz16.wr W14)
  obtain ⟨T22, h22, X22, e22, W22, st22⟩ := putF X18 hx hZ hown (host := "") (Or.inl (w_ hw 57 rfl)) Via.refl hh18 qz23 qz24 (Or.inl (w_ hw 58 rfl)) (w_ hw 2 rfl) (ty := .int) (by decide) rfl rfl (g := (mkF m 123 #[rv o0, rv o1, iv 0, iv 1, iv 0] [.int 0, .ref o0])) rfl rfl (hb hby d6_123)
  have qz25 := ((((F_capacity.ext E3).other W4 (Or.inr (slot_ne (Or.inl (w_ hw 58 rfl)) (Or.inr (w_ hw 52 rfl)) (by decide) (t := .int) (t' := (.array (.array .long))) (by decide) (by decide)))).ext E12).other W14 (Or.inr (slot_ne (Or.inl (w_ hw 58 rfl)) (Or.inr (w_ hw 56 rfl)) (by decide) (t := .int) (t' := (.array (.array (.object "java/lang/String")))) (by decide) (by decide))))
  have Fw22 := qz25.same W22
  refine own_of st22 ?_
  show own_Out p e below _ (T22.setTop (mkF m 126 #[rv o0, rv o1, iv 0, iv 1, iv 0] []))
  refine o_aloadN X22 hx hby d6_126 rfl rfl (q := 127) rfl ?_
  refine o_iloadN X22 hx hby d6_127 rfl (q := 128) rfl ?_
  have qz27 := (((((F_doubles.ext E3).other W4 (Or.inr (slot_ne (Or.inr (w_ hw 60 rfl)) (Or.inr (w_ hw 52 rfl)) (by decide) (t := .boolean) (t' := (.array (.array .long))) (by decide) (by decide)))).ext E12).other W14 (Or.inr (slot_ne (Or.inr (w_ hw 60 rfl)) (Or.inr (w_ hw 56 rfl)) (by decide) (t := .boolean) (t' := (.array (.array (.object "java/lang/String")))) (by decide) (by decide)))).other W22 (Or.inr (slot_ne (Or.inr (w_ hw 60 rfl)) (Or.inl (w_ hw 58 rfl)) (by decide) (t := .boolean) (t' := .int) (by decide) (by decide))))
  have qz28 := (qz24.wr W22)
  obtain ⟨T26, h26, X26, e26, W26, st26⟩ := putFN X22 hx hZ hown (w_ hw 59 rfl) Via.refl e22 qz27 qz28 (Or.inr ⟨(w_ hw 60 rfl), rfl, hnm⟩) (w_ hw 2 rfl) (ty := .boolean) (v' := (.int 1)) (by decide) rfl rfl (g := (mkF m 128 #[rv o0, rv o1, iv 0, iv 1, iv 0] [.int 1, .ref o0])) rfl rfl (hb hby d6_128)
  have qz29 := (((((F_doubles.ext E3).other W4 (Or.inr (slot_ne (Or.inr (w_ hw 60 rfl)) (Or.inr (w_ hw 52 rfl)) (by decide) (t := .boolean) (t' := (.array (.array .long))) (by decide) (by decide)))).ext E12).other W14 (Or.inr (slot_ne (Or.inr (w_ hw 60 rfl)) (Or.inr (w_ hw 56 rfl)) (by decide) (t := .boolean) (t' := (.array (.array (.object "java/lang/String")))) (by decide) (by decide)))).other W22 (Or.inr (slot_ne (Or.inr (w_ hw 60 rfl)) (Or.inl (w_ hw 58 rfl)) (by decide) (t := .boolean) (t' := .int) (by decide) (by decide))))
  have Fw26 := qz29.same W26
  refine own_of st26 ?_
  show own_Out p e below _ (T26.setTop (mkF m 131 #[rv o0, rv o1, iv 0, iv 1, iv 0] []))
  have qz30 := (((((((Keep.refl h0 [o0]).ext E3).wr W4 (Or.inl (List.mem_of_getElem? (i := 0) rfl))).ext E12).wr W14 (Or.inl (List.mem_of_getElem? (i := 0) rfl))).wr W22 (Or.inl (List.mem_of_getElem? (i := 0) rfl))).wr W26 (Or.inl (List.mem_of_getElem? (i := 0) rfl)))
  have qz31 := (qz28.wr W26)
  have qz32 := ((((Fw4.ext E12).other W14 (Or.inr (slot_ne (Or.inr (w_ hw 52 rfl)) (Or.inr (w_ hw 56 rfl)) (by decide) (t := (.array (.array .long))) (t' := (.array (.array (.object "java/lang/String")))) (by decide) (by decide)))).other W22 (Or.inr (slot_ne (Or.inr (w_ hw 52 rfl)) (Or.inl (w_ hw 58 rfl)) (by decide) (t := (.array (.array .long))) (t' := .int) (by decide) (by decide)))).other W26 (Or.inr (slot_ne (Or.inr (w_ hw 52 rfl)) (Or.inr (w_ hw 60 rfl)) (by decide) (t := (.array (.array .long))) (t' := .boolean) (by decide) (by decide))))
  have qz33 := (Fw22.other W26 (Or.inr (slot_ne (Or.inl (w_ hw 58 rfl)) (Or.inr (w_ hw 60 rfl)) (by decide) (t := .int) (t' := .boolean) (by decide) (by decide))))
  have qz34 := ((((((F_size.ext E3).other W4 (Or.inr (slot_ne (Or.inl (w_ hw 103 rfl)) (Or.inr (w_ hw 52 rfl)) (by decide) (t := .int) (t' := (.array (.array .long))) (by decide) (by decide)))).ext E12).other W14 (Or.inr (slot_ne (Or.inl (w_ hw 103 rfl)) (Or.inr (w_ hw 56 rfl)) (by decide) (t := .int) (t' := (.array (.array (.object "java/lang/String")))) (by decide) (by decide)))).other W22 (Or.inr (slot_ne (Or.inl (w_ hw 103 rfl)) (Or.inl (w_ hw 58 rfl)) (by decide) (t := .int) (t' := .int) (by decide) (by decide)))).other W26 (Or.inr (slot_ne (Or.inl (w_ hw 103 rfl)) (Or.inr (w_ hw 60 rfl)) (by decide) (t := .int) (t' := .boolean) (by decide) (by decide))))
  have ne_o0_b3 : o0 ≠ b3 := Nat.ne_of_lt (Nat.lt_of_lt_of_le E.lt sz_b3)
  have qz35 := (((((V_b3.other W4 (Ne.symm ne_o0_b3)).ext E12).other W14 (Ne.symm ne_o0_b3)).other W22 (Ne.symm ne_o0_b3)).other W26 (Ne.symm ne_o0_b3))
  exact own_outV X26 hx hlk hret (hb hby d6_131) (Q := Q6 Z o0 o1 h0 n0) (by rw [e26]; exact ⟨b3, k3, rfl, (Fr.snoc X26 (Fr.snoc X22 N18 g_o0) g_o0), qz30, qz31, qz32, qz33, qz34, Fw26, qz35, g_b3, sz_b3⟩) (by decide) (by decide)
theorem pd_2 : parseMethodDescriptor "(Ljava/util/List;IZ)V" = some ⟨[(.object "java/util/List"), .int, .boolean], none⟩ := by decide +kernel
theorem d5_0 : decode prog_83_method_2_code 0 = .ok (.aload_n 0, 1) := by decide +kernel
theorem d5_1 : decode prog_83_method_2_code 1 = .ok (.aload_n 1, 1) := by decide +kernel
theorem d5_2 : decode prog_83_method_2_code 2 = .ok (.iconst 0, 1) := by decide +kernel
theorem d5_3 : decode prog_83_method_2_code 3 = .ok (.iconst 1, 1) := by decide +kernel
theorem d5_4 : decode prog_83_method_2_code 4 = .ok (.invokespecial 3, 3) := by decide +kernel
theorem d5_7 : decode prog_83_method_2_code 7 = .ok (.return_, 1) := by decide +kernel
theorem ef_5 (m : MethodId) (x0 x1 : Addr) : entryFrame m #[(.ref x0), (.ref x1)] 2 = mkF m 0 #[.val (.ref x0), .val (.ref x1)] [] := by first | (simp [entryFrame, mkF, argsToLocals, Value.category]; done) | rfl
def Q5 (Z : State) (o0 o1 : Addr) (h0 : Heap) (n0 : Nat) (v : Option Value) (h : Heap) (L : List Loc) : Prop := ∃ (b : Addr) (k : ClassId), v = none ∧ Fr n0 L ∧ Keep h0 h [o0] ∧ Exa Z h o0 "com/example/headway/headway/engine/RowBuffer" ∧ Fld Z h o0 "com/example/headway/headway/engine/RowBuffer" "numbers" "[[J" (.ref b) ∧ Fld Z h o0 "com/example/headway/headway/engine/RowBuffer" "capacity" "I" (.int 0) ∧ Fld Z h o0 "com/example/headway/headway/engine/RowBuffer" "size" "I" (.int 0) ∧ Fld Z h o0 "com/example/headway/headway/engine/RowBuffer" "doubles" "Z" (.int 1) ∧ Arv Z h b k (.array .long) (0 : Int32) [] .null ∧ n0 ≤ b ∧ h0.size ≤ b
set_option maxRecDepth 65536 in
set_option maxHeartbeats 40000000 in
theorem rm5 (l : Launch) (Z : State) (a0 : Array Value) (hw : ∀ d ∈ tables_1, d.before a0 Z = true) (ws : List Jvm.Cond) (o0 o1 : Addr) (h0 : Heap) (n0 : Nat) (Z0 : n0 ≤ h0.size) (E : Exa Z h0 o0 "com/example/headway/headway/engine/RowBuffer") (F_numbers : Fld Z h0 o0 "com/example/headway/headway/engine/RowBuffer" "numbers" "[[J" .null) (F_strings : Fld Z h0 o0 "com/example/headway/headway/engine/RowBuffer" "strings" "[[Ljava/lang/String;" .null) (F_doubles : Fld Z h0 o0 "com/example/headway/headway/engine/RowBuffer" "doubles" "Z" (.int 0)) (F_capacity : Fld Z h0 o0 "com/example/headway/headway/engine/RowBuffer" "capacity" "I" (.int 0)) (F_size : Fld Z h0 o0 "com/example/headway/headway/engine/RowBuffer" "size" "I" (.int 0)) (g_o0 : n0 ≤ o0) (Eo1 : Exa Z h0 o1 "java/util/ArrayList") (Fz : Fld Z h0 o1 "java/util/ArrayList" "size" "I" (.int 0)) (n10 : o1 ≠ o0) :
    MetFree l mn_6 (head1 (Jvm.Cond.code mn_6 prog_83_method_2_code 2 none :: ws) (⟨2, 2, 0, 29⟩ : Room)) (fun a U => a = #[(.ref o0), (.ref o1)] ∧ Z.Warmed39 U.vm ∧ U.heap = h0) (fun _ _ _ _ _ => True) (fun _ U o U' => ∃ v L, o = .returned v ∧ Q5 Z o0 o1 h0 n0 v U'.heap L ∧ FrameEnd U o U' L (⟨2, 2, 0, 29⟩ : Room).cells (⟨2, 2, 0, 29⟩ : Room).slots) := by
  refine MetFree.of_bodySF (plainFor_of_name pn_3) hisR ?_
  intro p e s m args below meth c s₁ Bd hml0 hP hK
  obtain ⟨rfl, hZ, hh⟩ := hP
  have hx := Bd.exec
  have hby := Bd.bytes
  have hml : c.maxLocals = 2 := hml0
  have hown : s.vm.findClass "com/example/headway/headway/engine/RowBuffer" = some m.cls := findClass_of_methodNamed Bd.named
  have hnm := (name_of_methodNamed Bd.named Bd.method).1
  have X0 : Stand p l e (⟨2, 2, 0, 29⟩ : Room) s m #[(.ref o0), (.ref o1)] below meth c s₁ [] 0 0 := Stand.of_body Bd
  have e0 : s₁.heap = h0 := by rw [← hh, Bd.state]; rfl
  have N0 := Fr.nil n0
  have hret := Bd.returns
  have hlk := BodyLoose.notSynchronized Bd
  show own_Out p e below (fun o U' => ∃ v L, o = .returned v ∧ Q5 Z o0 o1 h0 n0 v U'.heap L ∧ FrameEnd s o U' L (⟨2, 2, 0, 29⟩ : Room).cells (⟨2, 2, 0, 29⟩ : Room).slots) (s₁.setTop (entryFrame m #[(.ref o0), (.ref o1)] 2))
  refine own_of (fun t k => castTop (ef_5 m o0 o1) k) ?_
  show own_Out p e below _ (s₁.setTop (mkF m 0 #[rv o0, rv o1] []))
  refine o_aloadN X0 hx hby d5_0 rfl rfl (q := 1) rfl ?_
  refine o_aloadN X0 hx hby d5_1 rfl rfl (q := 2) rfl ?_
  refine o_iconst X0 hx hby d5_2 (z := 0) rfl (q := 3) rfl ?_
  refine o_iconst X0 hx hby d5_3 (z := 1) rfl (q := 4) rfl ?_
  obtain ⟨_, _, ⟨T1, L1, k1, n1⟩, -, X1, ⟨Lc1, hQ1, l1, y1, z1⟩, st1⟩ := X0.specialBack hx (y := mn_4) rfl hown (mvT hZ (w_ hw 33 rfl)) (mvT hZ (w_ hw 34 rfl)) (mvT hZ (w_ hw 35 rfl)) (by decide) (backOf (W := 0) (rm6 l Z a0 hw [] o0 o1 h0 n0 Z0 E F_numbers F_strings F_doubles F_capacity F_size g_o0 Eo1 Fz n10) hZ (w_ hw 35 rfl) (w_ hw 3 rfl) (by decide) (by decide)) (g := (mkF m 4 #[rv o0, rv o1] [.int 1, .int 0, .ref o1, .ref o0])) rfl (by rw [hml]; rfl) (Steps.refl _) (a := o0) (argsL := [(.ref o1), (.int 0), (.int 1)]) (rest := []) (lenOf pd_2 rfl) rfl (by show 2 * 0 + _ ≤ _; exact Nat.le_of_eq rfl) (hb hby d5_4) (fun _ _ => ⟨rfl, e0, (by decide : 0 + 2 ≤ _), (by decide : 0 + 0 ≤ _)⟩)
  dsimp only [Pt.U, Pt.locs, Pt.cells, Pt.slots] at X1 l1 y1 z1 st1 hQ1
  subst l1 y1 z1
  obtain ⟨b1, k1, rfl, N1q, K1, E1, Fn1, Fk1, Fs1, Fd1, V1, hg1, hs1⟩ := hQ1
  have N1 := Fr.app N0 N1q
  have sz_b1 : h0.size ≤ b1 := Nat.le_trans (Nat.le_refl h0.size) hs1
  refine own_of (fun _ k => st1.trans k) ?_
  show own_Out p e below _ (T1.setTop (mkF m 7 #[rv o0, rv o1] []))
  have qz2 := ((Keep.refl h0 [o0]).trans K1 (allS (Or.inl (List.mem_of_getElem? (i := 0) rfl)) all0))
  exact own_outV X1 hx hlk hret (hb hby d5_7) (Q := Q5 Z o0 o1 h0 n0) ⟨b1, k1, rfl, N1, qz2, E1, Fn1, Fk1, Fs1, Fd1, V1, hg1, sz_b1⟩ (by decide) (by decide)
theorem d9_0 : decode jdk_65_method_103_code 0 = .ok (.iconst 0, 1) := by decide +kernel
theorem d9_1 : decode jdk_65_method_103_code 1 = .ok (.istore_n 2, 1) := by decide +kernel
theorem d9_2 : decode jdk_65_method_103_code 2 = .ok (.aload_n 0, 1) := by decide +kernel
theorem d9_3 : decode jdk_65_method_103_code 3 = .ok (.arraylength, 1) := by decide +kernel
theorem d9_4 : decode jdk_65_method_103_code 4 = .ok (.istore_n 3, 1) := by decide +kernel
theorem d9_5 : decode jdk_65_method_103_code 5 = .ok (.iload_n 2, 1) := by decide +kernel
theorem d9_6 : decode jdk_65_method_103_code 6 = .ok (.iload_n 3, 1) := by decide +kernel
theorem d9_7 : decode jdk_65_method_103_code 7 = .ok (.if_icmp .ge 13, 3) := by decide +kernel
theorem d9_10 : decode jdk_65_method_103_code 10 = .ok (.aload_n 0, 1) := by decide +kernel
theorem d9_11 : decode jdk_65_method_103_code 11 = .ok (.iload_n 2, 1) := by decide +kernel
theorem d9_12 : decode jdk_65_method_103_code 12 = .ok (.iload_n 1, 1) := by decide +kernel
theorem d9_13 : decode jdk_65_method_103_code 13 = .ok (.iastore, 1) := by decide +kernel
theorem d9_14 : decode jdk_65_method_103_code 14 = .ok (.iinc 2 1, 3) := by decide +kernel
theorem d9_17 : decode jdk_65_method_103_code 17 = .ok (.goto (-12), 3) := by decide +kernel
theorem d9_20 : decode jdk_65_method_103_code 20 = .ok (.return_, 1) := by decide +kernel
theorem pn_4 : plainName "java/util/Arrays" = true := by first | (simp [plainName, overriddenIn]; done) | decide +kernel
theorem ef_9n16 (m : MethodId) (x0 : Addr) : entryFrame m #[(.ref x0), (.int (-1 : Int32))] 4 = mkF m 0 #[.val (.ref x0), .val (.int (-1 : Int32)), .unset, .unset] [] := by first | (simp [entryFrame, mkF, argsToLocals, Value.category]; done) | rfl
def Q9n16 (Z : State) (o0 : Addr) (k : ClassId) (h0 : Heap) (n0 : Nat) (v : Option Value) (h : Heap) (L : List Loc) : Prop := v = none ∧ Fr n0 L ∧ Keep h0 h [o0] ∧ Arv Z h o0 k .int 16 [(.int (-1 : Int32)), (.int (-1 : Int32)), (.int (-1 : Int32)), (.int (-1 : Int32)), (.int (-1 : Int32)), (.int (-1 : Int32)), (.int (-1 : Int32)), (.int (-1 : Int32)), (.int (-1 : Int32)), (.int (-1 : Int32)), (.int (-1 : Int32)), (.int (-1 : Int32)), (.int (-1 : Int32)), (.int (-1 : Int32)), (.int (-1 : Int32)), (.int (-1 : Int32))] (.int 0)
set_option maxRecDepth 65536 in
set_option maxHeartbeats 40000000 in
theorem rm9n16 (l : Launch) (Z : State) (a0 : Array Value) (hw : ∀ d ∈ tables_1, d.before a0 Z = true) (ws : List Jvm.Cond) (o0 : Addr) (k : ClassId) (h0 : Heap) (n0 : Nat) (Z0 : n0 ≤ h0.size) (V : Arv Z h0 o0 k .int 16 [(.int 0), (.int 0), (.int 0), (.int 0), (.int 0), (.int 0), (.int 0), (.int 0), (.int 0), (.int 0), (.int 0), (.int 0), (.int 0), (.int 0), (.int 0), (.int 0)] (.int 0)) (g_o0 : n0 ≤ o0) :
    MetFree l mn_7 (head1 (Jvm.Cond.code mn_7 jdk_65_method_103_code 4 none :: ws) (⟨0, 0, 0, 0⟩ : Room)) (fun a U => a = #[(.ref o0), (.int (-1 : Int32))] ∧ Z.Warmed39 U.vm ∧ U.heap = h0) (fun _ _ _ _ _ => True) (fun _ U o U' => ∃ v L, o = .returned v ∧ Q9n16 Z o0 k h0 n0 v U'.heap L ∧ FrameEnd U o U' L (⟨0, 0, 0, 0⟩ : Room).cells (⟨0, 0, 0, 0⟩ : Room).slots) := by
  refine MetFree.of_bodySF (plainFor_of_name pn_4) hisR ?_
  intro p e s m args below meth c s₁ Bd hml0 hP hK
  obtain ⟨rfl, hZ, hh⟩ := hP
  have hx := Bd.exec
  have hby := Bd.bytes
  have hml : c.maxLocals = 4 := hml0
  have hown : s.vm.findClass "java/util/Arrays" = some m.cls := findClass_of_methodNamed Bd.named
  have hnm := (name_of_methodNamed Bd.named Bd.method).1
  have X0 : Stand p l e (⟨0, 0, 0, 0⟩ : Room) s m #[(.ref o0), (.int (-1 : Int32))] below meth c s₁ [] 0 0 := Stand.of_body Bd
  have e0 : s₁.heap = h0 := by rw [← hh, Bd.state]; rfl
  have N0 := Fr.nil n0
  have hret := Bd.returns
  have hlk := BodyLoose.notSynchronized Bd
  show own_Out p e below (fun o U' => ∃ v L, o = .returned v ∧ Q9n16 Z o0 k h0 n0 v U'.heap L ∧ FrameEnd s o U' L (⟨0, 0, 0, 0⟩ : Room).cells (⟨0, 0, 0, 0⟩ : Room).slots) (s₁.setTop (entryFrame m #[(.ref o0), (.int (-1 : Int32))] 4))
  refine own_of (fun t k => castTop (ef_9n16 m o0) k) ?_
  show own_Out p e below _ (s₁.setTop (mkF m 0 #[rv o0, iv (-1), .unset, .unset] []))
  refine o_iconst X0 hx hby d9_0 (z := 0) rfl (q := 1) rfl ?_
  refine o_istoreN X0 hx hby d9_1 (l' := #[rv o0, iv (-1), iv 0, .unset]) rfl (q := 2) rfl ?_
  refine o_aloadN X0 hx hby d9_2 rfl rfl (q := 3) rfl ?_
  refine o_lenV X0 hx hby hZ e0 V d9_3 (q := 4) rfl ?_
  refine o_istoreN X0 hx hby d9_4 (l' := #[rv o0, iv (-1), iv 0, iv 16]) rfl (q := 5) rfl ?_
  refine o_iloadN X0 hx hby d9_5 rfl (q := 6) rfl ?_
  refine o_iloadN X0 hx hby d9_6 rfl (q := 7) rfl ?_
  refine o_icN X0 hx hby d9_7 (tlt (by decide : (0 : Int32) < (16 : Int32))).2.1 (q := 10) rfl ?_
  refine o_aloadN X0 hx hby d9_10 rfl rfl (q := 11) rfl ?_
  refine o_iloadN X0 hx hby d9_11 rfl (q := 12) rfl ?_
  refine o_iloadN X0 hx hby d9_12 rfl (q := 13) rfl ?_
  refine o_stV X0 hx hby hZ e0 V ⟨by decide, by decide⟩ 0 rfl (Nat.le_of_ble_eq_true rfl) d9_13 (q := 14) rfl fun T1 h1 X1 e1 W1 V1 => ?_
  refine o_iinc X1 hx hby d9_14 rfl (l' := #[rv o0, iv (-1), iv 1, iv 16]) rfl (q := 17) rfl ?_
  refine o_goto X1 hx hby d9_17 (by decide) (q := 5) (by decide) ?_
  refine o_iloadN X1 hx hby d9_5 rfl (q := 6) rfl ?_
  refine o_iloadN X1 hx hby d9_6 rfl (q := 7) rfl ?_
  refine o_icN X1 hx hby d9_7 (tlt (by decide : (1 : Int32) < (16 : Int32))).2.1 (q := 10) rfl ?_
  refine o_aloadN X1 hx hby d9_10 rfl rfl (q := 11) rfl ?_
  refine o_iloadN X1 hx hby d9_11 rfl (q := 12) rfl ?_
  refine o_iloadN X1 hx hby d9_12 rfl (q := 13) rfl ?_
  refine o_stV X1 hx hby hZ e1 V1 ⟨by decide, by decide⟩ 1 rfl (Nat.le_of_ble_eq_true rfl) d9_13 (q := 14) rfl fun T2 h2 X2 e2 W2 V2 => ?_
  refine o_iinc X2 hx hby d9_14 rfl (l' := #[rv o0, iv (-1), iv 2, iv 16]) rfl (q := 17) rfl ?_
  refine o_goto X2 hx hby d9_17 (by decide) (q := 5) (by decide) ?_
  refine o_iloadN X2 hx hby d9_5 rfl (q := 6) rfl ?_
  refine o_iloadN X2 hx hby d9_6 rfl (q := 7) rfl ?_
  refine o_icN X2 hx hby d9_7 (tlt (by decide : (2 : Int32) < (16 : Int32))).2.1 (q := 10) rfl ?_
  refine o_aloadN X2 hx hby d9_10 rfl rfl (q := 11) rfl ?_
  refine o_iloadN X2 hx hby d9_11 rfl (q := 12) rfl ?_
  refine o_iloadN X2 hx hby d9_12 rfl (q := 13) rfl ?_
  refine o_stV X2 hx hby hZ e2 V2 ⟨by decide, by decide⟩ 2 rfl (Nat.le_of_ble_eq_true rfl) d9_13 (q := 14) rfl fun T3 h3 X3 e3 W3 V3 => ?_
  refine o_iinc X3 hx hby d9_14 rfl (l' := #[rv o0, iv (-1), iv 3, iv 16]) rfl (q := 17) rfl ?_
  refine o_goto X3 hx hby d9_17 (by decide) (q := 5) (by decide) ?_
  refine o_iloadN X3 hx hby d9_5 rfl (q := 6) rfl ?_
  refine o_iloadN X3 hx hby d9_6 rfl (q := 7) rfl ?_
  refine o_icN X3 hx hby d9_7 (tlt (by decide : (3 : Int32) < (16 : Int32))).2.1 (q := 10) rfl ?_
  refine o_aloadN X3 hx hby d9_10 rfl rfl (q := 11) rfl ?_
  refine o_iloadN X3 hx hby d9_11 rfl (q := 12) rfl ?_
  refine o_iloadN X3 hx hby d9_12 rfl (q := 13) rfl ?_
  refine o_stV X3 hx hby hZ e3 V3 ⟨by decide, by decide⟩ 3 rfl (Nat.le_of_ble_eq_true rfl) d9_13 (q := 14) rfl fun T4 h4 X4 e4 W4 V4 => ?_
  refine o_iinc X4 hx hby d9_14 rfl (l' := #[rv o0, iv (-1), iv 4, iv 16]) rfl (q := 17) rfl ?_
  refine o_goto X4 hx hby d9_17 (by decide) (q := 5) (by decide) ?_
  refine o_iloadN X4 hx hby d9_5 rfl (q := 6) rfl ?_
  refine o_iloadN X4 hx hby d9_6 rfl (q := 7) rfl ?_
  refine o_icN X4 hx hby d9_7 (tlt (by decide : (4 : Int32) < (16 : Int32))).2.1 (q := 10) rfl ?_
  refine o_aloadN X4 hx hby d9_10 rfl rfl (q := 11) rfl ?_
  refine o_iloadN X4 hx hby d9_11 rfl (q := 12) rfl ?_
  refine o_iloadN X4 hx hby d9_12 rfl (q := 13) rfl ?_
  refine o_stV X4 hx hby hZ e4 V4 ⟨by decide, by decide⟩ 4 rfl (Nat.le_of_ble_eq_true rfl) d9_13 (q := 14) rfl fun T5 h5 X5 e5 W5 V5 => ?_
  refine o_iinc X5 hx hby d9_14 rfl (l' := #[rv o0, iv (-1), iv 5, iv 16]) rfl (q := 17) rfl ?_
  refine o_goto X5 hx hby d9_17 (by decide) (q := 5) (by decide) ?_
  refine o_iloadN X5 hx hby d9_5 rfl (q := 6) rfl ?_
  refine o_iloadN X5 hx hby d9_6 rfl (q := 7) rfl ?_
  refine o_icN X5 hx hby d9_7 (tlt (by decide : (5 : Int32) < (16 : Int32))).2.1 (q := 10) rfl ?_
  refine o_aloadN X5 hx hby d9_10 rfl rfl (q := 11) rfl ?_
  refine o_iloadN X5 hx hby d9_11 rfl (q := 12) rfl ?_
  refine o_iloadN X5 hx hby d9_12 rfl (q := 13) rfl ?_
  refine o_stV X5 hx hby hZ e5 V5 ⟨by decide, by decide⟩ 5 rfl (Nat.le_of_ble_eq_true rfl) d9_13 (q := 14) rfl fun T6 h6 X6 e6 W6 V6 => ?_
  refine o_iinc X6 hx hby d9_14 rfl (l' := #[rv o0, iv (-1), iv 6, iv 16]) rfl (q := 17) rfl ?_
  refine o_goto X6 hx hby d9_17 (by decide) (q := 5) (by decide) ?_
  refine o_iloadN X6 hx hby d9_5 rfl (q := 6) rfl ?_
  refine o_iloadN X6 hx hby d9_6 rfl (q := 7) rfl ?_
  refine o_icN X6 hx hby d9_7 (tlt (by decide : (6 : Int32) < (16 : Int32))).2.1 (q := 10) rfl ?_
  refine o_aloadN X6 hx hby d9_10 rfl rfl (q := 11) rfl ?_
  refine o_iloadN X6 hx hby d9_11 rfl (q := 12) rfl ?_
  refine o_iloadN X6 hx hby d9_12 rfl (q := 13) rfl ?_
  refine o_stV X6 hx hby hZ e6 V6 ⟨by decide, by decide⟩ 6 rfl (Nat.le_of_ble_eq_true rfl) d9_13 (q := 14) rfl fun T7 h7 X7 e7 W7 V7 => ?_
  refine o_iinc X7 hx hby d9_14 rfl (l' := #[rv o0, iv (-1), iv 7, iv 16]) rfl (q := 17) rfl ?_
  refine o_goto X7 hx hby d9_17 (by decide) (q := 5) (by decide) ?_
  refine o_iloadN X7 hx hby d9_5 rfl (q := 6) rfl ?_
  refine o_iloadN X7 hx hby d9_6 rfl (q := 7) rfl ?_
  refine o_icN X7 hx hby d9_7 (tlt (by decide : (7 : Int32) < (16 : Int32))).2.1 (q := 10) rfl ?_
  refine o_aloadN X7 hx hby d9_10 rfl rfl (q := 11) rfl ?_
  refine o_iloadN X7 hx hby d9_11 rfl (q := 12) rfl ?_
  refine o_iloadN X7 hx hby d9_12 rfl (q := 13) rfl ?_
  refine o_stV X7 hx hby hZ e7 V7 ⟨by decide, by decide⟩ 7 rfl (Nat.le_of_ble_eq_true rfl) d9_13 (q := 14) rfl fun T8 h8 X8 e8 W8 V8 => ?_
  refine o_iinc X8 hx hby d9_14 rfl (l' := #[rv o0, iv (-1), iv 8, iv 16]) rfl (q := 17) rfl ?_
  refine o_goto X8 hx hby d9_17 (by decide) (q := 5) (by decide) ?_
  refine o_iloadN X8 hx hby d9_5 rfl (q := 6) rfl ?_
  refine o_iloadN X8 hx hby d9_6 rfl (q := 7) rfl ?_
  refine o_icN X8 hx hby d9_7 (tlt (by decide : (8 : Int32) < (16 : Int32))).2.1 (q := 10) rfl ?_
  refine o_aloadN X8 hx hby d9_10 rfl rfl (q := 11) rfl ?_
  refine o_iloadN X8 hx hby d9_11 rfl (q := 12) rfl ?_
  refine o_iloadN X8 hx hby d9_12 rfl (q := 13) rfl ?_
  refine o_stV X8 hx hby hZ e8 V8 ⟨by decide, by decide⟩ 8 rfl (Nat.le_of_ble_eq_true rfl) d9_13 (q := 14) rfl fun T9 h9 X9 e9 W9 V9 => ?_
  refine o_iinc X9 hx hby d9_14 rfl (l' := #[rv o0, iv (-1), iv 9, iv 16]) rfl (q := 17) rfl ?_
  refine o_goto X9 hx hby d9_17 (by decide) (q := 5) (by decide) ?_
  refine o_iloadN X9 hx hby d9_5 rfl (q := 6) rfl ?_
  refine o_iloadN X9 hx hby d9_6 rfl (q := 7) rfl ?_
  refine o_icN X9 hx hby d9_7 (tlt (by decide : (9 : Int32) < (16 : Int32))).2.1 (q := 10) rfl ?_
  refine o_aloadN X9 hx hby d9_10 rfl rfl (q := 11) rfl ?_
  refine o_iloadN X9 hx hby d9_11 rfl (q := 12) rfl ?_
  refine o_iloadN X9 hx hby d9_12 rfl (q := 13) rfl ?_
  refine o_stV X9 hx hby hZ e9 V9 ⟨by decide, by decide⟩ 9 rfl (Nat.le_of_ble_eq_true rfl) d9_13 (q := 14) rfl fun T10 h10 X10 e10 W10 V10 => ?_
  refine o_iinc X10 hx hby d9_14 rfl (l' := #[rv o0, iv (-1), iv 10, iv 16]) rfl (q := 17) rfl ?_
  refine o_goto X10 hx hby d9_17 (by decide) (q := 5) (by decide) ?_
  refine o_iloadN X10 hx hby d9_5 rfl (q := 6) rfl ?_
  refine o_iloadN X10 hx hby d9_6 rfl (q := 7) rfl ?_
  refine o_icN X10 hx hby d9_7 (tlt (by decide : (10 : Int32) < (16 : Int32))).2.1 (q := 10) rfl ?_
  refine o_aloadN X10 hx hby d9_10 rfl rfl (q := 11) rfl ?_
  refine o_iloadN X10 hx hby d9_11 rfl (q := 12) rfl ?_
  refine o_iloadN X10 hx hby d9_12 rfl (q := 13) rfl ?_
  refine o_stV X10 hx hby hZ e10 V10 ⟨by decide, by decide⟩ 10 rfl (Nat.le_of_ble_eq_true rfl) d9_13 (q := 14) rfl fun T11 h11 X11 e11 W11 V11 => ?_
  refine o_iinc X11 hx hby d9_14 rfl (l' := #[rv o0, iv (-1), iv 11, iv 16]) rfl (q := 17) rfl ?_
  refine o_goto X11 hx hby d9_17 (by decide) (q := 5) (by decide) ?_
  refine o_iloadN X11 hx hby d9_5 rfl (q := 6) rfl ?_
  refine o_iloadN X11 hx hby d9_6 rfl (q := 7) rfl ?_
  refine o_icN X11 hx hby d9_7 (tlt (by decide : (11 : Int32) < (16 : Int32))).2.1 (q := 10) rfl ?_
  refine o_aloadN X11 hx hby d9_10 rfl rfl (q := 11) rfl ?_
  refine o_iloadN X11 hx hby d9_11 rfl (q := 12) rfl ?_
  refine o_iloadN X11 hx hby d9_12 rfl (q := 13) rfl ?_
  refine o_stV X11 hx hby hZ e11 V11 ⟨by decide, by decide⟩ 11 rfl (Nat.le_of_ble_eq_true rfl) d9_13 (q := 14) rfl fun T12 h12 X12 e12 W12 V12 => ?_
  refine o_iinc X12 hx hby d9_14 rfl (l' := #[rv o0, iv (-1), iv 12, iv 16]) rfl (q := 17) rfl ?_
  refine o_goto X12 hx hby d9_17 (by decide) (q := 5) (by decide) ?_
  refine o_iloadN X12 hx hby d9_5 rfl (q := 6) rfl ?_
  refine o_iloadN X12 hx hby d9_6 rfl (q := 7) rfl ?_
  refine o_icN X12 hx hby d9_7 (tlt (by decide : (12 : Int32) < (16 : Int32))).2.1 (q := 10) rfl ?_
  refine o_aloadN X12 hx hby d9_10 rfl rfl (q := 11) rfl ?_
  refine o_iloadN X12 hx hby d9_11 rfl (q := 12) rfl ?_
  refine o_iloadN X12 hx hby d9_12 rfl (q := 13) rfl ?_
  refine o_stV X12 hx hby hZ e12 V12 ⟨by decide, by decide⟩ 12 rfl (Nat.le_of_ble_eq_true rfl) d9_13 (q := 14) rfl fun T13 h13 X13 e13 W13 V13 => ?_
  refine o_iinc X13 hx hby d9_14 rfl (l' := #[rv o0, iv (-1), iv 13, iv 16]) rfl (q := 17) rfl ?_
  refine o_goto X13 hx hby d9_17 (by decide) (q := 5) (by decide) ?_
  refine o_iloadN X13 hx hby d9_5 rfl (q := 6) rfl ?_
  refine o_iloadN X13 hx hby d9_6 rfl (q := 7) rfl ?_
  refine o_icN X13 hx hby d9_7 (tlt (by decide : (13 : Int32) < (16 : Int32))).2.1 (q := 10) rfl ?_
  refine o_aloadN X13 hx hby d9_10 rfl rfl (q := 11) rfl ?_
  refine o_iloadN X13 hx hby d9_11 rfl (q := 12) rfl ?_
  refine o_iloadN X13 hx hby d9_12 rfl (q := 13) rfl ?_
  refine o_stV X13 hx hby hZ e13 V13 ⟨by decide, by decide⟩ 13 rfl (Nat.le_of_ble_eq_true rfl) d9_13 (q := 14) rfl fun T14 h14 X14 e14 W14 V14 => ?_
  refine o_iinc X14 hx hby d9_14 rfl (l' := #[rv o0, iv (-1), iv 14, iv 16]) rfl (q := 17) rfl ?_
  refine o_goto X14 hx hby d9_17 (by decide) (q := 5) (by decide) ?_
  refine o_iloadN X14 hx hby d9_5 rfl (q := 6) rfl ?_
  refine o_iloadN X14 hx hby d9_6 rfl (q := 7) rfl ?_
  refine o_icN X14 hx hby d9_7 (tlt (by decide : (14 : Int32) < (16 : Int32))).2.1 (q := 10) rfl ?_
  refine o_aloadN X14 hx hby d9_10 rfl rfl (q := 11) rfl ?_
  refine o_iloadN X14 hx hby d9_11 rfl (q := 12) rfl ?_
  refine o_iloadN X14 hx hby d9_12 rfl (q := 13) rfl ?_
  refine o_stV X14 hx hby hZ e14 V14 ⟨by decide, by decide⟩ 14 rfl (Nat.le_of_ble_eq_true rfl) d9_13 (q := 14) rfl fun T15 h15 X15 e15 W15 V15 => ?_
  refine o_iinc X15 hx hby d9_14 rfl (l' := #[rv o0, iv (-1), iv 15, iv 16]) rfl (q := 17) rfl ?_
  refine o_goto X15 hx hby d9_17 (by decide) (q := 5) (by decide) ?_
  refine o_iloadN X15 hx hby d9_5 rfl (q := 6) rfl ?_
  refine o_iloadN X15 hx hby d9_6 rfl (q := 7) rfl ?_
  refine o_icN X15 hx hby d9_7 (tlt (by decide : (15 : Int32) < (16 : Int32))).2.1 (q := 10) rfl ?_
  refine o_aloadN X15 hx hby d9_10 rfl rfl (q := 11) rfl ?_
  refine o_iloadN X15 hx hby d9_11 rfl (q := 12) rfl ?_
  refine o_iloadN X15 hx hby d9_12 rfl (q := 13) rfl ?_
  refine o_stV X15 hx hby hZ e15 V15 ⟨by decide, by decide⟩ 15 rfl (Nat.le_of_ble_eq_true rfl) d9_13 (q := 14) rfl fun T16 h16 X16 e16 W16 V16 => ?_
  refine o_iinc X16 hx hby d9_14 rfl (l' := #[rv o0, iv (-1), iv 16, iv 16]) rfl (q := 17) rfl ?_
  refine o_goto X16 hx hby d9_17 (by decide) (q := 5) (by decide) ?_
  refine o_iloadN X16 hx hby d9_5 rfl (q := 6) rfl ?_
  refine o_iloadN X16 hx hby d9_6 rfl (q := 7) rfl ?_
  refine o_icY X16 hx hby d9_7 (flt (by decide : ¬ ((16 : Int32) < (16 : Int32)))).2.1 (by decide) (q := 20) (by decide) ?_
  have qz17 := (((((((((((((((((Keep.refl h0 [o0]).wr W1 (Or.inl (List.mem_of_getElem? (i := 0) rfl))).wr W2 (Or.inl (List.mem_of_getElem? (i := 0) rfl))).wr W3 (Or.inl (List.mem_of_getElem? (i := 0) rfl))).wr W4 (Or.inl (List.mem_of_getElem? (i := 0) rfl))).wr W5 (Or.inl (List.mem_of_getElem? (i := 0) rfl))).wr W6 (Or.inl (List.mem_of_getElem? (i := 0) rfl))).wr W7 (Or.inl (List.mem_of_getElem? (i := 0) rfl))).wr W8 (Or.inl (List.mem_of_getElem? (i := 0) rfl))).wr W9 (Or.inl (List.mem_of_getElem? (i := 0) rfl))).wr W10 (Or.inl (List.mem_of_getElem? (i := 0) rfl))).wr W11 (Or.inl (List.mem_of_getElem? (i := 0) rfl))).wr W12 (Or.inl (List.mem_of_getElem? (i := 0) rfl))).wr W13 (Or.inl (List.mem_of_getElem? (i := 0) rfl))).wr W14 (Or.inl (List.mem_of_getElem? (i := 0) rfl))).wr W15 (Or.inl (List.mem_of_getElem? (i := 0) rfl))).wr W16 (Or.inl (List.mem_of_getElem? (i := 0) rfl)))
  exact own_outV X16 hx hlk hret (hb hby d9_20) (Q := Q9n16 Z o0 k h0 n0) (by rw [e16]; exact ⟨rfl, (Fr.snoc X16 (Fr.snoc X15 (Fr.snoc X14 (Fr.snoc X13 (Fr.snoc X12 (Fr.snoc X11 (Fr.snoc X10 (Fr.snoc X9 (Fr.snoc X8 (Fr.snoc X7 (Fr.snoc X6 (Fr.snoc X5 (Fr.snoc X4 (Fr.snoc X3 (Fr.snoc X2 (Fr.snoc X1 N0 g_o0) g_o0) g_o0) g_o0) g_o0) g_o0) g_o0) g_o0) g_o0) g_o0) g_o0) g_o0) g_o0) g_o0) g_o0) g_o0), qz17, V16⟩) (by decide) (by decide)
theorem ef_9n32 (m : MethodId) (x0 : Addr) : entryFrame m #[(.ref x0), (.int (-1 : Int32))] 4 = mkF m 0 #[.val (.ref x0), .val (.int (-1 : Int32)), .unset, .unset] [] := by first | (simp [entryFrame, mkF, argsToLocals, Value.category]; done) | rfl
def Q9n32 (Z : State) (o0 : Addr) (k : ClassId) (h0 : Heap) (n0 : Nat) (v : Option Value) (h : Heap) (L : List Loc) : Prop := v = none ∧ Fr n0 L ∧ Keep h0 h [o0] ∧ Arv Z h o0 k .int 32 [(.int (-1 : Int32)), (.int (-1 : Int32)), (.int (-1 : Int32)), (.int (-1 : Int32)), (.int (-1 : Int32)), (.int (-1 : Int32)), (.int (-1 : Int32)), (.int (-1 : Int32)), (.int (-1 : Int32)), (.int (-1 : Int32)), (.int (-1 : Int32)), (.int (-1 : Int32)), (.int (-1 : Int32)), (.int (-1 : Int32)), (.int (-1 : Int32)), (.int (-1 : Int32)), (.int (-1 : Int32)), (.int (-1 : Int32)), (.int (-1 : Int32)), (.int (-1 : Int32)), (.int (-1 : Int32)), (.int (-1 : Int32)), (.int (-1 : Int32)), (.int (-1 : Int32)), (.int (-1 : Int32)), (.int (-1 : Int32)), (.int (-1 : Int32)), (.int (-1 : Int32)), (.int (-1 : Int32)), (.int (-1 : Int32)), (.int (-1 : Int32)), (.int (-1 : Int32))] (.int 0)
set_option maxRecDepth 65536 in
set_option maxHeartbeats 40000000 in
theorem rm9n32 (l : Launch) (Z : State) (a0 : Array Value) (hw : ∀ d ∈ tables_1, d.before a0 Z = true) (ws : List Jvm.Cond) (o0 : Addr) (k : ClassId) (h0 : Heap) (n0 : Nat) (Z0 : n0 ≤ h0.size) (V : Arv Z h0 o0 k .int 32 [(.int 0), (.int 0), (.int 0), (.int 0), (.int 0), (.int 0), (.int 0), (.int 0), (.int 0), (.int 0), (.int 0), (.int 0), (.int 0), (.int 0), (.int 0), (.int 0), (.int 0), (.int 0), (.int 0), (.int 0), (.int 0), (.int 0), (.int 0), (.int 0), (.int 0), (.int 0), (.int 0), (.int 0), (.int 0), (.int 0), (.int 0), (.int 0)] (.int 0)) (g_o0 : n0 ≤ o0) :
    MetFree l mn_7 (head1 (Jvm.Cond.code mn_7 jdk_65_method_103_code 4 none :: ws) (⟨0, 0, 0, 0⟩ : Room)) (fun a U => a = #[(.ref o0), (.int (-1 : Int32))] ∧ Z.Warmed39 U.vm ∧ U.heap = h0) (fun _ _ _ _ _ => True) (fun _ U o U' => ∃ v L, o = .returned v ∧ Q9n32 Z o0 k h0 n0 v U'.heap L ∧ FrameEnd U o U' L (⟨0, 0, 0, 0⟩ : Room).cells (⟨0, 0, 0, 0⟩ : Room).slots) := by
  refine MetFree.of_bodySF (plainFor_of_name pn_4) hisR ?_
  intro p e s m args below meth c s₁ Bd hml0 hP hK
  obtain ⟨rfl, hZ, hh⟩ := hP
  have hx := Bd.exec
  have hby := Bd.bytes
  have hml : c.maxLocals = 4 := hml0
  have hown : s.vm.findClass "java/util/Arrays" = some m.cls := findClass_of_methodNamed Bd.named
  have hnm := (name_of_methodNamed Bd.named Bd.method).1
  have X0 : Stand p l e (⟨0, 0, 0, 0⟩ : Room) s m #[(.ref o0), (.int (-1 : Int32))] below meth c s₁ [] 0 0 := Stand.of_body Bd
  have e0 : s₁.heap = h0 := by rw [← hh, Bd.state]; rfl
  have N0 := Fr.nil n0
  have hret := Bd.returns
  have hlk := BodyLoose.notSynchronized Bd
  show own_Out p e below (fun o U' => ∃ v L, o = .returned v ∧ Q9n32 Z o0 k h0 n0 v U'.heap L ∧ FrameEnd s o U' L (⟨0, 0, 0, 0⟩ : Room).cells (⟨0, 0, 0, 0⟩ : Room).slots) (s₁.setTop (entryFrame m #[(.ref o0), (.int (-1 : Int32))] 4))
  refine own_of (fun t k => castTop (ef_9n32 m o0) k) ?_
  show own_Out p e below _ (s₁.setTop (mkF m 0 #[rv o0, iv (-1), .unset, .unset] []))
  refine o_iconst X0 hx hby d9_0 (z := 0) rfl (q := 1) rfl ?_
  refine o_istoreN X0 hx hby d9_1 (l' := #[rv o0, iv (-1), iv 0, .unset]) rfl (q := 2) rfl ?_
  refine o_aloadN X0 hx hby d9_2 rfl rfl (q := 3) rfl ?_
  refine o_lenV X0 hx hby hZ e0 V d9_3 (q := 4) rfl ?_
  refine o_istoreN X0 hx hby d9_4 (l' := #[rv o0, iv (-1), iv 0, iv 32]) rfl (q := 5) rfl ?_
  refine o_iloadN X0 hx hby d9_5 rfl (q := 6) rfl ?_
  refine o_iloadN X0 hx hby d9_6 rfl (q := 7) rfl ?_
  refine o_icN X0 hx hby d9_7 (tlt (by decide : (0 : Int32) < (32 : Int32))).2.1 (q := 10) rfl ?_
  refine o_aloadN X0 hx hby d9_10 rfl rfl (q := 11) rfl ?_
  refine o_iloadN X0 hx hby d9_11 rfl (q := 12) rfl ?_
  refine o_iloadN X0 hx hby d9_12 rfl (q := 13) rfl ?_
  refine o_stV X0 hx hby hZ e0 V ⟨by decide, by decide⟩ 0 rfl (Nat.le_of_ble_eq_true rfl) d9_13 (q := 14) rfl fun T1 h1 X1 e1 W1 V1 => ?_
  refine o_iinc X1 hx hby d9_14 rfl (l' := #[rv o0, iv (-1), iv 1, iv 32]) rfl (q := 17) rfl ?_
  refine o_goto X1 hx hby d9_17 (by decide) (q := 5) (by decide) ?_
  refine o_iloadN X1 hx hby d9_5 rfl (q := 6) rfl ?_
  refine o_iloadN X1 hx hby d9_6 rfl (q := 7) rfl ?_
  refine o_icN X1 hx hby d9_7 (tlt (by decide : (1 : Int32) < (32 : Int32))).2.1 (q := 10) rfl ?_
  refine o_aloadN X1 hx hby d9_10 rfl rfl (q := 11) rfl ?_
  refine o_iloadN X1 hx hby d9_11 rfl (q := 12) rfl ?_
  refine o_iloadN X1 hx hby d9_12 rfl (q := 13) rfl ?_
  refine o_stV X1 hx hby hZ e1 V1 ⟨by decide, by decide⟩ 1 rfl (Nat.le_of_ble_eq_true rfl) d9_13 (q := 14) rfl fun T2 h2 X2 e2 W2 V2 => ?_
  refine o_iinc X2 hx hby d9_14 rfl (l' := #[rv o0, iv (-1), iv 2, iv 32]) rfl (q := 17) rfl ?_
  refine o_goto X2 hx hby d9_17 (by decide) (q := 5) (by decide) ?_
  refine o_iloadN X2 hx hby d9_5 rfl (q := 6) rfl ?_
  refine o_iloadN X2 hx hby d9_6 rfl (q := 7) rfl ?_
  refine o_icN X2 hx hby d9_7 (tlt (by decide : (2 : Int32) < (32 : Int32))).2.1 (q := 10) rfl ?_
  refine o_aloadN X2 hx hby d9_10 rfl rfl (q := 11) rfl ?_
  refine o_iloadN X2 hx hby d9_11 rfl (q := 12) rfl ?_
  refine o_iloadN X2 hx hby d9_12 rfl (q := 13) rfl ?_
  refine o_stV X2 hx hby hZ e2 V2 ⟨by decide, by decide⟩ 2 rfl (Nat.le_of_ble_eq_true rfl) d9_13 (q := 14) rfl fun T3 h3 X3 e3 W3 V3 => ?_
  refine o_iinc X3 hx hby d9_14 rfl (l' := #[rv o0, iv (-1), iv 3, iv 32]) rfl (q := 17) rfl ?_
  refine o_goto X3 hx hby d9_17 (by decide) (q := 5) (by decide) ?_
  refine o_iloadN X3 hx hby d9_5 rfl (q := 6) rfl ?_
  refine o_iloadN X3 hx hby d9_6 rfl (q := 7) rfl ?_
  refine o_icN X3 hx hby d9_7 (tlt (by decide : (3 : Int32) < (32 : Int32))).2.1 (q := 10) rfl ?_
  refine o_aloadN X3 hx hby d9_10 rfl rfl (q := 11) rfl ?_
  refine o_iloadN X3 hx hby d9_11 rfl (q := 12) rfl ?_
  refine o_iloadN X3 hx hby d9_12 rfl (q := 13) rfl ?_
  refine o_stV X3 hx hby hZ e3 V3 ⟨by decide, by decide⟩ 3 rfl (Nat.le_of_ble_eq_true rfl) d9_13 (q := 14) rfl fun T4 h4 X4 e4 W4 V4 => ?_
  refine o_iinc X4 hx hby d9_14 rfl (l' := #[rv o0, iv (-1), iv 4, iv 32]) rfl (q := 17) rfl ?_
  refine o_goto X4 hx hby d9_17 (by decide) (q := 5) (by decide) ?_
  refine o_iloadN X4 hx hby d9_5 rfl (q := 6) rfl ?_
  refine o_iloadN X4 hx hby d9_6 rfl (q := 7) rfl ?_
  refine o_icN X4 hx hby d9_7 (tlt (by decide : (4 : Int32) < (32 : Int32))).2.1 (q := 10) rfl ?_
  refine o_aloadN X4 hx hby d9_10 rfl rfl (q := 11) rfl ?_
  refine o_iloadN X4 hx hby d9_11 rfl (q := 12) rfl ?_
  refine o_iloadN X4 hx hby d9_12 rfl (q := 13) rfl ?_
  refine o_stV X4 hx hby hZ e4 V4 ⟨by decide, by decide⟩ 4 rfl (Nat.le_of_ble_eq_true rfl) d9_13 (q := 14) rfl fun T5 h5 X5 e5 W5 V5 => ?_
  refine o_iinc X5 hx hby d9_14 rfl (l' := #[rv o0, iv (-1), iv 5, iv 32]) rfl (q := 17) rfl ?_
  refine o_goto X5 hx hby d9_17 (by decide) (q := 5) (by decide) ?_
  refine o_iloadN X5 hx hby d9_5 rfl (q := 6) rfl ?_
  refine o_iloadN X5 hx hby d9_6 rfl (q := 7) rfl ?_
  refine o_icN X5 hx hby d9_7 (tlt (by decide : (5 : Int32) < (32 : Int32))).2.1 (q := 10) rfl ?_
  refine o_aloadN X5 hx hby d9_10 rfl rfl (q := 11) rfl ?_
  refine o_iloadN X5 hx hby d9_11 rfl (q := 12) rfl ?_
  refine o_iloadN X5 hx hby d9_12 rfl (q := 13) rfl ?_
  refine o_stV X5 hx hby hZ e5 V5 ⟨by decide, by decide⟩ 5 rfl (Nat.le_of_ble_eq_true rfl) d9_13 (q := 14) rfl fun T6 h6 X6 e6 W6 V6 => ?_
  refine o_iinc X6 hx hby d9_14 rfl (l' := #[rv o0, iv (-1), iv 6, iv 32]) rfl (q := 17) rfl ?_
  refine o_goto X6 hx hby d9_17 (by decide) (q := 5) (by decide) ?_
  refine o_iloadN X6 hx hby d9_5 rfl (q := 6) rfl ?_
  refine o_iloadN X6 hx hby d9_6 rfl (q := 7) rfl ?_
  refine o_icN X6 hx hby d9_7 (tlt (by decide : (6 : Int32) < (32 : Int32))).2.1 (q := 10) rfl ?_
  refine o_aloadN X6 hx hby d9_10 rfl rfl (q := 11) rfl ?_
  refine o_iloadN X6 hx hby d9_11 rfl (q := 12) rfl ?_
  refine o_iloadN X6 hx hby d9_12 rfl (q := 13) rfl ?_
  refine o_stV X6 hx hby hZ e6 V6 ⟨by decide, by decide⟩ 6 rfl (Nat.le_of_ble_eq_true rfl) d9_13 (q := 14) rfl fun T7 h7 X7 e7 W7 V7 => ?_
  refine o_iinc X7 hx hby d9_14 rfl (l' := #[rv o0, iv (-1), iv 7, iv 32]) rfl (q := 17) rfl ?_
  refine o_goto X7 hx hby d9_17 (by decide) (q := 5) (by decide) ?_
  refine o_iloadN X7 hx hby d9_5 rfl (q := 6) rfl ?_
  refine o_iloadN X7 hx hby d9_6 rfl (q := 7) rfl ?_
  refine o_icN X7 hx hby d9_7 (tlt (by decide : (7 : Int32) < (32 : Int32))).2.1 (q := 10) rfl ?_
  refine o_aloadN X7 hx hby d9_10 rfl rfl (q := 11) rfl ?_
  refine o_iloadN X7 hx hby d9_11 rfl (q := 12) rfl ?_
  refine o_iloadN X7 hx hby d9_12 rfl (q := 13) rfl ?_
  refine o_stV X7 hx hby hZ e7 V7 ⟨by decide, by decide⟩ 7 rfl (Nat.le_of_ble_eq_true rfl) d9_13 (q := 14) rfl fun T8 h8 X8 e8 W8 V8 => ?_
  refine o_iinc X8 hx hby d9_14 rfl (l' := #[rv o0, iv (-1), iv 8, iv 32]) rfl (q := 17) rfl ?_
  refine o_goto X8 hx hby d9_17 (by decide) (q := 5) (by decide) ?_
  refine o_iloadN X8 hx hby d9_5 rfl (q := 6) rfl ?_
  refine o_iloadN X8 hx hby d9_6 rfl (q := 7) rfl ?_
  refine o_icN X8 hx hby d9_7 (tlt (by decide : (8 : Int32) < (32 : Int32))).2.1 (q := 10) rfl ?_
  refine o_aloadN X8 hx hby d9_10 rfl rfl (q := 11) rfl ?_
  refine o_iloadN X8 hx hby d9_11 rfl (q := 12) rfl ?_
  refine o_iloadN X8 hx hby d9_12 rfl (q := 13) rfl ?_
  refine o_stV X8 hx hby hZ e8 V8 ⟨by decide, by decide⟩ 8 rfl (Nat.le_of_ble_eq_true rfl) d9_13 (q := 14) rfl fun T9 h9 X9 e9 W9 V9 => ?_
  refine o_iinc X9 hx hby d9_14 rfl (l' := #[rv o0, iv (-1), iv 9, iv 32]) rfl (q := 17) rfl ?_
  refine o_goto X9 hx hby d9_17 (by decide) (q := 5) (by decide) ?_
  refine o_iloadN X9 hx hby d9_5 rfl (q := 6) rfl ?_
  refine o_iloadN X9 hx hby d9_6 rfl (q := 7) rfl ?_
  refine o_icN X9 hx hby d9_7 (tlt (by decide : (9 : Int32) < (32 : Int32))).2.1 (q := 10) rfl ?_
  refine o_aloadN X9 hx hby d9_10 rfl rfl (q := 11) rfl ?_
  refine o_iloadN X9 hx hby d9_11 rfl (q := 12) rfl ?_
  refine o_iloadN X9 hx hby d9_12 rfl (q := 13) rfl ?_
  refine o_stV X9 hx hby hZ e9 V9 ⟨by decide, by decide⟩ 9 rfl (Nat.le_of_ble_eq_true rfl) d9_13 (q := 14) rfl fun T10 h10 X10 e10 W10 V10 => ?_
  refine o_iinc X10 hx hby d9_14 rfl (l' := #[rv o0, iv (-1), iv 10, iv 32]) rfl (q := 17) rfl ?_
  refine o_goto X10 hx hby d9_17 (by decide) (q := 5) (by decide) ?_
  refine o_iloadN X10 hx hby d9_5 rfl (q := 6) rfl ?_
  refine o_iloadN X10 hx hby d9_6 rfl (q := 7) rfl ?_
  refine o_icN X10 hx hby d9_7 (tlt (by decide : (10 : Int32) < (32 : Int32))).2.1 (q := 10) rfl ?_
  refine o_aloadN X10 hx hby d9_10 rfl rfl (q := 11) rfl ?_
  refine o_iloadN X10 hx hby d9_11 rfl (q := 12) rfl ?_
  refine o_iloadN X10 hx hby d9_12 rfl (q := 13) rfl ?_
  refine o_stV X10 hx hby hZ e10 V10 ⟨by decide, by decide⟩ 10 rfl (Nat.le_of_ble_eq_true rfl) d9_13 (q := 14) rfl fun T11 h11 X11 e11 W11 V11 => ?_
  refine o_iinc X11 hx hby d9_14 rfl (l' := #[rv o0, iv (-1), iv 11, iv 32]) rfl (q := 17) rfl ?_
  refine o_goto X11 hx hby d9_17 (by decide) (q := 5) (by decide) ?_
  refine o_iloadN X11 hx hby d9_5 rfl (q := 6) rfl ?_
  refine o_iloadN X11 hx hby d9_6 rfl (q := 7) rfl ?_
  refine o_icN X11 hx hby d9_7 (tlt (by decide : (11 : Int32) < (32 : Int32))).2.1 (q := 10) rfl ?_
  refine o_aloadN X11 hx hby d9_10 rfl rfl (q := 11) rfl ?_
  refine o_iloadN X11 hx hby d9_11 rfl (q := 12) rfl ?_
  refine o_iloadN X11 hx hby d9_12 rfl (q := 13) rfl ?_
  refine o_stV X11 hx hby hZ e11 V11 ⟨by decide, by decide⟩ 11 rfl (Nat.le_of_ble_eq_true rfl) d9_13 (q := 14) rfl fun T12 h12 X12 e12 W12 V12 => ?_
  refine o_iinc X12 hx hby d9_14 rfl (l' := #[rv o0, iv (-1), iv 12, iv 32]) rfl (q := 17) rfl ?_
  refine o_goto X12 hx hby d9_17 (by decide) (q := 5) (by decide) ?_
  refine o_iloadN X12 hx hby d9_5 rfl (q := 6) rfl ?_
  refine o_iloadN X12 hx hby d9_6 rfl (q := 7) rfl ?_
  refine o_icN X12 hx hby d9_7 (tlt (by decide : (12 : Int32) < (32 : Int32))).2.1 (q := 10) rfl ?_
  refine o_aloadN X12 hx hby d9_10 rfl rfl (q := 11) rfl ?_
  refine o_iloadN X12 hx hby d9_11 rfl (q := 12) rfl ?_
  refine o_iloadN X12 hx hby d9_12 rfl (q := 13) rfl ?_
  refine o_stV X12 hx hby hZ e12 V12 ⟨by decide, by decide⟩ 12 rfl (Nat.le_of_ble_eq_true rfl) d9_13 (q := 14) rfl fun T13 h13 X13 e13 W13 V13 => ?_
  refine o_iinc X13 hx hby d9_14 rfl (l' := #[rv o0, iv (-1), iv 13, iv 32]) rfl (q := 17) rfl ?_
  refine o_goto X13 hx hby d9_17 (by decide) (q := 5) (by decide) ?_
  refine o_iloadN X13 hx hby d9_5 rfl (q := 6) rfl ?_
  refine o_iloadN X13 hx hby d9_6 rfl (q := 7) rfl ?_
  refine o_icN X13 hx hby d9_7 (tlt (by decide : (13 : Int32) < (32 : Int32))).2.1 (q := 10) rfl ?_
  refine o_aloadN X13 hx hby d9_10 rfl rfl (q := 11) rfl ?_
  refine o_iloadN X13 hx hby d9_11 rfl (q := 12) rfl ?_
  refine o_iloadN X13 hx hby d9_12 rfl (q := 13) rfl ?_
  refine o_stV X13 hx hby hZ e13 V13 ⟨by decide, by decide⟩ 13 rfl (Nat.le_of_ble_eq_true rfl) d9_13 (q := 14) rfl fun T14 h14 X14 e14 W14 V14 => ?_
  refine o_iinc X14 hx hby d9_14 rfl (l' := #[rv o0, iv (-1), iv 14, iv 32]) rfl (q := 17) rfl ?_
  refine o_goto X14 hx hby d9_17 (by decide) (q := 5) (by decide) ?_
  refine o_iloadN X14 hx hby d9_5 rfl (q := 6) rfl ?_
  refine o_iloadN X14 hx hby d9_6 rfl (q := 7) rfl ?_
  refine o_icN X14 hx hby d9_7 (tlt (by decide : (14 : Int32) < (32 : Int32))).2.1 (q := 10) rfl ?_
  refine o_aloadN X14 hx hby d9_10 rfl rfl (q := 11) rfl ?_
  refine o_iloadN X14 hx hby d9_11 rfl (q := 12) rfl ?_
  refine o_iloadN X14 hx hby d9_12 rfl (q := 13) rfl ?_
  refine o_stV X14 hx hby hZ e14 V14 ⟨by decide, by decide⟩ 14 rfl (Nat.le_of_ble_eq_true rfl) d9_13 (q := 14) rfl fun T15 h15 X15 e15 W15 V15 => ?_
  refine o_iinc X15 hx hby d9_14 rfl (l' := #[rv o0, iv (-1), iv 15, iv 32]) rfl (q := 17) rfl ?_
  refine o_goto X15 hx hby d9_17 (by decide) (q := 5) (by decide) ?_
  refine o_iloadN X15 hx hby d9_5 rfl (q := 6) rfl ?_
  refine o_iloadN X15 hx hby d9_6 rfl (q := 7) rfl ?_
  refine o_icN X15 hx hby d9_7 (tlt (by decide : (15 : Int32) < (32 : Int32))).2.1 (q := 10) rfl ?_
  refine o_aloadN X15 hx hby d9_10 rfl rfl (q := 11) rfl ?_
  refine o_iloadN X15 hx hby d9_11 rfl (q := 12) rfl ?_
  refine o_iloadN X15 hx hby d9_12 rfl (q := 13) rfl ?_
  refine o_stV X15 hx hby hZ e15 V15 ⟨by decide, by decide⟩ 15 rfl (Nat.le_of_ble_eq_true rfl) d9_13 (q := 14) rfl fun T16 h16 X16 e16 W16 V16 => ?_
  refine o_iinc X16 hx hby d9_14 rfl (l' := #[rv o0, iv (-1), iv 16, iv 32]) rfl (q := 17) rfl ?_
  refine o_goto X16 hx hby d9_17 (by decide) (q := 5) (by decide) ?_
  refine o_iloadN X16 hx hby d9_5 rfl (q := 6) rfl ?_
  refine o_iloadN X16 hx hby d9_6 rfl (q := 7) rfl ?_
  refine o_icN X16 hx hby d9_7 (tlt (by decide : (16 : Int32) < (32 : Int32))).2.1 (q := 10) rfl ?_
  refine o_aloadN X16 hx hby d9_10 rfl rfl (q := 11) rfl ?_
  refine o_iloadN X16 hx hby d9_11 rfl (q := 12) rfl ?_
  refine o_iloadN X16 hx hby d9_12 rfl (q := 13) rfl ?_
  refine o_stV X16 hx hby hZ e16 V16 ⟨by decide, by decide⟩ 16 rfl (Nat.le_of_ble_eq_true rfl) d9_13 (q := 14) rfl fun T17 h17 X17 e17 W17 V17 => ?_
  refine o_iinc X17 hx hby d9_14 rfl (l' := #[rv o0, iv (-1), iv 17, iv 32]) rfl (q := 17) rfl ?_
  refine o_goto X17 hx hby d9_17 (by decide) (q := 5) (by decide) ?_
  refine o_iloadN X17 hx hby d9_5 rfl (q := 6) rfl ?_
  refine o_iloadN X17 hx hby d9_6 rfl (q := 7) rfl ?_
  refine o_icN X17 hx hby d9_7 (tlt (by decide : (17 : Int32) < (32 : Int32))).2.1 (q := 10) rfl ?_
  refine o_aloadN X17 hx hby d9_10 rfl rfl (q := 11) rfl ?_
  refine o_iloadN X17 hx hby d9_11 rfl (q := 12) rfl ?_
  refine o_iloadN X17 hx hby d9_12 rfl (q := 13) rfl ?_
  refine o_stV X17 hx hby hZ e17 V17 ⟨by decide, by decide⟩ 17 rfl (Nat.le_of_ble_eq_true rfl) d9_13 (q := 14) rfl fun T18 h18 X18 e18 W18 V18 => ?_
  refine o_iinc X18 hx hby d9_14 rfl (l' := #[rv o0, iv (-1), iv 18, iv 32]) rfl (q := 17) rfl ?_
  refine o_goto X18 hx hby d9_17 (by decide) (q := 5) (by decide) ?_
  refine o_iloadN X18 hx hby d9_5 rfl (q := 6) rfl ?_
  refine o_iloadN X18 hx hby d9_6 rfl (q := 7) rfl ?_
  refine o_icN X18 hx hby d9_7 (tlt (by decide : (18 : Int32) < (32 : Int32))).2.1 (q := 10) rfl ?_
  refine o_aloadN X18 hx hby d9_10 rfl rfl (q := 11) rfl ?_
  refine o_iloadN X18 hx hby d9_11 rfl (q := 12) rfl ?_
  refine o_iloadN X18 hx hby d9_12 rfl (q := 13) rfl ?_
  refine o_stV X18 hx hby hZ e18 V18 ⟨by decide, by decide⟩ 18 rfl (Nat.le_of_ble_eq_true rfl) d9_13 (q := 14) rfl fun T19 h19 X19 e19 W19 V19 => ?_
  refine o_iinc X19 hx hby d9_14 rfl (l' := #[rv o0, iv (-1), iv 19, iv 32]) rfl (q := 17) rfl ?_
  refine o_goto X19 hx hby d9_17 (by decide) (q := 5) (by decide) ?_
  refine o_iloadN X19 hx hby d9_5 rfl (q := 6) rfl ?_
  refine o_iloadN X19 hx hby d9_6 rfl (q := 7) rfl ?_
  refine o_icN X19 hx hby d9_7 (tlt (by decide : (19 : Int32) < (32 : Int32))).2.1 (q := 10) rfl ?_
  refine o_aloadN X19 hx hby d9_10 rfl rfl (q := 11) rfl ?_
  refine o_iloadN X19 hx hby d9_11 rfl (q := 12) rfl ?_
  refine o_iloadN X19 hx hby d9_12 rfl (q := 13) rfl ?_
  refine o_stV X19 hx hby hZ e19 V19 ⟨by decide, by decide⟩ 19 rfl (Nat.le_of_ble_eq_true rfl) d9_13 (q := 14) rfl fun T20 h20 X20 e20 W20 V20 => ?_
  refine o_iinc X20 hx hby d9_14 rfl (l' := #[rv o0, iv (-1), iv 20, iv 32]) rfl (q := 17) rfl ?_
  refine o_goto X20 hx hby d9_17 (by decide) (q := 5) (by decide) ?_
  refine o_iloadN X20 hx hby d9_5 rfl (q := 6) rfl ?_
  refine o_iloadN X20 hx hby d9_6 rfl (q := 7) rfl ?_
  refine o_icN X20 hx hby d9_7 (tlt (by decide : (20 : Int32) < (32 : Int32))).2.1 (q := 10) rfl ?_
  refine o_aloadN X20 hx hby d9_10 rfl rfl (q := 11) rfl ?_
  refine o_iloadN X20 hx hby d9_11 rfl (q := 12) rfl ?_
  refine o_iloadN X20 hx hby d9_12 rfl (q := 13) rfl ?_
  refine o_stV X20 hx hby hZ e20 V20 ⟨by decide, by decide⟩ 20 rfl (Nat.le_of_ble_eq_true rfl) d9_13 (q := 14) rfl fun T21 h21 X21 e21 W21 V21 => ?_
  refine o_iinc X21 hx hby d9_14 rfl (l' := #[rv o0, iv (-1), iv 21, iv 32]) rfl (q := 17) rfl ?_
  refine o_goto X21 hx hby d9_17 (by decide) (q := 5) (by decide) ?_
  refine o_iloadN X21 hx hby d9_5 rfl (q := 6) rfl ?_
  refine o_iloadN X21 hx hby d9_6 rfl (q := 7) rfl ?_
  refine o_icN X21 hx hby d9_7 (tlt (by decide : (21 : Int32) < (32 : Int32))).2.1 (q := 10) rfl ?_
  refine o_aloadN X21 hx hby d9_10 rfl rfl (q := 11) rfl ?_
  refine o_iloadN X21 hx hby d9_11 rfl (q := 12) rfl ?_
  refine o_iloadN X21 hx hby d9_12 rfl (q := 13) rfl ?_
  refine o_stV X21 hx hby hZ e21 V21 ⟨by decide, by decide⟩ 21 rfl (Nat.le_of_ble_eq_true rfl) d9_13 (q := 14) rfl fun T22 h22 X22 e22 W22 V22 => ?_
  refine o_iinc X22 hx hby d9_14 rfl (l' := #[rv o0, iv (-1), iv 22, iv 32]) rfl (q := 17) rfl ?_
  refine o_goto X22 hx hby d9_17 (by decide) (q := 5) (by decide) ?_
  refine o_iloadN X22 hx hby d9_5 rfl (q := 6) rfl ?_
  refine o_iloadN X22 hx hby d9_6 rfl (q := 7) rfl ?_
  refine o_icN X22 hx hby d9_7 (tlt (by decide : (22 : Int32) < (32 : Int32))).2.1 (q := 10) rfl ?_
  refine o_aloadN X22 hx hby d9_10 rfl rfl (q := 11) rfl ?_
  refine o_iloadN X22 hx hby d9_11 rfl (q := 12) rfl ?_
  refine o_iloadN X22 hx hby d9_12 rfl (q := 13) rfl ?_
  refine o_stV X22 hx hby hZ e22 V22 ⟨by decide, by decide⟩ 22 rfl (Nat.le_of_ble_eq_true rfl) d9_13 (q := 14) rfl fun T23 h23 X23 e23 W23 V23 => ?_
  refine o_iinc X23 hx hby d9_14 rfl (l' := #[rv o0, iv (-1), iv 23, iv 32]) rfl (q := 17) rfl ?_
  refine o_goto X23 hx hby d9_17 (by decide) (q := 5) (by decide) ?_
  refine o_iloadN X23 hx hby d9_5 rfl (q := 6) rfl ?_
  refine o_iloadN X23 hx hby d9_6 rfl (q := 7) rfl ?_
  refine o_icN X23 hx hby d9_7 (tlt (by decide : (23 : Int32) < (32 : Int32))).2.1 (q := 10) rfl ?_
  refine o_aloadN X23 hx hby d9_10 rfl rfl (q := 11) rfl ?_
  refine o_iloadN X23 hx hby d9_11 rfl (q := 12) rfl ?_
  refine o_iloadN X23 hx hby d9_12 rfl (q := 13) rfl ?_
  refine o_stV X23 hx hby hZ e23 V23 ⟨by decide, by decide⟩ 23 rfl (Nat.le_of_ble_eq_true rfl) d9_13 (q := 14) rfl fun T24 h24 X24 e24 W24 V24 => ?_
  refine o_iinc X24 hx hby d9_14 rfl (l' := #[rv o0, iv (-1), iv 24, iv 32]) rfl (q := 17) rfl ?_
  refine o_goto X24 hx hby d9_17 (by decide) (q := 5) (by decide) ?_
  refine o_iloadN X24 hx hby d9_5 rfl (q := 6) rfl ?_
  refine o_iloadN X24 hx hby d9_6 rfl (q := 7) rfl ?_
  refine o_icN X24 hx hby d9_7 (tlt (by decide : (24 : Int32) < (32 : Int32))).2.1 (q := 10) rfl ?_
  refine o_aloadN X24 hx hby d9_10 rfl rfl (q := 11) rfl ?_
  refine o_iloadN X24 hx hby d9_11 rfl (q := 12) rfl ?_
  refine o_iloadN X24 hx hby d9_12 rfl (q := 13) rfl ?_
  refine o_stV X24 hx hby hZ e24 V24 ⟨by decide, by decide⟩ 24 rfl (Nat.le_of_ble_eq_true rfl) d9_13 (q := 14) rfl fun T25 h25 X25 e25 W25 V25 => ?_
  refine o_iinc X25 hx hby d9_14 rfl (l' := #[rv o0, iv (-1), iv 25, iv 32]) rfl (q := 17) rfl ?_
  refine o_goto X25 hx hby d9_17 (by decide) (q := 5) (by decide) ?_
  refine o_iloadN X25 hx hby d9_5 rfl (q := 6) rfl ?_
  refine o_iloadN X25 hx hby d9_6 rfl (q := 7) rfl ?_
  refine o_icN X25 hx hby d9_7 (tlt (by decide : (25 : Int32) < (32 : Int32))).2.1 (q := 10) rfl ?_
  refine o_aloadN X25 hx hby d9_10 rfl rfl (q := 11) rfl ?_
  refine o_iloadN X25 hx hby d9_11 rfl (q := 12) rfl ?_
  refine o_iloadN X25 hx hby d9_12 rfl (q := 13) rfl ?_
  refine o_stV X25 hx hby hZ e25 V25 ⟨by decide, by decide⟩ 25 rfl (Nat.le_of_ble_eq_true rfl) d9_13 (q := 14) rfl fun T26 h26 X26 e26 W26 V26 => ?_
  refine o_iinc X26 hx hby d9_14 rfl (l' := #[rv o0, iv (-1), iv 26, iv 32]) rfl (q := 17) rfl ?_
  refine o_goto X26 hx hby d9_17 (by decide) (q := 5) (by decide) ?_
  refine o_iloadN X26 hx hby d9_5 rfl (q := 6) rfl ?_
  refine o_iloadN X26 hx hby d9_6 rfl (q := 7) rfl ?_
  refine o_icN X26 hx hby d9_7 (tlt (by decide : (26 : Int32) < (32 : Int32))).2.1 (q := 10) rfl ?_
  refine o_aloadN X26 hx hby d9_10 rfl rfl (q := 11) rfl ?_
  refine o_iloadN X26 hx hby d9_11 rfl (q := 12) rfl ?_
  refine o_iloadN X26 hx hby d9_12 rfl (q := 13) rfl ?_
  refine o_stV X26 hx hby hZ e26 V26 ⟨by decide, by decide⟩ 26 rfl (Nat.le_of_ble_eq_true rfl) d9_13 (q := 14) rfl fun T27 h27 X27 e27 W27 V27 => ?_
  refine o_iinc X27 hx hby d9_14 rfl (l' := #[rv o0, iv (-1), iv 27, iv 32]) rfl (q := 17) rfl ?_
  refine o_goto X27 hx hby d9_17 (by decide) (q := 5) (by decide) ?_
  refine o_iloadN X27 hx hby d9_5 rfl (q := 6) rfl ?_
  refine o_iloadN X27 hx hby d9_6 rfl (q := 7) rfl ?_
  refine o_icN X27 hx hby d9_7 (tlt (by decide : (27 : Int32) < (32 : Int32))).2.1 (q := 10) rfl ?_
  refine o_aloadN X27 hx hby d9_10 rfl rfl (q := 11) rfl ?_
  refine o_iloadN X27 hx hby d9_11 rfl (q := 12) rfl ?_
  refine o_iloadN X27 hx hby d9_12 rfl (q := 13) rfl ?_
  refine o_stV X27 hx hby hZ e27 V27 ⟨by decide, by decide⟩ 27 rfl (Nat.le_of_ble_eq_true rfl) d9_13 (q := 14) rfl fun T28 h28 X28 e28 W28 V28 => ?_
  refine o_iinc X28 hx hby d9_14 rfl (l' := #[rv o0, iv (-1), iv 28, iv 32]) rfl (q := 17) rfl ?_
  refine o_goto X28 hx hby d9_17 (by decide) (q := 5) (by decide) ?_
  refine o_iloadN X28 hx hby d9_5 rfl (q := 6) rfl ?_
  refine o_iloadN X28 hx hby d9_6 rfl (q := 7) rfl ?_
  refine o_icN X28 hx hby d9_7 (tlt (by decide : (28 : Int32) < (32 : Int32))).2.1 (q := 10) rfl ?_
  refine o_aloadN X28 hx hby d9_10 rfl rfl (q := 11) rfl ?_
  refine o_iloadN X28 hx hby d9_11 rfl (q := 12) rfl ?_
  refine o_iloadN X28 hx hby d9_12 rfl (q := 13) rfl ?_
  refine o_stV X28 hx hby hZ e28 V28 ⟨by decide, by decide⟩ 28 rfl (Nat.le_of_ble_eq_true rfl) d9_13 (q := 14) rfl fun T29 h29 X29 e29 W29 V29 => ?_
  refine o_iinc X29 hx hby d9_14 rfl (l' := #[rv o0, iv (-1), iv 29, iv 32]) rfl (q := 17) rfl ?_
  refine o_goto X29 hx hby d9_17 (by decide) (q := 5) (by decide) ?_
  refine o_iloadN X29 hx hby d9_5 rfl (q := 6) rfl ?_
  refine o_iloadN X29 hx hby d9_6 rfl (q := 7) rfl ?_
  refine o_icN X29 hx hby d9_7 (tlt (by decide : (29 : Int32) < (32 : Int32))).2.1 (q := 10) rfl ?_
  refine o_aloadN X29 hx hby d9_10 rfl rfl (q := 11) rfl ?_
  refine o_iloadN X29 hx hby d9_11 rfl (q := 12) rfl ?_
  refine o_iloadN X29 hx hby d9_12 rfl (q := 13) rfl ?_
  refine o_stV X29 hx hby hZ e29 V29 ⟨by decide, by decide⟩ 29 rfl (Nat.le_of_ble_eq_true rfl) d9_13 (q := 14) rfl fun T30 h30 X30 e30 W30 V30 => ?_
  refine o_iinc X30 hx hby d9_14 rfl (l' := #[rv o0, iv (-1), iv 30, iv 32]) rfl (q := 17) rfl ?_
  refine o_goto X30 hx hby d9_17 (by decide) (q := 5) (by decide) ?_
  refine o_iloadN X30 hx hby d9_5 rfl (q := 6) rfl ?_
  refine o_iloadN X30 hx hby d9_6 rfl (q := 7) rfl ?_
  refine o_icN X30 hx hby d9_7 (tlt (by decide : (30 : Int32) < (32 : Int32))).2.1 (q := 10) rfl ?_
  refine o_aloadN X30 hx hby d9_10 rfl rfl (q := 11) rfl ?_
  refine o_iloadN X30 hx hby d9_11 rfl (q := 12) rfl ?_
  refine o_iloadN X30 hx hby d9_12 rfl (q := 13) rfl ?_
  refine o_stV X30 hx hby hZ e30 V30 ⟨by decide, by decide⟩ 30 rfl (Nat.le_of_ble_eq_true rfl) d9_13 (q := 14) rfl fun T31 h31 X31 e31 W31 V31 => ?_
  refine o_iinc X31 hx hby d9_14 rfl (l' := #[rv o0, iv (-1), iv 31, iv 32]) rfl (q := 17) rfl ?_
  refine o_goto X31 hx hby d9_17 (by decide) (q := 5) (by decide) ?_
  refine o_iloadN X31 hx hby d9_5 rfl (q := 6) rfl ?_
  refine o_iloadN X31 hx hby d9_6 rfl (q := 7) rfl ?_
  refine o_icN X31 hx hby d9_7 (tlt (by decide : (31 : Int32) < (32 : Int32))).2.1 (q := 10) rfl ?_
  refine o_aloadN X31 hx hby d9_10 rfl rfl (q := 11) rfl ?_
  refine o_iloadN X31 hx hby d9_11 rfl (q := 12) rfl ?_
  refine o_iloadN X31 hx hby d9_12 rfl (q := 13) rfl ?_
  refine o_stV X31 hx hby hZ e31 V31 ⟨by decide, by decide⟩ 31 rfl (Nat.le_of_ble_eq_true rfl) d9_13 (q := 14) rfl fun T32 h32 X32 e32 W32 V32 => ?_
  refine o_iinc X32 hx hby d9_14 rfl (l' := #[rv o0, iv (-1), iv 32, iv 32]) rfl (q := 17) rfl ?_
  refine o_goto X32 hx hby d9_17 (by decide) (q := 5) (by decide) ?_
  refine o_iloadN X32 hx hby d9_5 rfl (q := 6) rfl ?_
  refine o_iloadN X32 hx hby d9_6 rfl (q := 7) rfl ?_
  refine o_icY X32 hx hby d9_7 (flt (by decide : ¬ ((32 : Int32) < (32 : Int32)))).2.1 (by decide) (q := 20) (by decide) ?_
  have qz33 := (((((((((((((((((((((((((((((((((Keep.refl h0 [o0]).wr W1 (Or.inl (List.mem_of_getElem? (i := 0) rfl))).wr W2 (Or.inl (List.mem_of_getElem? (i := 0) rfl))).wr W3 (Or.inl (List.mem_of_getElem? (i := 0) rfl))).wr W4 (Or.inl (List.mem_of_getElem? (i := 0) rfl))).wr W5 (Or.inl (List.mem_of_getElem? (i := 0) rfl))).wr W6 (Or.inl (List.mem_of_getElem? (i := 0) rfl))).wr W7 (Or.inl (List.mem_of_getElem? (i := 0) rfl))).wr W8 (Or.inl (List.mem_of_getElem? (i := 0) rfl))).wr W9 (Or.inl (List.mem_of_getElem? (i := 0) rfl))).wr W10 (Or.inl (List.mem_of_getElem? (i := 0) rfl))).wr W11 (Or.inl (List.mem_of_getElem? (i := 0) rfl))).wr W12 (Or.inl (List.mem_of_getElem? (i := 0) rfl))).wr W13 (Or.inl (List.mem_of_getElem? (i := 0) rfl))).wr W14 (Or.inl (List.mem_of_getElem? (i := 0) rfl))).wr W15 (Or.inl (List.mem_of_getElem? (i := 0) rfl))).wr W16 (Or.inl (List.mem_of_getElem? (i := 0) rfl))).wr W17 (Or.inl (List.mem_of_getElem? (i := 0) rfl))).wr W18 (Or.inl (List.mem_of_getElem? (i := 0) rfl))).wr W19 (Or.inl (List.mem_of_getElem? (i := 0) rfl))).wr W20 (Or.inl (List.mem_of_getElem? (i := 0) rfl))).wr W21 (Or.inl (List.mem_of_getElem? (i := 0) rfl))).wr W22 (Or.inl (List.mem_of_getElem? (i := 0) rfl))).wr W23 (Or.inl (List.mem_of_getElem? (i := 0) rfl))).wr W24 (Or.inl (List.mem_of_getElem? (i := 0) rfl))).wr W25 (Or.inl (List.mem_of_getElem? (i := 0) rfl))).wr W26 (Or.inl (List.mem_of_getElem? (i := 0) rfl))).wr W27 (Or.inl (List.mem_of_getElem? (i := 0) rfl))).wr W28 (Or.inl (List.mem_of_getElem? (i := 0) rfl))).wr W29 (Or.inl (List.mem_of_getElem? (i := 0) rfl))).wr W30 (Or.inl (List.mem_of_getElem? (i := 0) rfl))).wr W31 (Or.inl (List.mem_of_getElem? (i := 0) rfl))).wr W32 (Or.inl (List.mem_of_getElem? (i := 0) rfl)))
  exact own_outV X32 hx hlk hret (hb hby d9_20) (Q := Q9n32 Z o0 k h0 n0) (by rw [e32]; exact ⟨rfl, (Fr.snoc X32 (Fr.snoc X31 (Fr.snoc X30 (Fr.snoc X29 (Fr.snoc X28 (Fr.snoc X27 (Fr.snoc X26 (Fr.snoc X25 (Fr.snoc X24 (Fr.snoc X23 (Fr.snoc X22 (Fr.snoc X21 (Fr.snoc X20 (Fr.snoc X19 (Fr.snoc X18 (Fr.snoc X17 (Fr.snoc X16 (Fr.snoc X15 (Fr.snoc X14 (Fr.snoc X13 (Fr.snoc X12 (Fr.snoc X11 (Fr.snoc X10 (Fr.snoc X9 (Fr.snoc X8 (Fr.snoc X7 (Fr.snoc X6 (Fr.snoc X5 (Fr.snoc X4 (Fr.snoc X3 (Fr.snoc X2 (Fr.snoc X1 N0 g_o0) g_o0) g_o0) g_o0) g_o0) g_o0) g_o0) g_o0) g_o0) g_o0) g_o0) g_o0) g_o0) g_o0) g_o0) g_o0) g_o0) g_o0) g_o0) g_o0) g_o0) g_o0) g_o0) g_o0) g_o0) g_o0) g_o0) g_o0) g_o0) g_o0) g_o0) g_o0), qz33, V32⟩) (by decide) (by decide)
def IX (Z : State) (h : Heap) (o0 rb kc fa na ha : Addr) (kk kf kn kh : ClassId) (F L mm LL : Int32) (nf nl : Nat) (vs : List Value) : Prop := Exa Z h o0 "com/example/headway/headway/engine/HashIndex" ∧ Fld Z h o0 "com/example/headway/headway/engine/HashIndex" "rows" "Lcom/example/headway/headway/engine/RowBuffer;" (.ref rb) ∧ Fld Z h o0 "com/example/headway/headway/engine/HashIndex" "keyColumns" "[I" (.ref kc) ∧ Fld Z h o0 "com/example/headway/headway/engine/HashIndex" "firstInBucket" "[I" (.ref fa) ∧ Fld Z h o0 "com/example/headway/headway/engine/HashIndex" "nextInBucket" "[I" (.ref na) ∧ Fld Z h o0 "com/example/headway/headway/engine/HashIndex" "hashes" "[I" (.ref ha) ∧ Fld Z h o0 "com/example/headway/headway/engine/HashIndex" "loadLimit" "I" (.int LL) ∧ Fld Z h o0 "com/example/headway/headway/engine/HashIndex" "indexed" "I" (.int mm) ∧ Arv Z h kc kk .int 0 [] (.int 0) ∧ Arv Z h fa kf .int F (fl mm nf) (.int 0) ∧ Arv Z h na kn .int L vs (.int 0) ∧ Arv Z h ha kh .int L (zr nl) (.int 0)
theorem pd_3 : parseMethodDescriptor "([II)V" = some ⟨[(.array .int), .int], none⟩ := by decide +kernel
theorem d8_0 : decode prog_57_method_1_code 0 = .ok (.aload_n 0, 1) := by decide +kernel
theorem d8_1 : decode prog_57_method_1_code 1 = .ok (.invokespecial 3, 3) := by decide +kernel
theorem d8_4 : decode prog_57_method_1_code 4 = .ok (.aload_n 0, 1) := by decide +kernel
theorem d8_5 : decode prog_57_method_1_code 5 = .ok (.bipush 16, 2) := by decide +kernel
theorem d8_7 : decode prog_57_method_1_code 7 = .ok (.newarray .int, 2) := by decide +kernel
theorem d8_9 : decode prog_57_method_1_code 9 = .ok (.putfield 9, 3) := by decide +kernel
theorem d8_12 : decode prog_57_method_1_code 12 = .ok (.aload_n 0, 1) := by decide +kernel
theorem d8_13 : decode prog_57_method_1_code 13 = .ok (.bipush 16, 2) := by decide +kernel
theorem d8_15 : decode prog_57_method_1_code 15 = .ok (.newarray .int, 2) := by decide +kernel
theorem d8_17 : decode prog_57_method_1_code 17 = .ok (.putfield 13, 3) := by decide +kernel
theorem d8_20 : decode prog_57_method_1_code 20 = .ok (.aload_n 0, 1) := by decide +kernel
theorem d8_21 : decode prog_57_method_1_code 21 = .ok (.bipush 16, 2) := by decide +kernel
theorem d8_23 : decode prog_57_method_1_code 23 = .ok (.newarray .int, 2) := by decide +kernel
theorem d8_25 : decode prog_57_method_1_code 25 = .ok (.putfield 16, 3) := by decide +kernel
theorem d8_28 : decode prog_57_method_1_code 28 = .ok (.aload_n 0, 1) := by decide +kernel
theorem d8_29 : decode prog_57_method_1_code 29 = .ok (.ldc2_w 19, 3) := by decide +kernel
theorem d8_32 : decode prog_57_method_1_code 32 = .ok (.aload_n 0, 1) := by decide +kernel
theorem d8_33 : decode prog_57_method_1_code 33 = .ok (.getfield 9, 3) := by decide +kernel
theorem d8_36 : decode prog_57_method_1_code 36 = .ok (.arraylength, 1) := by decide +kernel
theorem d8_37 : decode prog_57_method_1_code 37 = .ok (.i2d, 1) := by decide +kernel
theorem d8_38 : decode prog_57_method_1_code 38 = .ok (.dmul, 1) := by decide +kernel
theorem d8_39 : decode prog_57_method_1_code 39 = .ok (.d2i, 1) := by decide +kernel
theorem d8_40 : decode prog_57_method_1_code 40 = .ok (.putfield 21, 3) := by decide +kernel
theorem d8_43 : decode prog_57_method_1_code 43 = .ok (.aload_n 0, 1) := by decide +kernel
theorem d8_44 : decode prog_57_method_1_code 44 = .ok (.aload_n 1, 1) := by decide +kernel
theorem d8_45 : decode prog_57_method_1_code 45 = .ok (.putfield 25, 3) := by decide +kernel
theorem d8_48 : decode prog_57_method_1_code 48 = .ok (.aload_n 0, 1) := by decide +kernel
theorem d8_49 : decode prog_57_method_1_code 49 = .ok (.aload_n 2, 1) := by decide +kernel
theorem d8_50 : decode prog_57_method_1_code 50 = .ok (.invokeinterface 29 1, 5) := by decide +kernel
theorem d8_55 : decode prog_57_method_1_code 55 = .ok (.newarray .int, 2) := by decide +kernel
theorem d8_57 : decode prog_57_method_1_code 57 = .ok (.putfield 35, 3) := by decide +kernel
theorem d8_60 : decode prog_57_method_1_code 60 = .ok (.iconst 0, 1) := by decide +kernel
theorem d8_61 : decode prog_57_method_1_code 61 = .ok (.istore_n 3, 1) := by decide +kernel
theorem d8_62 : decode prog_57_method_1_code 62 = .ok (.iload_n 3, 1) := by decide +kernel
theorem d8_63 : decode prog_57_method_1_code 63 = .ok (.aload_n 0, 1) := by decide +kernel
theorem d8_64 : decode prog_57_method_1_code 64 = .ok (.getfield 35, 3) := by decide +kernel
theorem d8_67 : decode prog_57_method_1_code 67 = .ok (.arraylength, 1) := by decide +kernel
theorem d8_68 : decode prog_57_method_1_code 68 = .ok (.if_icmp .ge 28, 3) := by decide +kernel
theorem d8_96 : decode prog_57_method_1_code 96 = .ok (.aload_n 0, 1) := by decide +kernel
theorem d8_97 : decode prog_57_method_1_code 97 = .ok (.getfield 9, 3) := by decide +kernel
theorem d8_100 : decode prog_57_method_1_code 100 = .ok (.iconst (-1), 1) := by decide +kernel
theorem d8_101 : decode prog_57_method_1_code 101 = .ok (.invokestatic 47, 3) := by decide +kernel
theorem d8_104 : decode prog_57_method_1_code 104 = .ok (.return_, 1) := by decide +kernel
theorem pn_5 : plainName "com/example/headway/headway/engine/HashIndex" = true := by first | (simp [plainName, overriddenIn]; done) | decide +kernel
theorem ef_8 (m : MethodId) (x0 x1 x2 : Addr) : entryFrame m #[(.ref x0), (.ref x1), (.ref x2)] 4 = mkF m 0 #[.val (.ref x0), .val (.ref x1), .val (.ref x2), .unset] [] := by first | (simp [entryFrame, mkF, argsToLocals, Value.category]; done) | rfl
def Q8 (Z : State) (o0 o1 o2 : Addr) (h0 : Heap) (n0 : Nat) (v : Option Value) (h : Heap) (L : List Loc) : Prop := ∃ (kc fa na ha : Addr) (kk kf kn kh : ClassId), v = none ∧ Fr n0 L ∧ Keep h0 h [o0] ∧ IX Z h o0 o1 kc fa na ha kk kf kn kh 16 16 0 12 15 16 (zr 16) ∧ Fld Z h o0 "com/example/headway/headway/engine/HashIndex" "largerFirstInBucket" "[I" .null ∧ Fld Z h o0 "com/example/headway/headway/engine/HashIndex" "largerNextInBucket" "[I" .null ∧ Fld Z h o0 "com/example/headway/headway/engine/HashIndex" "relinked" "I" (.int 0) ∧ n0 ≤ kc ∧ h0.size ≤ kc ∧ n0 ≤ fa ∧ h0.size ≤ fa ∧ n0 ≤ na ∧ h0.size ≤ na ∧ n0 ≤ ha ∧ h0.size ≤ ha ∧ kc ≠ fa ∧ kc ≠ na ∧ kc ≠ ha ∧ fa ≠ na ∧ fa ≠ ha ∧ na ≠ ha
set_option maxRecDepth 65536 in
set_option maxHeartbeats 40000000 in
theorem rm8 (l : Launch) (Z : State) (a0 : Array Value) (hw : ∀ d ∈ tables_1, d.before a0 Z = true) (ws : List Jvm.Cond) (o0 o1 o2 : Addr) (h0 : Heap) (n0 : Nat) (Z0 : n0 ≤ h0.size) (E : Exa Z h0 o0 "com/example/headway/headway/engine/HashIndex") (F_firstInBucket : Fld Z h0 o0 "com/example/headway/headway/engine/HashIndex" "firstInBucket" "[I" .null) (F_nextInBucket : Fld Z h0 o0 "com/example/headway/headway/engine/HashIndex" "nextInBucket" "[I" .null) (F_hashes : Fld Z h0 o0 "com/example/headway/headway/engine/HashIndex" "hashes" "[I" .null) (F_loadLimit : Fld Z h0 o0 "com/example/headway/headway/engine/HashIndex" "loadLimit" "I" (.int 0)) (F_rows : Fld Z h0 o0 "com/example/headway/headway/engine/HashIndex" "rows" "Lcom/example/headway/headway/engine/RowBuffer;" .null) (F_keyColumns : Fld Z h0 o0 "com/example/headway/headway/engine/HashIndex" "keyColumns" "[I" .null) (F_indexed : Fld Z h0 o0 "com/example/headway/headway/engine/HashIndex" "indexed" "I" (.int 0)) (F_largerFirstInBucket : Fld Z h0 o0 "com/example/headway/headway/engine/HashIndex" "largerFirstInBucket" "[I" .null) (F_largerNextInBucket : Fld Z h0 o0 "com/example/headway/headway/engine/HashIndex" "largerNextInBucket" "[I" .null) (F_relinked : Fld Z h0 o0 "com/example/headway/headway/engine/HashIndex" "relinked" "I" (.int 0)) (g_o0 : n0 ≤ o0) (Eo2 : Exa Z h0 o2 "java/util/ArrayList") (Fz : Fld Z h0 o2 "java/util/ArrayList" "size" "I" (.int 0)) (n20 : o2 ≠ o0) :
    MetFree l mn_8 (head1 (Jvm.Cond.code mn_8 prog_57_method_1_code 4 none :: ws) (⟨1, 4, 48, 15⟩ : Room)) (fun a U => a = #[(.ref o0), (.ref o1), (.ref o2)] ∧ Z.Warmed39 U.vm ∧ U.heap = h0) (fun _ _ _ _ _ => True) (fun _ U o U' => ∃ v L, o = .returned v ∧ Q8 Z o0 o1 o2 h0 n0 v U'.heap L ∧ FrameEnd U o U' L (⟨1, 4, 48, 15⟩ : Room).cells (⟨1, 4, 48, 15⟩ : Room).slots) := by
  refine MetFree.of_bodySF (plainFor_of_name pn_5) hisR ?_
  intro p e s m args below meth c s₁ Bd hml0 hP hK
  obtain ⟨rfl, hZ, hh⟩ := hP
  have hx := Bd.exec
  have hby := Bd.bytes
  have hml : c.maxLocals = 4 := hml0
  have hown : s.vm.findClass "com/example/headway/headway/engine/HashIndex" = some m.cls := findClass_of_methodNamed Bd.named
  have hnm := (name_of_methodNamed Bd.named Bd.method).1
  have X0 : Stand p l e (⟨1, 4, 48, 15⟩ : Room) s m #[(.ref o0), (.ref o1), (.ref o2)] below meth c s₁ [] 0 0 := Stand.of_body Bd
  have e0 : s₁.heap = h0 := by rw [← hh, Bd.state]; rfl
  have N0 := Fr.nil n0
  have hret := Bd.returns
  have hlk := BodyLoose.notSynchronized Bd
  show own_Out p e below (fun o U' => ∃ v L, o = .returned v ∧ Q8 Z o0 o1 o2 h0 n0 v U'.heap L ∧ FrameEnd s o U' L (⟨1, 4, 48, 15⟩ : Room).cells (⟨1, 4, 48, 15⟩ : Room).slots) (s₁.setTop (entryFrame m #[(.ref o0), (.ref o1), (.ref o2)] 4))
  refine own_of (fun t k => castTop (ef_8 m o0 o1 o2) k) ?_
  show own_Out p e below _ (s₁.setTop (mkF m 0 #[rv o0, rv o1, rv o2, .unset] []))
  refine o_aloadN X0 hx hby d8_0 rfl rfl (q := 1) rfl ?_
  obtain ⟨T1, X1, e1, st1⟩ := initO X0 hx hZ hown (w_ hw 67 rfl) (w_ hw 23 rfl) (w_ hw 24 rfl) e0 (g := (mkF m 1 #[rv o0, rv o1, rv o2, .unset] [.ref o0])) rfl (by rw [hml]; rfl) rfl (hb hby d8_1) (by decide) (W := 0) (by show 2 * 0 + _ ≤ _; exact Nat.le_of_eq rfl) (by decide)
  refine own_of st1 ?_
  show own_Out p e below _ (T1.setTop (mkF m 4 #[rv o0, rv o1, rv o2, .unset] []))
  refine o_aloadN X1 hx hby d8_4 rfl rfl (q := 5) rfl ?_
  refine o_bipush X1 hx hby d8_5 (z := 16) rfl (q := 7) rfl ?_
  obtain ⟨T2, h2, k2, X2, e2, E2, A2, st2⟩ := newP X1 hx hZ (w_ hw 0 rfl) e1 (g := (mkF m 7 #[rv o0, rv o1, rv o2, .unset] [.int 16, .ref o0])) rfl (hb hby d8_7) rfl (by decide) (cap := 16) (by decide) (by decide) (by decide) (by decide)
  obtain ⟨b2, g2⟩ : ∃ z, z = h0.size := ⟨_, rfl⟩
  rw [← g2] at A2 st2
  have g_b2 : n0 ≤ b2 := Nat.le_trans Z0 (Nat.le_of_eq g2.symm)
  have sz_b2 : h0.size ≤ b2 := Nat.le_trans (Nat.le_refl h0.size) (Nat.le_of_eq g2.symm)
  have V_b2 : Arv Z h2 b2 k2 .int 16 [(.int 0), (.int 0), (.int 0), (.int 0), (.int 0), (.int 0), (.int 0), (.int 0), (.int 0), (.int 0), (.int 0), (.int 0), (.int 0), (.int 0), (.int 0), (.int 0)] (.int 0) := (Arv.new A2 (by decide)).pad (pad_rep [] (.int 0) 16)
  refine own_of st2 ?_
  show own_Out p e below _ (T2.setTop (mkF m 9 #[rv o0, rv o1, rv o2, .unset] [.ref b2, .ref o0]))
  have qz4 := (F_firstInBucket.ext E2)
  have qz5 := (E.ext E2)
  obtain ⟨T3, h3, X3, e3, W3, st3⟩ := putF X2 hx hZ hown (host := "") (Or.inl (w_ hw 68 rfl)) Via.refl e2 qz4 qz5 (Or.inl (w_ hw 69 rfl)) (w_ hw 62 rfl) (ty := (.array .int)) (by decide) rfl rfl (g := (mkF m 9 #[rv o0, rv o1, rv o2, .unset] [.ref b2, .ref o0])) rfl rfl (hb hby d8_9)
  have qz6 := (F_firstInBucket.ext E2)
  have Fw3 := qz6.same W3
  refine own_of st3 ?_
  show own_Out p e below _ (T3.setTop (mkF m 12 #[rv o0, rv o1, rv o2, .unset] []))
  refine o_aloadN X3 hx hby d8_12 rfl rfl (q := 13) rfl ?_
  refine o_bipush X3 hx hby d8_13 (z := 16) rfl (q := 15) rfl ?_
  obtain ⟨T7, h7, k7, X7, e7, E7, A7, st7⟩ := newP X3 hx hZ (w_ hw 0 rfl) e3 (g := (mkF m 15 #[rv o0, rv o1, rv o2, .unset] [.int 16, .ref o0])) rfl (hb hby d8_15) rfl (by decide) (cap := 16) (by decide) (by decide) (by decide) (by decide)
  obtain ⟨b7, g7⟩ : ∃ z, z = h3.size := ⟨_, rfl⟩
  rw [← g7] at A7 st7
  have qz8 := (Nat.le_trans (Nat.le_trans Z0 E2.1) (Keep.of_wr W3).1)
  have g_b7 : n0 ≤ b7 := Nat.le_trans qz8 (Nat.le_of_eq g7.symm)
  have qz9 := (Nat.le_trans (Nat.le_trans (Nat.le_refl h0.size) E2.1) (Keep.of_wr W3).1)
  have sz_b7 : h0.size ≤ b7 := Nat.le_trans qz9 (Nat.le_of_eq g7.symm)
  have V_b7 : Arv Z h7 b7 k7 .int 16 [(.int 0), (.int 0), (.int 0), (.int 0), (.int 0), (.int 0), (.int 0), (.int 0), (.int 0), (.int 0), (.int 0), (.int 0), (.int 0), (.int 0), (.int 0), (.int 0)] (.int 0) := (Arv.new A7 (by decide)).pad (pad_rep [] (.int 0) 16)
  refine own_of st7 ?_
  show own_Out p e below _ (T7.setTop (mkF m 17 #[rv o0, rv o1, rv o2, .unset] [.ref b7, .ref o0]))
  have qz11 := (((F_nextInBucket.ext E2).other W3 (Or.inr (slot_ne (Or.inl (w_ hw 71 rfl)) (Or.inl (w_ hw 69 rfl)) (by decide) (t := (.array .int)) (t' := (.array .int)) (by decide) (by decide)))).ext E7)
  have qz12 := ((qz5.wr W3).ext E7)
  obtain ⟨T10, h10, X10, e10, W10, st10⟩ := putF X7 hx hZ hown (host := "") (Or.inl (w_ hw 70 rfl)) Via.refl e7 qz11 qz12 (Or.inl (w_ hw 71 rfl)) (w_ hw 62 rfl) (ty := (.array .int)) (by decide) rfl rfl (g := (mkF m 17 #[rv o0, rv o1, rv o2, .unset] [.ref b7, .ref o0])) rfl rfl (hb hby d8_17)
  have qz13 := (((F_nextInBucket.ext E2).other W3 (Or.inr (slot_ne (Or.inl (w_ hw 71 rfl)) (Or.inl (w_ hw 69 rfl)) (by decide) (t := (.array .int)) (t' := (.array .int)) (by decide) (by decide)))).ext E7)
  have Fw10 := qz13.same W10
  refine own_of st10 ?_
  show own_Out p e below _ (T10.setTop (mkF m 20 #[rv o0, rv o1, rv o2, .unset] []))
  refine o_aloadN X10 hx hby d8_20 rfl rfl (q := 21) rfl ?_
  refine o_bipush X10 hx hby d8_21 (z := 16) rfl (q := 23) rfl ?_
  obtain ⟨T14, h14, k14, X14, e14, E14, A14, st14⟩ := newP X10 hx hZ (w_ hw 0 rfl) e10 (g := (mkF m 23 #[rv o0, rv o1, rv o2, .unset] [.int 16, .ref o0])) rfl (hb hby d8_23) rfl (by decide) (cap := 16) (by decide) (by decide) (by decide) (by decide)
  obtain ⟨b14, g14⟩ : ∃ z, z = h10.size := ⟨_, rfl⟩
  rw [← g14] at A14 st14
  have qz15 := (Nat.le_trans (Nat.le_trans qz8 E7.1) (Keep.of_wr W10).1)
  have g_b14 : n0 ≤ b14 := Nat.le_trans qz15 (Nat.le_of_eq g14.symm)
  have qz16 := (Nat.le_trans (Nat.le_trans qz9 E7.1) (Keep.of_wr W10).1)
  have sz_b14 : h0.size ≤ b14 := Nat.le_trans qz16 (Nat.le_of_eq g14.symm)
  have V_b14 : Arv Z h14 b14 k14 .int 16 [(.int 0), (.int 0), (.int 0), (.int 0), (.int 0), (.int 0), (.int 0), (.int 0), (.int 0), (.int 0), (.int 0), (.int 0), (.int 0), (.int 0), (.int 0), (.int 0)] (.int 0) := (Arv.new A14 (by decide)).pad (pad_rep [] (.int 0) 16)
  refine own_of st14 ?_
  show own_Out p e below _ (T14.setTop (mkF m 25 #[rv o0, rv o1, rv o2, .unset] [.ref b14, .ref o0]))
  have qz18 := (((((F_hashes.ext E2).other W3 (Or.inr (slot_ne (Or.inl (w_ hw 73 rfl)) (Or.inl (w_ hw 69 rfl)) (by decide) (t := (.array .int)) (t' := (.array .int)) (by decide) (by decide)))).ext E7).other W10 (Or.inr (slot_ne (Or.inl (w_ hw 73 rfl)) (Or.inl (w_ hw 71 rfl)) (by decide) (t := (.array .int)) (t' := (.array .int)) (by decide) (by decide)))).ext E14)
  have qz19 := ((qz12.wr W10).ext E14)
  obtain ⟨T17, h17, X17, e17, W17, st17⟩ := putF X14 hx hZ hown (host := "") (Or.inl (w_ hw 72 rfl)) Via.refl e14 qz18 qz19 (Or.inl (w_ hw 73 rfl)) (w_ hw 62 rfl) (ty := (.array .int)) (by decide) rfl rfl (g := (mkF m 25 #[rv o0, rv o1, rv o2, .unset] [.ref b14, .ref o0])) rfl rfl (hb hby d8_25)
  have qz20 := (((((F_hashes.ext E2).other W3 (Or.inr (slot_ne (Or.inl (w_ hw 73 rfl)) (Or.inl (w_ hw 69 rfl)) (by decide) (t := (.array .int)) (t' := (.array .int)) (by decide) (by decide)))).ext E7).other W10 (Or.inr (slot_ne (Or.inl (w_ hw 73 rfl)) (Or.inl (w_ hw 71 rfl)) (by decide) (t := (.array .int)) (t' := (.array .int)) (by decide) (by decide)))).ext E14)
  have Fw17 := qz20.same W17
  refine own_of st17 ?_
  show own_Out p e below _ (T17.setTop (mkF m 28 #[rv o0, rv o1, rv o2, .unset] []))
  refine o_aloadN X17 hx hby d8_28 rfl rfl (q := 29) rfl ?_
  refine own_of (X17.ldc2DoubleC hx hown (mvT hZ (w_ hw 74 rfl)) (g := (mkF m 29 #[rv o0, rv o1, rv o2, .unset] [.ref o0])) rfl (hb hby d8_29)) ?_
  show own_Out p e below _ (T17.setTop (mkF m 32 #[rv o0, rv o1, rv o2, .unset] [.double (4604930618986332160 : UInt64), .ref o0]))
  refine o_aloadN X17 hx hby d8_32 rfl rfl (q := 33) rfl ?_
  have qz22 := ((((Fw3.ext E7).other W10 (Or.inr (slot_ne (Or.inl (w_ hw 69 rfl)) (Or.inl (w_ hw 71 rfl)) (by decide) (t := (.array .int)) (t' := (.array .int)) (by decide) (by decide)))).ext E14).other W17 (Or.inr (slot_ne (Or.inl (w_ hw 69 rfl)) (Or.inl (w_ hw 73 rfl)) (by decide) (t := (.array .int)) (t' := (.array .int)) (by decide) (by decide))))
  refine o_getF X17 hx hZ hown hby (w_ hw 68 rfl) Via.refl e17 qz22 d8_33 (q := 36) rfl fun T21 X21 e21 => ?_
  have ne_o0_b2 : o0 ≠ b2 := Nat.ne_of_lt (Nat.lt_of_lt_of_le E.lt sz_b2)
  have qz23 := (((((V_b2.other W3 (Ne.symm ne_o0_b2)).ext E7).other W10 (Ne.symm ne_o0_b2)).ext E14).other W17 (Ne.symm ne_o0_b2))
  refine o_lenV X21 hx hby hZ e21 qz23 d8_36 (q := 37) rfl ?_
  refine own_of (fun _ k => XS.i2dS X21.here hx rfl (v := (4625196817309499392 : UInt64)) (hb hby d8_37) rfl (by decide +kernel) k) ?_
  show own_Out p e below _ (T21.setTop (mkF m 38 #[rv o0, rv o1, rv o2, .unset] [.double (4625196817309499392 : UInt64), .double (4604930618986332160 : UInt64), .ref o0]))
  refine own_of (fun _ k => XS.dmulS X21.here hx rfl (v := (4622945017495814144 : UInt64)) (hb hby d8_38) rfl (Jvm.Free.Fl.noNaN64_no.mpr (by decide +kernel)) (by decide +kernel) k) ?_
  show own_Out p e below _ (T21.setTop (mkF m 39 #[rv o0, rv o1, rv o2, .unset] [.double (4622945017495814144 : UInt64), .ref o0]))
  refine own_of (fun _ k => XS.d2iS X21.here hx rfl (v := (12 : Int32)) (hb hby d8_39) rfl (by decide +kernel) k) ?_
  show own_Out p e below _ (T21.setTop (mkF m 40 #[rv o0, rv o1, rv o2, .unset] [.int 12, .ref o0]))
  have qz25 := ((((((F_loadLimit.ext E2).other W3 (Or.inr (slot_ne (Or.inl (w_ hw 76 rfl)) (Or.inl (w_ hw 69 rfl)) (by decide) (t := .int) (t' := (.array .int)) (by decide) (by decide)))).ext E7).other W10 (Or.inr (slot_ne (Or.inl (w_ hw 76 rfl)) (Or.inl (w_ hw 71 rfl)) (by decide) (t := .int) (t' := (.array .int)) (by decide) (by decide)))).ext E14).other W17 (Or.inr (slot_ne (Or.inl (w_ hw 76 rfl)) (Or.inl (w_ hw 73 rfl)) (by decide) (t := .int) (t' := (.array .int)) (by decide) (by decide))))
  have qz26 := (qz19.wr W17)
  obtain ⟨T24, h24, X24, e24, W24, st24⟩ := putF X21 hx hZ hown (host := "") (Or.inl (w_ hw 75 rfl)) Via.refl e21 qz25 qz26 (Or.inl (w_ hw 76 rfl)) (w_ hw 62 rfl) (ty := .int) (by decide) rfl rfl (g := (mkF m 40 #[rv o0, rv o1, rv o2, .unset] [.int 12, .ref o0])) rfl rfl (hb hby d8_40)
  have qz27 := ((((((F_loadLimit.ext E2).other W3 (Or.inr (slot_ne (Or.inl (w_ hw 76 rfl)) (Or.inl (w_ hw 69 rfl)) (by decide) (t := .int) (t' := (.array .int)) (by decide) (by decide)))).ext E7).other W10 (Or.inr (slot_ne (Or.inl (w_ hw 76 rfl)) (Or.inl (w_ hw 71 rfl)) (by decide) (t := .int) (t' := (.array .int)) (by decide) (by decide)))).ext E14).other W17 (Or.inr (slot_ne (Or.inl (w_ hw 76 rfl)) (Or.inl (w_ hw 73 rfl)) (by decide) (t := .int) (t' := (.array .int)) (by decide) (by decide))))
  have Fw24 := qz27.same W24
  refine own_of st24 ?_
  show own_Out p e below _ (T24.setTop (mkF m 43 #[rv o0, rv o1, rv o2, .unset] []))
  refine o_aloadN X24 hx hby d8_43 rfl rfl (q := 44) rfl ?_
  refine o_aloadN X24 hx hby d8_44 rfl rfl (q := 45) rfl ?_
  have qz29 := (((((((F_rows.ext E2).other W3 (Or.inr (slot_ne (Or.inr (w_ hw 78 rfl)) (Or.inl (w_ hw 69 rfl)) (by decide) (t := (.object "com/example/headway/headway/engine/RowBuffer")) (t' := (.array .int)) (by decide) (by decide)))).ext E7).other W10 (Or.inr (slot_ne (Or.inr (w_ hw 78 rfl)) (Or.inl (w_ hw 71 rfl)) (by decide) (t := (.object "com/example/headway/headway/engine/RowBuffer")) (t' := (.array .int)) (by decide) (by decide)))).ext E14).other W17 (Or.inr (slot_ne (Or.inr (w_ hw 78 rfl)) (Or.inl (w_ hw 73 rfl)) (by decide) (t := (.object "com/example/headway/headway/engine/RowBuffer")) (t' := (.array .int)) (by decide) (by decide)))).other W24 (Or.inr (slot_ne (Or.inr (w_ hw 78 rfl)) (Or.inl (w_ hw 76 rfl)) (by decide) (t := (.object "com/example/headway/headway/engine/RowBuffer")) (t' := .int) (by decide) (by decide))))
  have qz30 := (qz26.wr W24)
  obtain ⟨T28, h28, X28, e28, W28, st28⟩ := putF X24 hx hZ hown (host := "") (Or.inl (w_ hw 77 rfl)) Via.refl e24 qz29 qz30 (Or.inr ⟨(w_ hw 78 rfl), rfl, hnm⟩) (w_ hw 62 rfl) (ty := (.object "com/example/headway/headway/engine/RowBuffer")) (by decide) rfl rfl (g := (mkF m 45 #[rv o0, rv o1, rv o2, .unset] [.ref o1, .ref o0])) rfl rfl (hb hby d8_45)
  have qz31 := (((((((F_rows.ext E2).other W3 (Or.inr (slot_ne (Or.inr (w_ hw 78 rfl)) (Or.inl (w_ hw 69 rfl)) (by decide) (t := (.object "com/example/headway/headway/engine/RowBuffer")) (t' := (.array .int)) (by decide) (by decide)))).ext E7).other W10 (Or.inr (slot_ne (Or.inr (w_ hw 78 rfl)) (Or.inl (w_ hw 71 rfl)) (by decide) (t := (.object "com/example/headway/headway/engine/RowBuffer")) (t' := (.array .int)) (by decide) (by decide)))).ext E14).other W17 (Or.inr (slot_ne (Or.inr (w_ hw 78 rfl)) (Or.inl (w_ hw 73 rfl)) (by decide) (t := (.object "com/example/headway/headway/engine/RowBuffer")) (t' := (.array .int)) (by decide) (by decide)))).other W24 (Or.inr (slot_ne (Or.inr (w_ hw 78 rfl)) (Or.inl (w_ hw 76 rfl)) (by decide) (t := (.object "com/example/headway/headway/engine/RowBuffer")) (t' := .int) (by decide) (by decide))))
  have Fw28 := qz31.same W28
  refine own_of st28 ?_
  show own_Out p e below _ (T28.setTop (mkF m 48 #[rv o0, rv o1, rv o2, .unset] []))
  refine o_aloadN X28 hx hby d8_48 rfl rfl (q := 49) rfl ?_
  refine o_aloadN X28 hx hby d8_49 rfl rfl (q := 50) rfl ?_
  have qz33 := ((((((((Fz.ext E2).other W3 (Or.inl n20)).ext E7).other W10 (Or.inl n20)).ext E14).other W17 (Or.inl n20)).other W24 (Or.inl n20)).other W28 (Or.inl n20))
  have qz34 := (Nat.le_trans (Nat.le_trans (Nat.le_trans (Nat.le_trans qz15 E14.1) (Keep.of_wr W17).1) (Keep.of_wr W24).1) (Keep.of_wr W28).1)
  have qz35 := ((((((((Eo2.ext E2).wr W3).ext E7).wr W10).ext E14).wr W17).wr W24).wr W28)
  obtain ⟨cq32, kq32, q32a, q32b, q32c⟩ := isOf hZ e28 qz35
  obtain ⟨_, _, ⟨T32, L32, k32, n32⟩, -, X32, ⟨Lc32, hQ32, l32, y32, z32⟩, st32⟩ := X28.interfaceBack hx (xi := mn_5) (y := mn_3) hown (mvT hZ (w_ hw 79 rfl)) (mvT hZ (w_ hw 39 rfl)) (mvT hZ (w_ hw 40 rfl)) (mvT hZ (w_ hw 41 rfl)) (mvT hZ (w_ hw 42 rfl)) (mvT hZ (w_ hw 43 rfl)) (mvT hZ (w_ hw 44 rfl)) (mvT hZ (w_ hw 45 rfl)) (by decide) (backOf (W := 1) (rm7 l Z a0 hw [] o2 h28 n0 qz34 qz33) hZ (w_ hw 46 rfl) (w_ hw 6 rfl) (by decide) (by decide)) q32a q32b q32c (g := (mkF m 50 #[rv o0, rv o1, rv o2, .unset] [.ref o2, .ref o0])) rfl (by rw [hml]; rfl) (Steps.refl _) (argsL := []) (rest := [(.ref o0)]) (lenOf pd_1 rfl) rfl (by show 2 * 0 + _ ≤ _; exact Nat.le_of_eq rfl) (hb hby d8_50) (fun _ _ => ⟨rfl, e28, (by decide : 3 + 0 ≤ _), (by decide : 48 + 0 ≤ _)⟩)
  dsimp only [Pt.U, Pt.locs, Pt.cells, Pt.slots] at X32 l32 y32 z32 st32 hQ32
  subst l32 y32 z32
  obtain ⟨rfl, N32q, hh32⟩ := hQ32
  have N32 := Fr.app (Fr.snoc X28 (Fr.snoc X24 (Fr.snoc X17 (Fr.snoc X10 (Fr.snoc X3 N0 g_o0) g_o0) g_o0) g_o0) g_o0) N32q
  refine own_of (fun _ k => st32.trans k) ?_
  show own_Out p e below _ (T32.setTop (mkF m 55 #[rv o0, rv o1, rv o2, .unset] [.int 0, .ref o0]))
  obtain ⟨T36, h36, k36, X36, e36, E36, A36, st36⟩ := newP X32 hx hZ (w_ hw 0 rfl) hh32 (g := (mkF m 55 #[rv o0, rv o1, rv o2, .unset] [.int 0, .ref o0])) rfl (hb hby d8_55) rfl (by decide) (cap := 0) (by decide) (by decide) (by decide) (by decide)
  obtain ⟨b36, g36⟩ : ∃ z, z = h28.size := ⟨_, rfl⟩
  rw [← g36] at A36 st36
  have g_b36 : n0 ≤ b36 := Nat.le_trans qz34 (Nat.le_of_eq g36.symm)
  have qz37 := (Nat.le_trans (Nat.le_trans (Nat.le_trans (Nat.le_trans qz16 E14.1) (Keep.of_wr W17).1) (Keep.of_wr W24).1) (Keep.of_wr W28).1)
  have sz_b36 : h0.size ≤ b36 := Nat.le_trans qz37 (Nat.le_of_eq g36.symm)
  have V_b36 : Arv Z h36 b36 k36 .int 0 [] (.int 0) := (Arv.new A36 (by decide)).pad (pad_rep [] (.int 0) 0)
  refine own_of st36 ?_
  show own_Out p e below _ (T36.setTop (mkF m 57 #[rv o0, rv o1, rv o2, .unset] [.ref b36, .ref o0]))
  have qz39 := (((((((((F_keyColumns.ext E2).other W3 (Or.inr (slot_ne (Or.inr (w_ hw 81 rfl)) (Or.inl (w_ hw 69 rfl)) (by decide) (t := (.array .int)) (t' := (.array .int)) (by decide) (by decide)))).ext E7).other W10 (Or.inr (slot_ne (Or.inr (w_ hw 81 rfl)) (Or.inl (w_ hw 71 rfl)) (by decide) (t := (.array .int)) (t' := (.array .int)) (by decide) (by decide)))).ext E14).other W17 (Or.inr (slot_ne (Or.inr (w_ hw 81 rfl)) (Or.inl (w_ hw 73 rfl)) (by decide) (t := (.array .int)) (t' := (.array .int)) (by decide) (by decide)))).other W24 (Or.inr (slot_ne (Or.inr (w_ hw 81 rfl)) (Or.inl (w_ hw 76 rfl)) (by decide) (t := (.array .int)) (t' := .int) (by decide) (by decide)))).other W28 (Or.inr (slot_ne (Or.inr (w_ hw 81 rfl)) (Or.inr (w_ hw 78 rfl)) (by decide) (t := (.array .int)) (t' := (.object "com/example/headway/headway/engine/RowBuffer")) (by decide) (by decide)))).ext E36)
  have qz40 := ((qz30.wr W28).ext E36)
  obtain ⟨T38, h38, X38, e38, W38, st38⟩ := putF X36 hx hZ hown (host := "") (Or.inl (w_ hw 80 rfl)) Via.refl e36 qz39 qz40 (Or.inr ⟨(w_ hw 81 rfl), rfl, hnm⟩) (w_ hw 62 rfl) (ty := (.array .int)) (by decide) rfl rfl (g := (mkF m 57 #[rv o0, rv o1, rv o2, .unset] [.ref b36, .ref o0])) rfl rfl (hb hby d8_57)
  have qz41 := (((((((((F_keyColumns.ext E2).other W3 (Or.inr (slot_ne (Or.inr (w_ hw 81 rfl)) (Or.inl (w_ hw 69 rfl)) (by decide) (t := (.array .int)) (t' := (.array .int)) (by decide) (by decide)))).ext E7).other W10 (Or.inr (slot_ne (Or.inr (w_ hw 81 rfl)) (Or.inl (w_ hw 71 rfl)) (by decide) (t := (.array .int)) (t' := (.array .int)) (by decide) (by decide)))).ext E14).other W17 (Or.inr (slot_ne (Or.inr (w_ hw 81 rfl)) (Or.inl (w_ hw 73 rfl)) (by decide) (t := (.array .int)) (t' := (.array .int)) (by decide) (by decide)))).other W24 (Or.inr (slot_ne (Or.inr (w_ hw 81 rfl)) (Or.inl (w_ hw 76 rfl)) (by decide) (t := (.array .int)) (t' := .int) (by decide) (by decide)))).other W28 (Or.inr (slot_ne (Or.inr (w_ hw 81 rfl)) (Or.inr (w_ hw 78 rfl)) (by decide) (t := (.array .int)) (t' := (.object "com/example/headway/headway/engine/RowBuffer")) (by decide) (by decide)))).ext E36)
  have Fw38 := qz41.same W38
  refine own_of st38 ?_
  show own_Out p e below _ (T38.setTop (mkF m 60 #[rv o0, rv o1, rv o2, .unset] []))
  refine o_iconst X38 hx hby d8_60 (z := 0) rfl (q := 61) rfl ?_
  refine o_istoreN X38 hx hby d8_61 (l' := #[rv o0, rv o1, rv o2, iv 0]) rfl (q := 62) rfl ?_
  refine o_iloadN X38 hx hby d8_62 rfl (q := 63) rfl ?_
  refine o_aloadN X38 hx hby d8_63 rfl rfl (q := 64) rfl ?_
  refine o_getF X38 hx hZ hown hby (w_ hw 80 rfl) Via.refl e38 Fw38 d8_64 (q := 67) rfl fun T42 X42 e42 => ?_
  have ne_o0_b36 : o0 ≠ b36 := Nat.ne_of_lt (Nat.lt_of_lt_of_le E.lt sz_b36)
  have qz43 := (V_b36.other W38 (Ne.symm ne_o0_b36))
  refine o_lenV X42 hx hby hZ e42 qz43 d8_67 (q := 68) rfl ?_
  refine o_icY X42 hx hby d8_68 (flt (by decide : ¬ ((0 : Int32) < (0 : Int32)))).2.1 (by decide) (q := 96) (by decide) ?_
  refine o_aloadN X42 hx hby d8_96 rfl rfl (q := 97) rfl ?_
  have qz45 := ((((qz22.other W24 (Or.inr (slot_ne (Or.inl (w_ hw 69 rfl)) (Or.inl (w_ hw 76 rfl)) (by decide) (t := (.array .int)) (t' := .int) (by decide) (by decide)))).other W28 (Or.inr (slot_ne (Or.inl (w_ hw 69 rfl)) (Or.inr (w_ hw 78 rfl)) (by decide) (t := (.array .int)) (t' := (.object "com/example/headway/headway/engine/RowBuffer")) (by decide) (by decide)))).ext E36).other W38 (Or.inr (slot_ne (Or.inl (w_ hw 69 rfl)) (Or.inr (w_ hw 81 rfl)) (by decide) (t := (.array .int)) (t' := (.array .int)) (by decide) (by decide))))
  refine o_getF X42 hx hZ hown hby (w_ hw 68 rfl) Via.refl e42 qz45 d8_97 (q := 100) rfl fun T44 X44 e44 => ?_
  refine o_iconst X44 hx hby d8_100 (z := (-1)) rfl (q := 101) rfl ?_
  have qz47 := ((((qz23.other W24 (Ne.symm ne_o0_b2)).other W28 (Ne.symm ne_o0_b2)).ext E36).other W38 (Ne.symm ne_o0_b2))
  have qz48 := (Nat.le_trans (Nat.le_trans qz34 E36.1) (Keep.of_wr W38).1)
  obtain ⟨_, _, ⟨T46, L46, k46, n46⟩, -, X46, ⟨Lc46, hQ46, l46, y46, z46⟩, st46⟩ := Jvm.LawKit.callS X44 hx (y := mn_7) hown (mvT hZ (w_ hw 82 rfl)) (mvT hZ (w_ hw 83 rfl)) (mvT hZ (w_ hw 84 rfl)) (mvT hZ (w_ hw 85 rfl)) (by decide) (backOf (W := 0) (rm9n16 l Z a0 hw [] b2 k2 h38 n0 qz48 qz47 g_b2) hZ (w_ hw 85 rfl) (w_ hw 84 rfl) (by decide) (by decide)) (g := (mkF m 101 #[rv o0, rv o1, rv o2, iv 0] [.int (-1), .ref b2])) rfl (by rw [hml]; rfl) (argsL := [(.ref b2), (.int (-1 : Int32))]) (rest := []) (lenOf pd_3 rfl) rfl (by show 2 * 0 + _ ≤ _; exact Nat.le_of_eq rfl) (hb hby d8_101) (fun _ _ => ⟨rfl, e44, (by decide : 4 + 0 ≤ _), (by decide : 48 + 0 ≤ _)⟩)
  dsimp only [Pt.U, Pt.locs, Pt.cells, Pt.slots] at X46 l46 y46 z46 st46 hQ46
  subst l46 y46 z46
  obtain ⟨rfl, N46q, K46, V46⟩ := hQ46
  have N46 := Fr.app (Fr.snoc X38 N32 g_o0) N46q
  refine own_of st46 ?_
  show own_Out p e below _ (T46.setTop (mkF m 104 #[rv o0, rv o1, rv o2, iv 0] []))
  have qz49 := ((qz40.wr W38).keep K46)
  have qz50 := (((Fw28.ext E36).other W38 (Or.inr (slot_ne (Or.inr (w_ hw 78 rfl)) (Or.inr (w_ hw 81 rfl)) (by decide) (t := (.object "com/example/headway/headway/engine/RowBuffer")) (t' := (.array .int)) (by decide) (by decide)))).keep K46 (ninS ne_o0_b2 nin0))
  have qz51 := (Fw38.keep K46 (ninS ne_o0_b2 nin0))
  have qz52 := (qz45.keep K46 (ninS ne_o0_b2 nin0))
  have qz53 := (((((((Fw10.ext E14).other W17 (Or.inr (slot_ne (Or.inl (w_ hw 71 rfl)) (Or.inl (w_ hw 73 rfl)) (by decide) (t := (.array .int)) (t' := (.array .int)) (by decide) (by decide)))).other W24 (Or.inr (slot_ne (Or.inl (w_ hw 71 rfl)) (Or.inl (w_ hw 76 rfl)) (by decide) (t := (.array .int)) (t' := .int) (by decide) (by decide)))).other W28 (Or.inr (slot_ne (Or.inl (w_ hw 71 rfl)) (Or.inr (w_ hw 78 rfl)) (by decide) (t := (.array .int)) (t' := (.object "com/example/headway/headway/engine/RowBuffer")) (by decide) (by decide)))).ext E36).other W38 (Or.inr (slot_ne (Or.inl (w_ hw 71 rfl)) (Or.inr (w_ hw 81 rfl)) (by decide) (t := (.array .int)) (t' := (.array .int)) (by decide) (by decide)))).keep K46 (ninS ne_o0_b2 nin0))
  have qz54 := (((((Fw17.other W24 (Or.inr (slot_ne (Or.inl (w_ hw 73 rfl)) (Or.inl (w_ hw 76 rfl)) (by decide) (t := (.array .int)) (t' := .int) (by decide) (by decide)))).other W28 (Or.inr (slot_ne (Or.inl (w_ hw 73 rfl)) (Or.inr (w_ hw 78 rfl)) (by decide) (t := (.array .int)) (t' := (.object "com/example/headway/headway/engine/RowBuffer")) (by decide) (by decide)))).ext E36).other W38 (Or.inr (slot_ne (Or.inl (w_ hw 73 rfl)) (Or.inr (w_ hw 81 rfl)) (by decide) (t := (.array .int)) (t' := (.array .int)) (by decide) (by decide)))).keep K46 (ninS ne_o0_b2 nin0))
  have qz55 := ((((Fw24.other W28 (Or.inr (slot_ne (Or.inl (w_ hw 76 rfl)) (Or.inr (w_ hw 78 rfl)) (by decide) (t := .int) (t' := (.object "com/example/headway/headway/engine/RowBuffer")) (by decide) (by decide)))).ext E36).other W38 (Or.inr (slot_ne (Or.inl (w_ hw 76 rfl)) (Or.inr (w_ hw 81 rfl)) (by decide) (t := .int) (t' := (.array .int)) (by decide) (by decide)))).keep K46 (ninS ne_o0_b2 nin0))
  have qz56 := (((((((((((F_indexed.ext E2).other W3 (Or.inr (slot_ne (Or.inl (w_ hw 96 rfl)) (Or.inl (w_ hw 69 rfl)) (by decide) (t := .int) (t' := (.array .int)) (by decide) (by decide)))).ext E7).other W10 (Or.inr (slot_ne (Or.inl (w_ hw 96 rfl)) (Or.inl (w_ hw 71 rfl)) (by decide) (t := .int) (t' := (.array .int)) (by decide) (by decide)))).ext E14).other W17 (Or.inr (slot_ne (Or.inl (w_ hw 96 rfl)) (Or.inl (w_ hw 73 rfl)) (by decide) (t := .int) (t' := (.array .int)) (by decide) (by decide)))).other W24 (Or.inr (slot_ne (Or.inl (w_ hw 96 rfl)) (Or.inl (w_ hw 76 rfl)) (by decide) (t := .int) (t' := .int) (by decide) (by decide)))).other W28 (Or.inr (slot_ne (Or.inl (w_ hw 96 rfl)) (Or.inr (w_ hw 78 rfl)) (by decide) (t := .int) (t' := (.object "com/example/headway/headway/engine/RowBuffer")) (by decide) (by decide)))).ext E36).other W38 (Or.inr (slot_ne (Or.inl (w_ hw 96 rfl)) (Or.inr (w_ hw 81 rfl)) (by decide) (t := .int) (t' := (.array .int)) (by decide) (by decide)))).keep K46 (ninS ne_o0_b2 nin0))
  have ne_b2_b36 : b2 ≠ b36 := Nat.ne_of_lt (Nat.lt_of_lt_of_le (Nat.lt_of_lt_of_le (Nat.lt_of_lt_of_le (Nat.lt_of_lt_of_le (Nat.lt_of_lt_of_le (Nat.lt_of_lt_of_le (Nat.lt_of_lt_of_le (Nat.lt_of_lt_of_le A2.lt (Keep.of_wr W3).1) E7.1) (Keep.of_wr W10).1) E14.1) (Keep.of_wr W17).1) (Keep.of_wr W24).1) (Keep.of_wr W28).1) (Nat.le_of_eq g36.symm))
  have qz57 := (qz43.keep K46 (ninS (Ne.symm ne_b2_b36) nin0))
  have ne_o0_b7 : o0 ≠ b7 := Nat.ne_of_lt (Nat.lt_of_lt_of_le E.lt sz_b7)
  have ne_b2_b7 : b2 ≠ b7 := Nat.ne_of_lt (Nat.lt_of_lt_of_le (Nat.lt_of_lt_of_le A2.lt (Keep.of_wr W3).1) (Nat.le_of_eq g7.symm))
  have qz58 := ((((((((V_b7.other W10 (Ne.symm ne_o0_b7)).ext E14).other W17 (Ne.symm ne_o0_b7)).other W24 (Ne.symm ne_o0_b7)).other W28 (Ne.symm ne_o0_b7)).ext E36).other W38 (Ne.symm ne_o0_b7)).keep K46 (ninS (Ne.symm ne_b2_b7) nin0))
  have ne_o0_b14 : o0 ≠ b14 := Nat.ne_of_lt (Nat.lt_of_lt_of_le E.lt sz_b14)
  have ne_b2_b14 : b2 ≠ b14 := Nat.ne_of_lt (Nat.lt_of_lt_of_le (Nat.lt_of_lt_of_le (Nat.lt_of_lt_of_le (Nat.lt_of_lt_of_le A2.lt (Keep.of_wr W3).1) E7.1) (Keep.of_wr W10).1) (Nat.le_of_eq g14.symm))
  have qz59 := ((((((V_b14.other W17 (Ne.symm ne_o0_b14)).other W24 (Ne.symm ne_o0_b14)).other W28 (Ne.symm ne_o0_b14)).ext E36).other W38 (Ne.symm ne_o0_b14)).keep K46 (ninS (Ne.symm ne_b2_b14) nin0))
  have ne_b7_b36 : b7 ≠ b36 := Nat.ne_of_lt (Nat.lt_of_lt_of_le (Nat.lt_of_lt_of_le (Nat.lt_of_lt_of_le (Nat.lt_of_lt_of_le (Nat.lt_of_lt_of_le (Nat.lt_of_lt_of_le A7.lt (Keep.of_wr W10).1) E14.1) (Keep.of_wr W17).1) (Keep.of_wr W24).1) (Keep.of_wr W28).1) (Nat.le_of_eq g36.symm))
  have ne_b14_b36 : b14 ≠ b36 := Nat.ne_of_lt (Nat.lt_of_lt_of_le (Nat.lt_of_lt_of_le (Nat.lt_of_lt_of_le (Nat.lt_of_lt_of_le A14.lt (Keep.of_wr W17).1) (Keep.of_wr W24).1) (Keep.of_wr W28).1) (Nat.le_of_eq g36.symm))
  have ne_b7_b14 : b7 ≠ b14 := Nat.ne_of_lt (Nat.lt_of_lt_of_le (Nat.lt_of_lt_of_le A7.lt (Keep.of_wr W10).1) (Nat.le_of_eq g14.symm))
  have qz60 := ((((((((((((Keep.refl h0 [o0]).ext E2).wr W3 (Or.inl (List.mem_of_getElem? (i := 0) rfl))).ext E7).wr W10 (Or.inl (List.mem_of_getElem? (i := 0) rfl))).ext E14).wr W17 (Or.inl (List.mem_of_getElem? (i := 0) rfl))).wr W24 (Or.inl (List.mem_of_getElem? (i := 0) rfl))).wr W28 (Or.inl (List.mem_of_getElem? (i := 0) rfl))).ext E36).wr W38 (Or.inl (List.mem_of_getElem? (i := 0) rfl))).trans K46 (allS (Or.inr sz_b2) all0))
  have qz61 := (((((((((((F_largerFirstInBucket.ext E2).other W3 (Or.inr (slot_ne (Or.inl (w_ hw 110 rfl)) (Or.inl (w_ hw 69 rfl)) (by decide) (t := (.array .int)) (t' := (.array .int)) (by decide) (by decide)))).ext E7).other W10 (Or.inr (slot_ne (Or.inl (w_ hw 110 rfl)) (Or.inl (w_ hw 71 rfl)) (by decide) (t := (.array .int)) (t' := (.array .int)) (by decide) (by decide)))).ext E14).other W17 (Or.inr (slot_ne (Or.inl (w_ hw 110 rfl)) (Or.inl (w_ hw 73 rfl)) (by decide) (t := (.array .int)) (t' := (.array .int)) (by decide) (by decide)))).other W24 (Or.inr (slot_ne (Or.inl (w_ hw 110 rfl)) (Or.inl (w_ hw 76 rfl)) (by decide) (t := (.array .int)) (t' := .int) (by decide) (by decide)))).other W28 (Or.inr (slot_ne (Or.inl (w_ hw 110 rfl)) (Or.inr (w_ hw 78 rfl)) (by decide) (t := (.array .int)) (t' := (.object "com/example/headway/headway/engine/RowBuffer")) (by decide) (by decide)))).ext E36).other W38 (Or.inr (slot_ne (Or.inl (w_ hw 110 rfl)) (Or.inr (w_ hw 81 rfl)) (by decide) (t := (.array .int)) (t' := (.array .int)) (by decide) (by decide)))).keep K46 (ninS ne_o0_b2 nin0))
  have qz62 := (((((((((((F_largerNextInBucket.ext E2).other W3 (Or.inr (slot_ne (Or.inl (w_ hw 112 rfl)) (Or.inl (w_ hw 69 rfl)) (by decide) (t := (.array .int)) (t' := (.array .int)) (by decide) (by decide)))).ext E7).other W10 (Or.inr (slot_ne (Or.inl (w_ hw 112 rfl)) (Or.inl (w_ hw 71 rfl)) (by decide) (t := (.array .int)) (t' := (.array .int)) (by decide) (by decide)))).ext E14).other W17 (Or.inr (slot_ne (Or.inl (w_ hw 112 rfl)) (Or.inl (w_ hw 73 rfl)) (by decide) (t := (.array .int)) (t' := (.array .int)) (by decide) (by decide)))).other W24 (Or.inr (slot_ne (Or.inl (w_ hw 112 rfl)) (Or.inl (w_ hw 76 rfl)) (by decide) (t := (.array .int)) (t' := .int) (by decide) (by decide)))).other W28 (Or.inr (slot_ne (Or.inl (w_ hw 112 rfl)) (Or.inr (w_ hw 78 rfl)) (by decide) (t := (.array .int)) (t' := (.object "com/example/headway/headway/engine/RowBuffer")) (by decide) (by decide)))).ext E36).other W38 (Or.inr (slot_ne (Or.inl (w_ hw 112 rfl)) (Or.inr (w_ hw 81 rfl)) (by decide) (t := (.array .int)) (t' := (.array .int)) (by decide) (by decide)))).keep K46 (ninS ne_o0_b2 nin0))
  have qz63 := (((((((((((F_relinked.ext E2).other W3 (Or.inr (slot_ne (Or.inl (w_ hw 176 rfl)) (Or.inl (w_ hw 69 rfl)) (by decide) (t := .int) (t' := (.array .int)) (by decide) (by decide)))).ext E7).other W10 (Or.inr (slot_ne (Or.inl (w_ hw 176 rfl)) (Or.inl (w_ hw 71 rfl)) (by decide) (t := .int) (t' := (.array .int)) (by decide) (by decide)))).ext E14).other W17 (Or.inr (slot_ne (Or.inl (w_ hw 176 rfl)) (Or.inl (w_ hw 73 rfl)) (by decide) (t := .int) (t' := (.array .int)) (by decide) (by decide)))).other W24 (Or.inr (slot_ne (Or.inl (w_ hw 176 rfl)) (Or.inl (w_ hw 76 rfl)) (by decide) (t := .int) (t' := .int) (by decide) (by decide)))).other W28 (Or.inr (slot_ne (Or.inl (w_ hw 176 rfl)) (Or.inr (w_ hw 78 rfl)) (by decide) (t := .int) (t' := (.object "com/example/headway/headway/engine/RowBuffer")) (by decide) (by decide)))).ext E36).other W38 (Or.inr (slot_ne (Or.inl (w_ hw 176 rfl)) (Or.inr (w_ hw 81 rfl)) (by decide) (t := .int) (t' := (.array .int)) (by decide) (by decide)))).keep K46 (ninS ne_o0_b2 nin0))
  exact own_outV X46 hx hlk hret (hb hby d8_104) (Q := Q8 Z o0 o1 o2 h0 n0) ⟨b36, b2, b7, b14, k36, k2, k7, k14, rfl, N46, qz60, ⟨qz49, qz50, qz51, qz52, qz53, qz54, qz55, qz56, qz57, V46, qz58, qz59⟩, qz61, qz62, qz63, g_b36, sz_b36, g_b2, sz_b2, g_b7, sz_b7, g_b14, sz_b14, (Ne.symm ne_b2_b36), (Ne.symm ne_b7_b36), (Ne.symm ne_b14_b36), ne_b2_b7, ne_b2_b14, ne_b7_b14⟩ (by decide) (by decide)
theorem d12_0 : decode prog_83_method_4_code 0 = .ok (.aload_n 0, 1) := by decide +kernel
theorem d12_1 : decode prog_83_method_4_code 1 = .ok (.getfield 74, 3) := by decide +kernel
theorem d12_4 : decode prog_83_method_4_code 4 = .ok (.ireturn, 1) := by decide +kernel
theorem ef_12 (m : MethodId) (x0 : Addr) : entryFrame m #[(.ref x0)] 1 = mkF m 0 #[.val (.ref x0)] [] := by first | (simp [entryFrame, mkF, argsToLocals, Value.category]; done) | rfl
def Q12 (Z : State) (o0 : Addr) (sz : Int32) (h0 : Heap) (n0 : Nat) (v : Option Value) (h : Heap) (L : List Loc) : Prop := v = some (.int sz) ∧ Fr n0 L ∧ h = h0
set_option maxRecDepth 65536 in
set_option maxHeartbeats 40000000 in
theorem rm12 (l : Launch) (Z : State) (a0 : Array Value) (hw : ∀ d ∈ tables_1, d.before a0 Z = true) (ws : List Jvm.Cond) (o0 : Addr) (sz : Int32) (h0 : Heap) (n0 : Nat) (Z0 : n0 ≤ h0.size) (Fs : Fld Z h0 o0 "com/example/headway/headway/engine/RowBuffer" "size" "I" (.int sz)) :
    MetFree l mn_9 (head1 (Jvm.Cond.code mn_9 prog_83_method_4_code 1 (some .int) :: ws) (⟨0, 0, 0, 0⟩ : Room)) (fun a U => a = #[(.ref o0)] ∧ Z.Warmed39 U.vm ∧ U.heap = h0) (fun _ _ _ _ _ => True) (fun _ U o U' => ∃ v L, o = .returned v ∧ Q12 Z o0 sz h0 n0 v U'.heap L ∧ FrameEnd U o U' L (⟨0, 0, 0, 0⟩ : Room).cells (⟨0, 0, 0, 0⟩ : Room).slots) := by
  refine MetFree.of_bodySF (plainFor_of_name pn_3) hisR ?_
  intro p e s m args below meth c s₁ Bd hml0 hP hK
  obtain ⟨rfl, hZ, hh⟩ := hP
  have hx := Bd.exec
  have hby := Bd.bytes
  have hml : c.maxLocals = 1 := hml0
  have hown : s.vm.findClass "com/example/headway/headway/engine/RowBuffer" = some m.cls := findClass_of_methodNamed Bd.named
  have hnm := (name_of_methodNamed Bd.named Bd.method).1
  have X0 : Stand p l e (⟨0, 0, 0, 0⟩ : Room) s m #[(.ref o0)] below meth c s₁ [] 0 0 := Stand.of_body Bd
  have e0 : s₁.heap = h0 := by rw [← hh, Bd.state]; rfl
  have N0 := Fr.nil n0
  have hret := Bd.returns
  have hlk := BodyLoose.notSynchronized Bd
  show own_Out p e below (fun o U' => ∃ v L, o = .returned v ∧ Q12 Z o0 sz h0 n0 v U'.heap L ∧ FrameEnd s o U' L (⟨0, 0, 0, 0⟩ : Room).cells (⟨0, 0, 0, 0⟩ : Room).slots) (s₁.setTop (entryFrame m #[(.ref o0)] 1))
  refine own_of (fun t k => castTop (ef_12 m o0) k) ?_
  show own_Out p e below _ (s₁.setTop (mkF m 0 #[rv o0] []))
  refine o_aloadN X0 hx hby d12_0 rfl rfl (q := 1) rfl ?_
  refine o_getF X0 hx hZ hown hby (w_ hw 102 rfl) Via.refl e0 Fs d12_1 (q := 4) rfl fun T1 X1 e1 => ?_
  exact own_outI X1 hx hlk hret (hb hby d12_4) (Q := Q12 Z o0 sz h0 n0) ⟨rfl, N0, e1⟩ (by decide) (by decide)
theorem d21_0 : decode jdk_29_method_65_code 0 = .ok (.iload_n 0, 1) := by decide +kernel
theorem d21_1 : decode jdk_29_method_65_code 1 = .ok (.iload_n 1, 1) := by decide +kernel
theorem d21_2 : decode jdk_29_method_65_code 2 = .ok (.if_icmp .lt 7, 3) := by decide +kernel
theorem d21_5 : decode jdk_29_method_65_code 5 = .ok (.iload_n 0, 1) := by decide +kernel
theorem d21_6 : decode jdk_29_method_65_code 6 = .ok (.goto 4, 3) := by decide +kernel
theorem d21_10 : decode jdk_29_method_65_code 10 = .ok (.ireturn, 1) := by decide +kernel
theorem ef_21 (m : MethodId)  : entryFrame m #[(.int 1024), (.int 0)] 2 = mkF m 0 #[.val (.int 1024), .val (.int 0)] [] := by first | (simp [entryFrame, mkF, argsToLocals, Value.category]; done) | rfl
def Q21 (Z : State)  (h0 : Heap) (n0 : Nat) (v : Option Value) (h : Heap) (L : List Loc) : Prop := v = some (.int 1024) ∧ Fr n0 L ∧ h = h0
set_option maxRecDepth 65536 in
set_option maxHeartbeats 40000000 in
theorem rm21 (l : Launch) (Z : State) (a0 : Array Value) (hw : ∀ d ∈ tables_1, d.before a0 Z = true) (ws : List Jvm.Cond)  (h0 : Heap) (n0 : Nat) (Z0 : n0 ≤ h0.size) :
    MetFree l mn_10 (head1 (Jvm.Cond.code mn_10 jdk_29_method_65_code 2 (some .int) :: ws) (⟨0, 0, 0, 0⟩ : Room)) (fun a U => a = #[(.int 1024), (.int 0)] ∧ Z.Warmed39 U.vm ∧ U.heap = h0) (fun _ _ _ _ _ => True) (fun _ U o U' => ∃ v L, o = .returned v ∧ Q21 Z  h0 n0 v U'.heap L ∧ FrameEnd U o U' L (⟨0, 0, 0, 0⟩ : Room).cells (⟨0, 0, 0, 0⟩ : Room).slots) := by
  refine MetFree.of_bodySF (Jvm.Free.JP.mathPlain rfl (by decide +kernel)) hisR ?_
  intro p e s m args below meth c s₁ Bd hml0 hP hK
  obtain ⟨rfl, hZ, hh⟩ := hP
  have hx := Bd.exec
  have hby := Bd.bytes
  have hml : c.maxLocals = 2 := hml0
  have hown : s.vm.findClass "java/lang/Math" = some m.cls := findClass_of_methodNamed Bd.named
  have hnm := (name_of_methodNamed Bd.named Bd.method).1
  have X0 : Stand p l e (⟨0, 0, 0, 0⟩ : Room) s m #[(.int 1024), (.int 0)] below meth c s₁ [] 0 0 := Stand.of_body Bd
  have e0 : s₁.heap = h0 := by rw [← hh, Bd.state]; rfl
  have N0 := Fr.nil n0
  have hret := Bd.returns
  have hlk := BodyLoose.notSynchronized Bd
  show own_Out p e below (fun o U' => ∃ v L, o = .returned v ∧ Q21 Z  h0 n0 v U'.heap L ∧ FrameEnd s o U' L (⟨0, 0, 0, 0⟩ : Room).cells (⟨0, 0, 0, 0⟩ : Room).slots) (s₁.setTop (entryFrame m #[(.int 1024), (.int 0)] 2))
  refine own_of (fun t k => castTop (ef_21 m ) k) ?_
  show own_Out p e below _ (s₁.setTop (mkF m 0 #[iv 1024, iv 0] []))
  refine o_iloadN X0 hx hby d21_0 rfl (q := 1) rfl ?_
  refine o_iloadN X0 hx hby d21_1 rfl (q := 2) rfl ?_
  refine o_icN X0 hx hby d21_2 (flt (by decide : ¬ ((1024 : Int32) < (0 : Int32)))).1 (q := 5) rfl ?_
  refine o_iloadN X0 hx hby d21_5 rfl (q := 6) rfl ?_
  refine o_goto X0 hx hby d21_6 (by decide) (q := 10) (by decide) ?_
  exact own_outI X0 hx hlk hret (hb hby d21_10) (Q := Q21 Z  h0 n0) ⟨rfl, N0, e0⟩ (by decide) (by decide)
theorem d22_0 : decode jdk_29_method_70_code 0 = .ok (.lload_n 0, 1) := by decide +kernel
theorem d22_1 : decode jdk_29_method_70_code 1 = .ok (.lload_n 2, 1) := by decide +kernel
theorem d22_2 : decode jdk_29_method_70_code 2 = .ok (.lcmp, 1) := by decide +kernel
theorem d22_3 : decode jdk_29_method_70_code 3 = .ok (.ifCond .gt 7, 3) := by decide +kernel
theorem d22_10 : decode jdk_29_method_70_code 10 = .ok (.lload_n 2, 1) := by decide +kernel
theorem d22_11 : decode jdk_29_method_70_code 11 = .ok (.lreturn, 1) := by decide +kernel
theorem ef_22 (m : MethodId)  : entryFrame m #[(.long (2147483639 : Int64)), (.long (1024 : Int64))] 4 = mkF m 0 #[.val (.long (2147483639 : Int64)), .second, .val (.long (1024 : Int64)), .second] [] := by first | (simp [entryFrame, mkF, argsToLocals, Value.category]; done) | rfl
def Q22 (Z : State)  (h0 : Heap) (n0 : Nat) (v : Option Value) (h : Heap) (L : List Loc) : Prop := v = some (.long (1024 : Int64)) ∧ Fr n0 L ∧ h = h0
set_option maxRecDepth 65536 in
set_option maxHeartbeats 40000000 in
theorem rm22 (l : Launch) (Z : State) (a0 : Array Value) (hw : ∀ d ∈ tables_1, d.before a0 Z = true) (ws : List Jvm.Cond)  (h0 : Heap) (n0 : Nat) (Z0 : n0 ≤ h0.size) :
    MetFree l mn_11 (head1 (Jvm.Cond.code mn_11 jdk_29_method_70_code 4 (some .long) :: ws) (⟨0, 0, 0, 0⟩ : Room)) (fun a U => a = #[(.long (2147483639 : Int64)), (.long (1024 : Int64))] ∧ Z.Warmed39 U.vm ∧ U.heap = h0) (fun _ _ _ _ _ => True) (fun _ U o U' => ∃ v L, o = .returned v ∧ Q22 Z  h0 n0 v U'.heap L ∧ FrameEnd U o U' L (⟨0, 0, 0, 0⟩ : Room).cells (⟨0, 0, 0, 0⟩ : Room).slots) := by
  refine MetFree.of_bodySF (Jvm.Free.JP.mathPlain rfl (by decide +kernel)) hisR ?_
  intro p e s m args below meth c s₁ Bd hml0 hP hK
  obtain ⟨rfl, hZ, hh⟩ := hP
  have hx := Bd.exec
  have hby := Bd.bytes
  have hml : c.maxLocals = 4 := hml0
  have hown : s.vm.findClass "java/lang/Math" = some m.cls := findClass_of_methodNamed Bd.named
  have hnm := (name_of_methodNamed Bd.named Bd.method).1
  have X0 : Stand p l e (⟨0, 0, 0, 0⟩ : Room) s m #[(.long (2147483639 : Int64)), (.long (1024 : Int64))] below meth c s₁ [] 0 0 := Stand.of_body Bd
  have e0 : s₁.heap = h0 := by rw [← hh, Bd.state]; rfl
  have N0 := Fr.nil n0
  have hret := Bd.returns
  have hlk := BodyLoose.notSynchronized Bd
  show own_Out p e below (fun o U' => ∃ v L, o = .returned v ∧ Q22 Z  h0 n0 v U'.heap L ∧ FrameEnd s o U' L (⟨0, 0, 0, 0⟩ : Room).cells (⟨0, 0, 0, 0⟩ : Room).slots) (s₁.setTop (entryFrame m #[(.long (2147483639 : Int64)), (.long (1024 : Int64))] 4))
  refine own_of (fun t k => castTop (ef_22 m ) k) ?_
  show own_Out p e below _ (s₁.setTop (mkF m 0 #[.val (.long 2147483639), .second, .val (.long 1024), .second] []))
  refine o_lloadN X0 hx hby d22_0 rfl (q := 1) rfl ?_
  refine o_lloadN X0 hx hby d22_1 rfl (q := 2) rfl ?_
  refine o_lcmp X0 hx hby d22_2 (q := 3) rfl ?_
  refine o_ifY X0 hx hby d22_3 (own_ltlt (by decide : (1024 : Int64) < (2147483639 : Int64))).2.2.1 (by decide) (q := 10) (by decide) ?_
  refine o_lloadN X0 hx hby d22_10 rfl (q := 11) rfl ?_
  exact own_outL X0 hx hlk hret (hb hby d22_11) (Q := Q22 Z  h0 n0) ⟨rfl, N0, e0⟩ (by decide) (by decide)
theorem pd_4 : parseMethodDescriptor "(II)I" = some ⟨[.int, .int], some .int⟩ := by decide +kernel
theorem pd_5 : parseMethodDescriptor "(JJ)J" = some ⟨[.long, .long], some .long⟩ := by decide +kernel
theorem d20_0 : decode prog_83_method_14_code 0 = .ok (.aload_n 0, 1) := by decide +kernel
theorem d20_1 : decode prog_83_method_14_code 1 = .ok (.getfield 66, 3) := by decide +kernel
theorem d20_4 : decode prog_83_method_14_code 4 = .ok (.ldc 14, 2) := by decide +kernel
theorem d20_6 : decode prog_83_method_14_code 6 = .ok (.if_icmp .ne 13, 3) := by decide +kernel
theorem d20_19 : decode prog_83_method_14_code 19 = .ok (.sipush 1024, 3) := by decide +kernel
theorem d20_22 : decode prog_83_method_14_code 22 = .ok (.aload_n 0, 1) := by decide +kernel
theorem d20_23 : decode prog_83_method_14_code 23 = .ok (.getfield 70, 3) := by decide +kernel
theorem d20_26 : decode prog_83_method_14_code 26 = .ok (.ifCond .eq 10, 3) := by decide +kernel
theorem d20_29 : decode prog_83_method_14_code 29 = .ok (.aload_n 0, 1) := by decide +kernel
theorem d20_30 : decode prog_83_method_14_code 30 = .ok (.getfield 66, 3) := by decide +kernel
theorem d20_33 : decode prog_83_method_14_code 33 = .ok (.goto 10, 3) := by decide +kernel
theorem d20_43 : decode prog_83_method_14_code 43 = .ok (.invokestatic 108, 3) := by decide +kernel
theorem d20_46 : decode prog_83_method_14_code 46 = .ok (.i2l, 1) := by decide +kernel
theorem d20_47 : decode prog_83_method_14_code 47 = .ok (.lstore_n 1, 1) := by decide +kernel
theorem d20_48 : decode prog_83_method_14_code 48 = .ok (.aload_n 0, 1) := by decide +kernel
theorem d20_49 : decode prog_83_method_14_code 49 = .ok (.ldc2_w 114, 3) := by decide +kernel
theorem d20_52 : decode prog_83_method_14_code 52 = .ok (.aload_n 0, 1) := by decide +kernel
theorem d20_53 : decode prog_83_method_14_code 53 = .ok (.getfield 66, 3) := by decide +kernel
theorem d20_56 : decode prog_83_method_14_code 56 = .ok (.i2l, 1) := by decide +kernel
theorem d20_57 : decode prog_83_method_14_code 57 = .ok (.lload_n 1, 1) := by decide +kernel
theorem d20_58 : decode prog_83_method_14_code 58 = .ok (.ladd, 1) := by decide +kernel
theorem d20_59 : decode prog_83_method_14_code 59 = .ok (.invokestatic 116, 3) := by decide +kernel
theorem d20_62 : decode prog_83_method_14_code 62 = .ok (.l2i, 1) := by decide +kernel
theorem d20_63 : decode prog_83_method_14_code 63 = .ok (.putfield 66, 3) := by decide +kernel
theorem d20_66 : decode prog_83_method_14_code 66 = .ok (.iconst 0, 1) := by decide +kernel
theorem d20_67 : decode prog_83_method_14_code 67 = .ok (.istore_n 3, 1) := by decide +kernel
theorem d20_68 : decode prog_83_method_14_code 68 = .ok (.iload_n 3, 1) := by decide +kernel
theorem d20_69 : decode prog_83_method_14_code 69 = .ok (.aload_n 0, 1) := by decide +kernel
theorem d20_70 : decode prog_83_method_14_code 70 = .ok (.getfield 32, 3) := by decide +kernel
theorem d20_73 : decode prog_83_method_14_code 73 = .ok (.arraylength, 1) := by decide +kernel
theorem d20_74 : decode prog_83_method_14_code 74 = .ok (.if_icmp .ge 62, 3) := by decide +kernel
theorem d20_136 : decode prog_83_method_14_code 136 = .ok (.return_, 1) := by decide +kernel
theorem ef_20 (m : MethodId) (x0 : Addr) : entryFrame m #[(.ref x0)] 4 = mkF m 0 #[.val (.ref x0), .unset, .unset, .unset] [] := by first | (simp [entryFrame, mkF, argsToLocals, Value.category]; done) | rfl
def Q20 (Z : State) (o0 nb : Addr) (k : ClassId) (h0 : Heap) (n0 : Nat) (v : Option Value) (h : Heap) (L : List Loc) : Prop := v = none ∧ Fr n0 L ∧ Keep h0 h [o0] ∧ Exa Z h o0 "com/example/headway/headway/engine/RowBuffer" ∧ Fld Z h o0 "com/example/headway/headway/engine/RowBuffer" "numbers" "[[J" (.ref nb) ∧ Fld Z h o0 "com/example/headway/headway/engine/RowBuffer" "capacity" "I" (.int 1024) ∧ Fld Z h o0 "com/example/headway/headway/engine/RowBuffer" "size" "I" (.int 0)
set_option maxRecDepth 65536 in
set_option maxHeartbeats 40000000 in
theorem rm20 (l : Launch) (Z : State) (a0 : Array Value) (hw : ∀ d ∈ tables_1, d.before a0 Z = true) (ws : List Jvm.Cond) (o0 nb : Addr) (k : ClassId) (h0 : Heap) (n0 : Nat) (Z0 : n0 ≤ h0.size) (E : Exa Z h0 o0 "com/example/headway/headway/engine/RowBuffer") (Fn : Fld Z h0 o0 "com/example/headway/headway/engine/RowBuffer" "numbers" "[[J" (.ref nb)) (Fk : Fld Z h0 o0 "com/example/headway/headway/engine/RowBuffer" "capacity" "I" (.int 0)) (Fs : Fld Z h0 o0 "com/example/headway/headway/engine/RowBuffer" "size" "I" (.int 0)) (Fd : Fld Z h0 o0 "com/example/headway/headway/engine/RowBuffer" "doubles" "Z" (.int 1)) (V : Arv Z h0 nb k (.array .long) (0 : Int32) [] .null) (g_o0 : n0 ≤ o0) (nnb : nb ≠ o0) :
    MetFree l mn_12 (head1 (Jvm.Cond.code mn_12 prog_83_method_14_code 4 none :: ws) (⟨1, 0, 0, 16⟩ : Room)) (fun a U => a = #[(.ref o0)] ∧ Z.Warmed39 U.vm ∧ U.heap = h0) (fun _ _ _ _ _ => True) (fun _ U o U' => ∃ v L, o = .returned v ∧ Q20 Z o0 nb k h0 n0 v U'.heap L ∧ FrameEnd U o U' L (⟨1, 0, 0, 16⟩ : Room).cells (⟨1, 0, 0, 16⟩ : Room).slots) := by
  refine MetFree.of_bodySF (plainFor_of_name pn_3) hisR ?_
  intro p e s m args below meth c s₁ Bd hml0 hP hK
  obtain ⟨rfl, hZ, hh⟩ := hP
  have hx := Bd.exec
  have hby := Bd.bytes
  have hml : c.maxLocals = 4 := hml0
  have hown : s.vm.findClass "com/example/headway/headway/engine/RowBuffer" = some m.cls := findClass_of_methodNamed Bd.named
  have hnm := (name_of_methodNamed Bd.named Bd.method).1
  have X0 : Stand p l e (⟨1, 0, 0, 16⟩ : Room) s m #[(.ref o0)] below meth c s₁ [] 0 0 := Stand.of_body Bd
  have e0 : s₁.heap = h0 := by rw [← hh, Bd.state]; rfl
  have N0 := Fr.nil n0
  have hret := Bd.returns
  have hlk := BodyLoose.notSynchronized Bd
  show own_Out p e below (fun o U' => ∃ v L, o = .returned v ∧ Q20 Z o0 nb k h0 n0 v U'.heap L ∧ FrameEnd s o U' L (⟨1, 0, 0, 16⟩ : Room).cells (⟨1, 0, 0, 16⟩ : Room).slots) (s₁.setTop (entryFrame m #[(.ref o0)] 4))
  refine own_of (fun t k => castTop (ef_20 m o0) k) ?_
  show own_Out p e below _ (s₁.setTop (mkF m 0 #[rv o0, .unset, .unset, .unset] []))
  refine o_aloadN X0 hx hby d20_0 rfl rfl (q := 1) rfl ?_
  refine o_getF X0 hx hZ hown hby (w_ hw 57 rfl) Via.refl e0 Fk d20_1 (q := 4) rfl fun T1 X1 e1 => ?_
  refine o_ldcI X1 hx hZ hown hby (w_ hw 37 rfl) d20_4 (q := 6) rfl ?_
  refine o_icY X1 hx hby d20_6 (feq (by decide : ¬ ((0 : Int32) = (2147483639 : Int32)))).2 (by decide) (q := 19) (by decide) ?_
  refine o_sipush X1 hx hby d20_19 (z := 1024) rfl (q := 22) rfl ?_
  refine o_aloadN X1 hx hby d20_22 rfl rfl (q := 23) rfl ?_
  refine o_getF X1 hx hZ hown hby (w_ hw 59 rfl) Via.refl e1 Fd d20_23 (q := 26) rfl fun T2 X2 e2 => ?_
  refine o_ifN X2 hx hby d20_26 ((if0 _ _).trans (feq (by decide : ¬ ((1 : Int32) = (0 : Int32)))).1) (q := 29) rfl ?_
  refine o_aloadN X2 hx hby d20_29 rfl rfl (q := 30) rfl ?_
  refine o_getF X2 hx hZ hown hby (w_ hw 57 rfl) Via.refl e2 Fk d20_30 (q := 33) rfl fun T3 X3 e3 => ?_
  refine o_goto X3 hx hby d20_33 (by decide) (q := 43) (by decide) ?_
  obtain ⟨_, _, ⟨T4, L4, k4, n4⟩, -, X4, ⟨Lc4, hQ4, l4, y4, z4⟩, st4⟩ := Jvm.LawKit.callS X3 hx (y := mn_10) hown (mvT hZ (w_ hw 145 rfl)) (mvT hZ (w_ hw 146 rfl)) (mvT hZ (w_ hw 147 rfl)) (mvT hZ (w_ hw 148 rfl)) (by decide) (backOf (W := 0) (rm21 l Z a0 hw []  h0 n0 Z0 ) hZ (w_ hw 148 rfl) (w_ hw 147 rfl) (by decide) (by decide)) (g := (mkF m 43 #[rv o0, .unset, .unset, .unset] [.int 0, .int 1024])) rfl (by rw [hml]; rfl) (argsL := [(.int 1024), (.int 0)]) (rest := []) (lenOf pd_4 rfl) rfl (by show 2 * 0 + _ ≤ _; exact Nat.le_of_eq rfl) (hb hby d20_43) (fun _ _ => ⟨rfl, e3, (by decide : 0 + 0 ≤ _), (by decide : 0 + 0 ≤ _)⟩)
  dsimp only [Pt.U, Pt.locs, Pt.cells, Pt.slots] at X4 l4 y4 z4 st4 hQ4
  subst l4 y4 z4
  obtain ⟨rfl, N4q, hh4⟩ := hQ4
  have N4 := Fr.app N0 N4q
  refine own_of st4 ?_
  show own_Out p e below _ (T4.setTop (mkF m 46 #[rv o0, .unset, .unset, .unset] [.int 1024]))
  refine o_i2l X4 hx hby d20_46 (z := 1024) rfl (q := 47) rfl ?_
  refine o_lstoreN X4 hx hby d20_47 (l' := #[rv o0, .val (.long 1024), .second, .unset]) rfl (q := 48) rfl ?_
  refine o_aloadN X4 hx hby d20_48 rfl rfl (q := 49) rfl ?_
  refine own_of (X4.ldc2Long hx hown (mvT hZ (w_ hw 149 rfl)) (g := (mkF m 49 #[rv o0, .val (.long 1024), .second, .unset] [.ref o0])) rfl (hb hby d20_49)) ?_
  show own_Out p e below _ (T4.setTop (mkF m 52 #[rv o0, .val (.long 1024), .second, .unset] [.long 2147483639, .ref o0]))
  refine o_aloadN X4 hx hby d20_52 rfl rfl (q := 53) rfl ?_
  refine o_getF X4 hx hZ hown hby (w_ hw 57 rfl) Via.refl hh4 Fk d20_53 (q := 56) rfl fun T5 X5 e5 => ?_
  refine o_i2l X5 hx hby d20_56 (z := 0) rfl (q := 57) rfl ?_
  refine o_lloadN X5 hx hby d20_57 rfl (q := 58) rfl ?_
  refine o_ladd X5 hx hby d20_58 (z := 1024) rfl (q := 59) rfl ?_
  obtain ⟨_, _, ⟨T6, L6, k6, n6⟩, -, X6, ⟨Lc6, hQ6, l6, y6, z6⟩, st6⟩ := Jvm.LawKit.callS X5 hx (y := mn_11) hown (mvT hZ (w_ hw 150 rfl)) (mvT hZ (w_ hw 151 rfl)) (mvT hZ (w_ hw 147 rfl)) (mvT hZ (w_ hw 152 rfl)) (by decide) (backOf (W := 1) (rm22 l Z a0 hw []  h0 n0 Z0 ) hZ (w_ hw 152 rfl) (w_ hw 147 rfl) (by decide) (by decide)) (g := (mkF m 59 #[rv o0, .val (.long 1024), .second, .unset] [.long 1024, .long 2147483639, .ref o0])) rfl (by rw [hml]; rfl) (argsL := [(.long (2147483639 : Int64)), (.long (1024 : Int64))]) (rest := [(.ref o0)]) (lenOf pd_5 rfl) rfl (by show 2 * 0 + _ ≤ _; exact Nat.le_of_eq rfl) (hb hby d20_59) (fun _ _ => ⟨rfl, e5, (by decide : 0 + 0 ≤ _), (by decide : 0 + 0 ≤ _)⟩)
  dsimp only [Pt.U, Pt.locs, Pt.cells, Pt.slots] at X6 l6 y6 z6 st6 hQ6
  subst l6 y6 z6
  obtain ⟨rfl, N6q, hh6⟩ := hQ6
  have N6 := Fr.app N4 N6q
  refine own_of st6 ?_
  show own_Out p e below _ (T6.setTop (mkF m 62 #[rv o0, .val (.long 1024), .second, .unset] [.long 1024, .ref o0]))
  refine o_l2i X6 hx hby d20_62 (z := 1024) rfl (q := 63) rfl ?_
  obtain ⟨T7, h7, X7, e7, W7, st7⟩ := putF X6 hx hZ hown (host := "") (Or.inl (w_ hw 57 rfl)) Via.refl hh6 Fk E (Or.inl (w_ hw 58 rfl)) (w_ hw 2 rfl) (ty := .int) (by decide) rfl rfl (g := (mkF m 63 #[rv o0, .val (.long 1024), .second, .unset] [.int 1024, .ref o0])) rfl rfl (hb hby d20_63)
  have Fw7 := Fk.same W7
  refine own_of st7 ?_
  show own_Out p e below _ (T7.setTop (mkF m 66 #[rv o0, .val (.long 1024), .second, .unset] []))
  refine o_iconst X7 hx hby d20_66 (z := 0) rfl (q := 67) rfl ?_
  refine o_istoreN X7 hx hby d20_67 (l' := #[rv o0, .val (.long 1024), .second, iv 0]) rfl (q := 68) rfl ?_
  refine o_iloadN X7 hx hby d20_68 rfl (q := 69) rfl ?_
  refine o_aloadN X7 hx hby d20_69 rfl rfl (q := 70) rfl ?_
  have qz9 := (Fn.other W7 (Or.inr (slot_ne (Or.inr (w_ hw 52 rfl)) (Or.inl (w_ hw 58 rfl)) (by decide) (t := (.array (.array .long))) (t' := .int) (by decide) (by decide))))
  refine o_getF X7 hx hZ hown hby (w_ hw 51 rfl) Via.refl e7 qz9 d20_70 (q := 73) rfl fun T8 X8 e8 => ?_
  have qz10 := (V.other W7 nnb)
  refine o_lenV X8 hx hby hZ e8 qz10 d20_73 (q := 74) rfl ?_
  refine o_icY X8 hx hby d20_74 (flt (by decide : ¬ ((0 : Int32) < (0 : Int32)))).2.1 (by decide) (q := 136) (by decide) ?_
  have qz11 := ((Keep.refl h0 [o0]).wr W7 (Or.inl (List.mem_of_getElem? (i := 0) rfl)))
  have qz12 := (E.wr W7)
  have qz13 := (Fs.other W7 (Or.inr (slot_ne (Or.inl (w_ hw 103 rfl)) (Or.inl (w_ hw 58 rfl)) (by decide) (t := .int) (t' := .int) (by decide) (by decide))))
  exact own_outV X8 hx hlk hret (hb hby d20_136) (Q := Q20 Z o0 nb k h0 n0) (by rw [e8]; exact ⟨rfl, (Fr.snoc X7 N6 g_o0), qz11, qz12, qz9, Fw7, qz13⟩) (by decide) (by decide)
theorem own_selP {Z : State} {a0 : Array Value} {y : MethodName} {n : Nat} (w1 : (Jvm.Cond.instanceMethod y).before a0 Z = true) (w2 : (Jvm.Cond.privateMethod y).before a0 Z = true) (w3 : (Jvm.Cond.instantiable y.cls n).before a0 Z = true) (hy : y.cls ≠ "java/lang/invoke/MethodHandle" ∧ y.cls ≠ "java/lang/invoke/VarHandle") : (Jvm.Cond.selects y.cls y y).before a0 Z = true := by
  obtain ⟨t, kt, g1, g2, g3, g4, -⟩ := Cond.instantiable_spec w3
  have gi : kt.isInterface = false := by simp only [Bool.or_eq_false_iff] at g4; exact g4.1
  exact selects_self_of_private g1 g2 gi (Cond.privateMethod_at w2) w1 hy
theorem d19_0 : decode prog_83_method_6_code 0 = .ok (.aload_n 0, 1) := by decide +kernel
theorem d19_1 : decode prog_83_method_6_code 1 = .ok (.getfield 74, 3) := by decide +kernel
theorem d19_4 : decode prog_83_method_6_code 4 = .ok (.aload_n 0, 1) := by decide +kernel
theorem d19_5 : decode prog_83_method_6_code 5 = .ok (.getfield 66, 3) := by decide +kernel
theorem d19_8 : decode prog_83_method_6_code 8 = .ok (.if_icmp .ne 7, 3) := by decide +kernel
theorem d19_11 : decode prog_83_method_6_code 11 = .ok (.aload_n 0, 1) := by decide +kernel
theorem d19_12 : decode prog_83_method_6_code 12 = .ok (.invokevirtual 76, 3) := by decide +kernel
theorem d19_15 : decode prog_83_method_6_code 15 = .ok (.iconst 0, 1) := by decide +kernel
theorem d19_16 : decode prog_83_method_6_code 16 = .ok (.istore_n 2, 1) := by decide +kernel
theorem d19_17 : decode prog_83_method_6_code 17 = .ok (.iload_n 2, 1) := by decide +kernel
theorem d19_18 : decode prog_83_method_6_code 18 = .ok (.aload_n 0, 1) := by decide +kernel
theorem d19_19 : decode prog_83_method_6_code 19 = .ok (.getfield 32, 3) := by decide +kernel
theorem d19_22 : decode prog_83_method_6_code 22 = .ok (.arraylength, 1) := by decide +kernel
theorem d19_23 : decode prog_83_method_6_code 23 = .ok (.if_icmp .ge 57, 3) := by decide +kernel
theorem d19_80 : decode prog_83_method_6_code 80 = .ok (.aload_n 0, 1) := by decide +kernel
theorem d19_81 : decode prog_83_method_6_code 81 = .ok (.dup, 1) := by decide +kernel
theorem d19_82 : decode prog_83_method_6_code 82 = .ok (.getfield 74, 3) := by decide +kernel
theorem d19_85 : decode prog_83_method_6_code 85 = .ok (.iconst 1, 1) := by decide +kernel
theorem d19_86 : decode prog_83_method_6_code 86 = .ok (.iadd, 1) := by decide +kernel
theorem d19_87 : decode prog_83_method_6_code 87 = .ok (.putfield 74, 3) := by decide +kernel
theorem d19_90 : decode prog_83_method_6_code 90 = .ok (.return_, 1) := by decide +kernel
theorem ef_19z (m : MethodId) (x0 : Addr) : entryFrame m #[(.ref x0), .null] 3 = mkF m 0 #[.val (.ref x0), .val .null, .unset] [] := by first | (simp [entryFrame, mkF, argsToLocals, Value.category]; done) | rfl
def Q19z (Z : State) (o0 nb : Addr) (k : ClassId) (h0 : Heap) (n0 : Nat) (v : Option Value) (h : Heap) (L : List Loc) : Prop := v = none ∧ Fr n0 L ∧ Keep h0 h [o0] ∧ Exa Z h o0 "com/example/headway/headway/engine/RowBuffer" ∧ Fld Z h o0 "com/example/headway/headway/engine/RowBuffer" "numbers" "[[J" (.ref nb) ∧ Fld Z h o0 "com/example/headway/headway/engine/RowBuffer" "capacity" "I" (.int 1024) ∧ Fld Z h o0 "com/example/headway/headway/engine/RowBuffer" "size" "I" (.int 1)
set_option maxRecDepth 65536 in
set_option maxHeartbeats 40000000 in
theorem rm19z (l : Launch) (Z : State) (a0 : Array Value) (hw : ∀ d ∈ tables_1, d.before a0 Z = true) (ws : List Jvm.Cond) (o0 nb : Addr) (k : ClassId) (h0 : Heap) (n0 : Nat) (Z0 : n0 ≤ h0.size) (E : Exa Z h0 o0 "com/example/headway/headway/engine/RowBuffer") (Fn : Fld Z h0 o0 "com/example/headway/headway/engine/RowBuffer" "numbers" "[[J" (.ref nb)) (Fk : Fld Z h0 o0 "com/example/headway/headway/engine/RowBuffer" "capacity" "I" (.int 0)) (Fs : Fld Z h0 o0 "com/example/headway/headway/engine/RowBuffer" "size" "I" (.int 0)) (Fd : Fld Z h0 o0 "com/example/headway/headway/engine/RowBuffer" "doubles" "Z" (.int 1)) (V : Arv Z h0 nb k (.array .long) (0 : Int32) [] .null) (g_o0 : n0 ≤ o0) (nnb : nb ≠ o0) :
    MetFree l mn_13 (head1 (Jvm.Cond.code mn_13 prog_83_method_6_code 3 none :: ws) (⟨2, 0, 0, 31⟩ : Room)) (fun a U => a = #[(.ref o0), .null] ∧ Z.Warmed39 U.vm ∧ U.heap = h0) (fun _ _ _ _ _ => True) (fun _ U o U' => ∃ v L, o = .returned v ∧ Q19z Z o0 nb k h0 n0 v U'.heap L ∧ FrameEnd U o U' L (⟨2, 0, 0, 31⟩ : Room).cells (⟨2, 0, 0, 31⟩ : Room).slots) := by
  refine MetFree.of_bodySF (plainFor_of_name pn_3) hisR ?_
  intro p e s m args below meth c s₁ Bd hml0 hP hK
  obtain ⟨rfl, hZ, hh⟩ := hP
  have hx := Bd.exec
  have hby := Bd.bytes
  have hml : c.maxLocals = 3 := hml0
  have hown : s.vm.findClass "com/example/headway/headway/engine/RowBuffer" = some m.cls := findClass_of_methodNamed Bd.named
  have hnm := (name_of_methodNamed Bd.named Bd.method).1
  have X0 : Stand p l e (⟨2, 0, 0, 31⟩ : Room) s m #[(.ref o0), .null] below meth c s₁ [] 0 0 := Stand.of_body Bd
  have e0 : s₁.heap = h0 := by rw [← hh, Bd.state]; rfl
  have N0 := Fr.nil n0
  have hret := Bd.returns
  have hlk := BodyLoose.notSynchronized Bd
  show own_Out p e below (fun o U' => ∃ v L, o = .returned v ∧ Q19z Z o0 nb k h0 n0 v U'.heap L ∧ FrameEnd s o U' L (⟨2, 0, 0, 31⟩ : Room).cells (⟨2, 0, 0, 31⟩ : Room).slots) (s₁.setTop (entryFrame m #[(.ref o0), .null] 3))
  refine own_of (fun t k => castTop (ef_19z m o0) k) ?_
  show own_Out p e below _ (s₁.setTop (mkF m 0 #[rv o0, .val (.null), .unset] []))
  refine o_aloadN X0 hx hby d19_0 rfl rfl (q := 1) rfl ?_
  refine o_getF X0 hx hZ hown hby (w_ hw 102 rfl) Via.refl e0 Fs d19_1 (q := 4) rfl fun T1 X1 e1 => ?_
  refine o_aloadN X1 hx hby d19_4 rfl rfl (q := 5) rfl ?_
  refine o_getF X1 hx hZ hown hby (w_ hw 57 rfl) Via.refl e1 Fk d19_5 (q := 8) rfl fun T2 X2 e2 => ?_
  refine o_icN X2 hx hby d19_8 (teq (by decide : (0 : Int32) = (0 : Int32))).2 (q := 11) rfl ?_
  refine o_aloadN X2 hx hby d19_11 rfl rfl (q := 12) rfl ?_
  obtain ⟨cq3, q3, q3'⟩ := Exa.cell E
  obtain ⟨_, _, ⟨T3, L3, k3, n3⟩, -, X3, ⟨Lc3, hQ3, l3, y3, z3⟩, st3⟩ := X2.privateBack hx (y := mn_12) hown (mvT hZ (w_ hw 141 rfl)) (mvT hZ (w_ hw 142 rfl)) (mvT hZ (own_selP (y := mn_12) (w_ hw 142 rfl) (w_ hw 143 rfl) (w_ hw 2 rfl) (by decide))) (Cond.privateMethod_at (mvP hZ (w_ hw 143 rfl) (args := #[]))) (mvT hZ (w_ hw 144 rfl)) (by decide) (backOf (W := 0) (rm20 l Z a0 hw [] o0 nb k h0 n0 Z0 E Fn Fk Fs Fd V g_o0 nnb) hZ (w_ hw 144 rfl) (w_ hw 3 rfl) (by decide) (by decide)) (g := (mkF m 12 #[rv o0, .val (.null), .unset] [.ref o0])) rfl (by rw [hml]; rfl) (Steps.refl _) (a := o0) (by rw [e2]; exact q3) q3' (argsL := []) (rest := []) (lenOf pd_0 rfl) rfl (by show 2 * 0 + _ ≤ _; exact Nat.le_of_eq rfl) (hb hby d19_12) (fun _ _ => ⟨rfl, e2, (by decide : 0 + 0 ≤ _), (by decide : 0 + 0 ≤ _)⟩)
  dsimp only [Pt.U, Pt.locs, Pt.cells, Pt.slots] at X3 l3 y3 z3 st3 hQ3
  subst l3 y3 z3
  obtain ⟨rfl, N3q, K3, E3, Fn3, Fk3, Fs3⟩ := hQ3
  have N3 := Fr.app N0 N3q
  refine own_of (fun _ k => st3.trans k) ?_
  show own_Out p e below _ (T3.setTop (mkF m 15 #[rv o0, .val (.null), .unset] []))
  refine o_iconst X3 hx hby d19_15 (z := 0) rfl (q := 16) rfl ?_
  refine o_istoreN X3 hx hby d19_16 (l' := #[rv o0, .val (.null), iv 0]) rfl (q := 17) rfl ?_
  refine o_iloadN X3 hx hby d19_17 rfl (q := 18) rfl ?_
  refine o_aloadN X3 hx hby d19_18 rfl rfl (q := 19) rfl ?_
  refine o_getF X3 hx hZ hown hby (w_ hw 51 rfl) Via.refl rfl Fn3 d19_19 (q := 22) rfl fun T4 X4 e4 => ?_
  have qz5 := (V.keep K3 (ninS nnb nin0))
  refine o_lenV X4 hx hby hZ e4 qz5 d19_22 (q := 23) rfl ?_
  refine o_icY X4 hx hby d19_23 (flt (by decide : ¬ ((0 : Int32) < (0 : Int32)))).2.1 (by decide) (q := 80) (by decide) ?_
  refine o_aloadN X4 hx hby d19_80 rfl rfl (q := 81) rfl ?_
  refine o_dup X4 hx hby d19_81 rfl (q := 82) rfl ?_
  refine o_getF X4 hx hZ hown hby (w_ hw 102 rfl) Via.refl e4 Fs3 d19_82 (q := 85) rfl fun T6 X6 e6 => ?_
  refine o_iconst X6 hx hby d19_85 (z := 1) rfl (q := 86) rfl ?_
  refine o_iadd X6 hx hby d19_86 (z := 1) rfl (q := 87) rfl ?_
  obtain ⟨T7, h7, X7, e7, W7, st7⟩ := putF X6 hx hZ hown (host := "") (Or.inl (w_ hw 102 rfl)) Via.refl e6 Fs3 E3 (Or.inl (w_ hw 103 rfl)) (w_ hw 2 rfl) (ty := .int) (by decide) rfl rfl (g := (mkF m 87 #[rv o0, .val (.null), iv 0] [.int 1, .ref o0])) rfl rfl (hb hby d19_87)
  have Fw7 := Fs3.same W7
  refine own_of st7 ?_
  show own_Out p e below _ (T7.setTop (mkF m 90 #[rv o0, .val (.null), iv 0] []))
  have qz8 := (((Keep.refl h0 [o0]).trans K3 (allS (Or.inl (List.mem_of_getElem? (i := 0) rfl)) all0)).wr W7 (Or.inl (List.mem_of_getElem? (i := 0) rfl)))
  have qz9 := (E3.wr W7)
  have qz10 := (Fn3.other W7 (Or.inr (slot_ne (Or.inr (w_ hw 52 rfl)) (Or.inl (w_ hw 103 rfl)) (by decide) (t := (.array (.array .long))) (t' := .int) (by decide) (by decide))))
  have qz11 := (Fk3.other W7 (Or.inr (slot_ne (Or.inl (w_ hw 58 rfl)) (Or.inl (w_ hw 103 rfl)) (by decide) (t := .int) (t' := .int) (by decide) (by decide))))
  exact own_outV X7 hx hlk hret (hb hby d19_90) (Q := Q19z Z o0 nb k h0 n0) (by rw [e7]; exact ⟨rfl, (Fr.snoc X7 N3 g_o0), qz8, qz9, qz10, qz11, Fw7⟩) (by decide) (by decide)
theorem ef_19s (m : MethodId) (x0 : Addr) : entryFrame m #[(.ref x0), .null] 3 = mkF m 0 #[.val (.ref x0), .val .null, .unset] [] := by first | (simp [entryFrame, mkF, argsToLocals, Value.category]; done) | rfl
def Q19s (Z : State) (o0 nb : Addr) (k : ClassId) (sv : Int32) (h0 : Heap) (n0 : Nat) (v : Option Value) (h : Heap) (L : List Loc) : Prop := v = none ∧ Fr n0 L ∧ Keep h0 h [o0] ∧ Exa Z h o0 "com/example/headway/headway/engine/RowBuffer" ∧ Fld Z h o0 "com/example/headway/headway/engine/RowBuffer" "numbers" "[[J" (.ref nb) ∧ Fld Z h o0 "com/example/headway/headway/engine/RowBuffer" "capacity" "I" (.int 1024) ∧ Fld Z h o0 "com/example/headway/headway/engine/RowBuffer" "size" "I" (.int (sv + (1 : Int32)))
set_option maxRecDepth 65536 in
set_option maxHeartbeats 40000000 in
theorem rm19s (l : Launch) (Z : State) (a0 : Array Value) (hw : ∀ d ∈ tables_1, d.before a0 Z = true) (ws : List Jvm.Cond) (o0 nb : Addr) (k : ClassId) (sv : Int32) (h0 : Heap) (n0 : Nat) (Z0 : n0 ≤ h0.size) (E : Exa Z h0 o0 "com/example/headway/headway/engine/RowBuffer") (Fn : Fld Z h0 o0 "com/example/headway/headway/engine/RowBuffer" "numbers" "[[J" (.ref nb)) (Fk : Fld Z h0 o0 "com/example/headway/headway/engine/RowBuffer" "capacity" "I" (.int 1024)) (Fs : Fld Z h0 o0 "com/example/headway/headway/engine/RowBuffer" "size" "I" (.int sv)) (V : Arv Z h0 nb k (.array .long) (0 : Int32) [] .null) (g_o0 : n0 ≤ o0) (nnb : nb ≠ o0) (hs : ¬ (sv = (1024 : Int32))) :
    MetFree l mn_13 (head1 (Jvm.Cond.code mn_13 prog_83_method_6_code 3 none :: ws) (⟨0, 0, 0, 0⟩ : Room)) (fun a U => a = #[(.ref o0), .null] ∧ Z.Warmed39 U.vm ∧ U.heap = h0) (fun _ _ _ _ _ => True) (fun _ U o U' => ∃ v L, o = .returned v ∧ Q19s Z o0 nb k sv h0 n0 v U'.heap L ∧ FrameEnd U o U' L (⟨0, 0, 0, 0⟩ : Room).cells (⟨0, 0, 0, 0⟩ : Room).slots) := by
  refine MetFree.of_bodySF (plainFor_of_name pn_3) hisR ?_
  intro p e s m args below meth c s₁ Bd hml0 hP hK
  obtain ⟨rfl, hZ, hh⟩ := hP
  have hx := Bd.exec
  have hby := Bd.bytes
  have hml : c.maxLocals = 3 := hml0
  have hown : s.vm.findClass "com/example/headway/headway/engine/RowBuffer" = some m.cls := findClass_of_methodNamed Bd.named
  have hnm := (name_of_methodNamed Bd.named Bd.method).1
  have X0 : Stand p l e (⟨0, 0, 0, 0⟩ : Room) s m #[(.ref o0), .null] below meth c s₁ [] 0 0 := Stand.of_body Bd
  have e0 : s₁.heap = h0 := by rw [← hh, Bd.state]; rfl
  have N0 := Fr.nil n0
  have hret := Bd.returns
  have hlk := BodyLoose.notSynchronized Bd
  show own_Out p e below (fun o U' => ∃ v L, o = .returned v ∧ Q19s Z o0 nb k sv h0 n0 v U'.heap L ∧ FrameEnd s o U' L (⟨0, 0, 0, 0⟩ : Room).cells (⟨0, 0, 0, 0⟩ : Room).slots) (s₁.setTop (entryFrame m #[(.ref o0), .null] 3))
  refine own_of (fun t k => castTop (ef_19s m o0) k) ?_
  show own_Out p e below _ (s₁.setTop (mkF m 0 #[rv o0, .val (.null), .unset] []))
  refine o_aloadN X0 hx hby d19_0 rfl rfl (q := 1) rfl ?_
  refine o_getF X0 hx hZ hown hby (w_ hw 102 rfl) Via.refl e0 Fs d19_1 (q := 4) rfl fun T1 X1 e1 => ?_
  refine o_aloadN X1 hx hby d19_4 rfl rfl (q := 5) rfl ?_
  refine o_getF X1 hx hZ hown hby (w_ hw 57 rfl) Via.refl e1 Fk d19_5 (q := 8) rfl fun T2 X2 e2 => ?_
  refine o_icY X2 hx hby d19_8 (feq hs).2 (by decide) (q := 15) (by decide) ?_
  refine o_iconst X2 hx hby d19_15 (z := 0) rfl (q := 16) rfl ?_
  refine o_istoreN X2 hx hby d19_16 (l' := #[rv o0, .val (.null), iv 0]) rfl (q := 17) rfl ?_
  refine o_iloadN X2 hx hby d19_17 rfl (q := 18) rfl ?_
  refine o_aloadN X2 hx hby d19_18 rfl rfl (q := 19) rfl ?_
  refine o_getF X2 hx hZ hown hby (w_ hw 51 rfl) Via.refl e2 Fn d19_19 (q := 22) rfl fun T3 X3 e3 => ?_
  refine o_lenV X3 hx hby hZ e3 V d19_22 (q := 23) rfl ?_
  refine o_icY X3 hx hby d19_23 (flt (by decide : ¬ ((0 : Int32) < (0 : Int32)))).2.1 (by decide) (q := 80) (by decide) ?_
  refine o_aloadN X3 hx hby d19_80 rfl rfl (q := 81) rfl ?_
  refine o_dup X3 hx hby d19_81 rfl (q := 82) rfl ?_
  refine o_getF X3 hx hZ hown hby (w_ hw 102 rfl) Via.refl e3 Fs d19_82 (q := 85) rfl fun T4 X4 e4 => ?_
  refine o_iconst X4 hx hby d19_85 (z := 1) rfl (q := 86) rfl ?_
  refine o_iadd X4 hx hby d19_86 rfl (q := 87) rfl ?_
  obtain ⟨T5, h5, X5, e5, W5, st5⟩ := putF X4 hx hZ hown (host := "") (Or.inl (w_ hw 102 rfl)) Via.refl e4 Fs E (Or.inl (w_ hw 103 rfl)) (w_ hw 2 rfl) (ty := .int) (by decide) rfl rfl (g := (mkF m 87 #[rv o0, .val (.null), iv 0] [.int (sv + (1 : Int32)), .ref o0])) rfl rfl (hb hby d19_87)
  have Fw5 := Fs.same W5
  refine own_of st5 ?_
  show own_Out p e below _ (T5.setTop (mkF m 90 #[rv o0, .val (.null), iv 0] []))
  have qz6 := ((Keep.refl h0 [o0]).wr W5 (Or.inl (List.mem_of_getElem? (i := 0) rfl)))
  have qz7 := (E.wr W5)
  have qz8 := (Fn.other W5 (Or.inr (slot_ne (Or.inr (w_ hw 52 rfl)) (Or.inl (w_ hw 103 rfl)) (by decide) (t := (.array (.array .long))) (t' := .int) (by decide) (by decide))))
  have qz9 := (Fk.other W5 (Or.inr (slot_ne (Or.inl (w_ hw 58 rfl)) (Or.inl (w_ hw 103 rfl)) (by decide) (t := .int) (t' := .int) (by decide) (by decide))))
  exact own_outV X5 hx hlk hret (hb hby d19_90) (Q := Q19s Z o0 nb k sv h0 n0) (by rw [e5]; exact ⟨rfl, (Fr.snoc X5 N0 g_o0), qz6, qz7, qz8, qz9, Fw5⟩) (by decide) (by decide)
theorem own_ap {s : Int32} (h : 0 ≤ s.toInt ∧ s.toInt ≤ 15) (k : Int32) (hk : 0 ≤ k.toInt ∧ k.toInt ≤ 20) : ¬ (s + k = (1024 : Int32)) ∧ (s + k) + 1 = s + (k + 1) := by
  have e := c_iadd s k; have r := rng32 (s + k)
  have n : (1024 : Int32).toInt = 1024 := rfl
  exact ⟨fun q => by rw [q, n] at e; omega, Int32.add_assoc _ _ _⟩
theorem own_n0 {s : Int32} (h : 0 ≤ s.toInt ∧ s.toInt ≤ 15) : ¬ (s = (1024 : Int32)) := fun q => by rw [q] at h; revert h; decide
theorem own_eqk {p k : Int32} (j : Int32) (h1 : j < p) (h2 : ¬ (k < p)) (e : k.toInt = j.toInt + 1) : p = k := by
  rw [Int32.lt_iff_toInt_lt] at h1 h2; exact Int32.toInt_inj.mp (by omega)
theorem own_eq0 {p : Int32} (h0 : 0 ≤ p.toInt) (h2 : ¬ ((0 : Int32) < p)) : p = 0 := by
  rw [Int32.lt_iff_toInt_lt] at h2; have n0 : (0 : Int32).toInt = 0 := rfl; exact Int32.toInt_inj.mp (by omega)
theorem d10_0 : decode method_3_code 0 = .ok (.iload_n 1, 1) := by decide +kernel
theorem d10_1 : decode method_3_code 1 = .ok (.ifCond .le 8, 3) := by decide +kernel
theorem d10_9 : decode method_3_code 9 = .ok (.iload_n 1, 1) := by decide +kernel
theorem d10_10 : decode method_3_code 10 = .ok (.iconst 1, 1) := by decide +kernel
theorem d10_11 : decode method_3_code 11 = .ok (.if_icmp .le 8, 3) := by decide +kernel
theorem d10_19 : decode method_3_code 19 = .ok (.iload_n 1, 1) := by decide +kernel
theorem d10_20 : decode method_3_code 20 = .ok (.iconst 2, 1) := by decide +kernel
theorem d10_21 : decode method_3_code 21 = .ok (.if_icmp .le 8, 3) := by decide +kernel
theorem d10_29 : decode method_3_code 29 = .ok (.iload_n 1, 1) := by decide +kernel
theorem d10_30 : decode method_3_code 30 = .ok (.iconst 3, 1) := by decide +kernel
theorem d10_31 : decode method_3_code 31 = .ok (.if_icmp .le 8, 3) := by decide +kernel
theorem d10_39 : decode method_3_code 39 = .ok (.iload_n 1, 1) := by decide +kernel
theorem d10_40 : decode method_3_code 40 = .ok (.iconst 4, 1) := by decide +kernel
theorem d10_41 : decode method_3_code 41 = .ok (.if_icmp .le 8, 3) := by decide +kernel
theorem d10_49 : decode method_3_code 49 = .ok (.iload_n 1, 1) := by decide +kernel
theorem d10_50 : decode method_3_code 50 = .ok (.iconst 5, 1) := by decide +kernel
theorem d10_51 : decode method_3_code 51 = .ok (.if_icmp .le 8, 3) := by decide +kernel
theorem d10_59 : decode method_3_code 59 = .ok (.iload_n 1, 1) := by decide +kernel
theorem d10_60 : decode method_3_code 60 = .ok (.bipush 6, 2) := by decide +kernel
theorem d10_62 : decode method_3_code 62 = .ok (.if_icmp .le 8, 3) := by decide +kernel
theorem d10_70 : decode method_3_code 70 = .ok (.iload_n 1, 1) := by decide +kernel
theorem d10_71 : decode method_3_code 71 = .ok (.bipush 7, 2) := by decide +kernel
theorem d10_73 : decode method_3_code 73 = .ok (.if_icmp .le 8, 3) := by decide +kernel
theorem d10_81 : decode method_3_code 81 = .ok (.iload_n 1, 1) := by decide +kernel
theorem d10_82 : decode method_3_code 82 = .ok (.bipush 8, 2) := by decide +kernel
theorem d10_84 : decode method_3_code 84 = .ok (.if_icmp .le 8, 3) := by decide +kernel
theorem d10_92 : decode method_3_code 92 = .ok (.iload_n 1, 1) := by decide +kernel
theorem d10_93 : decode method_3_code 93 = .ok (.bipush 9, 2) := by decide +kernel
theorem d10_95 : decode method_3_code 95 = .ok (.if_icmp .le 8, 3) := by decide +kernel
theorem d10_103 : decode method_3_code 103 = .ok (.iload_n 1, 1) := by decide +kernel
theorem d10_104 : decode method_3_code 104 = .ok (.bipush 10, 2) := by decide +kernel
theorem d10_106 : decode method_3_code 106 = .ok (.if_icmp .le 8, 3) := by decide +kernel
theorem d10_114 : decode method_3_code 114 = .ok (.iload_n 1, 1) := by decide +kernel
theorem d10_115 : decode method_3_code 115 = .ok (.bipush 11, 2) := by decide +kernel
theorem d10_117 : decode method_3_code 117 = .ok (.if_icmp .le 8, 3) := by decide +kernel
theorem d10_125 : decode method_3_code 125 = .ok (.iload_n 1, 1) := by decide +kernel
theorem d10_126 : decode method_3_code 126 = .ok (.bipush 12, 2) := by decide +kernel
theorem d10_128 : decode method_3_code 128 = .ok (.if_icmp .le 8, 3) := by decide +kernel
theorem d10_136 : decode method_3_code 136 = .ok (.iload_n 1, 1) := by decide +kernel
theorem d10_137 : decode method_3_code 137 = .ok (.bipush 13, 2) := by decide +kernel
theorem d10_139 : decode method_3_code 139 = .ok (.if_icmp .le 8, 3) := by decide +kernel
theorem d10_147 : decode method_3_code 147 = .ok (.iload_n 1, 1) := by decide +kernel
theorem d10_148 : decode method_3_code 148 = .ok (.bipush 14, 2) := by decide +kernel
theorem d10_150 : decode method_3_code 150 = .ok (.if_icmp .le 8, 3) := by decide +kernel
theorem d10_158 : decode method_3_code 158 = .ok (.return_, 1) := by decide +kernel
theorem pn_6 : plainName "com/example/headway/headway/engine/HashIndexStopGrowingPinLaw" = true := by first | (simp [plainName, overriddenIn]; done) | decide +kernel
theorem ef_10n (m : MethodId) (x0 : Addr) (x1 : Int32) : entryFrame m #[(.ref x0), (.int x1)] 2 = mkF m 0 #[.val (.ref x0), .val (.int x1)] [] := by first | (simp [entryFrame, mkF, argsToLocals, Value.category]; done) | rfl
def Q10n (Z : State) (o0 : Addr) (p1 : Int32) (h0 : Heap) (n0 : Nat) (v : Option Value) (h : Heap) (L : List Loc) : Prop := v = none ∧ Fr n0 L ∧ h = h0
set_option maxRecDepth 65536 in
set_option maxHeartbeats 40000000 in
theorem rm10n (l : Launch) (Z : State) (a0 : Array Value) (hw : ∀ d ∈ tables_1, d.before a0 Z = true) (ws : List Jvm.Cond) (o0 : Addr) (p1 : Int32) (h0 : Heap) (n0 : Nat) (Z0 : n0 ≤ h0.size) (hp0 : p1 = (0 : Int32)) :
    MetFree l mn_14 (head1 (Jvm.Cond.code mn_14 method_3_code 2 none :: ws) (⟨0, 0, 0, 0⟩ : Room)) (fun a U => a = #[(.ref o0), (.int p1)] ∧ Z.Warmed39 U.vm ∧ U.heap = h0) (fun _ _ _ _ _ => True) (fun _ U o U' => ∃ v L, o = .returned v ∧ Q10n Z o0 p1 h0 n0 v U'.heap L ∧ FrameEnd U o U' L (⟨0, 0, 0, 0⟩ : Room).cells (⟨0, 0, 0, 0⟩ : Room).slots) := by
  refine MetFree.of_bodySF (plainFor_of_name pn_6) hisR ?_
  intro p e s m args below meth c s₁ Bd hml0 hP hK
  obtain ⟨rfl, hZ, hh⟩ := hP
  have hx := Bd.exec
  have hby := Bd.bytes
  have hml : c.maxLocals = 2 := hml0
  have hown : s.vm.findClass "com/example/headway/headway/engine/HashIndexStopGrowingPinLaw" = some m.cls := findClass_of_methodNamed Bd.named
  have hnm := (name_of_methodNamed Bd.named Bd.method).1
  have X0 : Stand p l e (⟨0, 0, 0, 0⟩ : Room) s m #[(.ref o0), (.int p1)] below meth c s₁ [] 0 0 := Stand.of_body Bd
  have e0 : s₁.heap = h0 := by rw [← hh, Bd.state]; rfl
  have N0 := Fr.nil n0
  have hret := Bd.returns
  have hlk := BodyLoose.notSynchronized Bd
  show own_Out p e below (fun o U' => ∃ v L, o = .returned v ∧ Q10n Z o0 p1 h0 n0 v U'.heap L ∧ FrameEnd s o U' L (⟨0, 0, 0, 0⟩ : Room).cells (⟨0, 0, 0, 0⟩ : Room).slots) (s₁.setTop (entryFrame m #[(.ref o0), (.int p1)] 2))
  refine own_of (fun t k => castTop (ef_10n m o0 p1) k) ?_
  show own_Out p e below _ (s₁.setTop (mkF m 0 #[rv o0, iv p1] []))
  refine o_iloadN X0 hx hby d10_0 rfl (q := 1) rfl ?_
  refine o_ifY X0 hx hby d10_1 ((if0 _ _).trans (flt (own_IR3' hp0 : ¬ ((0 : Int32) < p1))).2.2.2) (by decide) (q := 9) (by decide) ?_
  refine o_iloadN X0 hx hby d10_9 rfl (q := 10) rfl ?_
  refine o_iconst X0 hx hby d10_10 (z := 1) rfl (q := 11) rfl ?_
  refine o_icY X0 hx hby d10_11 (flt (own_T4 (own_U3 hp0) (by decide) : ¬ ((1 : Int32) < p1))).2.2.2 (by decide) (q := 19) (by decide) ?_
  refine o_iloadN X0 hx hby d10_19 rfl (q := 20) rfl ?_
  refine o_iconst X0 hx hby d10_20 (z := 2) rfl (q := 21) rfl ?_
  refine o_icY X0 hx hby d10_21 (flt (own_T4 (own_U3 hp0) (by decide) : ¬ ((2 : Int32) < p1))).2.2.2 (by decide) (q := 29) (by decide) ?_
  refine o_iloadN X0 hx hby d10_29 rfl (q := 30) rfl ?_
  refine o_iconst X0 hx hby d10_30 (z := 3) rfl (q := 31) rfl ?_
  refine o_icY X0 hx hby d10_31 (flt (own_T4 (own_U3 hp0) (by decide) : ¬ ((3 : Int32) < p1))).2.2.2 (by decide) (q := 39) (by decide) ?_
  refine o_iloadN X0 hx hby d10_39 rfl (q := 40) rfl ?_
  refine o_iconst X0 hx hby d10_40 (z := 4) rfl (q := 41) rfl ?_
  refine o_icY X0 hx hby d10_41 (flt (own_T4 (own_U3 hp0) (by decide) : ¬ ((4 : Int32) < p1))).2.2.2 (by decide) (q := 49) (by decide) ?_
  refine o_iloadN X0 hx hby d10_49 rfl (q := 50) rfl ?_
  refine o_iconst X0 hx hby d10_50 (z := 5) rfl (q := 51) rfl ?_
  refine o_icY X0 hx hby d10_51 (flt (own_T4 (own_U3 hp0) (by decide) : ¬ ((5 : Int32) < p1))).2.2.2 (by decide) (q := 59) (by decide) ?_
  refine o_iloadN X0 hx hby d10_59 rfl (q := 60) rfl ?_
  refine o_bipush X0 hx hby d10_60 (z := 6) rfl (q := 62) rfl ?_
  refine o_icY X0 hx hby d10_62 (flt (own_T4 (own_U3 hp0) (by decide) : ¬ ((6 : Int32) < p1))).2.2.2 (by decide) (q := 70) (by decide) ?_
  refine o_iloadN X0 hx hby d10_70 rfl (q := 71) rfl ?_
  refine o_bipush X0 hx hby d10_71 (z := 7) rfl (q := 73) rfl ?_
  refine o_icY X0 hx hby d10_73 (flt (own_T4 (own_U3 hp0) (by decide) : ¬ ((7 : Int32) < p1))).2.2.2 (by decide) (q := 81) (by decide) ?_
  refine o_iloadN X0 hx hby d10_81 rfl (q := 82) rfl ?_
  refine o_bipush X0 hx hby d10_82 (z := 8) rfl (q := 84) rfl ?_
  refine o_icY X0 hx hby d10_84 (flt (own_T4 (own_U3 hp0) (by decide) : ¬ ((8 : Int32) < p1))).2.2.2 (by decide) (q := 92) (by decide) ?_
  refine o_iloadN X0 hx hby d10_92 rfl (q := 93) rfl ?_
  refine o_bipush X0 hx hby d10_93 (z := 9) rfl (q := 95) rfl ?_
  refine o_icY X0 hx hby d10_95 (flt (own_T4 (own_U3 hp0) (by decide) : ¬ ((9 : Int32) < p1))).2.2.2 (by decide) (q := 103) (by decide) ?_
  refine o_iloadN X0 hx hby d10_103 rfl (q := 104) rfl ?_
  refine o_bipush X0 hx hby d10_104 (z := 10) rfl (q := 106) rfl ?_
  refine o_icY X0 hx hby d10_106 (flt (own_T4 (own_U3 hp0) (by decide) : ¬ ((10 : Int32) < p1))).2.2.2 (by decide) (q := 114) (by decide) ?_
  refine o_iloadN X0 hx hby d10_114 rfl (q := 115) rfl ?_
  refine o_bipush X0 hx hby d10_115 (z := 11) rfl (q := 117) rfl ?_
  refine o_icY X0 hx hby d10_117 (flt (own_T4 (own_U3 hp0) (by decide) : ¬ ((11 : Int32) < p1))).2.2.2 (by decide) (q := 125) (by decide) ?_
  refine o_iloadN X0 hx hby d10_125 rfl (q := 126) rfl ?_
  refine o_bipush X0 hx hby d10_126 (z := 12) rfl (q := 128) rfl ?_
  refine o_icY X0 hx hby d10_128 (flt (own_T4 (own_U3 hp0) (by decide) : ¬ ((12 : Int32) < p1))).2.2.2 (by decide) (q := 136) (by decide) ?_
  refine o_iloadN X0 hx hby d10_136 rfl (q := 137) rfl ?_
  refine o_bipush X0 hx hby d10_137 (z := 13) rfl (q := 139) rfl ?_
  refine o_icY X0 hx hby d10_139 (flt (own_T4 (own_U3 hp0) (by decide) : ¬ ((13 : Int32) < p1))).2.2.2 (by decide) (q := 147) (by decide) ?_
  refine o_iloadN X0 hx hby d10_147 rfl (q := 148) rfl ?_
  refine o_bipush X0 hx hby d10_148 (z := 14) rfl (q := 150) rfl ?_
  refine o_icY X0 hx hby d10_150 (flt (own_T4 (own_U3 hp0) (by decide) : ¬ ((14 : Int32) < p1))).2.2.2 (by decide) (q := 158) (by decide) ?_
  exact own_outV X0 hx hlk hret (hb hby d10_158) (Q := Q10n Z o0 p1 h0 n0) ⟨rfl, N0, e0⟩ (by decide) (by decide)
theorem pd_6 : parseMethodDescriptor "(Lcom/example/headway/headway/engine/Row;)V" = some ⟨[(.object "com/example/headway/headway/engine/Row")], none⟩ := by decide +kernel
theorem d10_4 : decode method_3_code 4 = .ok (.aload_n 0, 1) := by decide +kernel
theorem d10_5 : decode method_3_code 5 = .ok (.aconst_null, 1) := by decide +kernel
theorem d10_6 : decode method_3_code 6 = .ok (.invokevirtual 45, 3) := by decide +kernel
theorem d10_14 : decode method_3_code 14 = .ok (.aload_n 0, 1) := by decide +kernel
theorem d10_15 : decode method_3_code 15 = .ok (.aconst_null, 1) := by decide +kernel
theorem d10_16 : decode method_3_code 16 = .ok (.invokevirtual 45, 3) := by decide +kernel
theorem d10_24 : decode method_3_code 24 = .ok (.aload_n 0, 1) := by decide +kernel
theorem d10_25 : decode method_3_code 25 = .ok (.aconst_null, 1) := by decide +kernel
theorem d10_26 : decode method_3_code 26 = .ok (.invokevirtual 45, 3) := by decide +kernel
theorem d10_34 : decode method_3_code 34 = .ok (.aload_n 0, 1) := by decide +kernel
theorem d10_35 : decode method_3_code 35 = .ok (.aconst_null, 1) := by decide +kernel
theorem d10_36 : decode method_3_code 36 = .ok (.invokevirtual 45, 3) := by decide +kernel
theorem d10_44 : decode method_3_code 44 = .ok (.aload_n 0, 1) := by decide +kernel
theorem d10_45 : decode method_3_code 45 = .ok (.aconst_null, 1) := by decide +kernel
theorem d10_46 : decode method_3_code 46 = .ok (.invokevirtual 45, 3) := by decide +kernel
theorem d10_54 : decode method_3_code 54 = .ok (.aload_n 0, 1) := by decide +kernel
theorem d10_55 : decode method_3_code 55 = .ok (.aconst_null, 1) := by decide +kernel
theorem d10_56 : decode method_3_code 56 = .ok (.invokevirtual 45, 3) := by decide +kernel
theorem d10_65 : decode method_3_code 65 = .ok (.aload_n 0, 1) := by decide +kernel
theorem d10_66 : decode method_3_code 66 = .ok (.aconst_null, 1) := by decide +kernel
theorem d10_67 : decode method_3_code 67 = .ok (.invokevirtual 45, 3) := by decide +kernel
theorem d10_76 : decode method_3_code 76 = .ok (.aload_n 0, 1) := by decide +kernel
theorem d10_77 : decode method_3_code 77 = .ok (.aconst_null, 1) := by decide +kernel
theorem d10_78 : decode method_3_code 78 = .ok (.invokevirtual 45, 3) := by decide +kernel
theorem d10_87 : decode method_3_code 87 = .ok (.aload_n 0, 1) := by decide +kernel
theorem d10_88 : decode method_3_code 88 = .ok (.aconst_null, 1) := by decide +kernel
theorem d10_89 : decode method_3_code 89 = .ok (.invokevirtual 45, 3) := by decide +kernel
theorem d10_98 : decode method_3_code 98 = .ok (.aload_n 0, 1) := by decide +kernel
theorem d10_99 : decode method_3_code 99 = .ok (.aconst_null, 1) := by decide +kernel
theorem d10_100 : decode method_3_code 100 = .ok (.invokevirtual 45, 3) := by decide +kernel
theorem d10_109 : decode method_3_code 109 = .ok (.aload_n 0, 1) := by decide +kernel
theorem d10_110 : decode method_3_code 110 = .ok (.aconst_null, 1) := by decide +kernel
theorem d10_111 : decode method_3_code 111 = .ok (.invokevirtual 45, 3) := by decide +kernel
theorem d10_120 : decode method_3_code 120 = .ok (.aload_n 0, 1) := by decide +kernel
theorem d10_121 : decode method_3_code 121 = .ok (.aconst_null, 1) := by decide +kernel
theorem d10_122 : decode method_3_code 122 = .ok (.invokevirtual 45, 3) := by decide +kernel
theorem d10_131 : decode method_3_code 131 = .ok (.aload_n 0, 1) := by decide +kernel
theorem d10_132 : decode method_3_code 132 = .ok (.aconst_null, 1) := by decide +kernel
theorem d10_133 : decode method_3_code 133 = .ok (.invokevirtual 45, 3) := by decide +kernel
theorem d10_142 : decode method_3_code 142 = .ok (.aload_n 0, 1) := by decide +kernel
theorem d10_143 : decode method_3_code 143 = .ok (.aconst_null, 1) := by decide +kernel
theorem d10_144 : decode method_3_code 144 = .ok (.invokevirtual 45, 3) := by decide +kernel
theorem d10_153 : decode method_3_code 153 = .ok (.aload_n 0, 1) := by decide +kernel
theorem d10_154 : decode method_3_code 154 = .ok (.aconst_null, 1) := by decide +kernel
theorem d10_155 : decode method_3_code 155 = .ok (.invokevirtual 45, 3) := by decide +kernel
theorem ef_10z (m : MethodId) (x0 : Addr) (x1 : Int32) : entryFrame m #[(.ref x0), (.int x1)] 2 = mkF m 0 #[.val (.ref x0), .val (.int x1)] [] := by first | (simp [entryFrame, mkF, argsToLocals, Value.category]; done) | rfl
def Q10z (Z : State) (o0 : Addr) (p1 : Int32) (nb : Addr) (k : ClassId) (h0 : Heap) (n0 : Nat) (v : Option Value) (h : Heap) (L : List Loc) : Prop := v = none ∧ Fr n0 L ∧ Keep h0 h [o0] ∧ Exa Z h o0 "com/example/headway/headway/engine/RowBuffer" ∧ Fld Z h o0 "com/example/headway/headway/engine/RowBuffer" "numbers" "[[J" (.ref nb) ∧ Fld Z h o0 "com/example/headway/headway/engine/RowBuffer" "capacity" "I" (.int 1024) ∧ Fld Z h o0 "com/example/headway/headway/engine/RowBuffer" "size" "I" (.int p1)
set_option maxRecDepth 65536 in
set_option maxHeartbeats 40000000 in
theorem rm10z (l : Launch) (Z : State) (a0 : Array Value) (hw : ∀ d ∈ tables_1, d.before a0 Z = true) (ws : List Jvm.Cond) (o0 : Addr) (p1 : Int32) (nb : Addr) (k : ClassId) (h0 : Heap) (n0 : Nat) (Z0 : n0 ≤ h0.size) (E : Exa Z h0 o0 "com/example/headway/headway/engine/RowBuffer") (Fn : Fld Z h0 o0 "com/example/headway/headway/engine/RowBuffer" "numbers" "[[J" (.ref nb)) (Fk : Fld Z h0 o0 "com/example/headway/headway/engine/RowBuffer" "capacity" "I" (.int 0)) (Fs : Fld Z h0 o0 "com/example/headway/headway/engine/RowBuffer" "size" "I" (.int 0)) (Fd : Fld Z h0 o0 "com/example/headway/headway/engine/RowBuffer" "doubles" "Z" (.int 1)) (V : Arv Z h0 nb k (.array .long) (0 : Int32) [] .null) (g_o0 : n0 ≤ o0) (nnb : nb ≠ o0) (hp15 : ¬ ((15 : Int32) < p1)) (hp0 : (0 : Int32) < p1) :
    MetFree l mn_14 (head1 (Jvm.Cond.code mn_14 method_3_code 2 none :: ws) (⟨3, 0, 0, 45⟩ : Room)) (fun a U => a = #[(.ref o0), (.int p1)] ∧ Z.Warmed39 U.vm ∧ U.heap = h0) (fun _ _ _ _ _ => True) (fun _ U o U' => ∃ v L, o = .returned v ∧ Q10z Z o0 p1 nb k h0 n0 v U'.heap L ∧ FrameEnd U o U' L (⟨3, 0, 0, 45⟩ : Room).cells (⟨3, 0, 0, 45⟩ : Room).slots) := by
  refine MetFree.of_bodySF (plainFor_of_name pn_6) hisR ?_
  intro p e s m args below meth c s₁ Bd hml0 hP hK
  obtain ⟨rfl, hZ, hh⟩ := hP
  have hx := Bd.exec
  have hby := Bd.bytes
  have hml : c.maxLocals = 2 := hml0
  have hown : s.vm.findClass "com/example/headway/headway/engine/HashIndexStopGrowingPinLaw" = some m.cls := findClass_of_methodNamed Bd.named
  have hnm := (name_of_methodNamed Bd.named Bd.method).1
  have X0 : Stand p l e (⟨3, 0, 0, 45⟩ : Room) s m #[(.ref o0), (.int p1)] below meth c s₁ [] 0 0 := Stand.of_body Bd
  have e0 : s₁.heap = h0 := by rw [← hh, Bd.state]; rfl
  have N0 := Fr.nil n0
  have hret := Bd.returns
  have hlk := BodyLoose.notSynchronized Bd
  show own_Out p e below (fun o U' => ∃ v L, o = .returned v ∧ Q10z Z o0 p1 nb k h0 n0 v U'.heap L ∧ FrameEnd s o U' L (⟨3, 0, 0, 45⟩ : Room).cells (⟨3, 0, 0, 45⟩ : Room).slots) (s₁.setTop (entryFrame m #[(.ref o0), (.int p1)] 2))
  refine own_of (fun t k => castTop (ef_10z m o0 p1) k) ?_
  show own_Out p e below _ (s₁.setTop (mkF m 0 #[rv o0, iv p1] []))
  refine o_iloadN X0 hx hby d10_0 rfl (q := 1) rfl ?_
  refine o_ifN X0 hx hby d10_1 ((if0 _ _).trans (tlt hp0).2.2.2) (q := 4) rfl ?_
  refine o_aloadN X0 hx hby d10_4 rfl rfl (q := 5) rfl ?_
  refine o_aconst_null X0 hx hby d10_5 (q := 6) rfl ?_
  obtain ⟨cq1, kq1, q1a, q1b, q1c⟩ := isOf hZ e0 E
  obtain ⟨_, _, ⟨T1, L1, k1, n1⟩, -, X1, ⟨Lc1, hQ1, l1, y1, z1⟩, st1⟩ := X0.virtualBack hx (y := mn_13) (z := mn_13) hown (mvT hZ (w_ hw 136 rfl)) (mvT hZ (w_ hw 137 rfl)) (notFace_of_selects (args := #[]) (mvT hZ (w_ hw 139 rfl))) (mvT hZ (w_ hw 139 rfl)) (mvT hZ (w_ hw 138 rfl)) (by decide) (backOf (W := 0) (rm19z l Z a0 hw [] o0 nb k h0 n0 Z0 E Fn Fk Fs Fd V g_o0 nnb) hZ (w_ hw 140 rfl) (w_ hw 3 rfl) (by decide) (by decide)) q1a q1c (g := (mkF m 6 #[rv o0, iv p1] [.null, .ref o0])) rfl (by rw [hml]; rfl) (Steps.refl _) (argsL := [.null]) (rest := []) (lenOf pd_6 rfl) rfl (by show 2 * 0 + _ ≤ _; exact Nat.le_of_eq rfl) (hb hby d10_6) (fun _ _ => ⟨rfl, e0, (by decide : 0 + 0 ≤ _), (by decide : 0 + 0 ≤ _)⟩)
  dsimp only [Pt.U, Pt.locs, Pt.cells, Pt.slots] at X1 l1 y1 z1 st1 hQ1
  subst l1 y1 z1
  obtain ⟨rfl, N1q, K1, E1, Fn1, Fk1, Fs1⟩ := hQ1
  have N1 := Fr.app N0 N1q
  refine own_of (fun _ k => st1.trans k) ?_
  show own_Out p e below _ (T1.setTop (mkF m 9 #[rv o0, iv p1] []))
  refine o_iloadN X1 hx hby d10_9 rfl (q := 10) rfl ?_
  refine o_iconst X1 hx hby d10_10 (z := 1) rfl (q := 11) rfl ?_
  by_cases hc11_2 : (1 : Int32) < p1
  · skip
    refine o_icN X1 hx hby d10_11 (tlt hc11_2).2.2.2 (q := 14) rfl ?_
    refine o_aloadN X1 hx hby d10_14 rfl rfl (q := 15) rfl ?_
    refine o_aconst_null X1 hx hby d10_15 (q := 16) rfl ?_
    have qz4 := (V.keep K1 (ninS nnb nin0))
    have qz5 := (Nat.le_trans Z0 K1.1)
    obtain ⟨cq3, kq3, q3a, q3b, q3c⟩ := isOf hZ rfl E1
    obtain ⟨_, _, ⟨T3, L3, k3, n3⟩, -, X3, ⟨Lc3, hQ3, l3, y3, z3⟩, st3⟩ := X1.virtualBack hx (y := mn_13) (z := mn_13) hown (mvT hZ (w_ hw 136 rfl)) (mvT hZ (w_ hw 137 rfl)) (notFace_of_selects (args := #[]) (mvT hZ (w_ hw 139 rfl))) (mvT hZ (w_ hw 139 rfl)) (mvT hZ (w_ hw 138 rfl)) (by decide) (backOf (W := 0) (rm19s l Z a0 hw [] o0 nb k (1 : Int32) T1.heap n0 qz5 E1 Fn1 Fk1 Fs1 qz4 g_o0 nnb (by decide)) hZ (w_ hw 140 rfl) (w_ hw 3 rfl) (by decide) (by decide)) q3a q3c (g := (mkF m 16 #[rv o0, iv p1] [.null, .ref o0])) rfl (by rw [hml]; rfl) (Steps.refl _) (argsL := [.null]) (rest := []) (lenOf pd_6 rfl) rfl (by show 2 * 0 + _ ≤ _; exact Nat.le_of_eq rfl) (hb hby d10_16) (fun _ _ => ⟨rfl, rfl, (by decide : 0 + 0 ≤ _), (by decide : 0 + 0 ≤ _)⟩)
    dsimp only [Pt.U, Pt.locs, Pt.cells, Pt.slots] at X3 l3 y3 z3 st3 hQ3
    subst l3 y3 z3
    obtain ⟨rfl, N3q, K3, E3, Fn3, Fk3, Fs3⟩ := hQ3
    have N3 := Fr.app N1 N3q
    refine own_of (fun _ k => st3.trans k) ?_
    show own_Out p e below _ (T3.setTop (mkF m 19 #[rv o0, iv p1] []))
    refine o_iloadN X3 hx hby d10_19 rfl (q := 20) rfl ?_
    refine o_iconst X3 hx hby d10_20 (z := 2) rfl (q := 21) rfl ?_
    by_cases hc21_6 : (2 : Int32) < p1
    · skip
      refine o_icN X3 hx hby d10_21 (tlt hc21_6).2.2.2 (q := 24) rfl ?_
      refine o_aloadN X3 hx hby d10_24 rfl rfl (q := 25) rfl ?_
      refine o_aconst_null X3 hx hby d10_25 (q := 26) rfl ?_
      have qz8 := (qz4.keep K3 (ninS nnb nin0))
      have qz9 := (Nat.le_trans qz5 K3.1)
      obtain ⟨cq7, kq7, q7a, q7b, q7c⟩ := isOf hZ rfl E3
      obtain ⟨_, _, ⟨T7, L7, k7, n7⟩, -, X7, ⟨Lc7, hQ7, l7, y7, z7⟩, st7⟩ := X3.virtualBack hx (y := mn_13) (z := mn_13) hown (mvT hZ (w_ hw 136 rfl)) (mvT hZ (w_ hw 137 rfl)) (notFace_of_selects (args := #[]) (mvT hZ (w_ hw 139 rfl))) (mvT hZ (w_ hw 139 rfl)) (mvT hZ (w_ hw 138 rfl)) (by decide) (backOf (W := 0) (rm19s l Z a0 hw [] o0 nb k (2 : Int32) T3.heap n0 qz9 E3 Fn3 Fk3 Fs3 qz8 g_o0 nnb (by decide)) hZ (w_ hw 140 rfl) (w_ hw 3 rfl) (by decide) (by decide)) q7a q7c (g := (mkF m 26 #[rv o0, iv p1] [.null, .ref o0])) rfl (by rw [hml]; rfl) (Steps.refl _) (argsL := [.null]) (rest := []) (lenOf pd_6 rfl) rfl (by show 2 * 0 + _ ≤ _; exact Nat.le_of_eq rfl) (hb hby d10_26) (fun _ _ => ⟨rfl, rfl, (by decide : 0 + 0 ≤ _), (by decide : 0 + 0 ≤ _)⟩)
      dsimp only [Pt.U, Pt.locs, Pt.cells, Pt.slots] at X7 l7 y7 z7 st7 hQ7
      subst l7 y7 z7
      obtain ⟨rfl, N7q, K7, E7, Fn7, Fk7, Fs7⟩ := hQ7
      have N7 := Fr.app N3 N7q
      refine own_of (fun _ k => st7.trans k) ?_
      show own_Out p e below _ (T7.setTop (mkF m 29 #[rv o0, iv p1] []))
      refine o_iloadN X7 hx hby d10_29 rfl (q := 30) rfl ?_
      refine o_iconst X7 hx hby d10_30 (z := 3) rfl (q := 31) rfl ?_
      by_cases hc31_10 : (3 : Int32) < p1
      · skip
        refine o_icN X7 hx hby d10_31 (tlt hc31_10).2.2.2 (q := 34) rfl ?_
        refine o_aloadN X7 hx hby d10_34 rfl rfl (q := 35) rfl ?_
        refine o_aconst_null X7 hx hby d10_35 (q := 36) rfl ?_
        have qz12 := (qz8.keep K7 (ninS nnb nin0))
        have qz13 := (Nat.le_trans qz9 K7.1)
        obtain ⟨cq11, kq11, q11a, q11b, q11c⟩ := isOf hZ rfl E7
        obtain ⟨_, _, ⟨T11, L11, k11, n11⟩, -, X11, ⟨Lc11, hQ11, l11, y11, z11⟩, st11⟩ := X7.virtualBack hx (y := mn_13) (z := mn_13) hown (mvT hZ (w_ hw 136 rfl)) (mvT hZ (w_ hw 137 rfl)) (notFace_of_selects (args := #[]) (mvT hZ (w_ hw 139 rfl))) (mvT hZ (w_ hw 139 rfl)) (mvT hZ (w_ hw 138 rfl)) (by decide) (backOf (W := 0) (rm19s l Z a0 hw [] o0 nb k (3 : Int32) T7.heap n0 qz13 E7 Fn7 Fk7 Fs7 qz12 g_o0 nnb (by decide)) hZ (w_ hw 140 rfl) (w_ hw 3 rfl) (by decide) (by decide)) q11a q11c (g := (mkF m 36 #[rv o0, iv p1] [.null, .ref o0])) rfl (by rw [hml]; rfl) (Steps.refl _) (argsL := [.null]) (rest := []) (lenOf pd_6 rfl) rfl (by show 2 * 0 + _ ≤ _; exact Nat.le_of_eq rfl) (hb hby d10_36) (fun _ _ => ⟨rfl, rfl, (by decide : 0 + 0 ≤ _), (by decide : 0 + 0 ≤ _)⟩)
        dsimp only [Pt.U, Pt.locs, Pt.cells, Pt.slots] at X11 l11 y11 z11 st11 hQ11
        subst l11 y11 z11
        obtain ⟨rfl, N11q, K11, E11, Fn11, Fk11, Fs11⟩ := hQ11
        have N11 := Fr.app N7 N11q
        refine own_of (fun _ k => st11.trans k) ?_
        show own_Out p e below _ (T11.setTop (mkF m 39 #[rv o0, iv p1] []))
        refine o_iloadN X11 hx hby d10_39 rfl (q := 40) rfl ?_
        refine o_iconst X11 hx hby d10_40 (z := 4) rfl (q := 41) rfl ?_
        by_cases hc41_14 : (4 : Int32) < p1
        · skip
          refine o_icN X11 hx hby d10_41 (tlt hc41_14).2.2.2 (q := 44) rfl ?_
          refine o_aloadN X11 hx hby d10_44 rfl rfl (q := 45) rfl ?_
          refine o_aconst_null X11 hx hby d10_45 (q := 46) rfl ?_
          have qz16 := (qz12.keep K11 (ninS nnb nin0))
          have qz17 := (Nat.le_trans qz13 K11.1)
          obtain ⟨cq15, kq15, q15a, q15b, q15c⟩ := isOf hZ rfl E11
          obtain ⟨_, _, ⟨T15, L15, k15, n15⟩, -, X15, ⟨Lc15, hQ15, l15, y15, z15⟩, st15⟩ := X11.virtualBack hx (y := mn_13) (z := mn_13) hown (mvT hZ (w_ hw 136 rfl)) (mvT hZ (w_ hw 137 rfl)) (notFace_of_selects (args := #[]) (mvT hZ (w_ hw 139 rfl))) (mvT hZ (w_ hw 139 rfl)) (mvT hZ (w_ hw 138 rfl)) (by decide) (backOf (W := 0) (rm19s l Z a0 hw [] o0 nb k (4 : Int32) T11.heap n0 qz17 E11 Fn11 Fk11 Fs11 qz16 g_o0 nnb (by decide)) hZ (w_ hw 140 rfl) (w_ hw 3 rfl) (by decide) (by decide)) q15a q15c (g := (mkF m 46 #[rv o0, iv p1] [.null, .ref o0])) rfl (by rw [hml]; rfl) (Steps.refl _) (argsL := [.null]) (rest := []) (lenOf pd_6 rfl) rfl (by show 2 * 0 + _ ≤ _; exact Nat.le_of_eq rfl) (hb hby d10_46) (fun _ _ => ⟨rfl, rfl, (by decide : 0 + 0 ≤ _), (by decide : 0 + 0 ≤ _)⟩)
          dsimp only [Pt.U, Pt.locs, Pt.cells, Pt.slots] at X15 l15 y15 z15 st15 hQ15
          subst l15 y15 z15
          obtain ⟨rfl, N15q, K15, E15, Fn15, Fk15, Fs15⟩ := hQ15
          have N15 := Fr.app N11 N15q
          refine own_of (fun _ k => st15.trans k) ?_
          show own_Out p e below _ (T15.setTop (mkF m 49 #[rv o0, iv p1] []))
          refine o_iloadN X15 hx hby d10_49 rfl (q := 50) rfl ?_
          refine o_iconst X15 hx hby d10_50 (z := 5) rfl (q := 51) rfl ?_
          by_cases hc51_18 : (5 : Int32) < p1
          · skip
            refine o_icN X15 hx hby d10_51 (tlt hc51_18).2.2.2 (q := 54) rfl ?_
            refine o_aloadN X15 hx hby d10_54 rfl rfl (q := 55) rfl ?_
            refine o_aconst_null X15 hx hby d10_55 (q := 56) rfl ?_
            have qz20 := (qz16.keep K15 (ninS nnb nin0))
            have qz21 := (Nat.le_trans qz17 K15.1)
            obtain ⟨cq19, kq19, q19a, q19b, q19c⟩ := isOf hZ rfl E15
            obtain ⟨_, _, ⟨T19, L19, k19, n19⟩, -, X19, ⟨Lc19, hQ19, l19, y19, z19⟩, st19⟩ := X15.virtualBack hx (y := mn_13) (z := mn_13) hown (mvT hZ (w_ hw 136 rfl)) (mvT hZ (w_ hw 137 rfl)) (notFace_of_selects (args := #[]) (mvT hZ (w_ hw 139 rfl))) (mvT hZ (w_ hw 139 rfl)) (mvT hZ (w_ hw 138 rfl)) (by decide) (backOf (W := 0) (rm19s l Z a0 hw [] o0 nb k (5 : Int32) T15.heap n0 qz21 E15 Fn15 Fk15 Fs15 qz20 g_o0 nnb (by decide)) hZ (w_ hw 140 rfl) (w_ hw 3 rfl) (by decide) (by decide)) q19a q19c (g := (mkF m 56 #[rv o0, iv p1] [.null, .ref o0])) rfl (by rw [hml]; rfl) (Steps.refl _) (argsL := [.null]) (rest := []) (lenOf pd_6 rfl) rfl (by show 2 * 0 + _ ≤ _; exact Nat.le_of_eq rfl) (hb hby d10_56) (fun _ _ => ⟨rfl, rfl, (by decide : 0 + 0 ≤ _), (by decide : 0 + 0 ≤ _)⟩)
            dsimp only [Pt.U, Pt.locs, Pt.cells, Pt.slots] at X19 l19 y19 z19 st19 hQ19
            subst l19 y19 z19
            obtain ⟨rfl, N19q, K19, E19, Fn19, Fk19, Fs19⟩ := hQ19
            have N19 := Fr.app N15 N19q
            refine own_of (fun _ k => st19.trans k) ?_
            show own_Out p e below _ (T19.setTop (mkF m 59 #[rv o0, iv p1] []))
            refine o_iloadN X19 hx hby d10_59 rfl (q := 60) rfl ?_
            refine o_bipush X19 hx hby d10_60 (z := 6) rfl (q := 62) rfl ?_
            by_cases hc62_22 : (6 : Int32) < p1
            · skip
              refine o_icN X19 hx hby d10_62 (tlt hc62_22).2.2.2 (q := 65) rfl ?_
              refine o_aloadN X19 hx hby d10_65 rfl rfl (q := 66) rfl ?_
              refine o_aconst_null X19 hx hby d10_66 (q := 67) rfl ?_
              have qz24 := (qz20.keep K19 (ninS nnb nin0))
              have qz25 := (Nat.le_trans qz21 K19.1)
              obtain ⟨cq23, kq23, q23a, q23b, q23c⟩ := isOf hZ rfl E19
              obtain ⟨_, _, ⟨T23, L23, k23, n23⟩, -, X23, ⟨Lc23, hQ23, l23, y23, z23⟩, st23⟩ := X19.virtualBack hx (y := mn_13) (z := mn_13) hown (mvT hZ (w_ hw 136 rfl)) (mvT hZ (w_ hw 137 rfl)) (notFace_of_selects (args := #[]) (mvT hZ (w_ hw 139 rfl))) (mvT hZ (w_ hw 139 rfl)) (mvT hZ (w_ hw 138 rfl)) (by decide) (backOf (W := 0) (rm19s l Z a0 hw [] o0 nb k (6 : Int32) T19.heap n0 qz25 E19 Fn19 Fk19 Fs19 qz24 g_o0 nnb (by decide)) hZ (w_ hw 140 rfl) (w_ hw 3 rfl) (by decide) (by decide)) q23a q23c (g := (mkF m 67 #[rv o0, iv p1] [.null, .ref o0])) rfl (by rw [hml]; rfl) (Steps.refl _) (argsL := [.null]) (rest := []) (lenOf pd_6 rfl) rfl (by show 2 * 0 + _ ≤ _; exact Nat.le_of_eq rfl) (hb hby d10_67) (fun _ _ => ⟨rfl, rfl, (by decide : 0 + 0 ≤ _), (by decide : 0 + 0 ≤ _)⟩)
              dsimp only [Pt.U, Pt.locs, Pt.cells, Pt.slots] at X23 l23 y23 z23 st23 hQ23
              subst l23 y23 z23
              obtain ⟨rfl, N23q, K23, E23, Fn23, Fk23, Fs23⟩ := hQ23
              have N23 := Fr.app N19 N23q
              refine own_of (fun _ k => st23.trans k) ?_
              show own_Out p e below _ (T23.setTop (mkF m 70 #[rv o0, iv p1] []))
              refine o_iloadN X23 hx hby d10_70 rfl (q := 71) rfl ?_
              refine o_bipush X23 hx hby d10_71 (z := 7) rfl (q := 73) rfl ?_
              by_cases hc73_26 : (7 : Int32) < p1
              · skip
                refine o_icN X23 hx hby d10_73 (tlt hc73_26).2.2.2 (q := 76) rfl ?_
                refine o_aloadN X23 hx hby d10_76 rfl rfl (q := 77) rfl ?_
                refine o_aconst_null X23 hx hby d10_77 (q := 78) rfl ?_
                have qz28 := (qz24.keep K23 (ninS nnb nin0))
                have qz29 := (Nat.le_trans qz25 K23.1)
                obtain ⟨cq27, kq27, q27a, q27b, q27c⟩ := isOf hZ rfl E23
                obtain ⟨_, _, ⟨T27, L27, k27, n27⟩, -, X27, ⟨Lc27, hQ27, l27, y27, z27⟩, st27⟩ := X23.virtualBack hx (y := mn_13) (z := mn_13) hown (mvT hZ (w_ hw 136 rfl)) (mvT hZ (w_ hw 137 rfl)) (notFace_of_selects (args := #[]) (mvT hZ (w_ hw 139 rfl))) (mvT hZ (w_ hw 139 rfl)) (mvT hZ (w_ hw 138 rfl)) (by decide) (backOf (W := 0) (rm19s l Z a0 hw [] o0 nb k (7 : Int32) T23.heap n0 qz29 E23 Fn23 Fk23 Fs23 qz28 g_o0 nnb (by decide)) hZ (w_ hw 140 rfl) (w_ hw 3 rfl) (by decide) (by decide)) q27a q27c (g := (mkF m 78 #[rv o0, iv p1] [.null, .ref o0])) rfl (by rw [hml]; rfl) (Steps.refl _) (argsL := [.null]) (rest := []) (lenOf pd_6 rfl) rfl (by show 2 * 0 + _ ≤ _; exact Nat.le_of_eq rfl) (hb hby d10_78) (fun _ _ => ⟨rfl, rfl, (by decide : 0 + 0 ≤ _), (by decide : 0 + 0 ≤ _)⟩)
                dsimp only [Pt.U, Pt.locs, Pt.cells, Pt.slots] at X27 l27 y27 z27 st27 hQ27
                subst l27 y27 z27
                obtain ⟨rfl, N27q, K27, E27, Fn27, Fk27, Fs27⟩ := hQ27
                have N27 := Fr.app N23 N27q
                refine own_of (fun _ k => st27.trans k) ?_
                show own_Out p e below _ (T27.setTop (mkF m 81 #[rv o0, iv p1] []))
                refine o_iloadN X27 hx hby d10_81 rfl (q := 82) rfl ?_
                refine o_bipush X27 hx hby d10_82 (z := 8) rfl (q := 84) rfl ?_
                by_cases hc84_30 : (8 : Int32) < p1
                · skip
                  refine o_icN X27 hx hby d10_84 (tlt hc84_30).2.2.2 (q := 87) rfl ?_
                  refine o_aloadN X27 hx hby d10_87 rfl rfl (q := 88) rfl ?_
                  refine o_aconst_null X27 hx hby d10_88 (q := 89) rfl ?_
                  have qz32 := (qz28.keep K27 (ninS nnb nin0))
                  have qz33 := (Nat.le_trans qz29 K27.1)
                  obtain ⟨cq31, kq31, q31a, q31b, q31c⟩ := isOf hZ rfl E27
                  obtain ⟨_, _, ⟨T31, L31, k31, n31⟩, -, X31, ⟨Lc31, hQ31, l31, y31, z31⟩, st31⟩ := X27.virtualBack hx (y := mn_13) (z := mn_13) hown (mvT hZ (w_ hw 136 rfl)) (mvT hZ (w_ hw 137 rfl)) (notFace_of_selects (args := #[]) (mvT hZ (w_ hw 139 rfl))) (mvT hZ (w_ hw 139 rfl)) (mvT hZ (w_ hw 138 rfl)) (by decide) (backOf (W := 0) (rm19s l Z a0 hw [] o0 nb k (8 : Int32) T27.heap n0 qz33 E27 Fn27 Fk27 Fs27 qz32 g_o0 nnb (by decide)) hZ (w_ hw 140 rfl) (w_ hw 3 rfl) (by decide) (by decide)) q31a q31c (g := (mkF m 89 #[rv o0, iv p1] [.null, .ref o0])) rfl (by rw [hml]; rfl) (Steps.refl _) (argsL := [.null]) (rest := []) (lenOf pd_6 rfl) rfl (by show 2 * 0 + _ ≤ _; exact Nat.le_of_eq rfl) (hb hby d10_89) (fun _ _ => ⟨rfl, rfl, (by decide : 0 + 0 ≤ _), (by decide : 0 + 0 ≤ _)⟩)
                  dsimp only [Pt.U, Pt.locs, Pt.cells, Pt.slots] at X31 l31 y31 z31 st31 hQ31
                  subst l31 y31 z31
                  obtain ⟨rfl, N31q, K31, E31, Fn31, Fk31, Fs31⟩ := hQ31
                  have N31 := Fr.app N27 N31q
                  refine own_of (fun _ k => st31.trans k) ?_
                  show own_Out p e below _ (T31.setTop (mkF m 92 #[rv o0, iv p1] []))
                  refine o_iloadN X31 hx hby d10_92 rfl (q := 93) rfl ?_
                  refine o_bipush X31 hx hby d10_93 (z := 9) rfl (q := 95) rfl ?_
                  by_cases hc95_34 : (9 : Int32) < p1
                  · skip
                    refine o_icN X31 hx hby d10_95 (tlt hc95_34).2.2.2 (q := 98) rfl ?_
                    refine o_aloadN X31 hx hby d10_98 rfl rfl (q := 99) rfl ?_
                    refine o_aconst_null X31 hx hby d10_99 (q := 100) rfl ?_
                    have qz36 := (qz32.keep K31 (ninS nnb nin0))
                    have qz37 := (Nat.le_trans qz33 K31.1)
                    obtain ⟨cq35, kq35, q35a, q35b, q35c⟩ := isOf hZ rfl E31
                    obtain ⟨_, _, ⟨T35, L35, k35, n35⟩, -, X35, ⟨Lc35, hQ35, l35, y35, z35⟩, st35⟩ := X31.virtualBack hx (y := mn_13) (z := mn_13) hown (mvT hZ (w_ hw 136 rfl)) (mvT hZ (w_ hw 137 rfl)) (notFace_of_selects (args := #[]) (mvT hZ (w_ hw 139 rfl))) (mvT hZ (w_ hw 139 rfl)) (mvT hZ (w_ hw 138 rfl)) (by decide) (backOf (W := 0) (rm19s l Z a0 hw [] o0 nb k (9 : Int32) T31.heap n0 qz37 E31 Fn31 Fk31 Fs31 qz36 g_o0 nnb (by decide)) hZ (w_ hw 140 rfl) (w_ hw 3 rfl) (by decide) (by decide)) q35a q35c (g := (mkF m 100 #[rv o0, iv p1] [.null, .ref o0])) rfl (by rw [hml]; rfl) (Steps.refl _) (argsL := [.null]) (rest := []) (lenOf pd_6 rfl) rfl (by show 2 * 0 + _ ≤ _; exact Nat.le_of_eq rfl) (hb hby d10_100) (fun _ _ => ⟨rfl, rfl, (by decide : 0 + 0 ≤ _), (by decide : 0 + 0 ≤ _)⟩)
                    dsimp only [Pt.U, Pt.locs, Pt.cells, Pt.slots] at X35 l35 y35 z35 st35 hQ35
                    subst l35 y35 z35
                    obtain ⟨rfl, N35q, K35, E35, Fn35, Fk35, Fs35⟩ := hQ35
                    have N35 := Fr.app N31 N35q
                    refine own_of (fun _ k => st35.trans k) ?_
                    show own_Out p e below _ (T35.setTop (mkF m 103 #[rv o0, iv p1] []))
                    refine o_iloadN X35 hx hby d10_103 rfl (q := 104) rfl ?_
                    refine o_bipush X35 hx hby d10_104 (z := 10) rfl (q := 106) rfl ?_
                    by_cases hc106_38 : (10 : Int32) < p1
                    · skip
                      refine o_icN X35 hx hby d10_106 (tlt hc106_38).2.2.2 (q := 109) rfl ?_
                      refine o_aloadN X35 hx hby d10_109 rfl rfl (q := 110) rfl ?_
                      refine o_aconst_null X35 hx hby d10_110 (q := 111) rfl ?_
                      have qz40 := (qz36.keep K35 (ninS nnb nin0))
                      have qz41 := (Nat.le_trans qz37 K35.1)
                      obtain ⟨cq39, kq39, q39a, q39b, q39c⟩ := isOf hZ rfl E35
                      obtain ⟨_, _, ⟨T39, L39, k39, n39⟩, -, X39, ⟨Lc39, hQ39, l39, y39, z39⟩, st39⟩ := X35.virtualBack hx (y := mn_13) (z := mn_13) hown (mvT hZ (w_ hw 136 rfl)) (mvT hZ (w_ hw 137 rfl)) (notFace_of_selects (args := #[]) (mvT hZ (w_ hw 139 rfl))) (mvT hZ (w_ hw 139 rfl)) (mvT hZ (w_ hw 138 rfl)) (by decide) (backOf (W := 0) (rm19s l Z a0 hw [] o0 nb k (10 : Int32) T35.heap n0 qz41 E35 Fn35 Fk35 Fs35 qz40 g_o0 nnb (by decide)) hZ (w_ hw 140 rfl) (w_ hw 3 rfl) (by decide) (by decide)) q39a q39c (g := (mkF m 111 #[rv o0, iv p1] [.null, .ref o0])) rfl (by rw [hml]; rfl) (Steps.refl _) (argsL := [.null]) (rest := []) (lenOf pd_6 rfl) rfl (by show 2 * 0 + _ ≤ _; exact Nat.le_of_eq rfl) (hb hby d10_111) (fun _ _ => ⟨rfl, rfl, (by decide : 0 + 0 ≤ _), (by decide : 0 + 0 ≤ _)⟩)
                      dsimp only [Pt.U, Pt.locs, Pt.cells, Pt.slots] at X39 l39 y39 z39 st39 hQ39
                      subst l39 y39 z39
                      obtain ⟨rfl, N39q, K39, E39, Fn39, Fk39, Fs39⟩ := hQ39
                      have N39 := Fr.app N35 N39q
                      refine own_of (fun _ k => st39.trans k) ?_
                      show own_Out p e below _ (T39.setTop (mkF m 114 #[rv o0, iv p1] []))
                      refine o_iloadN X39 hx hby d10_114 rfl (q := 115) rfl ?_
                      refine o_bipush X39 hx hby d10_115 (z := 11) rfl (q := 117) rfl ?_
                      by_cases hc117_42 : (11 : Int32) < p1
                      · skip
                        refine o_icN X39 hx hby d10_117 (tlt hc117_42).2.2.2 (q := 120) rfl ?_
                        refine o_aloadN X39 hx hby d10_120 rfl rfl (q := 121) rfl ?_
                        refine o_aconst_null X39 hx hby d10_121 (q := 122) rfl ?_
                        have qz44 := (qz40.keep K39 (ninS nnb nin0))
                        have qz45 := (Nat.le_trans qz41 K39.1)
                        obtain ⟨cq43, kq43, q43a, q43b, q43c⟩ := isOf hZ rfl E39
                        obtain ⟨_, _, ⟨T43, L43, k43, n43⟩, -, X43, ⟨Lc43, hQ43, l43, y43, z43⟩, st43⟩ := X39.virtualBack hx (y := mn_13) (z := mn_13) hown (mvT hZ (w_ hw 136 rfl)) (mvT hZ (w_ hw 137 rfl)) (notFace_of_selects (args := #[]) (mvT hZ (w_ hw 139 rfl))) (mvT hZ (w_ hw 139 rfl)) (mvT hZ (w_ hw 138 rfl)) (by decide) (backOf (W := 0) (rm19s l Z a0 hw [] o0 nb k (11 : Int32) T39.heap n0 qz45 E39 Fn39 Fk39 Fs39 qz44 g_o0 nnb (by decide)) hZ (w_ hw 140 rfl) (w_ hw 3 rfl) (by decide) (by decide)) q43a q43c (g := (mkF m 122 #[rv o0, iv p1] [.null, .ref o0])) rfl (by rw [hml]; rfl) (Steps.refl _) (argsL := [.null]) (rest := []) (lenOf pd_6 rfl) rfl (by show 2 * 0 + _ ≤ _; exact Nat.le_of_eq rfl) (hb hby d10_122) (fun _ _ => ⟨rfl, rfl, (by decide : 0 + 0 ≤ _), (by decide : 0 + 0 ≤ _)⟩)
                        dsimp only [Pt.U, Pt.locs, Pt.cells, Pt.slots] at X43 l43 y43 z43 st43 hQ43
                        subst l43 y43 z43
                        obtain ⟨rfl, N43q, K43, E43, Fn43, Fk43, Fs43⟩ := hQ43
                        have N43 := Fr.app N39 N43q
                        refine own_of (fun _ k => st43.trans k) ?_
                        show own_Out p e below _ (T43.setTop (mkF m 125 #[rv o0, iv p1] []))
                        refine o_iloadN X43 hx hby d10_125 rfl (q := 126) rfl ?_
                        refine o_bipush X43 hx hby d10_126 (z := 12) rfl (q := 128) rfl ?_
                        by_cases hc128_46 : (12 : Int32) < p1
                        · skip
                          refine o_icN X43 hx hby d10_128 (tlt hc128_46).2.2.2 (q := 131) rfl ?_
                          refine o_aloadN X43 hx hby d10_131 rfl rfl (q := 132) rfl ?_
                          refine o_aconst_null X43 hx hby d10_132 (q := 133) rfl ?_
                          have qz48 := (qz44.keep K43 (ninS nnb nin0))
                          have qz49 := (Nat.le_trans qz45 K43.1)
                          obtain ⟨cq47, kq47, q47a, q47b, q47c⟩ := isOf hZ rfl E43
                          obtain ⟨_, _, ⟨T47, L47, k47, n47⟩, -, X47, ⟨Lc47, hQ47, l47, y47, z47⟩, st47⟩ := X43.virtualBack hx (y := mn_13) (z := mn_13) hown (mvT hZ (w_ hw 136 rfl)) (mvT hZ (w_ hw 137 rfl)) (notFace_of_selects (args := #[]) (mvT hZ (w_ hw 139 rfl))) (mvT hZ (w_ hw 139 rfl)) (mvT hZ (w_ hw 138 rfl)) (by decide) (backOf (W := 0) (rm19s l Z a0 hw [] o0 nb k (12 : Int32) T43.heap n0 qz49 E43 Fn43 Fk43 Fs43 qz48 g_o0 nnb (by decide)) hZ (w_ hw 140 rfl) (w_ hw 3 rfl) (by decide) (by decide)) q47a q47c (g := (mkF m 133 #[rv o0, iv p1] [.null, .ref o0])) rfl (by rw [hml]; rfl) (Steps.refl _) (argsL := [.null]) (rest := []) (lenOf pd_6 rfl) rfl (by show 2 * 0 + _ ≤ _; exact Nat.le_of_eq rfl) (hb hby d10_133) (fun _ _ => ⟨rfl, rfl, (by decide : 0 + 0 ≤ _), (by decide : 0 + 0 ≤ _)⟩)
                          dsimp only [Pt.U, Pt.locs, Pt.cells, Pt.slots] at X47 l47 y47 z47 st47 hQ47
                          subst l47 y47 z47
                          obtain ⟨rfl, N47q, K47, E47, Fn47, Fk47, Fs47⟩ := hQ47
                          have N47 := Fr.app N43 N47q
                          refine own_of (fun _ k => st47.trans k) ?_
                          show own_Out p e below _ (T47.setTop (mkF m 136 #[rv o0, iv p1] []))
                          refine o_iloadN X47 hx hby d10_136 rfl (q := 137) rfl ?_
                          refine o_bipush X47 hx hby d10_137 (z := 13) rfl (q := 139) rfl ?_
                          by_cases hc139_50 : (13 : Int32) < p1
                          · skip
                            refine o_icN X47 hx hby d10_139 (tlt hc139_50).2.2.2 (q := 142) rfl ?_
                            refine o_aloadN X47 hx hby d10_142 rfl rfl (q := 143) rfl ?_
                            refine o_aconst_null X47 hx hby d10_143 (q := 144) rfl ?_
                            have qz52 := (qz48.keep K47 (ninS nnb nin0))
                            have qz53 := (Nat.le_trans qz49 K47.1)
                            obtain ⟨cq51, kq51, q51a, q51b, q51c⟩ := isOf hZ rfl E47
                            obtain ⟨_, _, ⟨T51, L51, k51, n51⟩, -, X51, ⟨Lc51, hQ51, l51, y51, z51⟩, st51⟩ := X47.virtualBack hx (y := mn_13) (z := mn_13) hown (mvT hZ (w_ hw 136 rfl)) (mvT hZ (w_ hw 137 rfl)) (notFace_of_selects (args := #[]) (mvT hZ (w_ hw 139 rfl))) (mvT hZ (w_ hw 139 rfl)) (mvT hZ (w_ hw 138 rfl)) (by decide) (backOf (W := 0) (rm19s l Z a0 hw [] o0 nb k (13 : Int32) T47.heap n0 qz53 E47 Fn47 Fk47 Fs47 qz52 g_o0 nnb (by decide)) hZ (w_ hw 140 rfl) (w_ hw 3 rfl) (by decide) (by decide)) q51a q51c (g := (mkF m 144 #[rv o0, iv p1] [.null, .ref o0])) rfl (by rw [hml]; rfl) (Steps.refl _) (argsL := [.null]) (rest := []) (lenOf pd_6 rfl) rfl (by show 2 * 0 + _ ≤ _; exact Nat.le_of_eq rfl) (hb hby d10_144) (fun _ _ => ⟨rfl, rfl, (by decide : 0 + 0 ≤ _), (by decide : 0 + 0 ≤ _)⟩)
                            dsimp only [Pt.U, Pt.locs, Pt.cells, Pt.slots] at X51 l51 y51 z51 st51 hQ51
                            subst l51 y51 z51
                            obtain ⟨rfl, N51q, K51, E51, Fn51, Fk51, Fs51⟩ := hQ51
                            have N51 := Fr.app N47 N51q
                            refine own_of (fun _ k => st51.trans k) ?_
                            show own_Out p e below _ (T51.setTop (mkF m 147 #[rv o0, iv p1] []))
                            refine o_iloadN X51 hx hby d10_147 rfl (q := 148) rfl ?_
                            refine o_bipush X51 hx hby d10_148 (z := 14) rfl (q := 150) rfl ?_
                            by_cases hc150_54 : (14 : Int32) < p1
                            · skip
                              refine o_icN X51 hx hby d10_150 (tlt hc150_54).2.2.2 (q := 153) rfl ?_
                              refine o_aloadN X51 hx hby d10_153 rfl rfl (q := 154) rfl ?_
                              refine o_aconst_null X51 hx hby d10_154 (q := 155) rfl ?_
                              have qz56 := (qz52.keep K51 (ninS nnb nin0))
                              have qz57 := (Nat.le_trans qz53 K51.1)
                              obtain ⟨cq55, kq55, q55a, q55b, q55c⟩ := isOf hZ rfl E51
                              obtain ⟨_, _, ⟨T55, L55, k55, n55⟩, -, X55, ⟨Lc55, hQ55, l55, y55, z55⟩, st55⟩ := X51.virtualBack hx (y := mn_13) (z := mn_13) hown (mvT hZ (w_ hw 136 rfl)) (mvT hZ (w_ hw 137 rfl)) (notFace_of_selects (args := #[]) (mvT hZ (w_ hw 139 rfl))) (mvT hZ (w_ hw 139 rfl)) (mvT hZ (w_ hw 138 rfl)) (by decide) (backOf (W := 0) (rm19s l Z a0 hw [] o0 nb k (14 : Int32) T51.heap n0 qz57 E51 Fn51 Fk51 Fs51 qz56 g_o0 nnb (by decide)) hZ (w_ hw 140 rfl) (w_ hw 3 rfl) (by decide) (by decide)) q55a q55c (g := (mkF m 155 #[rv o0, iv p1] [.null, .ref o0])) rfl (by rw [hml]; rfl) (Steps.refl _) (argsL := [.null]) (rest := []) (lenOf pd_6 rfl) rfl (by show 2 * 0 + _ ≤ _; exact Nat.le_of_eq rfl) (hb hby d10_155) (fun _ _ => ⟨rfl, rfl, (by decide : 0 + 0 ≤ _), (by decide : 0 + 0 ≤ _)⟩)
                              dsimp only [Pt.U, Pt.locs, Pt.cells, Pt.slots] at X55 l55 y55 z55 st55 hQ55
                              subst l55 y55 z55
                              obtain ⟨rfl, N55q, K55, E55, Fn55, Fk55, Fs55⟩ := hQ55
                              have N55 := Fr.app N51 N55q
                              refine own_of (fun _ k => st55.trans k) ?_
                              show own_Out p e below _ (T55.setTop (mkF m 158 #[rv o0, iv p1] []))
                              have qz58 := ((((((((((((((((Keep.refl h0 [o0]).trans K1 (allS (Or.inl (List.mem_of_getElem? (i := 0) rfl)) all0)).trans K3 (allS (Or.inl (List.mem_of_getElem? (i := 0) rfl)) all0)).trans K7 (allS (Or.inl (List.mem_of_getElem? (i := 0) rfl)) all0)).trans K11 (allS (Or.inl (List.mem_of_getElem? (i := 0) rfl)) all0)).trans K15 (allS (Or.inl (List.mem_of_getElem? (i := 0) rfl)) all0)).trans K19 (allS (Or.inl (List.mem_of_getElem? (i := 0) rfl)) all0)).trans K23 (allS (Or.inl (List.mem_of_getElem? (i := 0) rfl)) all0)).trans K27 (allS (Or.inl (List.mem_of_getElem? (i := 0) rfl)) all0)).trans K31 (allS (Or.inl (List.mem_of_getElem? (i := 0) rfl)) all0)).trans K35 (allS (Or.inl (List.mem_of_getElem? (i := 0) rfl)) all0)).trans K39 (allS (Or.inl (List.mem_of_getElem? (i := 0) rfl)) all0)).trans K43 (allS (Or.inl (List.mem_of_getElem? (i := 0) rfl)) all0)).trans K47 (allS (Or.inl (List.mem_of_getElem? (i := 0) rfl)) all0)).trans K51 (allS (Or.inl (List.mem_of_getElem? (i := 0) rfl)) all0)).trans K55 (allS (Or.inl (List.mem_of_getElem? (i := 0) rfl)) all0))
                              exact own_outV X55 hx hlk hret (hb hby d10_158) (Q := Q10z Z o0 p1 nb k h0 n0) ⟨rfl, N55, qz58, E55, Fn55, Fk55, (by rw [(own_eqk (14 : Int32) hc150_54 hp15 rfl)]; exact Fs55)⟩ (by decide) (by decide)
                            · skip
                              refine o_icY X51 hx hby d10_150 (flt hc150_54).2.2.2 (by decide) (q := 158) (by decide) ?_
                              have qz59 := (((((((((((((((Keep.refl h0 [o0]).trans K1 (allS (Or.inl (List.mem_of_getElem? (i := 0) rfl)) all0)).trans K3 (allS (Or.inl (List.mem_of_getElem? (i := 0) rfl)) all0)).trans K7 (allS (Or.inl (List.mem_of_getElem? (i := 0) rfl)) all0)).trans K11 (allS (Or.inl (List.mem_of_getElem? (i := 0) rfl)) all0)).trans K15 (allS (Or.inl (List.mem_of_getElem? (i := 0) rfl)) all0)).trans K19 (allS (Or.inl (List.mem_of_getElem? (i := 0) rfl)) all0)).trans K23 (allS (Or.inl (List.mem_of_getElem? (i := 0) rfl)) all0)).trans K27 (allS (Or.inl (List.mem_of_getElem? (i := 0) rfl)) all0)).trans K31 (allS (Or.inl (List.mem_of_getElem? (i := 0) rfl)) all0)).trans K35 (allS (Or.inl (List.mem_of_getElem? (i := 0) rfl)) all0)).trans K39 (allS (Or.inl (List.mem_of_getElem? (i := 0) rfl)) all0)).trans K43 (allS (Or.inl (List.mem_of_getElem? (i := 0) rfl)) all0)).trans K47 (allS (Or.inl (List.mem_of_getElem? (i := 0) rfl)) all0)).trans K51 (allS (Or.inl (List.mem_of_getElem? (i := 0) rfl)) all0))
                              exact own_outV X51 hx hlk hret (hb hby d10_158) (Q := Q10z Z o0 p1 nb k h0 n0) ⟨rfl, N51, qz59, E51, Fn51, Fk51, (by rw [(own_eqk (13 : Int32) hc139_50 hc150_54 rfl)]; exact Fs51)⟩ (by decide) (by decide)
                          · skip
                            refine o_icY X47 hx hby d10_139 (flt hc139_50).2.2.2 (by decide) (q := 147) (by decide) ?_
                            refine o_iloadN X47 hx hby d10_147 rfl (q := 148) rfl ?_
                            refine o_bipush X47 hx hby d10_148 (z := 14) rfl (q := 150) rfl ?_
                            refine o_icY X47 hx hby d10_150 (flt (own_T4 (own_U2 hc139_50) (by decide) : ¬ ((14 : Int32) < p1))).2.2.2 (by decide) (q := 158) (by decide) ?_
                            have qz60 := ((((((((((((((Keep.refl h0 [o0]).trans K1 (allS (Or.inl (List.mem_of_getElem? (i := 0) rfl)) all0)).trans K3 (allS (Or.inl (List.mem_of_getElem? (i := 0) rfl)) all0)).trans K7 (allS (Or.inl (List.mem_of_getElem? (i := 0) rfl)) all0)).trans K11 (allS (Or.inl (List.mem_of_getElem? (i := 0) rfl)) all0)).trans K15 (allS (Or.inl (List.mem_of_getElem? (i := 0) rfl)) all0)).trans K19 (allS (Or.inl (List.mem_of_getElem? (i := 0) rfl)) all0)).trans K23 (allS (Or.inl (List.mem_of_getElem? (i := 0) rfl)) all0)).trans K27 (allS (Or.inl (List.mem_of_getElem? (i := 0) rfl)) all0)).trans K31 (allS (Or.inl (List.mem_of_getElem? (i := 0) rfl)) all0)).trans K35 (allS (Or.inl (List.mem_of_getElem? (i := 0) rfl)) all0)).trans K39 (allS (Or.inl (List.mem_of_getElem? (i := 0) rfl)) all0)).trans K43 (allS (Or.inl (List.mem_of_getElem? (i := 0) rfl)) all0)).trans K47 (allS (Or.inl (List.mem_of_getElem? (i := 0) rfl)) all0))
                            exact own_outV X47 hx hlk hret (hb hby d10_158) (Q := Q10z Z o0 p1 nb k h0 n0) ⟨rfl, N47, qz60, E47, Fn47, Fk47, (by rw [(own_eqk (12 : Int32) hc128_46 hc139_50 rfl)]; exact Fs47)⟩ (by decide) (by decide)
                        · skip
                          refine o_icY X43 hx hby d10_128 (flt hc128_46).2.2.2 (by decide) (q := 136) (by decide) ?_
                          refine o_iloadN X43 hx hby d10_136 rfl (q := 137) rfl ?_
                          refine o_bipush X43 hx hby d10_137 (z := 13) rfl (q := 139) rfl ?_
                          refine o_icY X43 hx hby d10_139 (flt (own_T4 (own_U2 hc128_46) (by decide) : ¬ ((13 : Int32) < p1))).2.2.2 (by decide) (q := 147) (by decide) ?_
                          refine o_iloadN X43 hx hby d10_147 rfl (q := 148) rfl ?_
                          refine o_bipush X43 hx hby d10_148 (z := 14) rfl (q := 150) rfl ?_
                          refine o_icY X43 hx hby d10_150 (flt (own_T4 (own_U2 hc128_46) (by decide) : ¬ ((14 : Int32) < p1))).2.2.2 (by decide) (q := 158) (by decide) ?_
                          have qz61 := (((((((((((((Keep.refl h0 [o0]).trans K1 (allS (Or.inl (List.mem_of_getElem? (i := 0) rfl)) all0)).trans K3 (allS (Or.inl (List.mem_of_getElem? (i := 0) rfl)) all0)).trans K7 (allS (Or.inl (List.mem_of_getElem? (i := 0) rfl)) all0)).trans K11 (allS (Or.inl (List.mem_of_getElem? (i := 0) rfl)) all0)).trans K15 (allS (Or.inl (List.mem_of_getElem? (i := 0) rfl)) all0)).trans K19 (allS (Or.inl (List.mem_of_getElem? (i := 0) rfl)) all0)).trans K23 (allS (Or.inl (List.mem_of_getElem? (i := 0) rfl)) all0)).trans K27 (allS (Or.inl (List.mem_of_getElem? (i := 0) rfl)) all0)).trans K31 (allS (Or.inl (List.mem_of_getElem? (i := 0) rfl)) all0)).trans K35 (allS (Or.inl (List.mem_of_getElem? (i := 0) rfl)) all0)).trans K39 (allS (Or.inl (List.mem_of_getElem? (i := 0) rfl)) all0)).trans K43 (allS (Or.inl (List.mem_of_getElem? (i := 0) rfl)) all0))
                          exact own_outV X43 hx hlk hret (hb hby d10_158) (Q := Q10z Z o0 p1 nb k h0 n0) ⟨rfl, N43, qz61, E43, Fn43, Fk43, (by rw [(own_eqk (11 : Int32) hc117_42 hc128_46 rfl)]; exact Fs43)⟩ (by decide) (by decide)
                      · skip
                        refine o_icY X39 hx hby d10_117 (flt hc117_42).2.2.2 (by decide) (q := 125) (by decide) ?_
                        refine o_iloadN X39 hx hby d10_125 rfl (q := 126) rfl ?_
                        refine o_bipush X39 hx hby d10_126 (z := 12) rfl (q := 128) rfl ?_
                        refine o_icY X39 hx hby d10_128 (flt (own_T4 (own_U2 hc117_42) (by decide) : ¬ ((12 : Int32) < p1))).2.2.2 (by decide) (q := 136) (by decide) ?_
                        refine o_iloadN X39 hx hby d10_136 rfl (q := 137) rfl ?_
                        refine o_bipush X39 hx hby d10_137 (z := 13) rfl (q := 139) rfl ?_
                        refine o_icY X39 hx hby d10_139 (flt (own_T4 (own_U2 hc117_42) (by decide) : ¬ ((13 : Int32) < p1))).2.2.2 (by decide) (q := 147) (by decide) ?_
                        refine o_iloadN X39 hx hby d10_147 rfl (q := 148) rfl ?_
                        refine o_bipush X39 hx hby d10_148 (z := 14) rfl (q := 150) rfl ?_
                        refine o_icY X39 hx hby d10_150 (flt (own_T4 (own_U2 hc117_42) (by decide) : ¬ ((14 : Int32) < p1))).2.2.2 (by decide) (q := 158) (by decide) ?_
                        have qz62 := ((((((((((((Keep.refl h0 [o0]).trans K1 (allS (Or.inl (List.mem_of_getElem? (i := 0) rfl)) all0)).trans K3 (allS (Or.inl (List.mem_of_getElem? (i := 0) rfl)) all0)).trans K7 (allS (Or.inl (List.mem_of_getElem? (i := 0) rfl)) all0)).trans K11 (allS (Or.inl (List.mem_of_getElem? (i := 0) rfl)) all0)).trans K15 (allS (Or.inl (List.mem_of_getElem? (i := 0) rfl)) all0)).trans K19 (allS (Or.inl (List.mem_of_getElem? (i := 0) rfl)) all0)).trans K23 (allS (Or.inl (List.mem_of_getElem? (i := 0) rfl)) all0)).trans K27 (allS (Or.inl (List.mem_of_getElem? (i := 0) rfl)) all0)).trans K31 (allS (Or.inl (List.mem_of_getElem? (i := 0) rfl)) all0)).trans K35 (allS (Or.inl (List.mem_of_getElem? (i := 0) rfl)) all0)).trans K39 (allS (Or.inl (List.mem_of_getElem? (i := 0) rfl)) all0))
                        exact own_outV X39 hx hlk hret (hb hby d10_158) (Q := Q10z Z o0 p1 nb k h0 n0) ⟨rfl, N39, qz62, E39, Fn39, Fk39, (by rw [(own_eqk (10 : Int32) hc106_38 hc117_42 rfl)]; exact Fs39)⟩ (by decide) (by decide)
                    · skip
                      refine o_icY X35 hx hby d10_106 (flt hc106_38).2.2.2 (by decide) (q := 114) (by decide) ?_
                      refine o_iloadN X35 hx hby d10_114 rfl (q := 115) rfl ?_
                      refine o_bipush X35 hx hby d10_115 (z := 11) rfl (q := 117) rfl ?_
                      refine o_icY X35 hx hby d10_117 (flt (own_T4 (own_U2 hc106_38) (by decide) : ¬ ((11 : Int32) < p1))).2.2.2 (by decide) (q := 125) (by decide) ?_
                      refine o_iloadN X35 hx hby d10_125 rfl (q := 126) rfl ?_
                      refine o_bipush X35 hx hby d10_126 (z := 12) rfl (q := 128) rfl ?_
                      refine o_icY X35 hx hby d10_128 (flt (own_T4 (own_U2 hc106_38) (by decide) : ¬ ((12 : Int32) < p1))).2.2.2 (by decide) (q := 136) (by decide) ?_
                      refine o_iloadN X35 hx hby d10_136 rfl (q := 137) rfl ?_
                      refine o_bipush X35 hx hby d10_137 (z := 13) rfl (q := 139) rfl ?_
                      refine o_icY X35 hx hby d10_139 (flt (own_T4 (own_U2 hc106_38) (by decide) : ¬ ((13 : Int32) < p1))).2.2.2 (by decide) (q := 147) (by decide) ?_
                      refine o_iloadN X35 hx hby d10_147 rfl (q := 148) rfl ?_
                      refine o_bipush X35 hx hby d10_148 (z := 14) rfl (q := 150) rfl ?_
                      refine o_icY X35 hx hby d10_150 (flt (own_T4 (own_U2 hc106_38) (by decide) : ¬ ((14 : Int32) < p1))).2.2.2 (by decide) (q := 158) (by decide) ?_
                      have qz63 := (((((((((((Keep.refl h0 [o0]).trans K1 (allS (Or.inl (List.mem_of_getElem? (i := 0) rfl)) all0)).trans K3 (allS (Or.inl (List.mem_of_getElem? (i := 0) rfl)) all0)).trans K7 (allS (Or.inl (List.mem_of_getElem? (i := 0) rfl)) all0)).trans K11 (allS (Or.inl (List.mem_of_getElem? (i := 0) rfl)) all0)).trans K15 (allS (Or.inl (List.mem_of_getElem? (i := 0) rfl)) all0)).trans K19 (allS (Or.inl (List.mem_of_getElem? (i := 0) rfl)) all0)).trans K23 (allS (Or.inl (List.mem_of_getElem? (i := 0) rfl)) all0)).trans K27 (allS (Or.inl (List.mem_of_getElem? (i := 0) rfl)) all0)).trans K31 (allS (Or.inl (List.mem_of_getElem? (i := 0) rfl)) all0)).trans K35 (allS (Or.inl (List.mem_of_getElem? (i := 0) rfl)) all0))
                      exact own_outV X35 hx hlk hret (hb hby d10_158) (Q := Q10z Z o0 p1 nb k h0 n0) ⟨rfl, N35, qz63, E35, Fn35, Fk35, (by rw [(own_eqk (9 : Int32) hc95_34 hc106_38 rfl)]; exact Fs35)⟩ (by decide) (by decide)
                  · skip
                    refine o_icY X31 hx hby d10_95 (flt hc95_34).2.2.2 (by decide) (q := 103) (by decide) ?_
                    refine o_iloadN X31 hx hby d10_103 rfl (q := 104) rfl ?_
                    refine o_bipush X31 hx hby d10_104 (z := 10) rfl (q := 106) rfl ?_
                    refine o_icY X31 hx hby d10_106 (flt (own_T4 (own_U2 hc95_34) (by decide) : ¬ ((10 : Int32) < p1))).2.2.2 (by decide) (q := 114) (by decide) ?_
                    refine o_iloadN X31 hx hby d10_114 rfl (q := 115) rfl ?_
                    refine o_bipush X31 hx hby d10_115 (z := 11) rfl (q := 117) rfl ?_
                    refine o_icY X31 hx hby d10_117 (flt (own_T4 (own_U2 hc95_34) (by decide) : ¬ ((11 : Int32) < p1))).2.2.2 (by decide) (q := 125) (by decide) ?_
                    refine o_iloadN X31 hx hby d10_125 rfl (q := 126) rfl ?_
                    refine o_bipush X31 hx hby d10_126 (z := 12) rfl (q := 128) rfl ?_
                    refine o_icY X31 hx hby d10_128 (flt (own_T4 (own_U2 hc95_34) (by decide) : ¬ ((12 : Int32) < p1))).2.2.2 (by decide) (q := 136) (by decide) ?_
                    refine o_iloadN X31 hx hby d10_136 rfl (q := 137) rfl ?_
                    refine o_bipush X31 hx hby d10_137 (z := 13) rfl (q := 139) rfl ?_
                    refine o_icY X31 hx hby d10_139 (flt (own_T4 (own_U2 hc95_34) (by decide) : ¬ ((13 : Int32) < p1))).2.2.2 (by decide) (q := 147) (by decide) ?_
                    refine o_iloadN X31 hx hby d10_147 rfl (q := 148) rfl ?_
                    refine o_bipush X31 hx hby d10_148 (z := 14) rfl (q := 150) rfl ?_
                    refine o_icY X31 hx hby d10_150 (flt (own_T4 (own_U2 hc95_34) (by decide) : ¬ ((14 : Int32) < p1))).2.2.2 (by decide) (q := 158) (by decide) ?_
                    have qz64 := ((((((((((Keep.refl h0 [o0]).trans K1 (allS (Or.inl (List.mem_of_getElem? (i := 0) rfl)) all0)).trans K3 (allS (Or.inl (List.mem_of_getElem? (i := 0) rfl)) all0)).trans K7 (allS (Or.inl (List.mem_of_getElem? (i := 0) rfl)) all0)).trans K11 (allS (Or.inl (List.mem_of_getElem? (i := 0) rfl)) all0)).trans K15 (allS (Or.inl (List.mem_of_getElem? (i := 0) rfl)) all0)).trans K19 (allS (Or.inl (List.mem_of_getElem? (i := 0) rfl)) all0)).trans K23 (allS (Or.inl (List.mem_of_getElem? (i := 0) rfl)) all0)).trans K27 (allS (Or.inl (List.mem_of_getElem? (i := 0) rfl)) all0)).trans K31 (allS (Or.inl (List.mem_of_getElem? (i := 0) rfl)) all0))
                    exact own_outV X31 hx hlk hret (hb hby d10_158) (Q := Q10z Z o0 p1 nb k h0 n0) ⟨rfl, N31, qz64, E31, Fn31, Fk31, (by rw [(own_eqk (8 : Int32) hc84_30 hc95_34 rfl)]; exact Fs31)⟩ (by decide) (by decide)
                · skip
                  refine o_icY X27 hx hby d10_84 (flt hc84_30).2.2.2 (by decide) (q := 92) (by decide) ?_
                  refine o_iloadN X27 hx hby d10_92 rfl (q := 93) rfl ?_
                  refine o_bipush X27 hx hby d10_93 (z := 9) rfl (q := 95) rfl ?_
                  refine o_icY X27 hx hby d10_95 (flt (own_T4 (own_U2 hc84_30) (by decide) : ¬ ((9 : Int32) < p1))).2.2.2 (by decide) (q := 103) (by decide) ?_
                  refine o_iloadN X27 hx hby d10_103 rfl (q := 104) rfl ?_
                  refine o_bipush X27 hx hby d10_104 (z := 10) rfl (q := 106) rfl ?_
                  refine o_icY X27 hx hby d10_106 (flt (own_T4 (own_U2 hc84_30) (by decide) : ¬ ((10 : Int32) < p1))).2.2.2 (by decide) (q := 114) (by decide) ?_
                  refine o_iloadN X27 hx hby d10_114 rfl (q := 115) rfl ?_
                  refine o_bipush X27 hx hby d10_115 (z := 11) rfl (q := 117) rfl ?_
                  refine o_icY X27 hx hby d10_117 (flt (own_T4 (own_U2 hc84_30) (by decide) : ¬ ((11 : Int32) < p1))).2.2.2 (by decide) (q := 125) (by decide) ?_
                  refine o_iloadN X27 hx hby d10_125 rfl (q := 126) rfl ?_
                  refine o_bipush X27 hx hby d10_126 (z := 12) rfl (q := 128) rfl ?_
                  refine o_icY X27 hx hby d10_128 (flt (own_T4 (own_U2 hc84_30) (by decide) : ¬ ((12 : Int32) < p1))).2.2.2 (by decide) (q := 136) (by decide) ?_
                  refine o_iloadN X27 hx hby d10_136 rfl (q := 137) rfl ?_
                  refine o_bipush X27 hx hby d10_137 (z := 13) rfl (q := 139) rfl ?_
                  refine o_icY X27 hx hby d10_139 (flt (own_T4 (own_U2 hc84_30) (by decide) : ¬ ((13 : Int32) < p1))).2.2.2 (by decide) (q := 147) (by decide) ?_
                  refine o_iloadN X27 hx hby d10_147 rfl (q := 148) rfl ?_
                  refine o_bipush X27 hx hby d10_148 (z := 14) rfl (q := 150) rfl ?_
                  refine o_icY X27 hx hby d10_150 (flt (own_T4 (own_U2 hc84_30) (by decide) : ¬ ((14 : Int32) < p1))).2.2.2 (by decide) (q := 158) (by decide) ?_
                  have qz65 := (((((((((Keep.refl h0 [o0]).trans K1 (allS (Or.inl (List.mem_of_getElem? (i := 0) rfl)) all0)).trans K3 (allS (Or.inl (List.mem_of_getElem? (i := 0) rfl)) all0)).trans K7 (allS (Or.inl (List.mem_of_getElem? (i := 0) rfl)) all0)).trans K11 (allS (Or.inl (List.mem_of_getElem? (i := 0) rfl)) all0)).trans K15 (allS (Or.inl (List.mem_of_getElem? (i := 0) rfl)) all0)).trans K19 (allS (Or.inl (List.mem_of_getElem? (i := 0) rfl)) all0)).trans K23 (allS (Or.inl (List.mem_of_getElem? (i := 0) rfl)) all0)).trans K27 (allS (Or.inl (List.mem_of_getElem? (i := 0) rfl)) all0))
                  exact own_outV X27 hx hlk hret (hb hby d10_158) (Q := Q10z Z o0 p1 nb k h0 n0) ⟨rfl, N27, qz65, E27, Fn27, Fk27, (by rw [(own_eqk (7 : Int32) hc73_26 hc84_30 rfl)]; exact Fs27)⟩ (by decide) (by decide)
              · skip
                refine o_icY X23 hx hby d10_73 (flt hc73_26).2.2.2 (by decide) (q := 81) (by decide) ?_
                refine o_iloadN X23 hx hby d10_81 rfl (q := 82) rfl ?_
                refine o_bipush X23 hx hby d10_82 (z := 8) rfl (q := 84) rfl ?_
                refine o_icY X23 hx hby d10_84 (flt (own_T4 (own_U2 hc73_26) (by decide) : ¬ ((8 : Int32) < p1))).2.2.2 (by decide) (q := 92) (by decide) ?_
                refine o_iloadN X23 hx hby d10_92 rfl (q := 93) rfl ?_
                refine o_bipush X23 hx hby d10_93 (z := 9) rfl (q := 95) rfl ?_
                refine o_icY X23 hx hby d10_95 (flt (own_T4 (own_U2 hc73_26) (by decide) : ¬ ((9 : Int32) < p1))).2.2.2 (by decide) (q := 103) (by decide) ?_
                refine o_iloadN X23 hx hby d10_103 rfl (q := 104) rfl ?_
                refine o_bipush X23 hx hby d10_104 (z := 10) rfl (q := 106) rfl ?_
                refine o_icY X23 hx hby d10_106 (flt (own_T4 (own_U2 hc73_26) (by decide) : ¬ ((10 : Int32) < p1))).2.2.2 (by decide) (q := 114) (by decide) ?_
                refine o_iloadN X23 hx hby d10_114 rfl (q := 115) rfl ?_
                refine o_bipush X23 hx hby d10_115 (z := 11) rfl (q := 117) rfl ?_
                refine o_icY X23 hx hby d10_117 (flt (own_T4 (own_U2 hc73_26) (by decide) : ¬ ((11 : Int32) < p1))).2.2.2 (by decide) (q := 125) (by decide) ?_
                refine o_iloadN X23 hx hby d10_125 rfl (q := 126) rfl ?_
                refine o_bipush X23 hx hby d10_126 (z := 12) rfl (q := 128) rfl ?_
                refine o_icY X23 hx hby d10_128 (flt (own_T4 (own_U2 hc73_26) (by decide) : ¬ ((12 : Int32) < p1))).2.2.2 (by decide) (q := 136) (by decide) ?_
                refine o_iloadN X23 hx hby d10_136 rfl (q := 137) rfl ?_
                refine o_bipush X23 hx hby d10_137 (z := 13) rfl (q := 139) rfl ?_
                refine o_icY X23 hx hby d10_139 (flt (own_T4 (own_U2 hc73_26) (by decide) : ¬ ((13 : Int32) < p1))).2.2.2 (by decide) (q := 147) (by decide) ?_
                refine o_iloadN X23 hx hby d10_147 rfl (q := 148) rfl ?_
                refine o_bipush X23 hx hby d10_148 (z := 14) rfl (q := 150) rfl ?_
                refine o_icY X23 hx hby d10_150 (flt (own_T4 (own_U2 hc73_26) (by decide) : ¬ ((14 : Int32) < p1))).2.2.2 (by decide) (q := 158) (by decide) ?_
                have qz66 := ((((((((Keep.refl h0 [o0]).trans K1 (allS (Or.inl (List.mem_of_getElem? (i := 0) rfl)) all0)).trans K3 (allS (Or.inl (List.mem_of_getElem? (i := 0) rfl)) all0)).trans K7 (allS (Or.inl (List.mem_of_getElem? (i := 0) rfl)) all0)).trans K11 (allS (Or.inl (List.mem_of_getElem? (i := 0) rfl)) all0)).trans K15 (allS (Or.inl (List.mem_of_getElem? (i := 0) rfl)) all0)).trans K19 (allS (Or.inl (List.mem_of_getElem? (i := 0) rfl)) all0)).trans K23 (allS (Or.inl (List.mem_of_getElem? (i := 0) rfl)) all0))
                exact own_outV X23 hx hlk hret (hb hby d10_158) (Q := Q10z Z o0 p1 nb k h0 n0) ⟨rfl, N23, qz66, E23, Fn23, Fk23, (by rw [(own_eqk (6 : Int32) hc62_22 hc73_26 rfl)]; exact Fs23)⟩ (by decide) (by decide)
            · skip
              refine o_icY X19 hx hby d10_62 (flt hc62_22).2.2.2 (by decide) (q := 70) (by decide) ?_
              refine o_iloadN X19 hx hby d10_70 rfl (q := 71) rfl ?_
              refine o_bipush X19 hx hby d10_71 (z := 7) rfl (q := 73) rfl ?_
              refine o_icY X19 hx hby d10_73 (flt (own_T4 (own_U2 hc62_22) (by decide) : ¬ ((7 : Int32) < p1))).2.2.2 (by decide) (q := 81) (by decide) ?_
              refine o_iloadN X19 hx hby d10_81 rfl (q := 82) rfl ?_
              refine o_bipush X19 hx hby d10_82 (z := 8) rfl (q := 84) rfl ?_
              refine o_icY X19 hx hby d10_84 (flt (own_T4 (own_U2 hc62_22) (by decide) : ¬ ((8 : Int32) < p1))).2.2.2 (by decide) (q := 92) (by decide) ?_
              refine o_iloadN X19 hx hby d10_92 rfl (q := 93) rfl ?_
              refine o_bipush X19 hx hby d10_93 (z := 9) rfl (q := 95) rfl ?_
              refine o_icY X19 hx hby d10_95 (flt (own_T4 (own_U2 hc62_22) (by decide) : ¬ ((9 : Int32) < p1))).2.2.2 (by decide) (q := 103) (by decide) ?_
              refine o_iloadN X19 hx hby d10_103 rfl (q := 104) rfl ?_
              refine o_bipush X19 hx hby d10_104 (z := 10) rfl (q := 106) rfl ?_
              refine o_icY X19 hx hby d10_106 (flt (own_T4 (own_U2 hc62_22) (by decide) : ¬ ((10 : Int32) < p1))).2.2.2 (by decide) (q := 114) (by decide) ?_
              refine o_iloadN X19 hx hby d10_114 rfl (q := 115) rfl ?_
              refine o_bipush X19 hx hby d10_115 (z := 11) rfl (q := 117) rfl ?_
              refine o_icY X19 hx hby d10_117 (flt (own_T4 (own_U2 hc62_22) (by decide) : ¬ ((11 : Int32) < p1))).2.2.2 (by decide) (q := 125) (by decide) ?_
              refine o_iloadN X19 hx hby d10_125 rfl (q := 126) rfl ?_
              refine o_bipush X19 hx hby d10_126 (z := 12) rfl (q := 128) rfl ?_
              refine o_icY X19 hx hby d10_128 (flt (own_T4 (own_U2 hc62_22) (by decide) : ¬ ((12 : Int32) < p1))).2.2.2 (by decide) (q := 136) (by decide) ?_
              refine o_iloadN X19 hx hby d10_136 rfl (q := 137) rfl ?_
              refine o_bipush X19 hx hby d10_137 (z := 13) rfl (q := 139) rfl ?_
              refine o_icY X19 hx hby d10_139 (flt (own_T4 (own_U2 hc62_22) (by decide) : ¬ ((13 : Int32) < p1))).2.2.2 (by decide) (q := 147) (by decide) ?_
              refine o_iloadN X19 hx hby d10_147 rfl (q := 148) rfl ?_
              refine o_bipush X19 hx hby d10_148 (z := 14) rfl (q := 150) rfl ?_
              refine o_icY X19 hx hby d10_150 (flt (own_T4 (own_U2 hc62_22) (by decide) : ¬ ((14 : Int32) < p1))).2.2.2 (by decide) (q := 158) (by decide) ?_
              have qz67 := (((((((Keep.refl h0 [o0]).trans K1 (allS (Or.inl (List.mem_of_getElem? (i := 0) rfl)) all0)).trans K3 (allS (Or.inl (List.mem_of_getElem? (i := 0) rfl)) all0)).trans K7 (allS (Or.inl (List.mem_of_getElem? (i := 0) rfl)) all0)).trans K11 (allS (Or.inl (List.mem_of_getElem? (i := 0) rfl)) all0)).trans K15 (allS (Or.inl (List.mem_of_getElem? (i := 0) rfl)) all0)).trans K19 (allS (Or.inl (List.mem_of_getElem? (i := 0) rfl)) all0))
              exact own_outV X19 hx hlk hret (hb hby d10_158) (Q := Q10z Z o0 p1 nb k h0 n0) ⟨rfl, N19, qz67, E19, Fn19, Fk19, (by rw [(own_eqk (5 : Int32) hc51_18 hc62_22 rfl)]; exact Fs19)⟩ (by decide) (by decide)
          · skip
            refine o_icY X15 hx hby d10_51 (flt hc51_18).2.2.2 (by decide) (q := 59) (by decide) ?_
            refine o_iloadN X15 hx hby d10_59 rfl (q := 60) rfl ?_
            refine o_bipush X15 hx hby d10_60 (z := 6) rfl (q := 62) rfl ?_
            refine o_icY X15 hx hby d10_62 (flt (own_T4 (own_U2 hc51_18) (by decide) : ¬ ((6 : Int32) < p1))).2.2.2 (by decide) (q := 70) (by decide) ?_
            refine o_iloadN X15 hx hby d10_70 rfl (q := 71) rfl ?_
            refine o_bipush X15 hx hby d10_71 (z := 7) rfl (q := 73) rfl ?_
            refine o_icY X15 hx hby d10_73 (flt (own_T4 (own_U2 hc51_18) (by decide) : ¬ ((7 : Int32) < p1))).2.2.2 (by decide) (q := 81) (by decide) ?_
            refine o_iloadN X15 hx hby d10_81 rfl (q := 82) rfl ?_
            refine o_bipush X15 hx hby d10_82 (z := 8) rfl (q := 84) rfl ?_
            refine o_icY X15 hx hby d10_84 (flt (own_T4 (own_U2 hc51_18) (by decide) : ¬ ((8 : Int32) < p1))).2.2.2 (by decide) (q := 92) (by decide) ?_
            refine o_iloadN X15 hx hby d10_92 rfl (q := 93) rfl ?_
            refine o_bipush X15 hx hby d10_93 (z := 9) rfl (q := 95) rfl ?_
            refine o_icY X15 hx hby d10_95 (flt (own_T4 (own_U2 hc51_18) (by decide) : ¬ ((9 : Int32) < p1))).2.2.2 (by decide) (q := 103) (by decide) ?_
            refine o_iloadN X15 hx hby d10_103 rfl (q := 104) rfl ?_
            refine o_bipush X15 hx hby d10_104 (z := 10) rfl (q := 106) rfl ?_
            refine o_icY X15 hx hby d10_106 (flt (own_T4 (own_U2 hc51_18) (by decide) : ¬ ((10 : Int32) < p1))).2.2.2 (by decide) (q := 114) (by decide) ?_
            refine o_iloadN X15 hx hby d10_114 rfl (q := 115) rfl ?_
            refine o_bipush X15 hx hby d10_115 (z := 11) rfl (q := 117) rfl ?_
            refine o_icY X15 hx hby d10_117 (flt (own_T4 (own_U2 hc51_18) (by decide) : ¬ ((11 : Int32) < p1))).2.2.2 (by decide) (q := 125) (by decide) ?_
            refine o_iloadN X15 hx hby d10_125 rfl (q := 126) rfl ?_
            refine o_bipush X15 hx hby d10_126 (z := 12) rfl (q := 128) rfl ?_
            refine o_icY X15 hx hby d10_128 (flt (own_T4 (own_U2 hc51_18) (by decide) : ¬ ((12 : Int32) < p1))).2.2.2 (by decide) (q := 136) (by decide) ?_
            refine o_iloadN X15 hx hby d10_136 rfl (q := 137) rfl ?_
            refine o_bipush X15 hx hby d10_137 (z := 13) rfl (q := 139) rfl ?_
            refine o_icY X15 hx hby d10_139 (flt (own_T4 (own_U2 hc51_18) (by decide) : ¬ ((13 : Int32) < p1))).2.2.2 (by decide) (q := 147) (by decide) ?_
            refine o_iloadN X15 hx hby d10_147 rfl (q := 148) rfl ?_
            refine o_bipush X15 hx hby d10_148 (z := 14) rfl (q := 150) rfl ?_
            refine o_icY X15 hx hby d10_150 (flt (own_T4 (own_U2 hc51_18) (by decide) : ¬ ((14 : Int32) < p1))).2.2.2 (by decide) (q := 158) (by decide) ?_
            have qz68 := ((((((Keep.refl h0 [o0]).trans K1 (allS (Or.inl (List.mem_of_getElem? (i := 0) rfl)) all0)).trans K3 (allS (Or.inl (List.mem_of_getElem? (i := 0) rfl)) all0)).trans K7 (allS (Or.inl (List.mem_of_getElem? (i := 0) rfl)) all0)).trans K11 (allS (Or.inl (List.mem_of_getElem? (i := 0) rfl)) all0)).trans K15 (allS (Or.inl (List.mem_of_getElem? (i := 0) rfl)) all0))
            exact own_outV X15 hx hlk hret (hb hby d10_158) (Q := Q10z Z o0 p1 nb k h0 n0) ⟨rfl, N15, qz68, E15, Fn15, Fk15, (by rw [(own_eqk (4 : Int32) hc41_14 hc51_18 rfl)]; exact Fs15)⟩ (by decide) (by decide)
        · skip
          refine o_icY X11 hx hby d10_41 (flt hc41_14).2.2.2 (by decide) (q := 49) (by decide) ?_
          refine o_iloadN X11 hx hby d10_49 rfl (q := 50) rfl ?_
          refine o_iconst X11 hx hby d10_50 (z := 5) rfl (q := 51) rfl ?_
          refine o_icY X11 hx hby d10_51 (flt (own_T4 (own_U2 hc41_14) (by decide) : ¬ ((5 : Int32) < p1))).2.2.2 (by decide) (q := 59) (by decide) ?_
          refine o_iloadN X11 hx hby d10_59 rfl (q := 60) rfl ?_
          refine o_bipush X11 hx hby d10_60 (z := 6) rfl (q := 62) rfl ?_
          refine o_icY X11 hx hby d10_62 (flt (own_T4 (own_U2 hc41_14) (by decide) : ¬ ((6 : Int32) < p1))).2.2.2 (by decide) (q := 70) (by decide) ?_
          refine o_iloadN X11 hx hby d10_70 rfl (q := 71) rfl ?_
          refine o_bipush X11 hx hby d10_71 (z := 7) rfl (q := 73) rfl ?_
          refine o_icY X11 hx hby d10_73 (flt (own_T4 (own_U2 hc41_14) (by decide) : ¬ ((7 : Int32) < p1))).2.2.2 (by decide) (q := 81) (by decide) ?_
          refine o_iloadN X11 hx hby d10_81 rfl (q := 82) rfl ?_
          refine o_bipush X11 hx hby d10_82 (z := 8) rfl (q := 84) rfl ?_
          refine o_icY X11 hx hby d10_84 (flt (own_T4 (own_U2 hc41_14) (by decide) : ¬ ((8 : Int32) < p1))).2.2.2 (by decide) (q := 92) (by decide) ?_
          refine o_iloadN X11 hx hby d10_92 rfl (q := 93) rfl ?_
          refine o_bipush X11 hx hby d10_93 (z := 9) rfl (q := 95) rfl ?_
          refine o_icY X11 hx hby d10_95 (flt (own_T4 (own_U2 hc41_14) (by decide) : ¬ ((9 : Int32) < p1))).2.2.2 (by decide) (q := 103) (by decide) ?_
          refine o_iloadN X11 hx hby d10_103 rfl (q := 104) rfl ?_
          refine o_bipush X11 hx hby d10_104 (z := 10) rfl (q := 106) rfl ?_
          refine o_icY X11 hx hby d10_106 (flt (own_T4 (own_U2 hc41_14) (by decide) : ¬ ((10 : Int32) < p1))).2.2.2 (by decide) (q := 114) (by decide) ?_
          refine o_iloadN X11 hx hby d10_114 rfl (q := 115) rfl ?_
          refine o_bipush X11 hx hby d10_115 (z := 11) rfl (q := 117) rfl ?_
          refine o_icY X11 hx hby d10_117 (flt (own_T4 (own_U2 hc41_14) (by decide) : ¬ ((11 : Int32) < p1))).2.2.2 (by decide) (q := 125) (by decide) ?_
          refine o_iloadN X11 hx hby d10_125 rfl (q := 126) rfl ?_
          refine o_bipush X11 hx hby d10_126 (z := 12) rfl (q := 128) rfl ?_
          refine o_icY X11 hx hby d10_128 (flt (own_T4 (own_U2 hc41_14) (by decide) : ¬ ((12 : Int32) < p1))).2.2.2 (by decide) (q := 136) (by decide) ?_
          refine o_iloadN X11 hx hby d10_136 rfl (q := 137) rfl ?_
          refine o_bipush X11 hx hby d10_137 (z := 13) rfl (q := 139) rfl ?_
          refine o_icY X11 hx hby d10_139 (flt (own_T4 (own_U2 hc41_14) (by decide) : ¬ ((13 : Int32) < p1))).2.2.2 (by decide) (q := 147) (by decide) ?_
          refine o_iloadN X11 hx hby d10_147 rfl (q := 148) rfl ?_
          refine o_bipush X11 hx hby d10_148 (z := 14) rfl (q := 150) rfl ?_
          refine o_icY X11 hx hby d10_150 (flt (own_T4 (own_U2 hc41_14) (by decide) : ¬ ((14 : Int32) < p1))).2.2.2 (by decide) (q := 158) (by decide) ?_
          have qz69 := (((((Keep.refl h0 [o0]).trans K1 (allS (Or.inl (List.mem_of_getElem? (i := 0) rfl)) all0)).trans K3 (allS (Or.inl (List.mem_of_getElem? (i := 0) rfl)) all0)).trans K7 (allS (Or.inl (List.mem_of_getElem? (i := 0) rfl)) all0)).trans K11 (allS (Or.inl (List.mem_of_getElem? (i := 0) rfl)) all0))
          exact own_outV X11 hx hlk hret (hb hby d10_158) (Q := Q10z Z o0 p1 nb k h0 n0) ⟨rfl, N11, qz69, E11, Fn11, Fk11, (by rw [(own_eqk (3 : Int32) hc31_10 hc41_14 rfl)]; exact Fs11)⟩ (by decide) (by decide)
      · skip
        refine o_icY X7 hx hby d10_31 (flt hc31_10).2.2.2 (by decide) (q := 39) (by decide) ?_
        refine o_iloadN X7 hx hby d10_39 rfl (q := 40) rfl ?_
        refine o_iconst X7 hx hby d10_40 (z := 4) rfl (q := 41) rfl ?_
        refine o_icY X7 hx hby d10_41 (flt (own_T4 (own_U2 hc31_10) (by decide) : ¬ ((4 : Int32) < p1))).2.2.2 (by decide) (q := 49) (by decide) ?_
        refine o_iloadN X7 hx hby d10_49 rfl (q := 50) rfl ?_
        refine o_iconst X7 hx hby d10_50 (z := 5) rfl (q := 51) rfl ?_
        refine o_icY X7 hx hby d10_51 (flt (own_T4 (own_U2 hc31_10) (by decide) : ¬ ((5 : Int32) < p1))).2.2.2 (by decide) (q := 59) (by decide) ?_
        refine o_iloadN X7 hx hby d10_59 rfl (q := 60) rfl ?_
        refine o_bipush X7 hx hby d10_60 (z := 6) rfl (q := 62) rfl ?_
        refine o_icY X7 hx hby d10_62 (flt (own_T4 (own_U2 hc31_10) (by decide) : ¬ ((6 : Int32) < p1))).2.2.2 (by decide) (q := 70) (by decide) ?_
        refine o_iloadN X7 hx hby d10_70 rfl (q := 71) rfl ?_
        refine o_bipush X7 hx hby d10_71 (z := 7) rfl (q := 73) rfl ?_
        refine o_icY X7 hx hby d10_73 (flt (own_T4 (own_U2 hc31_10) (by decide) : ¬ ((7 : Int32) < p1))).2.2.2 (by decide) (q := 81) (by decide) ?_
        refine o_iloadN X7 hx hby d10_81 rfl (q := 82) rfl ?_
        refine o_bipush X7 hx hby d10_82 (z := 8) rfl (q := 84) rfl ?_
        refine o_icY X7 hx hby d10_84 (flt (own_T4 (own_U2 hc31_10) (by decide) : ¬ ((8 : Int32) < p1))).2.2.2 (by decide) (q := 92) (by decide) ?_
        refine o_iloadN X7 hx hby d10_92 rfl (q := 93) rfl ?_
        refine o_bipush X7 hx hby d10_93 (z := 9) rfl (q := 95) rfl ?_
        refine o_icY X7 hx hby d10_95 (flt (own_T4 (own_U2 hc31_10) (by decide) : ¬ ((9 : Int32) < p1))).2.2.2 (by decide) (q := 103) (by decide) ?_
        refine o_iloadN X7 hx hby d10_103 rfl (q := 104) rfl ?_
        refine o_bipush X7 hx hby d10_104 (z := 10) rfl (q := 106) rfl ?_
        refine o_icY X7 hx hby d10_106 (flt (own_T4 (own_U2 hc31_10) (by decide) : ¬ ((10 : Int32) < p1))).2.2.2 (by decide) (q := 114) (by decide) ?_
        refine o_iloadN X7 hx hby d10_114 rfl (q := 115) rfl ?_
        refine o_bipush X7 hx hby d10_115 (z := 11) rfl (q := 117) rfl ?_
        refine o_icY X7 hx hby d10_117 (flt (own_T4 (own_U2 hc31_10) (by decide) : ¬ ((11 : Int32) < p1))).2.2.2 (by decide) (q := 125) (by decide) ?_
        refine o_iloadN X7 hx hby d10_125 rfl (q := 126) rfl ?_
        refine o_bipush X7 hx hby d10_126 (z := 12) rfl (q := 128) rfl ?_
        refine o_icY X7 hx hby d10_128 (flt (own_T4 (own_U2 hc31_10) (by decide) : ¬ ((12 : Int32) < p1))).2.2.2 (by decide) (q := 136) (by decide) ?_
        refine o_iloadN X7 hx hby d10_136 rfl (q := 137) rfl ?_
        refine o_bipush X7 hx hby d10_137 (z := 13) rfl (q := 139) rfl ?_
        refine o_icY X7 hx hby d10_139 (flt (own_T4 (own_U2 hc31_10) (by decide) : ¬ ((13 : Int32) < p1))).2.2.2 (by decide) (q := 147) (by decide) ?_
        refine o_iloadN X7 hx hby d10_147 rfl (q := 148) rfl ?_
        refine o_bipush X7 hx hby d10_148 (z := 14) rfl (q := 150) rfl ?_
        refine o_icY X7 hx hby d10_150 (flt (own_T4 (own_U2 hc31_10) (by decide) : ¬ ((14 : Int32) < p1))).2.2.2 (by decide) (q := 158) (by decide) ?_
        have qz70 := ((((Keep.refl h0 [o0]).trans K1 (allS (Or.inl (List.mem_of_getElem? (i := 0) rfl)) all0)).trans K3 (allS (Or.inl (List.mem_of_getElem? (i := 0) rfl)) all0)).trans K7 (allS (Or.inl (List.mem_of_getElem? (i := 0) rfl)) all0))
        exact own_outV X7 hx hlk hret (hb hby d10_158) (Q := Q10z Z o0 p1 nb k h0 n0) ⟨rfl, N7, qz70, E7, Fn7, Fk7, (by rw [(own_eqk (2 : Int32) hc21_6 hc31_10 rfl)]; exact Fs7)⟩ (by decide) (by decide)
    · skip
      refine o_icY X3 hx hby d10_21 (flt hc21_6).2.2.2 (by decide) (q := 29) (by decide) ?_
      refine o_iloadN X3 hx hby d10_29 rfl (q := 30) rfl ?_
      refine o_iconst X3 hx hby d10_30 (z := 3) rfl (q := 31) rfl ?_
      refine o_icY X3 hx hby d10_31 (flt (own_T4 (own_U2 hc21_6) (by decide) : ¬ ((3 : Int32) < p1))).2.2.2 (by decide) (q := 39) (by decide) ?_
      refine o_iloadN X3 hx hby d10_39 rfl (q := 40) rfl ?_
      refine o_iconst X3 hx hby d10_40 (z := 4) rfl (q := 41) rfl ?_
      refine o_icY X3 hx hby d10_41 (flt (own_T4 (own_U2 hc21_6) (by decide) : ¬ ((4 : Int32) < p1))).2.2.2 (by decide) (q := 49) (by decide) ?_
      refine o_iloadN X3 hx hby d10_49 rfl (q := 50) rfl ?_
      refine o_iconst X3 hx hby d10_50 (z := 5) rfl (q := 51) rfl ?_
      refine o_icY X3 hx hby d10_51 (flt (own_T4 (own_U2 hc21_6) (by decide) : ¬ ((5 : Int32) < p1))).2.2.2 (by decide) (q := 59) (by decide) ?_
      refine o_iloadN X3 hx hby d10_59 rfl (q := 60) rfl ?_
      refine o_bipush X3 hx hby d10_60 (z := 6) rfl (q := 62) rfl ?_
      refine o_icY X3 hx hby d10_62 (flt (own_T4 (own_U2 hc21_6) (by decide) : ¬ ((6 : Int32) < p1))).2.2.2 (by decide) (q := 70) (by decide) ?_
      refine o_iloadN X3 hx hby d10_70 rfl (q := 71) rfl ?_
      refine o_bipush X3 hx hby d10_71 (z := 7) rfl (q := 73) rfl ?_
      refine o_icY X3 hx hby d10_73 (flt (own_T4 (own_U2 hc21_6) (by decide) : ¬ ((7 : Int32) < p1))).2.2.2 (by decide) (q := 81) (by decide) ?_
      refine o_iloadN X3 hx hby d10_81 rfl (q := 82) rfl ?_
      refine o_bipush X3 hx hby d10_82 (z := 8) rfl (q := 84) rfl ?_
      refine o_icY X3 hx hby d10_84 (flt (own_T4 (own_U2 hc21_6) (by decide) : ¬ ((8 : Int32) < p1))).2.2.2 (by decide) (q := 92) (by decide) ?_
      refine o_iloadN X3 hx hby d10_92 rfl (q := 93) rfl ?_
      refine o_bipush X3 hx hby d10_93 (z := 9) rfl (q := 95) rfl ?_
      refine o_icY X3 hx hby d10_95 (flt (own_T4 (own_U2 hc21_6) (by decide) : ¬ ((9 : Int32) < p1))).2.2.2 (by decide) (q := 103) (by decide) ?_
      refine o_iloadN X3 hx hby d10_103 rfl (q := 104) rfl ?_
      refine o_bipush X3 hx hby d10_104 (z := 10) rfl (q := 106) rfl ?_
      refine o_icY X3 hx hby d10_106 (flt (own_T4 (own_U2 hc21_6) (by decide) : ¬ ((10 : Int32) < p1))).2.2.2 (by decide) (q := 114) (by decide) ?_
      refine o_iloadN X3 hx hby d10_114 rfl (q := 115) rfl ?_
      refine o_bipush X3 hx hby d10_115 (z := 11) rfl (q := 117) rfl ?_
      refine o_icY X3 hx hby d10_117 (flt (own_T4 (own_U2 hc21_6) (by decide) : ¬ ((11 : Int32) < p1))).2.2.2 (by decide) (q := 125) (by decide) ?_
      refine o_iloadN X3 hx hby d10_125 rfl (q := 126) rfl ?_
      refine o_bipush X3 hx hby d10_126 (z := 12) rfl (q := 128) rfl ?_
      refine o_icY X3 hx hby d10_128 (flt (own_T4 (own_U2 hc21_6) (by decide) : ¬ ((12 : Int32) < p1))).2.2.2 (by decide) (q := 136) (by decide) ?_
      refine o_iloadN X3 hx hby d10_136 rfl (q := 137) rfl ?_
      refine o_bipush X3 hx hby d10_137 (z := 13) rfl (q := 139) rfl ?_
      refine o_icY X3 hx hby d10_139 (flt (own_T4 (own_U2 hc21_6) (by decide) : ¬ ((13 : Int32) < p1))).2.2.2 (by decide) (q := 147) (by decide) ?_
      refine o_iloadN X3 hx hby d10_147 rfl (q := 148) rfl ?_
      refine o_bipush X3 hx hby d10_148 (z := 14) rfl (q := 150) rfl ?_
      refine o_icY X3 hx hby d10_150 (flt (own_T4 (own_U2 hc21_6) (by decide) : ¬ ((14 : Int32) < p1))).2.2.2 (by decide) (q := 158) (by decide) ?_
      have qz71 := (((Keep.refl h0 [o0]).trans K1 (allS (Or.inl (List.mem_of_getElem? (i := 0) rfl)) all0)).trans K3 (allS (Or.inl (List.mem_of_getElem? (i := 0) rfl)) all0))
      exact own_outV X3 hx hlk hret (hb hby d10_158) (Q := Q10z Z o0 p1 nb k h0 n0) ⟨rfl, N3, qz71, E3, Fn3, Fk3, (by rw [(own_eqk (1 : Int32) hc11_2 hc21_6 rfl)]; exact Fs3)⟩ (by decide) (by decide)
  · skip
    refine o_icY X1 hx hby d10_11 (flt hc11_2).2.2.2 (by decide) (q := 19) (by decide) ?_
    refine o_iloadN X1 hx hby d10_19 rfl (q := 20) rfl ?_
    refine o_iconst X1 hx hby d10_20 (z := 2) rfl (q := 21) rfl ?_
    refine o_icY X1 hx hby d10_21 (flt (own_T4 (own_U2 hc11_2) (by decide) : ¬ ((2 : Int32) < p1))).2.2.2 (by decide) (q := 29) (by decide) ?_
    refine o_iloadN X1 hx hby d10_29 rfl (q := 30) rfl ?_
    refine o_iconst X1 hx hby d10_30 (z := 3) rfl (q := 31) rfl ?_
    refine o_icY X1 hx hby d10_31 (flt (own_T4 (own_U2 hc11_2) (by decide) : ¬ ((3 : Int32) < p1))).2.2.2 (by decide) (q := 39) (by decide) ?_
    refine o_iloadN X1 hx hby d10_39 rfl (q := 40) rfl ?_
    refine o_iconst X1 hx hby d10_40 (z := 4) rfl (q := 41) rfl ?_
    refine o_icY X1 hx hby d10_41 (flt (own_T4 (own_U2 hc11_2) (by decide) : ¬ ((4 : Int32) < p1))).2.2.2 (by decide) (q := 49) (by decide) ?_
    refine o_iloadN X1 hx hby d10_49 rfl (q := 50) rfl ?_
    refine o_iconst X1 hx hby d10_50 (z := 5) rfl (q := 51) rfl ?_
    refine o_icY X1 hx hby d10_51 (flt (own_T4 (own_U2 hc11_2) (by decide) : ¬ ((5 : Int32) < p1))).2.2.2 (by decide) (q := 59) (by decide) ?_
    refine o_iloadN X1 hx hby d10_59 rfl (q := 60) rfl ?_
    refine o_bipush X1 hx hby d10_60 (z := 6) rfl (q := 62) rfl ?_
    refine o_icY X1 hx hby d10_62 (flt (own_T4 (own_U2 hc11_2) (by decide) : ¬ ((6 : Int32) < p1))).2.2.2 (by decide) (q := 70) (by decide) ?_
    refine o_iloadN X1 hx hby d10_70 rfl (q := 71) rfl ?_
    refine o_bipush X1 hx hby d10_71 (z := 7) rfl (q := 73) rfl ?_
    refine o_icY X1 hx hby d10_73 (flt (own_T4 (own_U2 hc11_2) (by decide) : ¬ ((7 : Int32) < p1))).2.2.2 (by decide) (q := 81) (by decide) ?_
    refine o_iloadN X1 hx hby d10_81 rfl (q := 82) rfl ?_
    refine o_bipush X1 hx hby d10_82 (z := 8) rfl (q := 84) rfl ?_
    refine o_icY X1 hx hby d10_84 (flt (own_T4 (own_U2 hc11_2) (by decide) : ¬ ((8 : Int32) < p1))).2.2.2 (by decide) (q := 92) (by decide) ?_
    refine o_iloadN X1 hx hby d10_92 rfl (q := 93) rfl ?_
    refine o_bipush X1 hx hby d10_93 (z := 9) rfl (q := 95) rfl ?_
    refine o_icY X1 hx hby d10_95 (flt (own_T4 (own_U2 hc11_2) (by decide) : ¬ ((9 : Int32) < p1))).2.2.2 (by decide) (q := 103) (by decide) ?_
    refine o_iloadN X1 hx hby d10_103 rfl (q := 104) rfl ?_
    refine o_bipush X1 hx hby d10_104 (z := 10) rfl (q := 106) rfl ?_
    refine o_icY X1 hx hby d10_106 (flt (own_T4 (own_U2 hc11_2) (by decide) : ¬ ((10 : Int32) < p1))).2.2.2 (by decide) (q := 114) (by decide) ?_
    refine o_iloadN X1 hx hby d10_114 rfl (q := 115) rfl ?_
    refine o_bipush X1 hx hby d10_115 (z := 11) rfl (q := 117) rfl ?_
    refine o_icY X1 hx hby d10_117 (flt (own_T4 (own_U2 hc11_2) (by decide) : ¬ ((11 : Int32) < p1))).2.2.2 (by decide) (q := 125) (by decide) ?_
    refine o_iloadN X1 hx hby d10_125 rfl (q := 126) rfl ?_
    refine o_bipush X1 hx hby d10_126 (z := 12) rfl (q := 128) rfl ?_
    refine o_icY X1 hx hby d10_128 (flt (own_T4 (own_U2 hc11_2) (by decide) : ¬ ((12 : Int32) < p1))).2.2.2 (by decide) (q := 136) (by decide) ?_
    refine o_iloadN X1 hx hby d10_136 rfl (q := 137) rfl ?_
    refine o_bipush X1 hx hby d10_137 (z := 13) rfl (q := 139) rfl ?_
    refine o_icY X1 hx hby d10_139 (flt (own_T4 (own_U2 hc11_2) (by decide) : ¬ ((13 : Int32) < p1))).2.2.2 (by decide) (q := 147) (by decide) ?_
    refine o_iloadN X1 hx hby d10_147 rfl (q := 148) rfl ?_
    refine o_bipush X1 hx hby d10_148 (z := 14) rfl (q := 150) rfl ?_
    refine o_icY X1 hx hby d10_150 (flt (own_T4 (own_U2 hc11_2) (by decide) : ¬ ((14 : Int32) < p1))).2.2.2 (by decide) (q := 158) (by decide) ?_
    have qz72 := ((Keep.refl h0 [o0]).trans K1 (allS (Or.inl (List.mem_of_getElem? (i := 0) rfl)) all0))
    exact own_outV X1 hx hlk hret (hb hby d10_158) (Q := Q10z Z o0 p1 nb k h0 n0) ⟨rfl, N1, qz72, E1, Fn1, Fk1, (by rw [(own_eqk (0 : Int32) hp0 hc11_2 rfl)]; exact Fs1)⟩ (by decide) (by decide)
theorem ef_10s (m : MethodId) (x0 : Addr) (x1 : Int32) : entryFrame m #[(.ref x0), (.int x1)] 2 = mkF m 0 #[.val (.ref x0), .val (.int x1)] [] := by first | (simp [entryFrame, mkF, argsToLocals, Value.category]; done) | rfl
def Q10s (Z : State) (o0 : Addr) (p1 : Int32) (nb : Addr) (k : ClassId) (sv : Int32) (h0 : Heap) (n0 : Nat) (v : Option Value) (h : Heap) (L : List Loc) : Prop := v = none ∧ Fr n0 L ∧ Keep h0 h [o0] ∧ Exa Z h o0 "com/example/headway/headway/engine/RowBuffer" ∧ Fld Z h o0 "com/example/headway/headway/engine/RowBuffer" "numbers" "[[J" (.ref nb) ∧ Fld Z h o0 "com/example/headway/headway/engine/RowBuffer" "capacity" "I" (.int 1024) ∧ Fld Z h o0 "com/example/headway/headway/engine/RowBuffer" "size" "I" (.int (sv + p1))
set_option maxRecDepth 65536 in
set_option maxHeartbeats 40000000 in
theorem rm10s (l : Launch) (Z : State) (a0 : Array Value) (hw : ∀ d ∈ tables_1, d.before a0 Z = true) (ws : List Jvm.Cond) (o0 : Addr) (p1 : Int32) (nb : Addr) (k : ClassId) (sv : Int32) (h0 : Heap) (n0 : Nat) (Z0 : n0 ≤ h0.size) (E : Exa Z h0 o0 "com/example/headway/headway/engine/RowBuffer") (Fn : Fld Z h0 o0 "com/example/headway/headway/engine/RowBuffer" "numbers" "[[J" (.ref nb)) (Fk : Fld Z h0 o0 "com/example/headway/headway/engine/RowBuffer" "capacity" "I" (.int 1024)) (Fs : Fld Z h0 o0 "com/example/headway/headway/engine/RowBuffer" "size" "I" (.int sv)) (V : Arv Z h0 nb k (.array .long) (0 : Int32) [] .null) (g_o0 : n0 ≤ o0) (nnb : nb ≠ o0) (hs : 0 ≤ sv.toInt ∧ sv.toInt ≤ 15) (hp : 0 ≤ p1.toInt ∧ p1.toInt ≤ 7) (hp7 : ¬ ((7 : Int32) < p1)) :
    MetFree l mn_14 (head1 (Jvm.Cond.code mn_14 method_3_code 2 none :: ws) (⟨1, 0, 0, 14⟩ : Room)) (fun a U => a = #[(.ref o0), (.int p1)] ∧ Z.Warmed39 U.vm ∧ U.heap = h0) (fun _ _ _ _ _ => True) (fun _ U o U' => ∃ v L, o = .returned v ∧ Q10s Z o0 p1 nb k sv h0 n0 v U'.heap L ∧ FrameEnd U o U' L (⟨1, 0, 0, 14⟩ : Room).cells (⟨1, 0, 0, 14⟩ : Room).slots) := by
  refine MetFree.of_bodySF (plainFor_of_name pn_6) hisR ?_
  intro p e s m args below meth c s₁ Bd hml0 hP hK
  obtain ⟨rfl, hZ, hh⟩ := hP
  have hx := Bd.exec
  have hby := Bd.bytes
  have hml : c.maxLocals = 2 := hml0
  have hown : s.vm.findClass "com/example/headway/headway/engine/HashIndexStopGrowingPinLaw" = some m.cls := findClass_of_methodNamed Bd.named
  have hnm := (name_of_methodNamed Bd.named Bd.method).1
  have X0 : Stand p l e (⟨1, 0, 0, 14⟩ : Room) s m #[(.ref o0), (.int p1)] below meth c s₁ [] 0 0 := Stand.of_body Bd
  have e0 : s₁.heap = h0 := by rw [← hh, Bd.state]; rfl
  have N0 := Fr.nil n0
  have hret := Bd.returns
  have hlk := BodyLoose.notSynchronized Bd
  show own_Out p e below (fun o U' => ∃ v L, o = .returned v ∧ Q10s Z o0 p1 nb k sv h0 n0 v U'.heap L ∧ FrameEnd s o U' L (⟨1, 0, 0, 14⟩ : Room).cells (⟨1, 0, 0, 14⟩ : Room).slots) (s₁.setTop (entryFrame m #[(.ref o0), (.int p1)] 2))
  refine own_of (fun t k => castTop (ef_10s m o0 p1) k) ?_
  have hA1 : (sv + (1 : Int32)) = sv + (1 : Int32) := rfl
  have hS1 : ¬ ((sv + (1 : Int32)) = (1024 : Int32)) := by rw [hA1]; exact (own_ap hs (1 : Int32) (by decide)).1
  have hA2 : ((sv + (1 : Int32)) + (1 : Int32)) = sv + (2 : Int32) := by rw [hA1]; exact (own_ap hs (1 : Int32) (by decide)).2
  have hS2 : ¬ (((sv + (1 : Int32)) + (1 : Int32)) = (1024 : Int32)) := by rw [hA2]; exact (own_ap hs (2 : Int32) (by decide)).1
  have hA3 : (((sv + (1 : Int32)) + (1 : Int32)) + (1 : Int32)) = sv + (3 : Int32) := by rw [hA2]; exact (own_ap hs (2 : Int32) (by decide)).2
  have hS3 : ¬ ((((sv + (1 : Int32)) + (1 : Int32)) + (1 : Int32)) = (1024 : Int32)) := by rw [hA3]; exact (own_ap hs (3 : Int32) (by decide)).1
  have hA4 : ((((sv + (1 : Int32)) + (1 : Int32)) + (1 : Int32)) + (1 : Int32)) = sv + (4 : Int32) := by rw [hA3]; exact (own_ap hs (3 : Int32) (by decide)).2
  have hS4 : ¬ (((((sv + (1 : Int32)) + (1 : Int32)) + (1 : Int32)) + (1 : Int32)) = (1024 : Int32)) := by rw [hA4]; exact (own_ap hs (4 : Int32) (by decide)).1
  have hA5 : (((((sv + (1 : Int32)) + (1 : Int32)) + (1 : Int32)) + (1 : Int32)) + (1 : Int32)) = sv + (5 : Int32) := by rw [hA4]; exact (own_ap hs (4 : Int32) (by decide)).2
  have hS5 : ¬ ((((((sv + (1 : Int32)) + (1 : Int32)) + (1 : Int32)) + (1 : Int32)) + (1 : Int32)) = (1024 : Int32)) := by rw [hA5]; exact (own_ap hs (5 : Int32) (by decide)).1
  have hA6 : ((((((sv + (1 : Int32)) + (1 : Int32)) + (1 : Int32)) + (1 : Int32)) + (1 : Int32)) + (1 : Int32)) = sv + (6 : Int32) := by rw [hA5]; exact (own_ap hs (5 : Int32) (by decide)).2
  have hS6 : ¬ (((((((sv + (1 : Int32)) + (1 : Int32)) + (1 : Int32)) + (1 : Int32)) + (1 : Int32)) + (1 : Int32)) = (1024 : Int32)) := by rw [hA6]; exact (own_ap hs (6 : Int32) (by decide)).1
  have hA7 : (((((((sv + (1 : Int32)) + (1 : Int32)) + (1 : Int32)) + (1 : Int32)) + (1 : Int32)) + (1 : Int32)) + (1 : Int32)) = sv + (7 : Int32) := by rw [hA6]; exact (own_ap hs (6 : Int32) (by decide)).2
  have hS7 : ¬ ((((((((sv + (1 : Int32)) + (1 : Int32)) + (1 : Int32)) + (1 : Int32)) + (1 : Int32)) + (1 : Int32)) + (1 : Int32)) = (1024 : Int32)) := by rw [hA7]; exact (own_ap hs (7 : Int32) (by decide)).1
  have hA8 : ((((((((sv + (1 : Int32)) + (1 : Int32)) + (1 : Int32)) + (1 : Int32)) + (1 : Int32)) + (1 : Int32)) + (1 : Int32)) + (1 : Int32)) = sv + (8 : Int32) := by rw [hA7]; exact (own_ap hs (7 : Int32) (by decide)).2
  have hS8 : ¬ (((((((((sv + (1 : Int32)) + (1 : Int32)) + (1 : Int32)) + (1 : Int32)) + (1 : Int32)) + (1 : Int32)) + (1 : Int32)) + (1 : Int32)) = (1024 : Int32)) := by rw [hA8]; exact (own_ap hs (8 : Int32) (by decide)).1
  show own_Out p e below _ (s₁.setTop (mkF m 0 #[rv o0, iv p1] []))
  refine o_iloadN X0 hx hby d10_0 rfl (q := 1) rfl ?_
  by_cases hc1_1 : (0 : Int32) < p1
  · skip
    refine o_ifN X0 hx hby d10_1 ((if0 _ _).trans (tlt hc1_1).2.2.2) (q := 4) rfl ?_
    refine o_aloadN X0 hx hby d10_4 rfl rfl (q := 5) rfl ?_
    refine o_aconst_null X0 hx hby d10_5 (q := 6) rfl ?_
    obtain ⟨cq2, kq2, q2a, q2b, q2c⟩ := isOf hZ e0 E
    obtain ⟨_, _, ⟨T2, L2, k2, n2⟩, -, X2, ⟨Lc2, hQ2, l2, y2, z2⟩, st2⟩ := X0.virtualBack hx (y := mn_13) (z := mn_13) hown (mvT hZ (w_ hw 136 rfl)) (mvT hZ (w_ hw 137 rfl)) (notFace_of_selects (args := #[]) (mvT hZ (w_ hw 139 rfl))) (mvT hZ (w_ hw 139 rfl)) (mvT hZ (w_ hw 138 rfl)) (by decide) (backOf (W := 0) (rm19s l Z a0 hw [] o0 nb k sv h0 n0 Z0 E Fn Fk Fs V g_o0 nnb (own_n0 hs)) hZ (w_ hw 140 rfl) (w_ hw 3 rfl) (by decide) (by decide)) q2a q2c (g := (mkF m 6 #[rv o0, iv p1] [.null, .ref o0])) rfl (by rw [hml]; rfl) (Steps.refl _) (argsL := [.null]) (rest := []) (lenOf pd_6 rfl) rfl (by show 2 * 0 + _ ≤ _; exact Nat.le_of_eq rfl) (hb hby d10_6) (fun _ _ => ⟨rfl, e0, (by decide : 0 + 0 ≤ _), (by decide : 0 + 0 ≤ _)⟩)
    dsimp only [Pt.U, Pt.locs, Pt.cells, Pt.slots] at X2 l2 y2 z2 st2 hQ2
    subst l2 y2 z2
    obtain ⟨rfl, N2q, K2, E2, Fn2, Fk2, Fs2⟩ := hQ2
    have N2 := Fr.app N0 N2q
    refine own_of (fun _ k => st2.trans k) ?_
    show own_Out p e below _ (T2.setTop (mkF m 9 #[rv o0, iv p1] []))
    refine o_iloadN X2 hx hby d10_9 rfl (q := 10) rfl ?_
    refine o_iconst X2 hx hby d10_10 (z := 1) rfl (q := 11) rfl ?_
    by_cases hc11_3 : (1 : Int32) < p1
    · skip
      refine o_icN X2 hx hby d10_11 (tlt hc11_3).2.2.2 (q := 14) rfl ?_
      refine o_aloadN X2 hx hby d10_14 rfl rfl (q := 15) rfl ?_
      refine o_aconst_null X2 hx hby d10_15 (q := 16) rfl ?_
      have qz5 := (V.keep K2 (ninS nnb nin0))
      have qz6 := (Nat.le_trans Z0 K2.1)
      obtain ⟨cq4, kq4, q4a, q4b, q4c⟩ := isOf hZ rfl E2
      obtain ⟨_, _, ⟨T4, L4, k4, n4⟩, -, X4, ⟨Lc4, hQ4, l4, y4, z4⟩, st4⟩ := X2.virtualBack hx (y := mn_13) (z := mn_13) hown (mvT hZ (w_ hw 136 rfl)) (mvT hZ (w_ hw 137 rfl)) (notFace_of_selects (args := #[]) (mvT hZ (w_ hw 139 rfl))) (mvT hZ (w_ hw 139 rfl)) (mvT hZ (w_ hw 138 rfl)) (by decide) (backOf (W := 0) (rm19s l Z a0 hw [] o0 nb k (sv + (1 : Int32)) T2.heap n0 qz6 E2 Fn2 Fk2 Fs2 qz5 g_o0 nnb hS1) hZ (w_ hw 140 rfl) (w_ hw 3 rfl) (by decide) (by decide)) q4a q4c (g := (mkF m 16 #[rv o0, iv p1] [.null, .ref o0])) rfl (by rw [hml]; rfl) (Steps.refl _) (argsL := [.null]) (rest := []) (lenOf pd_6 rfl) rfl (by show 2 * 0 + _ ≤ _; exact Nat.le_of_eq rfl) (hb hby d10_16) (fun _ _ => ⟨rfl, rfl, (by decide : 0 + 0 ≤ _), (by decide : 0 + 0 ≤ _)⟩)
      dsimp only [Pt.U, Pt.locs, Pt.cells, Pt.slots] at X4 l4 y4 z4 st4 hQ4
      subst l4 y4 z4
      obtain ⟨rfl, N4q, K4, E4, Fn4, Fk4, Fs4⟩ := hQ4
      have N4 := Fr.app N2 N4q
      refine own_of (fun _ k => st4.trans k) ?_
      show own_Out p e below _ (T4.setTop (mkF m 19 #[rv o0, iv p1] []))
      refine o_iloadN X4 hx hby d10_19 rfl (q := 20) rfl ?_
      refine o_iconst X4 hx hby d10_20 (z := 2) rfl (q := 21) rfl ?_
      by_cases hc21_7 : (2 : Int32) < p1
      · skip
        refine o_icN X4 hx hby d10_21 (tlt hc21_7).2.2.2 (q := 24) rfl ?_
        refine o_aloadN X4 hx hby d10_24 rfl rfl (q := 25) rfl ?_
        refine o_aconst_null X4 hx hby d10_25 (q := 26) rfl ?_
        have qz9 := (qz5.keep K4 (ninS nnb nin0))
        have qz10 := (Nat.le_trans qz6 K4.1)
        obtain ⟨cq8, kq8, q8a, q8b, q8c⟩ := isOf hZ rfl E4
        obtain ⟨_, _, ⟨T8, L8, k8, n8⟩, -, X8, ⟨Lc8, hQ8, l8, y8, z8⟩, st8⟩ := X4.virtualBack hx (y := mn_13) (z := mn_13) hown (mvT hZ (w_ hw 136 rfl)) (mvT hZ (w_ hw 137 rfl)) (notFace_of_selects (args := #[]) (mvT hZ (w_ hw 139 rfl))) (mvT hZ (w_ hw 139 rfl)) (mvT hZ (w_ hw 138 rfl)) (by decide) (backOf (W := 0) (rm19s l Z a0 hw [] o0 nb k ((sv + (1 : Int32)) + (1 : Int32)) T4.heap n0 qz10 E4 Fn4 Fk4 Fs4 qz9 g_o0 nnb hS2) hZ (w_ hw 140 rfl) (w_ hw 3 rfl) (by decide) (by decide)) q8a q8c (g := (mkF m 26 #[rv o0, iv p1] [.null, .ref o0])) rfl (by rw [hml]; rfl) (Steps.refl _) (argsL := [.null]) (rest := []) (lenOf pd_6 rfl) rfl (by show 2 * 0 + _ ≤ _; exact Nat.le_of_eq rfl) (hb hby d10_26) (fun _ _ => ⟨rfl, rfl, (by decide : 0 + 0 ≤ _), (by decide : 0 + 0 ≤ _)⟩)
        dsimp only [Pt.U, Pt.locs, Pt.cells, Pt.slots] at X8 l8 y8 z8 st8 hQ8
        subst l8 y8 z8
        obtain ⟨rfl, N8q, K8, E8, Fn8, Fk8, Fs8⟩ := hQ8
        have N8 := Fr.app N4 N8q
        refine own_of (fun _ k => st8.trans k) ?_
        show own_Out p e below _ (T8.setTop (mkF m 29 #[rv o0, iv p1] []))
        refine o_iloadN X8 hx hby d10_29 rfl (q := 30) rfl ?_
        refine o_iconst X8 hx hby d10_30 (z := 3) rfl (q := 31) rfl ?_
        by_cases hc31_11 : (3 : Int32) < p1
        · skip
          refine o_icN X8 hx hby d10_31 (tlt hc31_11).2.2.2 (q := 34) rfl ?_
          refine o_aloadN X8 hx hby d10_34 rfl rfl (q := 35) rfl ?_
          refine o_aconst_null X8 hx hby d10_35 (q := 36) rfl ?_
          have qz13 := (qz9.keep K8 (ninS nnb nin0))
          have qz14 := (Nat.le_trans qz10 K8.1)
          obtain ⟨cq12, kq12, q12a, q12b, q12c⟩ := isOf hZ rfl E8
          obtain ⟨_, _, ⟨T12, L12, k12, n12⟩, -, X12, ⟨Lc12, hQ12, l12, y12, z12⟩, st12⟩ := X8.virtualBack hx (y := mn_13) (z := mn_13) hown (mvT hZ (w_ hw 136 rfl)) (mvT hZ (w_ hw 137 rfl)) (notFace_of_selects (args := #[]) (mvT hZ (w_ hw 139 rfl))) (mvT hZ (w_ hw 139 rfl)) (mvT hZ (w_ hw 138 rfl)) (by decide) (backOf (W := 0) (rm19s l Z a0 hw [] o0 nb k (((sv + (1 : Int32)) + (1 : Int32)) + (1 : Int32)) T8.heap n0 qz14 E8 Fn8 Fk8 Fs8 qz13 g_o0 nnb hS3) hZ (w_ hw 140 rfl) (w_ hw 3 rfl) (by decide) (by decide)) q12a q12c (g := (mkF m 36 #[rv o0, iv p1] [.null, .ref o0])) rfl (by rw [hml]; rfl) (Steps.refl _) (argsL := [.null]) (rest := []) (lenOf pd_6 rfl) rfl (by show 2 * 0 + _ ≤ _; exact Nat.le_of_eq rfl) (hb hby d10_36) (fun _ _ => ⟨rfl, rfl, (by decide : 0 + 0 ≤ _), (by decide : 0 + 0 ≤ _)⟩)
          dsimp only [Pt.U, Pt.locs, Pt.cells, Pt.slots] at X12 l12 y12 z12 st12 hQ12
          subst l12 y12 z12
          obtain ⟨rfl, N12q, K12, E12, Fn12, Fk12, Fs12⟩ := hQ12
          have N12 := Fr.app N8 N12q
          refine own_of (fun _ k => st12.trans k) ?_
          show own_Out p e below _ (T12.setTop (mkF m 39 #[rv o0, iv p1] []))
          refine o_iloadN X12 hx hby d10_39 rfl (q := 40) rfl ?_
          refine o_iconst X12 hx hby d10_40 (z := 4) rfl (q := 41) rfl ?_
          by_cases hc41_15 : (4 : Int32) < p1
          · skip
            refine o_icN X12 hx hby d10_41 (tlt hc41_15).2.2.2 (q := 44) rfl ?_
            refine o_aloadN X12 hx hby d10_44 rfl rfl (q := 45) rfl ?_
            refine o_aconst_null X12 hx hby d10_45 (q := 46) rfl ?_
            have qz17 := (qz13.keep K12 (ninS nnb nin0))
            have qz18 := (Nat.le_trans qz14 K12.1)
            obtain ⟨cq16, kq16, q16a, q16b, q16c⟩ := isOf hZ rfl E12
            obtain ⟨_, _, ⟨T16, L16, k16, n16⟩, -, X16, ⟨Lc16, hQ16, l16, y16, z16⟩, st16⟩ := X12.virtualBack hx (y := mn_13) (z := mn_13) hown (mvT hZ (w_ hw 136 rfl)) (mvT hZ (w_ hw 137 rfl)) (notFace_of_selects (args := #[]) (mvT hZ (w_ hw 139 rfl))) (mvT hZ (w_ hw 139 rfl)) (mvT hZ (w_ hw 138 rfl)) (by decide) (backOf (W := 0) (rm19s l Z a0 hw [] o0 nb k ((((sv + (1 : Int32)) + (1 : Int32)) + (1 : Int32)) + (1 : Int32)) T12.heap n0 qz18 E12 Fn12 Fk12 Fs12 qz17 g_o0 nnb hS4) hZ (w_ hw 140 rfl) (w_ hw 3 rfl) (by decide) (by decide)) q16a q16c (g := (mkF m 46 #[rv o0, iv p1] [.null, .ref o0])) rfl (by rw [hml]; rfl) (Steps.refl _) (argsL := [.null]) (rest := []) (lenOf pd_6 rfl) rfl (by show 2 * 0 + _ ≤ _; exact Nat.le_of_eq rfl) (hb hby d10_46) (fun _ _ => ⟨rfl, rfl, (by decide : 0 + 0 ≤ _), (by decide : 0 + 0 ≤ _)⟩)
            dsimp only [Pt.U, Pt.locs, Pt.cells, Pt.slots] at X16 l16 y16 z16 st16 hQ16
            subst l16 y16 z16
            obtain ⟨rfl, N16q, K16, E16, Fn16, Fk16, Fs16⟩ := hQ16
            have N16 := Fr.app N12 N16q
            refine own_of (fun _ k => st16.trans k) ?_
            show own_Out p e below _ (T16.setTop (mkF m 49 #[rv o0, iv p1] []))
            refine o_iloadN X16 hx hby d10_49 rfl (q := 50) rfl ?_
            refine o_iconst X16 hx hby d10_50 (z := 5) rfl (q := 51) rfl ?_
            by_cases hc51_19 : (5 : Int32) < p1
            · skip
              refine o_icN X16 hx hby d10_51 (tlt hc51_19).2.2.2 (q := 54) rfl ?_
              refine o_aloadN X16 hx hby d10_54 rfl rfl (q := 55) rfl ?_
              refine o_aconst_null X16 hx hby d10_55 (q := 56) rfl ?_
              have qz21 := (qz17.keep K16 (ninS nnb nin0))
              have qz22 := (Nat.le_trans qz18 K16.1)
              obtain ⟨cq20, kq20, q20a, q20b, q20c⟩ := isOf hZ rfl E16
              obtain ⟨_, _, ⟨T20, L20, k20, n20⟩, -, X20, ⟨Lc20, hQ20, l20, y20, z20⟩, st20⟩ := X16.virtualBack hx (y := mn_13) (z := mn_13) hown (mvT hZ (w_ hw 136 rfl)) (mvT hZ (w_ hw 137 rfl)) (notFace_of_selects (args := #[]) (mvT hZ (w_ hw 139 rfl))) (mvT hZ (w_ hw 139 rfl)) (mvT hZ (w_ hw 138 rfl)) (by decide) (backOf (W := 0) (rm19s l Z a0 hw [] o0 nb k (((((sv + (1 : Int32)) + (1 : Int32)) + (1 : Int32)) + (1 : Int32)) + (1 : Int32)) T16.heap n0 qz22 E16 Fn16 Fk16 Fs16 qz21 g_o0 nnb hS5) hZ (w_ hw 140 rfl) (w_ hw 3 rfl) (by decide) (by decide)) q20a q20c (g := (mkF m 56 #[rv o0, iv p1] [.null, .ref o0])) rfl (by rw [hml]; rfl) (Steps.refl _) (argsL := [.null]) (rest := []) (lenOf pd_6 rfl) rfl (by show 2 * 0 + _ ≤ _; exact Nat.le_of_eq rfl) (hb hby d10_56) (fun _ _ => ⟨rfl, rfl, (by decide : 0 + 0 ≤ _), (by decide : 0 + 0 ≤ _)⟩)
              dsimp only [Pt.U, Pt.locs, Pt.cells, Pt.slots] at X20 l20 y20 z20 st20 hQ20
              subst l20 y20 z20
              obtain ⟨rfl, N20q, K20, E20, Fn20, Fk20, Fs20⟩ := hQ20
              have N20 := Fr.app N16 N20q
              refine own_of (fun _ k => st20.trans k) ?_
              show own_Out p e below _ (T20.setTop (mkF m 59 #[rv o0, iv p1] []))
              refine o_iloadN X20 hx hby d10_59 rfl (q := 60) rfl ?_
              refine o_bipush X20 hx hby d10_60 (z := 6) rfl (q := 62) rfl ?_
              by_cases hc62_23 : (6 : Int32) < p1
              · skip
                refine o_icN X20 hx hby d10_62 (tlt hc62_23).2.2.2 (q := 65) rfl ?_
                refine o_aloadN X20 hx hby d10_65 rfl rfl (q := 66) rfl ?_
                refine o_aconst_null X20 hx hby d10_66 (q := 67) rfl ?_
                have qz25 := (qz21.keep K20 (ninS nnb nin0))
                have qz26 := (Nat.le_trans qz22 K20.1)
                obtain ⟨cq24, kq24, q24a, q24b, q24c⟩ := isOf hZ rfl E20
                obtain ⟨_, _, ⟨T24, L24, k24, n24⟩, -, X24, ⟨Lc24, hQ24, l24, y24, z24⟩, st24⟩ := X20.virtualBack hx (y := mn_13) (z := mn_13) hown (mvT hZ (w_ hw 136 rfl)) (mvT hZ (w_ hw 137 rfl)) (notFace_of_selects (args := #[]) (mvT hZ (w_ hw 139 rfl))) (mvT hZ (w_ hw 139 rfl)) (mvT hZ (w_ hw 138 rfl)) (by decide) (backOf (W := 0) (rm19s l Z a0 hw [] o0 nb k ((((((sv + (1 : Int32)) + (1 : Int32)) + (1 : Int32)) + (1 : Int32)) + (1 : Int32)) + (1 : Int32)) T20.heap n0 qz26 E20 Fn20 Fk20 Fs20 qz25 g_o0 nnb hS6) hZ (w_ hw 140 rfl) (w_ hw 3 rfl) (by decide) (by decide)) q24a q24c (g := (mkF m 67 #[rv o0, iv p1] [.null, .ref o0])) rfl (by rw [hml]; rfl) (Steps.refl _) (argsL := [.null]) (rest := []) (lenOf pd_6 rfl) rfl (by show 2 * 0 + _ ≤ _; exact Nat.le_of_eq rfl) (hb hby d10_67) (fun _ _ => ⟨rfl, rfl, (by decide : 0 + 0 ≤ _), (by decide : 0 + 0 ≤ _)⟩)
                dsimp only [Pt.U, Pt.locs, Pt.cells, Pt.slots] at X24 l24 y24 z24 st24 hQ24
                subst l24 y24 z24
                obtain ⟨rfl, N24q, K24, E24, Fn24, Fk24, Fs24⟩ := hQ24
                have N24 := Fr.app N20 N24q
                refine own_of (fun _ k => st24.trans k) ?_
                show own_Out p e below _ (T24.setTop (mkF m 70 #[rv o0, iv p1] []))
                refine o_iloadN X24 hx hby d10_70 rfl (q := 71) rfl ?_
                refine o_bipush X24 hx hby d10_71 (z := 7) rfl (q := 73) rfl ?_
                refine o_icY X24 hx hby d10_73 (flt hp7).2.2.2 (by decide) (q := 81) (by decide) ?_
                refine o_iloadN X24 hx hby d10_81 rfl (q := 82) rfl ?_
                refine o_bipush X24 hx hby d10_82 (z := 8) rfl (q := 84) rfl ?_
                refine o_icY X24 hx hby d10_84 (flt (own_T4 (own_U2 hp7) (by decide) : ¬ ((8 : Int32) < p1))).2.2.2 (by decide) (q := 92) (by decide) ?_
                refine o_iloadN X24 hx hby d10_92 rfl (q := 93) rfl ?_
                refine o_bipush X24 hx hby d10_93 (z := 9) rfl (q := 95) rfl ?_
                refine o_icY X24 hx hby d10_95 (flt (own_T4 (own_U2 hp7) (by decide) : ¬ ((9 : Int32) < p1))).2.2.2 (by decide) (q := 103) (by decide) ?_
                refine o_iloadN X24 hx hby d10_103 rfl (q := 104) rfl ?_
                refine o_bipush X24 hx hby d10_104 (z := 10) rfl (q := 106) rfl ?_
                refine o_icY X24 hx hby d10_106 (flt (own_T4 (own_U2 hp7) (by decide) : ¬ ((10 : Int32) < p1))).2.2.2 (by decide) (q := 114) (by decide) ?_
                refine o_iloadN X24 hx hby d10_114 rfl (q := 115) rfl ?_
                refine o_bipush X24 hx hby d10_115 (z := 11) rfl (q := 117) rfl ?_
                refine o_icY X24 hx hby d10_117 (flt (own_T4 (own_U2 hp7) (by decide) : ¬ ((11 : Int32) < p1))).2.2.2 (by decide) (q := 125) (by decide) ?_
                refine o_iloadN X24 hx hby d10_125 rfl (q := 126) rfl ?_
                refine o_bipush X24 hx hby d10_126 (z := 12) rfl (q := 128) rfl ?_
                refine o_icY X24 hx hby d10_128 (flt (own_T4 (own_U2 hp7) (by decide) : ¬ ((12 : Int32) < p1))).2.2.2 (by decide) (q := 136) (by decide) ?_
                refine o_iloadN X24 hx hby d10_136 rfl (q := 137) rfl ?_
                refine o_bipush X24 hx hby d10_137 (z := 13) rfl (q := 139) rfl ?_
                refine o_icY X24 hx hby d10_139 (flt (own_T4 (own_U2 hp7) (by decide) : ¬ ((13 : Int32) < p1))).2.2.2 (by decide) (q := 147) (by decide) ?_
                refine o_iloadN X24 hx hby d10_147 rfl (q := 148) rfl ?_
                refine o_bipush X24 hx hby d10_148 (z := 14) rfl (q := 150) rfl ?_
                refine o_icY X24 hx hby d10_150 (flt (own_T4 (own_U2 hp7) (by decide) : ¬ ((14 : Int32) < p1))).2.2.2 (by decide) (q := 158) (by decide) ?_
                have qz27 := ((((((((Keep.refl h0 [o0]).trans K2 (allS (Or.inl (List.mem_of_getElem? (i := 0) rfl)) all0)).trans K4 (allS (Or.inl (List.mem_of_getElem? (i := 0) rfl)) all0)).trans K8 (allS (Or.inl (List.mem_of_getElem? (i := 0) rfl)) all0)).trans K12 (allS (Or.inl (List.mem_of_getElem? (i := 0) rfl)) all0)).trans K16 (allS (Or.inl (List.mem_of_getElem? (i := 0) rfl)) all0)).trans K20 (allS (Or.inl (List.mem_of_getElem? (i := 0) rfl)) all0)).trans K24 (allS (Or.inl (List.mem_of_getElem? (i := 0) rfl)) all0))
                exact own_outV X24 hx hlk hret (hb hby d10_158) (Q := Q10s Z o0 p1 nb k sv h0 n0) ⟨rfl, N24, qz27, E24, Fn24, Fk24, (by rw [(own_eqk (6 : Int32) hc62_23 hp7 rfl), ← hA7]; exact Fs24)⟩ (by decide) (by decide)
              · skip
                refine o_icY X20 hx hby d10_62 (flt hc62_23).2.2.2 (by decide) (q := 70) (by decide) ?_
                refine o_iloadN X20 hx hby d10_70 rfl (q := 71) rfl ?_
                refine o_bipush X20 hx hby d10_71 (z := 7) rfl (q := 73) rfl ?_
                refine o_icY X20 hx hby d10_73 (flt hp7).2.2.2 (by decide) (q := 81) (by decide) ?_
                refine o_iloadN X20 hx hby d10_81 rfl (q := 82) rfl ?_
                refine o_bipush X20 hx hby d10_82 (z := 8) rfl (q := 84) rfl ?_
                refine o_icY X20 hx hby d10_84 (flt (own_T4 (own_U2 hc62_23) (by decide) : ¬ ((8 : Int32) < p1))).2.2.2 (by decide) (q := 92) (by decide) ?_
                refine o_iloadN X20 hx hby d10_92 rfl (q := 93) rfl ?_
                refine o_bipush X20 hx hby d10_93 (z := 9) rfl (q := 95) rfl ?_
                refine o_icY X20 hx hby d10_95 (flt (own_T4 (own_U2 hc62_23) (by decide) : ¬ ((9 : Int32) < p1))).2.2.2 (by decide) (q := 103) (by decide) ?_
                refine o_iloadN X20 hx hby d10_103 rfl (q := 104) rfl ?_
                refine o_bipush X20 hx hby d10_104 (z := 10) rfl (q := 106) rfl ?_
                refine o_icY X20 hx hby d10_106 (flt (own_T4 (own_U2 hc62_23) (by decide) : ¬ ((10 : Int32) < p1))).2.2.2 (by decide) (q := 114) (by decide) ?_
                refine o_iloadN X20 hx hby d10_114 rfl (q := 115) rfl ?_
                refine o_bipush X20 hx hby d10_115 (z := 11) rfl (q := 117) rfl ?_
                refine o_icY X20 hx hby d10_117 (flt (own_T4 (own_U2 hc62_23) (by decide) : ¬ ((11 : Int32) < p1))).2.2.2 (by decide) (q := 125) (by decide) ?_
                refine o_iloadN X20 hx hby d10_125 rfl (q := 126) rfl ?_
                refine o_bipush X20 hx hby d10_126 (z := 12) rfl (q := 128) rfl ?_
                refine o_icY X20 hx hby d10_128 (flt (own_T4 (own_U2 hc62_23) (by decide) : ¬ ((12 : Int32) < p1))).2.2.2 (by decide) (q := 136) (by decide) ?_
                refine o_iloadN X20 hx hby d10_136 rfl (q := 137) rfl ?_
                refine o_bipush X20 hx hby d10_137 (z := 13) rfl (q := 139) rfl ?_
                refine o_icY X20 hx hby d10_139 (flt (own_T4 (own_U2 hc62_23) (by decide) : ¬ ((13 : Int32) < p1))).2.2.2 (by decide) (q := 147) (by decide) ?_
                refine o_iloadN X20 hx hby d10_147 rfl (q := 148) rfl ?_
                refine o_bipush X20 hx hby d10_148 (z := 14) rfl (q := 150) rfl ?_
                refine o_icY X20 hx hby d10_150 (flt (own_T4 (own_U2 hc62_23) (by decide) : ¬ ((14 : Int32) < p1))).2.2.2 (by decide) (q := 158) (by decide) ?_
                have qz28 := (((((((Keep.refl h0 [o0]).trans K2 (allS (Or.inl (List.mem_of_getElem? (i := 0) rfl)) all0)).trans K4 (allS (Or.inl (List.mem_of_getElem? (i := 0) rfl)) all0)).trans K8 (allS (Or.inl (List.mem_of_getElem? (i := 0) rfl)) all0)).trans K12 (allS (Or.inl (List.mem_of_getElem? (i := 0) rfl)) all0)).trans K16 (allS (Or.inl (List.mem_of_getElem? (i := 0) rfl)) all0)).trans K20 (allS (Or.inl (List.mem_of_getElem? (i := 0) rfl)) all0))
                exact own_outV X20 hx hlk hret (hb hby d10_158) (Q := Q10s Z o0 p1 nb k sv h0 n0) ⟨rfl, N20, qz28, E20, Fn20, Fk20, (by rw [(own_eqk (5 : Int32) hc51_19 hc62_23 rfl), ← hA6]; exact Fs20)⟩ (by decide) (by decide)
            · skip
              refine o_icY X16 hx hby d10_51 (flt hc51_19).2.2.2 (by decide) (q := 59) (by decide) ?_
              refine o_iloadN X16 hx hby d10_59 rfl (q := 60) rfl ?_
              refine o_bipush X16 hx hby d10_60 (z := 6) rfl (q := 62) rfl ?_
              refine o_icY X16 hx hby d10_62 (flt (own_T4 (own_U2 hc51_19) (by decide) : ¬ ((6 : Int32) < p1))).2.2.2 (by decide) (q := 70) (by decide) ?_
              refine o_iloadN X16 hx hby d10_70 rfl (q := 71) rfl ?_
              refine o_bipush X16 hx hby d10_71 (z := 7) rfl (q := 73) rfl ?_
              refine o_icY X16 hx hby d10_73 (flt hp7).2.2.2 (by decide) (q := 81) (by decide) ?_
              refine o_iloadN X16 hx hby d10_81 rfl (q := 82) rfl ?_
              refine o_bipush X16 hx hby d10_82 (z := 8) rfl (q := 84) rfl ?_
              refine o_icY X16 hx hby d10_84 (flt (own_T4 (own_U2 hc51_19) (by decide) : ¬ ((8 : Int32) < p1))).2.2.2 (by decide) (q := 92) (by decide) ?_
              refine o_iloadN X16 hx hby d10_92 rfl (q := 93) rfl ?_
              refine o_bipush X16 hx hby d10_93 (z := 9) rfl (q := 95) rfl ?_
              refine o_icY X16 hx hby d10_95 (flt (own_T4 (own_U2 hc51_19) (by decide) : ¬ ((9 : Int32) < p1))).2.2.2 (by decide) (q := 103) (by decide) ?_
              refine o_iloadN X16 hx hby d10_103 rfl (q := 104) rfl ?_
              refine o_bipush X16 hx hby d10_104 (z := 10) rfl (q := 106) rfl ?_
              refine o_icY X16 hx hby d10_106 (flt (own_T4 (own_U2 hc51_19) (by decide) : ¬ ((10 : Int32) < p1))).2.2.2 (by decide) (q := 114) (by decide) ?_
              refine o_iloadN X16 hx hby d10_114 rfl (q := 115) rfl ?_
              refine o_bipush X16 hx hby d10_115 (z := 11) rfl (q := 117) rfl ?_
              refine o_icY X16 hx hby d10_117 (flt (own_T4 (own_U2 hc51_19) (by decide) : ¬ ((11 : Int32) < p1))).2.2.2 (by decide) (q := 125) (by decide) ?_
              refine o_iloadN X16 hx hby d10_125 rfl (q := 126) rfl ?_
              refine o_bipush X16 hx hby d10_126 (z := 12) rfl (q := 128) rfl ?_
              refine o_icY X16 hx hby d10_128 (flt (own_T4 (own_U2 hc51_19) (by decide) : ¬ ((12 : Int32) < p1))).2.2.2 (by decide) (q := 136) (by decide) ?_
              refine o_iloadN X16 hx hby d10_136 rfl (q := 137) rfl ?_
              refine o_bipush X16 hx hby d10_137 (z := 13) rfl (q := 139) rfl ?_
              refine o_icY X16 hx hby d10_139 (flt (own_T4 (own_U2 hc51_19) (by decide) : ¬ ((13 : Int32) < p1))).2.2.2 (by decide) (q := 147) (by decide) ?_
              refine o_iloadN X16 hx hby d10_147 rfl (q := 148) rfl ?_
              refine o_bipush X16 hx hby d10_148 (z := 14) rfl (q := 150) rfl ?_
              refine o_icY X16 hx hby d10_150 (flt (own_T4 (own_U2 hc51_19) (by decide) : ¬ ((14 : Int32) < p1))).2.2.2 (by decide) (q := 158) (by decide) ?_
              have qz29 := ((((((Keep.refl h0 [o0]).trans K2 (allS (Or.inl (List.mem_of_getElem? (i := 0) rfl)) all0)).trans K4 (allS (Or.inl (List.mem_of_getElem? (i := 0) rfl)) all0)).trans K8 (allS (Or.inl (List.mem_of_getElem? (i := 0) rfl)) all0)).trans K12 (allS (Or.inl (List.mem_of_getElem? (i := 0) rfl)) all0)).trans K16 (allS (Or.inl (List.mem_of_getElem? (i := 0) rfl)) all0))
              exact own_outV X16 hx hlk hret (hb hby d10_158) (Q := Q10s Z o0 p1 nb k sv h0 n0) ⟨rfl, N16, qz29, E16, Fn16, Fk16, (by rw [(own_eqk (4 : Int32) hc41_15 hc51_19 rfl), ← hA5]; exact Fs16)⟩ (by decide) (by decide)
          · skip
            refine o_icY X12 hx hby d10_41 (flt hc41_15).2.2.2 (by decide) (q := 49) (by decide) ?_
            refine o_iloadN X12 hx hby d10_49 rfl (q := 50) rfl ?_
            refine o_iconst X12 hx hby d10_50 (z := 5) rfl (q := 51) rfl ?_
            refine o_icY X12 hx hby d10_51 (flt (own_T4 (own_U2 hc41_15) (by decide) : ¬ ((5 : Int32) < p1))).2.2.2 (by decide) (q := 59) (by decide) ?_
            refine o_iloadN X12 hx hby d10_59 rfl (q := 60) rfl ?_
            refine o_bipush X12 hx hby d10_60 (z := 6) rfl (q := 62) rfl ?_
            refine o_icY X12 hx hby d10_62 (flt (own_T4 (own_U2 hc41_15) (by decide) : ¬ ((6 : Int32) < p1))).2.2.2 (by decide) (q := 70) (by decide) ?_
            refine o_iloadN X12 hx hby d10_70 rfl (q := 71) rfl ?_
            refine o_bipush X12 hx hby d10_71 (z := 7) rfl (q := 73) rfl ?_
            refine o_icY X12 hx hby d10_73 (flt hp7).2.2.2 (by decide) (q := 81) (by decide) ?_
            refine o_iloadN X12 hx hby d10_81 rfl (q := 82) rfl ?_
            refine o_bipush X12 hx hby d10_82 (z := 8) rfl (q := 84) rfl ?_
            refine o_icY X12 hx hby d10_84 (flt (own_T4 (own_U2 hc41_15) (by decide) : ¬ ((8 : Int32) < p1))).2.2.2 (by decide) (q := 92) (by decide) ?_
            refine o_iloadN X12 hx hby d10_92 rfl (q := 93) rfl ?_
            refine o_bipush X12 hx hby d10_93 (z := 9) rfl (q := 95) rfl ?_
            refine o_icY X12 hx hby d10_95 (flt (own_T4 (own_U2 hc41_15) (by decide) : ¬ ((9 : Int32) < p1))).2.2.2 (by decide) (q := 103) (by decide) ?_
            refine o_iloadN X12 hx hby d10_103 rfl (q := 104) rfl ?_
            refine o_bipush X12 hx hby d10_104 (z := 10) rfl (q := 106) rfl ?_
            refine o_icY X12 hx hby d10_106 (flt (own_T4 (own_U2 hc41_15) (by decide) : ¬ ((10 : Int32) < p1))).2.2.2 (by decide) (q := 114) (by decide) ?_
            refine o_iloadN X12 hx hby d10_114 rfl (q := 115) rfl ?_
            refine o_bipush X12 hx hby d10_115 (z := 11) rfl (q := 117) rfl ?_
            refine o_icY X12 hx hby d10_117 (flt (own_T4 (own_U2 hc41_15) (by decide) : ¬ ((11 : Int32) < p1))).2.2.2 (by decide) (q := 125) (by decide) ?_
            refine o_iloadN X12 hx hby d10_125 rfl (q := 126) rfl ?_
            refine o_bipush X12 hx hby d10_126 (z := 12) rfl (q := 128) rfl ?_
            refine o_icY X12 hx hby d10_128 (flt (own_T4 (own_U2 hc41_15) (by decide) : ¬ ((12 : Int32) < p1))).2.2.2 (by decide) (q := 136) (by decide) ?_
            refine o_iloadN X12 hx hby d10_136 rfl (q := 137) rfl ?_
            refine o_bipush X12 hx hby d10_137 (z := 13) rfl (q := 139) rfl ?_
            refine o_icY X12 hx hby d10_139 (flt (own_T4 (own_U2 hc41_15) (by decide) : ¬ ((13 : Int32) < p1))).2.2.2 (by decide) (q := 147) (by decide) ?_
            refine o_iloadN X12 hx hby d10_147 rfl (q := 148) rfl ?_
            refine o_bipush X12 hx hby d10_148 (z := 14) rfl (q := 150) rfl ?_
            refine o_icY X12 hx hby d10_150 (flt (own_T4 (own_U2 hc41_15) (by decide) : ¬ ((14 : Int32) < p1))).2.2.2 (by decide) (q := 158) (by decide) ?_
            have qz30 := (((((Keep.refl h0 [o0]).trans K2 (allS (Or.inl (List.mem_of_getElem? (i := 0) rfl)) all0)).trans K4 (allS (Or.inl (List.mem_of_getElem? (i := 0) rfl)) all0)).trans K8 (allS (Or.inl (List.mem_of_getElem? (i := 0) rfl)) all0)).trans K12 (allS (Or.inl (List.mem_of_getElem? (i := 0) rfl)) all0))
            exact own_outV X12 hx hlk hret (hb hby d10_158) (Q := Q10s Z o0 p1 nb k sv h0 n0) ⟨rfl, N12, qz30, E12, Fn12, Fk12, (by rw [(own_eqk (3 : Int32) hc31_11 hc41_15 rfl), ← hA4]; exact Fs12)⟩ (by decide) (by decide)
        · skip
          refine o_icY X8 hx hby d10_31 (flt hc31_11).2.2.2 (by decide) (q := 39) (by decide) ?_
          refine o_iloadN X8 hx hby d10_39 rfl (q := 40) rfl ?_
          refine o_iconst X8 hx hby d10_40 (z := 4) rfl (q := 41) rfl ?_
          refine o_icY X8 hx hby d10_41 (flt (own_T4 (own_U2 hc31_11) (by decide) : ¬ ((4 : Int32) < p1))).2.2.2 (by decide) (q := 49) (by decide) ?_
          refine o_iloadN X8 hx hby d10_49 rfl (q := 50) rfl ?_
          refine o_iconst X8 hx hby d10_50 (z := 5) rfl (q := 51) rfl ?_
          refine o_icY X8 hx hby d10_51 (flt (own_T4 (own_U2 hc31_11) (by decide) : ¬ ((5 : Int32) < p1))).2.2.2 (by decide) (q := 59) (by decide) ?_
          refine o_iloadN X8 hx hby d10_59 rfl (q := 60) rfl ?_
          refine o_bipush X8 hx hby d10_60 (z := 6) rfl (q := 62) rfl ?_
          refine o_icY X8 hx hby d10_62 (flt (own_T4 (own_U2 hc31_11) (by decide) : ¬ ((6 : Int32) < p1))).2.2.2 (by decide) (q := 70) (by decide) ?_
          refine o_iloadN X8 hx hby d10_70 rfl (q := 71) rfl ?_
          refine o_bipush X8 hx hby d10_71 (z := 7) rfl (q := 73) rfl ?_
          refine o_icY X8 hx hby d10_73 (flt hp7).2.2.2 (by decide) (q := 81) (by decide) ?_
          refine o_iloadN X8 hx hby d10_81 rfl (q := 82) rfl ?_
          refine o_bipush X8 hx hby d10_82 (z := 8) rfl (q := 84) rfl ?_
          refine o_icY X8 hx hby d10_84 (flt (own_T4 (own_U2 hc31_11) (by decide) : ¬ ((8 : Int32) < p1))).2.2.2 (by decide) (q := 92) (by decide) ?_
          refine o_iloadN X8 hx hby d10_92 rfl (q := 93) rfl ?_
          refine o_bipush X8 hx hby d10_93 (z := 9) rfl (q := 95) rfl ?_
          refine o_icY X8 hx hby d10_95 (flt (own_T4 (own_U2 hc31_11) (by decide) : ¬ ((9 : Int32) < p1))).2.2.2 (by decide) (q := 103) (by decide) ?_
          refine o_iloadN X8 hx hby d10_103 rfl (q := 104) rfl ?_
          refine o_bipush X8 hx hby d10_104 (z := 10) rfl (q := 106) rfl ?_
          refine o_icY X8 hx hby d10_106 (flt (own_T4 (own_U2 hc31_11) (by decide) : ¬ ((10 : Int32) < p1))).2.2.2 (by decide) (q := 114) (by decide) ?_
          refine o_iloadN X8 hx hby d10_114 rfl (q := 115) rfl ?_
          refine o_bipush X8 hx hby d10_115 (z := 11) rfl (q := 117) rfl ?_
          refine o_icY X8 hx hby d10_117 (flt (own_T4 (own_U2 hc31_11) (by decide) : ¬ ((11 : Int32) < p1))).2.2.2 (by decide) (q := 125) (by decide) ?_
          refine o_iloadN X8 hx hby d10_125 rfl (q := 126) rfl ?_
          refine o_bipush X8 hx hby d10_126 (z := 12) rfl (q := 128) rfl ?_
          refine o_icY X8 hx hby d10_128 (flt (own_T4 (own_U2 hc31_11) (by decide) : ¬ ((12 : Int32) < p1))).2.2.2 (by decide) (q := 136) (by decide) ?_
          refine o_iloadN X8 hx hby d10_136 rfl (q := 137) rfl ?_
          refine o_bipush X8 hx hby d10_137 (z := 13) rfl (q := 139) rfl ?_
          refine o_icY X8 hx hby d10_139 (flt (own_T4 (own_U2 hc31_11) (by decide) : ¬ ((13 : Int32) < p1))).2.2.2 (by decide) (q := 147) (by decide) ?_
          refine o_iloadN X8 hx hby d10_147 rfl (q := 148) rfl ?_
          refine o_bipush X8 hx hby d10_148 (z := 14) rfl (q := 150) rfl ?_
          refine o_icY X8 hx hby d10_150 (flt (own_T4 (own_U2 hc31_11) (by decide) : ¬ ((14 : Int32) < p1))).2.2.2 (by decide) (q := 158) (by decide) ?_
          have qz31 := ((((Keep.refl h0 [o0]).trans K2 (allS (Or.inl (List.mem_of_getElem? (i := 0) rfl)) all0)).trans K4 (allS (Or.inl (List.mem_of_getElem? (i := 0) rfl)) all0)).trans K8 (allS (Or.inl (List.mem_of_getElem? (i := 0) rfl)) all0))
          exact own_outV X8 hx hlk hret (hb hby d10_158) (Q := Q10s Z o0 p1 nb k sv h0 n0) ⟨rfl, N8, qz31, E8, Fn8, Fk8, (by rw [(own_eqk (2 : Int32) hc21_7 hc31_11 rfl), ← hA3]; exact Fs8)⟩ (by decide) (by decide)
      · skip
        refine o_icY X4 hx hby d10_21 (flt hc21_7).2.2.2 (by decide) (q := 29) (by decide) ?_
        refine o_iloadN X4 hx hby d10_29 rfl (q := 30) rfl ?_
        refine o_iconst X4 hx hby d10_30 (z := 3) rfl (q := 31) rfl ?_
        refine o_icY X4 hx hby d10_31 (flt (own_T4 (own_U2 hc21_7) (by decide) : ¬ ((3 : Int32) < p1))).2.2.2 (by decide) (q := 39) (by decide) ?_
        refine o_iloadN X4 hx hby d10_39 rfl (q := 40) rfl ?_
        refine o_iconst X4 hx hby d10_40 (z := 4) rfl (q := 41) rfl ?_
        refine o_icY X4 hx hby d10_41 (flt (own_T4 (own_U2 hc21_7) (by decide) : ¬ ((4 : Int32) < p1))).2.2.2 (by decide) (q := 49) (by decide) ?_
        refine o_iloadN X4 hx hby d10_49 rfl (q := 50) rfl ?_
        refine o_iconst X4 hx hby d10_50 (z := 5) rfl (q := 51) rfl ?_
        refine o_icY X4 hx hby d10_51 (flt (own_T4 (own_U2 hc21_7) (by decide) : ¬ ((5 : Int32) < p1))).2.2.2 (by decide) (q := 59) (by decide) ?_
        refine o_iloadN X4 hx hby d10_59 rfl (q := 60) rfl ?_
        refine o_bipush X4 hx hby d10_60 (z := 6) rfl (q := 62) rfl ?_
        refine o_icY X4 hx hby d10_62 (flt (own_T4 (own_U2 hc21_7) (by decide) : ¬ ((6 : Int32) < p1))).2.2.2 (by decide) (q := 70) (by decide) ?_
        refine o_iloadN X4 hx hby d10_70 rfl (q := 71) rfl ?_
        refine o_bipush X4 hx hby d10_71 (z := 7) rfl (q := 73) rfl ?_
        refine o_icY X4 hx hby d10_73 (flt hp7).2.2.2 (by decide) (q := 81) (by decide) ?_
        refine o_iloadN X4 hx hby d10_81 rfl (q := 82) rfl ?_
        refine o_bipush X4 hx hby d10_82 (z := 8) rfl (q := 84) rfl ?_
        refine o_icY X4 hx hby d10_84 (flt (own_T4 (own_U2 hc21_7) (by decide) : ¬ ((8 : Int32) < p1))).2.2.2 (by decide) (q := 92) (by decide) ?_
        refine o_iloadN X4 hx hby d10_92 rfl (q := 93) rfl ?_
        refine o_bipush X4 hx hby d10_93 (z := 9) rfl (q := 95) rfl ?_
        refine o_icY X4 hx hby d10_95 (flt (own_T4 (own_U2 hc21_7) (by decide) : ¬ ((9 : Int32) < p1))).2.2.2 (by decide) (q := 103) (by decide) ?_
        refine o_iloadN X4 hx hby d10_103 rfl (q := 104) rfl ?_
        refine o_bipush X4 hx hby d10_104 (z := 10) rfl (q := 106) rfl ?_
        refine o_icY X4 hx hby d10_106 (flt (own_T4 (own_U2 hc21_7) (by decide) : ¬ ((10 : Int32) < p1))).2.2.2 (by decide) (q := 114) (by decide) ?_
        refine o_iloadN X4 hx hby d10_114 rfl (q := 115) rfl ?_
        refine o_bipush X4 hx hby d10_115 (z := 11) rfl (q := 117) rfl ?_
        refine o_icY X4 hx hby d10_117 (flt (own_T4 (own_U2 hc21_7) (by decide) : ¬ ((11 : Int32) < p1))).2.2.2 (by decide) (q := 125) (by decide) ?_
        refine o_iloadN X4 hx hby d10_125 rfl (q := 126) rfl ?_
        refine o_bipush X4 hx hby d10_126 (z := 12) rfl (q := 128) rfl ?_
        refine o_icY X4 hx hby d10_128 (flt (own_T4 (own_U2 hc21_7) (by decide) : ¬ ((12 : Int32) < p1))).2.2.2 (by decide) (q := 136) (by decide) ?_
        refine o_iloadN X4 hx hby d10_136 rfl (q := 137) rfl ?_
        refine o_bipush X4 hx hby d10_137 (z := 13) rfl (q := 139) rfl ?_
        refine o_icY X4 hx hby d10_139 (flt (own_T4 (own_U2 hc21_7) (by decide) : ¬ ((13 : Int32) < p1))).2.2.2 (by decide) (q := 147) (by decide) ?_
        refine o_iloadN X4 hx hby d10_147 rfl (q := 148) rfl ?_
        refine o_bipush X4 hx hby d10_148 (z := 14) rfl (q := 150) rfl ?_
        refine o_icY X4 hx hby d10_150 (flt (own_T4 (own_U2 hc21_7) (by decide) : ¬ ((14 : Int32) < p1))).2.2.2 (by decide) (q := 158) (by decide) ?_
        have qz32 := (((Keep.refl h0 [o0]).trans K2 (allS (Or.inl (List.mem_of_getElem? (i := 0) rfl)) all0)).trans K4 (allS (Or.inl (List.mem_of_getElem? (i := 0) rfl)) all0))
        exact own_outV X4 hx hlk hret (hb hby d10_158) (Q := Q10s Z o0 p1 nb k sv h0 n0) ⟨rfl, N4, qz32, E4, Fn4, Fk4, (by rw [(own_eqk (1 : Int32) hc11_3 hc21_7 rfl), ← hA2]; exact Fs4)⟩ (by decide) (by decide)
    · skip
      refine o_icY X2 hx hby d10_11 (flt hc11_3).2.2.2 (by decide) (q := 19) (by decide) ?_
      refine o_iloadN X2 hx hby d10_19 rfl (q := 20) rfl ?_
      refine o_iconst X2 hx hby d10_20 (z := 2) rfl (q := 21) rfl ?_
      refine o_icY X2 hx hby d10_21 (flt (own_T4 (own_U2 hc11_3) (by decide) : ¬ ((2 : Int32) < p1))).2.2.2 (by decide) (q := 29) (by decide) ?_
      refine o_iloadN X2 hx hby d10_29 rfl (q := 30) rfl ?_
      refine o_iconst X2 hx hby d10_30 (z := 3) rfl (q := 31) rfl ?_
      refine o_icY X2 hx hby d10_31 (flt (own_T4 (own_U2 hc11_3) (by decide) : ¬ ((3 : Int32) < p1))).2.2.2 (by decide) (q := 39) (by decide) ?_
      refine o_iloadN X2 hx hby d10_39 rfl (q := 40) rfl ?_
      refine o_iconst X2 hx hby d10_40 (z := 4) rfl (q := 41) rfl ?_
      refine o_icY X2 hx hby d10_41 (flt (own_T4 (own_U2 hc11_3) (by decide) : ¬ ((4 : Int32) < p1))).2.2.2 (by decide) (q := 49) (by decide) ?_
      refine o_iloadN X2 hx hby d10_49 rfl (q := 50) rfl ?_
      refine o_iconst X2 hx hby d10_50 (z := 5) rfl (q := 51) rfl ?_
      refine o_icY X2 hx hby d10_51 (flt (own_T4 (own_U2 hc11_3) (by decide) : ¬ ((5 : Int32) < p1))).2.2.2 (by decide) (q := 59) (by decide) ?_
      refine o_iloadN X2 hx hby d10_59 rfl (q := 60) rfl ?_
      refine o_bipush X2 hx hby d10_60 (z := 6) rfl (q := 62) rfl ?_
      refine o_icY X2 hx hby d10_62 (flt (own_T4 (own_U2 hc11_3) (by decide) : ¬ ((6 : Int32) < p1))).2.2.2 (by decide) (q := 70) (by decide) ?_
      refine o_iloadN X2 hx hby d10_70 rfl (q := 71) rfl ?_
      refine o_bipush X2 hx hby d10_71 (z := 7) rfl (q := 73) rfl ?_
      refine o_icY X2 hx hby d10_73 (flt hp7).2.2.2 (by decide) (q := 81) (by decide) ?_
      refine o_iloadN X2 hx hby d10_81 rfl (q := 82) rfl ?_
      refine o_bipush X2 hx hby d10_82 (z := 8) rfl (q := 84) rfl ?_
      refine o_icY X2 hx hby d10_84 (flt (own_T4 (own_U2 hc11_3) (by decide) : ¬ ((8 : Int32) < p1))).2.2.2 (by decide) (q := 92) (by decide) ?_
      refine o_iloadN X2 hx hby d10_92 rfl (q := 93) rfl ?_
      refine o_bipush X2 hx hby d10_93 (z := 9) rfl (q := 95) rfl ?_
      refine o_icY X2 hx hby d10_95 (flt (own_T4 (own_U2 hc11_3) (by decide) : ¬ ((9 : Int32) < p1))).2.2.2 (by decide) (q := 103) (by decide) ?_
      refine o_iloadN X2 hx hby d10_103 rfl (q := 104) rfl ?_
      refine o_bipush X2 hx hby d10_104 (z := 10) rfl (q := 106) rfl ?_
      refine o_icY X2 hx hby d10_106 (flt (own_T4 (own_U2 hc11_3) (by decide) : ¬ ((10 : Int32) < p1))).2.2.2 (by decide) (q := 114) (by decide) ?_
      refine o_iloadN X2 hx hby d10_114 rfl (q := 115) rfl ?_
      refine o_bipush X2 hx hby d10_115 (z := 11) rfl (q := 117) rfl ?_
      refine o_icY X2 hx hby d10_117 (flt (own_T4 (own_U2 hc11_3) (by decide) : ¬ ((11 : Int32) < p1))).2.2.2 (by decide) (q := 125) (by decide) ?_
      refine o_iloadN X2 hx hby d10_125 rfl (q := 126) rfl ?_
      refine o_bipush X2 hx hby d10_126 (z := 12) rfl (q := 128) rfl ?_
      refine o_icY X2 hx hby d10_128 (flt (own_T4 (own_U2 hc11_3) (by decide) : ¬ ((12 : Int32) < p1))).2.2.2 (by decide) (q := 136) (by decide) ?_
      refine o_iloadN X2 hx hby d10_136 rfl (q := 137) rfl ?_
      refine o_bipush X2 hx hby d10_137 (z := 13) rfl (q := 139) rfl ?_
      refine o_icY X2 hx hby d10_139 (flt (own_T4 (own_U2 hc11_3) (by decide) : ¬ ((13 : Int32) < p1))).2.2.2 (by decide) (q := 147) (by decide) ?_
      refine o_iloadN X2 hx hby d10_147 rfl (q := 148) rfl ?_
      refine o_bipush X2 hx hby d10_148 (z := 14) rfl (q := 150) rfl ?_
      refine o_icY X2 hx hby d10_150 (flt (own_T4 (own_U2 hc11_3) (by decide) : ¬ ((14 : Int32) < p1))).2.2.2 (by decide) (q := 158) (by decide) ?_
      have qz33 := ((Keep.refl h0 [o0]).trans K2 (allS (Or.inl (List.mem_of_getElem? (i := 0) rfl)) all0))
      exact own_outV X2 hx hlk hret (hb hby d10_158) (Q := Q10s Z o0 p1 nb k sv h0 n0) ⟨rfl, N2, qz33, E2, Fn2, Fk2, (by rw [(own_eqk (0 : Int32) hc1_1 hc11_3 rfl), ← hA1]; exact Fs2)⟩ (by decide) (by decide)
  · skip
    refine o_ifY X0 hx hby d10_1 ((if0 _ _).trans (flt hc1_1).2.2.2) (by decide) (q := 9) (by decide) ?_
    refine o_iloadN X0 hx hby d10_9 rfl (q := 10) rfl ?_
    refine o_iconst X0 hx hby d10_10 (z := 1) rfl (q := 11) rfl ?_
    refine o_icY X0 hx hby d10_11 (flt (own_T4 (own_U2 hc1_1) (by decide) : ¬ ((1 : Int32) < p1))).2.2.2 (by decide) (q := 19) (by decide) ?_
    refine o_iloadN X0 hx hby d10_19 rfl (q := 20) rfl ?_
    refine o_iconst X0 hx hby d10_20 (z := 2) rfl (q := 21) rfl ?_
    refine o_icY X0 hx hby d10_21 (flt (own_T4 (own_U2 hc1_1) (by decide) : ¬ ((2 : Int32) < p1))).2.2.2 (by decide) (q := 29) (by decide) ?_
    refine o_iloadN X0 hx hby d10_29 rfl (q := 30) rfl ?_
    refine o_iconst X0 hx hby d10_30 (z := 3) rfl (q := 31) rfl ?_
    refine o_icY X0 hx hby d10_31 (flt (own_T4 (own_U2 hc1_1) (by decide) : ¬ ((3 : Int32) < p1))).2.2.2 (by decide) (q := 39) (by decide) ?_
    refine o_iloadN X0 hx hby d10_39 rfl (q := 40) rfl ?_
    refine o_iconst X0 hx hby d10_40 (z := 4) rfl (q := 41) rfl ?_
    refine o_icY X0 hx hby d10_41 (flt (own_T4 (own_U2 hc1_1) (by decide) : ¬ ((4 : Int32) < p1))).2.2.2 (by decide) (q := 49) (by decide) ?_
    refine o_iloadN X0 hx hby d10_49 rfl (q := 50) rfl ?_
    refine o_iconst X0 hx hby d10_50 (z := 5) rfl (q := 51) rfl ?_
    refine o_icY X0 hx hby d10_51 (flt (own_T4 (own_U2 hc1_1) (by decide) : ¬ ((5 : Int32) < p1))).2.2.2 (by decide) (q := 59) (by decide) ?_
    refine o_iloadN X0 hx hby d10_59 rfl (q := 60) rfl ?_
    refine o_bipush X0 hx hby d10_60 (z := 6) rfl (q := 62) rfl ?_
    refine o_icY X0 hx hby d10_62 (flt (own_T4 (own_U2 hc1_1) (by decide) : ¬ ((6 : Int32) < p1))).2.2.2 (by decide) (q := 70) (by decide) ?_
    refine o_iloadN X0 hx hby d10_70 rfl (q := 71) rfl ?_
    refine o_bipush X0 hx hby d10_71 (z := 7) rfl (q := 73) rfl ?_
    refine o_icY X0 hx hby d10_73 (flt hp7).2.2.2 (by decide) (q := 81) (by decide) ?_
    refine o_iloadN X0 hx hby d10_81 rfl (q := 82) rfl ?_
    refine o_bipush X0 hx hby d10_82 (z := 8) rfl (q := 84) rfl ?_
    refine o_icY X0 hx hby d10_84 (flt (own_T4 (own_U2 hc1_1) (by decide) : ¬ ((8 : Int32) < p1))).2.2.2 (by decide) (q := 92) (by decide) ?_
    refine o_iloadN X0 hx hby d10_92 rfl (q := 93) rfl ?_
    refine o_bipush X0 hx hby d10_93 (z := 9) rfl (q := 95) rfl ?_
    refine o_icY X0 hx hby d10_95 (flt (own_T4 (own_U2 hc1_1) (by decide) : ¬ ((9 : Int32) < p1))).2.2.2 (by decide) (q := 103) (by decide) ?_
    refine o_iloadN X0 hx hby d10_103 rfl (q := 104) rfl ?_
    refine o_bipush X0 hx hby d10_104 (z := 10) rfl (q := 106) rfl ?_
    refine o_icY X0 hx hby d10_106 (flt (own_T4 (own_U2 hc1_1) (by decide) : ¬ ((10 : Int32) < p1))).2.2.2 (by decide) (q := 114) (by decide) ?_
    refine o_iloadN X0 hx hby d10_114 rfl (q := 115) rfl ?_
    refine o_bipush X0 hx hby d10_115 (z := 11) rfl (q := 117) rfl ?_
    refine o_icY X0 hx hby d10_117 (flt (own_T4 (own_U2 hc1_1) (by decide) : ¬ ((11 : Int32) < p1))).2.2.2 (by decide) (q := 125) (by decide) ?_
    refine o_iloadN X0 hx hby d10_125 rfl (q := 126) rfl ?_
    refine o_bipush X0 hx hby d10_126 (z := 12) rfl (q := 128) rfl ?_
    refine o_icY X0 hx hby d10_128 (flt (own_T4 (own_U2 hc1_1) (by decide) : ¬ ((12 : Int32) < p1))).2.2.2 (by decide) (q := 136) (by decide) ?_
    refine o_iloadN X0 hx hby d10_136 rfl (q := 137) rfl ?_
    refine o_bipush X0 hx hby d10_137 (z := 13) rfl (q := 139) rfl ?_
    refine o_icY X0 hx hby d10_139 (flt (own_T4 (own_U2 hc1_1) (by decide) : ¬ ((13 : Int32) < p1))).2.2.2 (by decide) (q := 147) (by decide) ?_
    refine o_iloadN X0 hx hby d10_147 rfl (q := 148) rfl ?_
    refine o_bipush X0 hx hby d10_148 (z := 14) rfl (q := 150) rfl ?_
    refine o_icY X0 hx hby d10_150 (flt (own_T4 (own_U2 hc1_1) (by decide) : ¬ ((14 : Int32) < p1))).2.2.2 (by decide) (q := 158) (by decide) ?_
    exact own_outV X0 hx hlk hret (hb hby d10_158) (Q := Q10s Z o0 p1 nb k sv h0 n0) (by rw [e0]; exact ⟨rfl, N0, (Keep.refl h0 [o0]), E, Fn, Fk, (by rw [(own_eq0 hp.1 hc1_1), Int32.add_zero]; exact Fs)⟩) (by decide) (by decide)
theorem d17_0 : decode jdk_33_method_47_code 0 = .ok (.iload_n 0, 1) := by decide +kernel
theorem d17_1 : decode jdk_33_method_47_code 1 = .ok (.ifCond .gt 14, 3) := by decide +kernel
theorem d17_15 : decode jdk_33_method_47_code 15 = .ok (.bipush 31, 2) := by decide +kernel
theorem d17_17 : decode jdk_33_method_47_code 17 = .ok (.istore_n 1, 1) := by decide +kernel
theorem d17_18 : decode jdk_33_method_47_code 18 = .ok (.iload_n 0, 1) := by decide +kernel
theorem d17_19 : decode jdk_33_method_47_code 19 = .ok (.ldc_w 264, 3) := by decide +kernel
theorem d17_22 : decode jdk_33_method_47_code 22 = .ok (.if_icmp .lt 11, 3) := by decide +kernel
theorem d17_33 : decode jdk_33_method_47_code 33 = .ok (.iload_n 0, 1) := by decide +kernel
theorem d17_34 : decode jdk_33_method_47_code 34 = .ok (.sipush 256, 3) := by decide +kernel
theorem d17_37 : decode jdk_33_method_47_code 37 = .ok (.if_icmp .lt 11, 3) := by decide +kernel
theorem d17_48 : decode jdk_33_method_47_code 48 = .ok (.iload_n 0, 1) := by decide +kernel
theorem d17_49 : decode jdk_33_method_47_code 49 = .ok (.bipush 16, 2) := by decide +kernel
theorem d17_51 : decode jdk_33_method_47_code 51 = .ok (.if_icmp .lt 10, 3) := by decide +kernel
theorem d17_61 : decode jdk_33_method_47_code 61 = .ok (.iload_n 0, 1) := by decide +kernel
theorem d17_62 : decode jdk_33_method_47_code 62 = .ok (.iconst 4, 1) := by decide +kernel
theorem d17_63 : decode jdk_33_method_47_code 63 = .ok (.if_icmp .lt 10, 3) := by decide +kernel
theorem d17_66 : decode jdk_33_method_47_code 66 = .ok (.iinc 1 (-2), 3) := by decide +kernel
theorem d17_69 : decode jdk_33_method_47_code 69 = .ok (.iload_n 0, 1) := by decide +kernel
theorem d17_70 : decode jdk_33_method_47_code 70 = .ok (.iconst 2, 1) := by decide +kernel
theorem d17_71 : decode jdk_33_method_47_code 71 = .ok (.iushr, 1) := by decide +kernel
theorem d17_72 : decode jdk_33_method_47_code 72 = .ok (.istore_n 0, 1) := by decide +kernel
theorem d17_73 : decode jdk_33_method_47_code 73 = .ok (.iload_n 1, 1) := by decide +kernel
theorem d17_74 : decode jdk_33_method_47_code 74 = .ok (.iload_n 0, 1) := by decide +kernel
theorem d17_75 : decode jdk_33_method_47_code 75 = .ok (.iconst 1, 1) := by decide +kernel
theorem d17_76 : decode jdk_33_method_47_code 76 = .ok (.iushr, 1) := by decide +kernel
theorem d17_77 : decode jdk_33_method_47_code 77 = .ok (.isub, 1) := by decide +kernel
theorem d17_78 : decode jdk_33_method_47_code 78 = .ok (.ireturn, 1) := by decide +kernel
theorem pn_7 : plainName "java/lang/Integer" = true := by first | (simp [plainName, overriddenIn]; done) | decide +kernel
theorem ef_17a (m : MethodId)  : entryFrame m #[(.int 15)] 2 = mkF m 0 #[.val (.int 15), .unset] [] := by first | (simp [entryFrame, mkF, argsToLocals, Value.category]; done) | rfl
def Q17a (Z : State)  (h0 : Heap) (n0 : Nat) (v : Option Value) (h : Heap) (L : List Loc) : Prop := v = some (.int 28) ∧ Fr n0 L ∧ h = h0
set_option maxRecDepth 65536 in
set_option maxHeartbeats 40000000 in
theorem rm17a (l : Launch) (Z : State) (a0 : Array Value) (hw : ∀ d ∈ tables_1, d.before a0 Z = true) (ws : List Jvm.Cond)  (h0 : Heap) (n0 : Nat) (Z0 : n0 ≤ h0.size) :
    MetFree l mn_15 (head1 (Jvm.Cond.code mn_15 jdk_33_method_47_code 2 (some .int) :: ws) (⟨0, 0, 0, 0⟩ : Room)) (fun a U => a = #[(.int 15)] ∧ Z.Warmed39 U.vm ∧ U.heap = h0) (fun _ _ _ _ _ => True) (fun _ U o U' => ∃ v L, o = .returned v ∧ Q17a Z  h0 n0 v U'.heap L ∧ FrameEnd U o U' L (⟨0, 0, 0, 0⟩ : Room).cells (⟨0, 0, 0, 0⟩ : Room).slots) := by
  refine MetFree.of_bodySF (plainFor_of_name pn_7) hisR ?_
  intro p e s m args below meth c s₁ Bd hml0 hP hK
  obtain ⟨rfl, hZ, hh⟩ := hP
  have hx := Bd.exec
  have hby := Bd.bytes
  have hml : c.maxLocals = 2 := hml0
  have hown : s.vm.findClass "java/lang/Integer" = some m.cls := findClass_of_methodNamed Bd.named
  have hnm := (name_of_methodNamed Bd.named Bd.method).1
  have X0 : Stand p l e (⟨0, 0, 0, 0⟩ : Room) s m #[(.int 15)] below meth c s₁ [] 0 0 := Stand.of_body Bd
  have e0 : s₁.heap = h0 := by rw [← hh, Bd.state]; rfl
  have N0 := Fr.nil n0
  have hret := Bd.returns
  have hlk := BodyLoose.notSynchronized Bd
  show own_Out p e below (fun o U' => ∃ v L, o = .returned v ∧ Q17a Z  h0 n0 v U'.heap L ∧ FrameEnd s o U' L (⟨0, 0, 0, 0⟩ : Room).cells (⟨0, 0, 0, 0⟩ : Room).slots) (s₁.setTop (entryFrame m #[(.int 15)] 2))
  refine own_of (fun t k => castTop (ef_17a m ) k) ?_
  show own_Out p e below _ (s₁.setTop (mkF m 0 #[iv 15, .unset] []))
  refine o_iloadN X0 hx hby d17_0 rfl (q := 1) rfl ?_
  refine o_ifY X0 hx hby d17_1 ((if0 _ _).trans (tlt (by decide : (0 : Int32) < (15 : Int32))).2.2.1) (by decide) (q := 15) (by decide) ?_
  refine o_bipush X0 hx hby d17_15 (z := 31) rfl (q := 17) rfl ?_
  refine o_istoreN X0 hx hby d17_17 (l' := #[iv 15, iv 31]) rfl (q := 18) rfl ?_
  refine o_iloadN X0 hx hby d17_18 rfl (q := 19) rfl ?_
  refine own_of (X0.ldcWInt hx hown (mvT hZ (w_ hw 131 rfl)) (g := (mkF m 19 #[iv 15, iv 31] [.int 15])) rfl (hb hby d17_19)) ?_
  show own_Out p e below _ (s₁.setTop (mkF m 22 #[iv 15, iv 31] [.int 65536, .int 15]))
  refine o_icY X0 hx hby d17_22 (tlt (by decide : (15 : Int32) < (65536 : Int32))).1 (by decide) (q := 33) (by decide) ?_
  refine o_iloadN X0 hx hby d17_33 rfl (q := 34) rfl ?_
  refine o_sipush X0 hx hby d17_34 (z := 256) rfl (q := 37) rfl ?_
  refine o_icY X0 hx hby d17_37 (tlt (by decide : (15 : Int32) < (256 : Int32))).1 (by decide) (q := 48) (by decide) ?_
  refine o_iloadN X0 hx hby d17_48 rfl (q := 49) rfl ?_
  refine o_bipush X0 hx hby d17_49 (z := 16) rfl (q := 51) rfl ?_
  refine o_icY X0 hx hby d17_51 (tlt (by decide : (15 : Int32) < (16 : Int32))).1 (by decide) (q := 61) (by decide) ?_
  refine o_iloadN X0 hx hby d17_61 rfl (q := 62) rfl ?_
  refine o_iconst X0 hx hby d17_62 (z := 4) rfl (q := 63) rfl ?_
  refine o_icN X0 hx hby d17_63 (flt (by decide : ¬ ((15 : Int32) < (4 : Int32)))).1 (q := 66) rfl ?_
  refine o_iinc X0 hx hby d17_66 rfl (l' := #[iv 15, iv 29]) rfl (q := 69) rfl ?_
  refine o_iloadN X0 hx hby d17_69 rfl (q := 70) rfl ?_
  refine o_iconst X0 hx hby d17_70 (z := 2) rfl (q := 71) rfl ?_
  refine o_iushr X0 hx hby d17_71 (z := 3) rfl (q := 72) rfl ?_
  refine o_istoreN X0 hx hby d17_72 (l' := #[iv 3, iv 29]) rfl (q := 73) rfl ?_
  refine o_iloadN X0 hx hby d17_73 rfl (q := 74) rfl ?_
  refine o_iloadN X0 hx hby d17_74 rfl (q := 75) rfl ?_
  refine o_iconst X0 hx hby d17_75 (z := 1) rfl (q := 76) rfl ?_
  refine o_iushr X0 hx hby d17_76 (z := 1) rfl (q := 77) rfl ?_
  refine o_isub X0 hx hby d17_77 (z := 28) rfl (q := 78) rfl ?_
  exact own_outI X0 hx hlk hret (hb hby d17_78) (Q := Q17a Z  h0 n0) ⟨rfl, N0, e0⟩ (by decide) (by decide)
theorem d17_54 : decode jdk_33_method_47_code 54 = .ok (.iinc 1 (-4), 3) := by decide +kernel
theorem d17_57 : decode jdk_33_method_47_code 57 = .ok (.iload_n 0, 1) := by decide +kernel
theorem d17_58 : decode jdk_33_method_47_code 58 = .ok (.iconst 4, 1) := by decide +kernel
theorem d17_59 : decode jdk_33_method_47_code 59 = .ok (.iushr, 1) := by decide +kernel
theorem d17_60 : decode jdk_33_method_47_code 60 = .ok (.istore_n 0, 1) := by decide +kernel
theorem ef_17b (m : MethodId)  : entryFrame m #[(.int 31)] 2 = mkF m 0 #[.val (.int 31), .unset] [] := by first | (simp [entryFrame, mkF, argsToLocals, Value.category]; done) | rfl
def Q17b (Z : State)  (h0 : Heap) (n0 : Nat) (v : Option Value) (h : Heap) (L : List Loc) : Prop := v = some (.int 27) ∧ Fr n0 L ∧ h = h0
set_option maxRecDepth 65536 in
set_option maxHeartbeats 40000000 in
theorem rm17b (l : Launch) (Z : State) (a0 : Array Value) (hw : ∀ d ∈ tables_1, d.before a0 Z = true) (ws : List Jvm.Cond)  (h0 : Heap) (n0 : Nat) (Z0 : n0 ≤ h0.size) :
    MetFree l mn_15 (head1 (Jvm.Cond.code mn_15 jdk_33_method_47_code 2 (some .int) :: ws) (⟨0, 0, 0, 0⟩ : Room)) (fun a U => a = #[(.int 31)] ∧ Z.Warmed39 U.vm ∧ U.heap = h0) (fun _ _ _ _ _ => True) (fun _ U o U' => ∃ v L, o = .returned v ∧ Q17b Z  h0 n0 v U'.heap L ∧ FrameEnd U o U' L (⟨0, 0, 0, 0⟩ : Room).cells (⟨0, 0, 0, 0⟩ : Room).slots) := by
  refine MetFree.of_bodySF (plainFor_of_name pn_7) hisR ?_
  intro p e s m args below meth c s₁ Bd hml0 hP hK
  obtain ⟨rfl, hZ, hh⟩ := hP
  have hx := Bd.exec
  have hby := Bd.bytes
  have hml : c.maxLocals = 2 := hml0
  have hown : s.vm.findClass "java/lang/Integer" = some m.cls := findClass_of_methodNamed Bd.named
  have hnm := (name_of_methodNamed Bd.named Bd.method).1
  have X0 : Stand p l e (⟨0, 0, 0, 0⟩ : Room) s m #[(.int 31)] below meth c s₁ [] 0 0 := Stand.of_body Bd
  have e0 : s₁.heap = h0 := by rw [← hh, Bd.state]; rfl
  have N0 := Fr.nil n0
  have hret := Bd.returns
  have hlk := BodyLoose.notSynchronized Bd
  show own_Out p e below (fun o U' => ∃ v L, o = .returned v ∧ Q17b Z  h0 n0 v U'.heap L ∧ FrameEnd s o U' L (⟨0, 0, 0, 0⟩ : Room).cells (⟨0, 0, 0, 0⟩ : Room).slots) (s₁.setTop (entryFrame m #[(.int 31)] 2))
  refine own_of (fun t k => castTop (ef_17b m ) k) ?_
  show own_Out p e below _ (s₁.setTop (mkF m 0 #[iv 31, .unset] []))
  refine o_iloadN X0 hx hby d17_0 rfl (q := 1) rfl ?_
  refine o_ifY X0 hx hby d17_1 ((if0 _ _).trans (tlt (by decide : (0 : Int32) < (31 : Int32))).2.2.1) (by decide) (q := 15) (by decide) ?_
  refine o_bipush X0 hx hby d17_15 (z := 31) rfl (q := 17) rfl ?_
  refine o_istoreN X0 hx hby d17_17 (l' := #[iv 31, iv 31]) rfl (q := 18) rfl ?_
  refine o_iloadN X0 hx hby d17_18 rfl (q := 19) rfl ?_
  refine own_of (X0.ldcWInt hx hown (mvT hZ (w_ hw 131 rfl)) (g := (mkF m 19 #[iv 31, iv 31] [.int 31])) rfl (hb hby d17_19)) ?_
  show own_Out p e below _ (s₁.setTop (mkF m 22 #[iv 31, iv 31] [.int 65536, .int 31]))
  refine o_icY X0 hx hby d17_22 (tlt (by decide : (31 : Int32) < (65536 : Int32))).1 (by decide) (q := 33) (by decide) ?_
  refine o_iloadN X0 hx hby d17_33 rfl (q := 34) rfl ?_
  refine o_sipush X0 hx hby d17_34 (z := 256) rfl (q := 37) rfl ?_
  refine o_icY X0 hx hby d17_37 (tlt (by decide : (31 : Int32) < (256 : Int32))).1 (by decide) (q := 48) (by decide) ?_
  refine o_iloadN X0 hx hby d17_48 rfl (q := 49) rfl ?_
  refine o_bipush X0 hx hby d17_49 (z := 16) rfl (q := 51) rfl ?_
  refine o_icN X0 hx hby d17_51 (flt (by decide : ¬ ((31 : Int32) < (16 : Int32)))).1 (q := 54) rfl ?_
  refine o_iinc X0 hx hby d17_54 rfl (l' := #[iv 31, iv 27]) rfl (q := 57) rfl ?_
  refine o_iloadN X0 hx hby d17_57 rfl (q := 58) rfl ?_
  refine o_iconst X0 hx hby d17_58 (z := 4) rfl (q := 59) rfl ?_
  refine o_iushr X0 hx hby d17_59 (z := 1) rfl (q := 60) rfl ?_
  refine o_istoreN X0 hx hby d17_60 (l' := #[iv 1, iv 27]) rfl (q := 61) rfl ?_
  refine o_iloadN X0 hx hby d17_61 rfl (q := 62) rfl ?_
  refine o_iconst X0 hx hby d17_62 (z := 4) rfl (q := 63) rfl ?_
  refine o_icY X0 hx hby d17_63 (tlt (by decide : (1 : Int32) < (4 : Int32))).1 (by decide) (q := 73) (by decide) ?_
  refine o_iloadN X0 hx hby d17_73 rfl (q := 74) rfl ?_
  refine o_iloadN X0 hx hby d17_74 rfl (q := 75) rfl ?_
  refine o_iconst X0 hx hby d17_75 (z := 1) rfl (q := 76) rfl ?_
  refine o_iushr X0 hx hby d17_76 (z := 0) rfl (q := 77) rfl ?_
  refine o_isub X0 hx hby d17_77 (z := 27) rfl (q := 78) rfl ?_
  exact own_outI X0 hx hlk hret (hb hby d17_78) (Q := Q17b Z  h0 n0) ⟨rfl, N0, e0⟩ (by decide) (by decide)
theorem pd_7 : parseMethodDescriptor "(I)I" = some ⟨[.int], some .int⟩ := by decide +kernel
theorem d16_0 : decode prog_57_method_10_code 0 = .ok (.iload_n 0, 1) := by decide +kernel
theorem d16_1 : decode prog_57_method_10_code 1 = .ok (.aload_n 1, 1) := by decide +kernel
theorem d16_2 : decode prog_57_method_10_code 2 = .ok (.arraylength, 1) := by decide +kernel
theorem d16_3 : decode prog_57_method_10_code 3 = .ok (.iconst 1, 1) := by decide +kernel
theorem d16_4 : decode prog_57_method_10_code 4 = .ok (.isub, 1) := by decide +kernel
theorem d16_5 : decode prog_57_method_10_code 5 = .ok (.invokestatic 141, 3) := by decide +kernel
theorem d16_8 : decode prog_57_method_10_code 8 = .ok (.iushr, 1) := by decide +kernel
theorem d16_9 : decode prog_57_method_10_code 9 = .ok (.ireturn, 1) := by decide +kernel
theorem ef_16n16 (m : MethodId) (x1 : Addr) : entryFrame m #[(.int 0), (.ref x1)] 2 = mkF m 0 #[.val (.int 0), .val (.ref x1)] [] := by first | (simp [entryFrame, mkF, argsToLocals, Value.category]; done) | rfl
def Q16n16 (Z : State) (o1 : Addr) (k : ClassId) (vs : List Value) (h0 : Heap) (n0 : Nat) (v : Option Value) (h : Heap) (L : List Loc) : Prop := v = some (.int 0) ∧ Fr n0 L ∧ h = h0
set_option maxRecDepth 65536 in
set_option maxHeartbeats 40000000 in
theorem rm16n16 (l : Launch) (Z : State) (a0 : Array Value) (hw : ∀ d ∈ tables_1, d.before a0 Z = true) (ws : List Jvm.Cond) (o1 : Addr) (k : ClassId) (vs : List Value) (h0 : Heap) (n0 : Nat) (Z0 : n0 ≤ h0.size) (V : Arv Z h0 o1 k .int 16 vs (.int 0)) :
    MetFree l mn_16 (head1 (Jvm.Cond.code mn_16 prog_57_method_10_code 2 (some .int) :: ws) (⟨1, 0, 0, 14⟩ : Room)) (fun a U => a = #[(.int 0), (.ref o1)] ∧ Z.Warmed39 U.vm ∧ U.heap = h0) (fun _ _ _ _ _ => True) (fun _ U o U' => ∃ v L, o = .returned v ∧ Q16n16 Z o1 k vs h0 n0 v U'.heap L ∧ FrameEnd U o U' L (⟨1, 0, 0, 14⟩ : Room).cells (⟨1, 0, 0, 14⟩ : Room).slots) := by
  refine MetFree.of_bodySF (plainFor_of_name pn_5) hisR ?_
  intro p e s m args below meth c s₁ Bd hml0 hP hK
  obtain ⟨rfl, hZ, hh⟩ := hP
  have hx := Bd.exec
  have hby := Bd.bytes
  have hml : c.maxLocals = 2 := hml0
  have hown : s.vm.findClass "com/example/headway/headway/engine/HashIndex" = some m.cls := findClass_of_methodNamed Bd.named
  have hnm := (name_of_methodNamed Bd.named Bd.method).1
  have X0 : Stand p l e (⟨1, 0, 0, 14⟩ : Room) s m #[(.int 0), (.ref o1)] below meth c s₁ [] 0 0 := Stand.of_body Bd
  have e0 : s₁.heap = h0 := by rw [← hh, Bd.state]; rfl
  have N0 := Fr.nil n0
  have hret := Bd.returns
  have hlk := BodyLoose.notSynchronized Bd
  show own_Out p e below (fun o U' => ∃ v L, o = .returned v ∧ Q16n16 Z o1 k vs h0 n0 v U'.heap L ∧ FrameEnd s o U' L (⟨1, 0, 0, 14⟩ : Room).cells (⟨1, 0, 0, 14⟩ : Room).slots) (s₁.setTop (entryFrame m #[(.int 0), (.ref o1)] 2))
  refine own_of (fun t k => castTop (ef_16n16 m o1) k) ?_
  show own_Out p e below _ (s₁.setTop (mkF m 0 #[iv 0, rv o1] []))
  refine o_iloadN X0 hx hby d16_0 rfl (q := 1) rfl ?_
  refine o_aloadN X0 hx hby d16_1 rfl rfl (q := 2) rfl ?_
  refine o_lenV X0 hx hby hZ e0 V d16_2 (q := 3) rfl ?_
  refine o_iconst X0 hx hby d16_3 (z := 1) rfl (q := 4) rfl ?_
  refine o_isub X0 hx hby d16_4 (z := 15) rfl (q := 5) rfl ?_
  obtain ⟨_, _, ⟨T1, L1, k1, n1⟩, -, X1, ⟨Lc1, hQ1, l1, y1, z1⟩, st1⟩ := Jvm.LawKit.callS X0 hx (y := mn_15) hown (mvT hZ (w_ hw 127 rfl)) (mvT hZ (w_ hw 128 rfl)) (mvT hZ (w_ hw 129 rfl)) (mvT hZ (w_ hw 130 rfl)) (by decide) (backOf (W := 1) (rm17a l Z a0 hw []  h0 n0 Z0 ) hZ (w_ hw 130 rfl) (w_ hw 129 rfl) (by decide) (by decide)) (g := (mkF m 5 #[iv 0, rv o1] [.int 15, .int 0])) rfl (by rw [hml]; rfl) (argsL := [(.int 15)]) (rest := [(.int 0)]) (lenOf pd_7 rfl) rfl (by show 2 * 0 + _ ≤ _; exact Nat.le_of_eq rfl) (hb hby d16_5) (fun _ _ => ⟨rfl, e0, (by decide : 0 + 0 ≤ _), (by decide : 0 + 0 ≤ _)⟩)
  dsimp only [Pt.U, Pt.locs, Pt.cells, Pt.slots] at X1 l1 y1 z1 st1 hQ1
  subst l1 y1 z1
  obtain ⟨rfl, N1q, hh1⟩ := hQ1
  have N1 := Fr.app N0 N1q
  refine own_of st1 ?_
  show own_Out p e below _ (T1.setTop (mkF m 8 #[iv 0, rv o1] [.int 28, .int 0]))
  refine o_iushr X1 hx hby d16_8 (z := 0) rfl (q := 9) rfl ?_
  exact own_outI X1 hx hlk hret (hb hby d16_9) (Q := Q16n16 Z o1 k vs h0 n0) ⟨rfl, N1, hh1⟩ (by decide) (by decide)
theorem ef_16n32 (m : MethodId) (x1 : Addr) : entryFrame m #[(.int 0), (.ref x1)] 2 = mkF m 0 #[.val (.int 0), .val (.ref x1)] [] := by first | (simp [entryFrame, mkF, argsToLocals, Value.category]; done) | rfl
def Q16n32 (Z : State) (o1 : Addr) (k : ClassId) (vs : List Value) (h0 : Heap) (n0 : Nat) (v : Option Value) (h : Heap) (L : List Loc) : Prop := v = some (.int 0) ∧ Fr n0 L ∧ h = h0
set_option maxRecDepth 65536 in
set_option maxHeartbeats 40000000 in
theorem rm16n32 (l : Launch) (Z : State) (a0 : Array Value) (hw : ∀ d ∈ tables_1, d.before a0 Z = true) (ws : List Jvm.Cond) (o1 : Addr) (k : ClassId) (vs : List Value) (h0 : Heap) (n0 : Nat) (Z0 : n0 ≤ h0.size) (V : Arv Z h0 o1 k .int 32 vs (.int 0)) :
    MetFree l mn_16 (head1 (Jvm.Cond.code mn_16 prog_57_method_10_code 2 (some .int) :: ws) (⟨1, 0, 0, 14⟩ : Room)) (fun a U => a = #[(.int 0), (.ref o1)] ∧ Z.Warmed39 U.vm ∧ U.heap = h0) (fun _ _ _ _ _ => True) (fun _ U o U' => ∃ v L, o = .returned v ∧ Q16n32 Z o1 k vs h0 n0 v U'.heap L ∧ FrameEnd U o U' L (⟨1, 0, 0, 14⟩ : Room).cells (⟨1, 0, 0, 14⟩ : Room).slots) := by
  refine MetFree.of_bodySF (plainFor_of_name pn_5) hisR ?_
  intro p e s m args below meth c s₁ Bd hml0 hP hK
  obtain ⟨rfl, hZ, hh⟩ := hP
  have hx := Bd.exec
  have hby := Bd.bytes
  have hml : c.maxLocals = 2 := hml0
  have hown : s.vm.findClass "com/example/headway/headway/engine/HashIndex" = some m.cls := findClass_of_methodNamed Bd.named
  have hnm := (name_of_methodNamed Bd.named Bd.method).1
  have X0 : Stand p l e (⟨1, 0, 0, 14⟩ : Room) s m #[(.int 0), (.ref o1)] below meth c s₁ [] 0 0 := Stand.of_body Bd
  have e0 : s₁.heap = h0 := by rw [← hh, Bd.state]; rfl
  have N0 := Fr.nil n0
  have hret := Bd.returns
  have hlk := BodyLoose.notSynchronized Bd
  show own_Out p e below (fun o U' => ∃ v L, o = .returned v ∧ Q16n32 Z o1 k vs h0 n0 v U'.heap L ∧ FrameEnd s o U' L (⟨1, 0, 0, 14⟩ : Room).cells (⟨1, 0, 0, 14⟩ : Room).slots) (s₁.setTop (entryFrame m #[(.int 0), (.ref o1)] 2))
  refine own_of (fun t k => castTop (ef_16n32 m o1) k) ?_
  show own_Out p e below _ (s₁.setTop (mkF m 0 #[iv 0, rv o1] []))
  refine o_iloadN X0 hx hby d16_0 rfl (q := 1) rfl ?_
  refine o_aloadN X0 hx hby d16_1 rfl rfl (q := 2) rfl ?_
  refine o_lenV X0 hx hby hZ e0 V d16_2 (q := 3) rfl ?_
  refine o_iconst X0 hx hby d16_3 (z := 1) rfl (q := 4) rfl ?_
  refine o_isub X0 hx hby d16_4 (z := 31) rfl (q := 5) rfl ?_
  obtain ⟨_, _, ⟨T1, L1, k1, n1⟩, -, X1, ⟨Lc1, hQ1, l1, y1, z1⟩, st1⟩ := Jvm.LawKit.callS X0 hx (y := mn_15) hown (mvT hZ (w_ hw 127 rfl)) (mvT hZ (w_ hw 128 rfl)) (mvT hZ (w_ hw 129 rfl)) (mvT hZ (w_ hw 130 rfl)) (by decide) (backOf (W := 1) (rm17b l Z a0 hw []  h0 n0 Z0 ) hZ (w_ hw 130 rfl) (w_ hw 129 rfl) (by decide) (by decide)) (g := (mkF m 5 #[iv 0, rv o1] [.int 31, .int 0])) rfl (by rw [hml]; rfl) (argsL := [(.int 31)]) (rest := [(.int 0)]) (lenOf pd_7 rfl) rfl (by show 2 * 0 + _ ≤ _; exact Nat.le_of_eq rfl) (hb hby d16_5) (fun _ _ => ⟨rfl, e0, (by decide : 0 + 0 ≤ _), (by decide : 0 + 0 ≤ _)⟩)
  dsimp only [Pt.U, Pt.locs, Pt.cells, Pt.slots] at X1 l1 y1 z1 st1 hQ1
  subst l1 y1 z1
  obtain ⟨rfl, N1q, hh1⟩ := hQ1
  have N1 := Fr.app N0 N1q
  refine own_of st1 ?_
  show own_Out p e below _ (T1.setTop (mkF m 8 #[iv 0, rv o1] [.int 27, .int 0]))
  refine o_iushr X1 hx hby d16_8 (z := 0) rfl (q := 9) rfl ?_
  exact own_outI X1 hx hlk hret (hb hby d16_9) (Q := Q16n32 Z o1 k vs h0 n0) ⟨rfl, N1, hh1⟩ (by decide) (by decide)
theorem pd_8 : parseMethodDescriptor "(I[I)I" = some ⟨[.int, (.array .int)], some .int⟩ := by decide +kernel
theorem d24_0 : decode prog_57_method_11_code 0 = .ok (.iload_n 1, 1) := by decide +kernel
theorem d24_1 : decode prog_57_method_11_code 1 = .ok (.aload_n 2, 1) := by decide +kernel
theorem d24_2 : decode prog_57_method_11_code 2 = .ok (.invokestatic 95, 3) := by decide +kernel
theorem d24_5 : decode prog_57_method_11_code 5 = .ok (.istore 4, 2) := by decide +kernel
theorem d24_7 : decode prog_57_method_11_code 7 = .ok (.aload_n 3, 1) := by decide +kernel
theorem d24_8 : decode prog_57_method_11_code 8 = .ok (.iload_n 0, 1) := by decide +kernel
theorem d24_9 : decode prog_57_method_11_code 9 = .ok (.aload_n 2, 1) := by decide +kernel
theorem d24_10 : decode prog_57_method_11_code 10 = .ok (.iload 4, 2) := by decide +kernel
theorem d24_12 : decode prog_57_method_11_code 12 = .ok (.iaload, 1) := by decide +kernel
theorem d24_13 : decode prog_57_method_11_code 13 = .ok (.iastore, 1) := by decide +kernel
theorem d24_14 : decode prog_57_method_11_code 14 = .ok (.aload_n 2, 1) := by decide +kernel
theorem d24_15 : decode prog_57_method_11_code 15 = .ok (.iload 4, 2) := by decide +kernel
theorem d24_17 : decode prog_57_method_11_code 17 = .ok (.iload_n 0, 1) := by decide +kernel
theorem d24_18 : decode prog_57_method_11_code 18 = .ok (.iastore, 1) := by decide +kernel
theorem d24_19 : decode prog_57_method_11_code 19 = .ok (.return_, 1) := by decide +kernel
theorem ef_24n16 (m : MethodId) (x0 : Int32) (x2 x3 : Addr) : entryFrame m #[(.int x0), (.int 0), (.ref x2), (.ref x3)] 5 = mkF m 0 #[.val (.int x0), .val (.int 0), .val (.ref x2), .val (.ref x3), .unset] [] := by first | (simp [entryFrame, mkF, argsToLocals, Value.category]; done) | rfl
def Q24n16 (Z : State) (p0 : Int32) (o2 o3 : Addr) (kf kn : ClassId) (ln a : Int32) (tl : List Value) (vs : List Value) (h0 : Heap) (n0 : Nat) (v : Option Value) (h : Heap) (L : List Loc) : Prop := v = none ∧ Fr n0 L ∧ Keep h0 h [o2, o3] ∧ Arv Z h o2 kf .int 16 (.int p0 :: tl) (.int 0) ∧ Arv Z h o3 kn .int ln (vs.set p0.toNatClampNeg (.int a)) (.int 0)
set_option maxRecDepth 65536 in
set_option maxHeartbeats 40000000 in
theorem rm24n16 (l : Launch) (Z : State) (a0 : Array Value) (hw : ∀ d ∈ tables_1, d.before a0 Z = true) (ws : List Jvm.Cond) (p0 : Int32) (o2 o3 : Addr) (kf kn : ClassId) (ln a : Int32) (tl : List Value) (vs : List Value) (h0 : Heap) (n0 : Nat) (Z0 : n0 ≤ h0.size) (Vf : Arv Z h0 o2 kf .int 16 (.int a :: tl) (.int 0)) (Vn : Arv Z h0 o3 kn .int ln vs (.int 0)) (g2 : n0 ≤ o2) (g3 : n0 ≤ o3) (n23 : o2 ≠ o3) (hj : ¬ p0 < 0 ∧ p0 < ln) (hi : p0.toNatClampNeg < vs.length) :
    MetFree l mn_17 (head1 (Jvm.Cond.code mn_17 prog_57_method_11_code 5 none :: ws) (⟨2, 0, 0, 27⟩ : Room)) (fun a U => a = #[(.int p0), (.int 0), (.ref o2), (.ref o3)] ∧ Z.Warmed39 U.vm ∧ U.heap = h0) (fun _ _ _ _ _ => True) (fun _ U o U' => ∃ v L, o = .returned v ∧ Q24n16 Z p0 o2 o3 kf kn ln a tl vs h0 n0 v U'.heap L ∧ FrameEnd U o U' L (⟨2, 0, 0, 27⟩ : Room).cells (⟨2, 0, 0, 27⟩ : Room).slots) := by
  refine MetFree.of_bodySF (plainFor_of_name pn_5) hisR ?_
  intro p e s m args below meth c s₁ Bd hml0 hP hK
  obtain ⟨rfl, hZ, hh⟩ := hP
  have hx := Bd.exec
  have hby := Bd.bytes
  have hml : c.maxLocals = 5 := hml0
  have hown : s.vm.findClass "com/example/headway/headway/engine/HashIndex" = some m.cls := findClass_of_methodNamed Bd.named
  have hnm := (name_of_methodNamed Bd.named Bd.method).1
  have X0 : Stand p l e (⟨2, 0, 0, 27⟩ : Room) s m #[(.int p0), (.int 0), (.ref o2), (.ref o3)] below meth c s₁ [] 0 0 := Stand.of_body Bd
  have e0 : s₁.heap = h0 := by rw [← hh, Bd.state]; rfl
  have N0 := Fr.nil n0
  have hret := Bd.returns
  have hlk := BodyLoose.notSynchronized Bd
  show own_Out p e below (fun o U' => ∃ v L, o = .returned v ∧ Q24n16 Z p0 o2 o3 kf kn ln a tl vs h0 n0 v U'.heap L ∧ FrameEnd s o U' L (⟨2, 0, 0, 27⟩ : Room).cells (⟨2, 0, 0, 27⟩ : Room).slots) (s₁.setTop (entryFrame m #[(.int p0), (.int 0), (.ref o2), (.ref o3)] 5))
  refine own_of (fun t k => castTop (ef_24n16 m p0 o2 o3) k) ?_
  show own_Out p e below _ (s₁.setTop (mkF m 0 #[iv p0, iv 0, rv o2, rv o3, .unset] []))
  refine o_iloadN X0 hx hby d24_0 rfl (q := 1) rfl ?_
  refine o_aloadN X0 hx hby d24_1 rfl rfl (q := 2) rfl ?_
  obtain ⟨_, _, ⟨T1, L1, k1, n1⟩, -, X1, ⟨Lc1, hQ1, l1, y1, z1⟩, st1⟩ := Jvm.LawKit.callS X0 hx (y := mn_16) hown (mvT hZ (w_ hw 124 rfl)) (mvT hZ (w_ hw 125 rfl)) (mvT hZ (w_ hw 63 rfl)) (mvT hZ (w_ hw 126 rfl)) (by decide) (backOf (W := 0) (rm16n16 l Z a0 hw [] o2 kf (.int a :: tl) h0 n0 Z0 Vf) hZ (w_ hw 126 rfl) (w_ hw 63 rfl) (by decide) (by decide)) (g := (mkF m 2 #[iv p0, iv 0, rv o2, rv o3, .unset] [.ref o2, .int 0])) rfl (by rw [hml]; rfl) (argsL := [(.int 0), (.ref o2)]) (rest := []) (lenOf pd_8 rfl) rfl (by show 2 * 0 + _ ≤ _; exact Nat.le_of_eq rfl) (hb hby d24_2) (fun _ _ => ⟨rfl, e0, (by decide : 0 + 0 ≤ _), (by decide : 0 + 0 ≤ _)⟩)
  dsimp only [Pt.U, Pt.locs, Pt.cells, Pt.slots] at X1 l1 y1 z1 st1 hQ1
  subst l1 y1 z1
  obtain ⟨rfl, N1q, hh1⟩ := hQ1
  have N1 := Fr.app N0 N1q
  refine own_of st1 ?_
  show own_Out p e below _ (T1.setTop (mkF m 5 #[iv p0, iv 0, rv o2, rv o3, .unset] [.int 0]))
  refine o_istore X1 hx hby d24_5 (l' := #[iv p0, iv 0, rv o2, rv o3, iv 0]) rfl (q := 7) rfl ?_
  refine o_aloadN X1 hx hby d24_7 rfl rfl (q := 8) rfl ?_
  refine o_iloadN X1 hx hby d24_8 rfl (q := 9) rfl ?_
  refine o_aloadN X1 hx hby d24_9 rfl rfl (q := 10) rfl ?_
  refine o_iload X1 hx hby d24_10 rfl (q := 12) rfl ?_
  refine o_iaV X1 hx hby hZ hh1 Vf ⟨by decide, by decide⟩ (v := .int a) rfl d24_12 (q := 13) rfl ?_
  refine o_stV X1 hx hby hZ hh1 Vn hj p0.toNatClampNeg rfl hi d24_13 (q := 14) rfl fun T2 h2 X2 e2 W2 V2 => ?_
  refine o_aloadN X2 hx hby d24_14 rfl rfl (q := 15) rfl ?_
  refine o_iload X2 hx hby d24_15 rfl (q := 17) rfl ?_
  refine o_iloadN X2 hx hby d24_17 rfl (q := 18) rfl ?_
  have qz3 := (Vf.other W2 n23)
  refine o_stV X2 hx hby hZ e2 qz3 ⟨by decide, by decide⟩ 0 rfl (Nat.succ_pos _) d24_18 (q := 19) rfl fun T4 h4 X4 e4 W4 V4 => ?_
  have qz5 := (((Keep.refl h0 [o2, o3]).wr W2 (Or.inl (List.mem_of_getElem? (i := 1) rfl))).wr W4 (Or.inl (List.mem_of_getElem? (i := 0) rfl)))
  have qz6 := (V2.other W4 (Ne.symm n23))
  exact own_outV X4 hx hlk hret (hb hby d24_19) (Q := Q24n16 Z p0 o2 o3 kf kn ln a tl vs h0 n0) (by rw [e4]; exact ⟨rfl, (Fr.snoc X4 (Fr.snoc X2 N1 g3) g2), qz5, V4, qz6⟩) (by decide) (by decide)
theorem ef_24n32 (m : MethodId) (x0 : Int32) (x2 x3 : Addr) : entryFrame m #[(.int x0), (.int 0), (.ref x2), (.ref x3)] 5 = mkF m 0 #[.val (.int x0), .val (.int 0), .val (.ref x2), .val (.ref x3), .unset] [] := by first | (simp [entryFrame, mkF, argsToLocals, Value.category]; done) | rfl
def Q24n32 (Z : State) (p0 : Int32) (o2 o3 : Addr) (kf kn : ClassId) (ln a : Int32) (tl : List Value) (vs : List Value) (h0 : Heap) (n0 : Nat) (v : Option Value) (h : Heap) (L : List Loc) : Prop := v = none ∧ Fr n0 L ∧ Keep h0 h [o2, o3] ∧ Arv Z h o2 kf .int 32 (.int p0 :: tl) (.int 0) ∧ Arv Z h o3 kn .int ln (vs.set p0.toNatClampNeg (.int a)) (.int 0)
set_option maxRecDepth 65536 in
set_option maxHeartbeats 40000000 in
theorem rm24n32 (l : Launch) (Z : State) (a0 : Array Value) (hw : ∀ d ∈ tables_1, d.before a0 Z = true) (ws : List Jvm.Cond) (p0 : Int32) (o2 o3 : Addr) (kf kn : ClassId) (ln a : Int32) (tl : List Value) (vs : List Value) (h0 : Heap) (n0 : Nat) (Z0 : n0 ≤ h0.size) (Vf : Arv Z h0 o2 kf .int 32 (.int a :: tl) (.int 0)) (Vn : Arv Z h0 o3 kn .int ln vs (.int 0)) (g2 : n0 ≤ o2) (g3 : n0 ≤ o3) (n23 : o2 ≠ o3) (hj : ¬ p0 < 0 ∧ p0 < ln) (hi : p0.toNatClampNeg < vs.length) :
    MetFree l mn_17 (head1 (Jvm.Cond.code mn_17 prog_57_method_11_code 5 none :: ws) (⟨2, 0, 0, 27⟩ : Room)) (fun a U => a = #[(.int p0), (.int 0), (.ref o2), (.ref o3)] ∧ Z.Warmed39 U.vm ∧ U.heap = h0) (fun _ _ _ _ _ => True) (fun _ U o U' => ∃ v L, o = .returned v ∧ Q24n32 Z p0 o2 o3 kf kn ln a tl vs h0 n0 v U'.heap L ∧ FrameEnd U o U' L (⟨2, 0, 0, 27⟩ : Room).cells (⟨2, 0, 0, 27⟩ : Room).slots) := by
  refine MetFree.of_bodySF (plainFor_of_name pn_5) hisR ?_
  intro p e s m args below meth c s₁ Bd hml0 hP hK
  obtain ⟨rfl, hZ, hh⟩ := hP
  have hx := Bd.exec
  have hby := Bd.bytes
  have hml : c.maxLocals = 5 := hml0
  have hown : s.vm.findClass "com/example/headway/headway/engine/HashIndex" = some m.cls := findClass_of_methodNamed Bd.named
  have hnm := (name_of_methodNamed Bd.named Bd.method).1
  have X0 : Stand p l e (⟨2, 0, 0, 27⟩ : Room) s m #[(.int p0), (.int 0), (.ref o2), (.ref o3)] below meth c s₁ [] 0 0 := Stand.of_body Bd
  have e0 : s₁.heap = h0 := by rw [← hh, Bd.state]; rfl
  have N0 := Fr.nil n0
  have hret := Bd.returns
  have hlk := BodyLoose.notSynchronized Bd
  show own_Out p e below (fun o U' => ∃ v L, o = .returned v ∧ Q24n32 Z p0 o2 o3 kf kn ln a tl vs h0 n0 v U'.heap L ∧ FrameEnd s o U' L (⟨2, 0, 0, 27⟩ : Room).cells (⟨2, 0, 0, 27⟩ : Room).slots) (s₁.setTop (entryFrame m #[(.int p0), (.int 0), (.ref o2), (.ref o3)] 5))
  refine own_of (fun t k => castTop (ef_24n32 m p0 o2 o3) k) ?_
  show own_Out p e below _ (s₁.setTop (mkF m 0 #[iv p0, iv 0, rv o2, rv o3, .unset] []))
  refine o_iloadN X0 hx hby d24_0 rfl (q := 1) rfl ?_
  refine o_aloadN X0 hx hby d24_1 rfl rfl (q := 2) rfl ?_
  obtain ⟨_, _, ⟨T1, L1, k1, n1⟩, -, X1, ⟨Lc1, hQ1, l1, y1, z1⟩, st1⟩ := Jvm.LawKit.callS X0 hx (y := mn_16) hown (mvT hZ (w_ hw 124 rfl)) (mvT hZ (w_ hw 125 rfl)) (mvT hZ (w_ hw 63 rfl)) (mvT hZ (w_ hw 126 rfl)) (by decide) (backOf (W := 0) (rm16n32 l Z a0 hw [] o2 kf (.int a :: tl) h0 n0 Z0 Vf) hZ (w_ hw 126 rfl) (w_ hw 63 rfl) (by decide) (by decide)) (g := (mkF m 2 #[iv p0, iv 0, rv o2, rv o3, .unset] [.ref o2, .int 0])) rfl (by rw [hml]; rfl) (argsL := [(.int 0), (.ref o2)]) (rest := []) (lenOf pd_8 rfl) rfl (by show 2 * 0 + _ ≤ _; exact Nat.le_of_eq rfl) (hb hby d24_2) (fun _ _ => ⟨rfl, e0, (by decide : 0 + 0 ≤ _), (by decide : 0 + 0 ≤ _)⟩)
  dsimp only [Pt.U, Pt.locs, Pt.cells, Pt.slots] at X1 l1 y1 z1 st1 hQ1
  subst l1 y1 z1
  obtain ⟨rfl, N1q, hh1⟩ := hQ1
  have N1 := Fr.app N0 N1q
  refine own_of st1 ?_
  show own_Out p e below _ (T1.setTop (mkF m 5 #[iv p0, iv 0, rv o2, rv o3, .unset] [.int 0]))
  refine o_istore X1 hx hby d24_5 (l' := #[iv p0, iv 0, rv o2, rv o3, iv 0]) rfl (q := 7) rfl ?_
  refine o_aloadN X1 hx hby d24_7 rfl rfl (q := 8) rfl ?_
  refine o_iloadN X1 hx hby d24_8 rfl (q := 9) rfl ?_
  refine o_aloadN X1 hx hby d24_9 rfl rfl (q := 10) rfl ?_
  refine o_iload X1 hx hby d24_10 rfl (q := 12) rfl ?_
  refine o_iaV X1 hx hby hZ hh1 Vf ⟨by decide, by decide⟩ (v := .int a) rfl d24_12 (q := 13) rfl ?_
  refine o_stV X1 hx hby hZ hh1 Vn hj p0.toNatClampNeg rfl hi d24_13 (q := 14) rfl fun T2 h2 X2 e2 W2 V2 => ?_
  refine o_aloadN X2 hx hby d24_14 rfl rfl (q := 15) rfl ?_
  refine o_iload X2 hx hby d24_15 rfl (q := 17) rfl ?_
  refine o_iloadN X2 hx hby d24_17 rfl (q := 18) rfl ?_
  have qz3 := (Vf.other W2 n23)
  refine o_stV X2 hx hby hZ e2 qz3 ⟨by decide, by decide⟩ 0 rfl (Nat.succ_pos _) d24_18 (q := 19) rfl fun T4 h4 X4 e4 W4 V4 => ?_
  have qz5 := (((Keep.refl h0 [o2, o3]).wr W2 (Or.inl (List.mem_of_getElem? (i := 1) rfl))).wr W4 (Or.inl (List.mem_of_getElem? (i := 0) rfl)))
  have qz6 := (V2.other W4 (Ne.symm n23))
  exact own_outV X4 hx hlk hret (hb hby d24_19) (Q := Q24n32 Z p0 o2 o3 kf kn ln a tl vs h0 n0) (by rw [e4]; exact ⟨rfl, (Fr.snoc X4 (Fr.snoc X2 N1 g3) g2), qz5, V4, qz6⟩) (by decide) (by decide)
theorem d23_0 : decode prog_57_method_8_code 0 = .ok (.iconst 0, 1) := by decide +kernel
theorem d23_1 : decode prog_57_method_8_code 1 = .ok (.istore_n 2, 1) := by decide +kernel
theorem d23_2 : decode prog_57_method_8_code 2 = .ok (.aload_n 0, 1) := by decide +kernel
theorem d23_3 : decode prog_57_method_8_code 3 = .ok (.getfield 35, 3) := by decide +kernel
theorem d23_6 : decode prog_57_method_8_code 6 = .ok (.astore_n 3, 1) := by decide +kernel
theorem d23_7 : decode prog_57_method_8_code 7 = .ok (.aload_n 3, 1) := by decide +kernel
theorem d23_8 : decode prog_57_method_8_code 8 = .ok (.arraylength, 1) := by decide +kernel
theorem d23_9 : decode prog_57_method_8_code 9 = .ok (.istore 4, 2) := by decide +kernel
theorem d23_11 : decode prog_57_method_8_code 11 = .ok (.iconst 0, 1) := by decide +kernel
theorem d23_12 : decode prog_57_method_8_code 12 = .ok (.istore 5, 2) := by decide +kernel
theorem d23_14 : decode prog_57_method_8_code 14 = .ok (.iload 5, 2) := by decide +kernel
theorem d23_16 : decode prog_57_method_8_code 16 = .ok (.iload 4, 2) := by decide +kernel
theorem d23_18 : decode prog_57_method_8_code 18 = .ok (.if_icmp .ge 62, 3) := by decide +kernel
theorem d23_80 : decode prog_57_method_8_code 80 = .ok (.iload_n 2, 1) := by decide +kernel
theorem d23_81 : decode prog_57_method_8_code 81 = .ok (.ireturn, 1) := by decide +kernel
theorem ef_23 (m : MethodId) (x0 : Addr) (x1 : Int32) : entryFrame m #[(.ref x0), (.int x1)] 7 = mkF m 0 #[.val (.ref x0), .val (.int x1), .unset, .unset, .unset, .unset, .unset] [] := by first | (simp [entryFrame, mkF, argsToLocals, Value.category]; done) | rfl
def Q23 (Z : State) (o0 : Addr) (p1 : Int32) (kc : Addr) (kk : ClassId) (h0 : Heap) (n0 : Nat) (v : Option Value) (h : Heap) (L : List Loc) : Prop := v = some (.int 0) ∧ Fr n0 L ∧ h = h0
set_option maxRecDepth 65536 in
set_option maxHeartbeats 40000000 in
theorem rm23 (l : Launch) (Z : State) (a0 : Array Value) (hw : ∀ d ∈ tables_1, d.before a0 Z = true) (ws : List Jvm.Cond) (o0 : Addr) (p1 : Int32) (kc : Addr) (kk : ClassId) (h0 : Heap) (n0 : Nat) (Z0 : n0 ≤ h0.size) (Fk : Fld Z h0 o0 "com/example/headway/headway/engine/HashIndex" "keyColumns" "[I" (.ref kc)) (Vk : Arv Z h0 kc kk .int 0 [] (.int 0)) :
    MetFree l mn_18 (head1 (Jvm.Cond.code mn_18 prog_57_method_8_code 7 (some .int) :: ws) (⟨0, 0, 0, 0⟩ : Room)) (fun a U => a = #[(.ref o0), (.int p1)] ∧ Z.Warmed39 U.vm ∧ U.heap = h0) (fun _ _ _ _ _ => True) (fun _ U o U' => ∃ v L, o = .returned v ∧ Q23 Z o0 p1 kc kk h0 n0 v U'.heap L ∧ FrameEnd U o U' L (⟨0, 0, 0, 0⟩ : Room).cells (⟨0, 0, 0, 0⟩ : Room).slots) := by
  refine MetFree.of_bodySF (plainFor_of_name pn_5) hisR ?_
  intro p e s m args below meth c s₁ Bd hml0 hP hK
  obtain ⟨rfl, hZ, hh⟩ := hP
  have hx := Bd.exec
  have hby := Bd.bytes
  have hml : c.maxLocals = 7 := hml0
  have hown : s.vm.findClass "com/example/headway/headway/engine/HashIndex" = some m.cls := findClass_of_methodNamed Bd.named
  have hnm := (name_of_methodNamed Bd.named Bd.method).1
  have X0 : Stand p l e (⟨0, 0, 0, 0⟩ : Room) s m #[(.ref o0), (.int p1)] below meth c s₁ [] 0 0 := Stand.of_body Bd
  have e0 : s₁.heap = h0 := by rw [← hh, Bd.state]; rfl
  have N0 := Fr.nil n0
  have hret := Bd.returns
  have hlk := BodyLoose.notSynchronized Bd
  show own_Out p e below (fun o U' => ∃ v L, o = .returned v ∧ Q23 Z o0 p1 kc kk h0 n0 v U'.heap L ∧ FrameEnd s o U' L (⟨0, 0, 0, 0⟩ : Room).cells (⟨0, 0, 0, 0⟩ : Room).slots) (s₁.setTop (entryFrame m #[(.ref o0), (.int p1)] 7))
  refine own_of (fun t k => castTop (ef_23 m o0 p1) k) ?_
  show own_Out p e below _ (s₁.setTop (mkF m 0 #[rv o0, iv p1, .unset, .unset, .unset, .unset, .unset] []))
  refine o_iconst X0 hx hby d23_0 (z := 0) rfl (q := 1) rfl ?_
  refine o_istoreN X0 hx hby d23_1 (l' := #[rv o0, iv p1, iv 0, .unset, .unset, .unset, .unset]) rfl (q := 2) rfl ?_
  refine o_aloadN X0 hx hby d23_2 rfl rfl (q := 3) rfl ?_
  refine o_getF X0 hx hZ hown hby (w_ hw 80 rfl) Via.refl e0 Fk d23_3 (q := 6) rfl fun T1 X1 e1 => ?_
  refine o_astoreN X1 hx hby d23_6 rfl (l' := #[rv o0, iv p1, iv 0, rv kc, .unset, .unset, .unset]) rfl (q := 7) rfl ?_
  refine o_aloadN X1 hx hby d23_7 rfl rfl (q := 8) rfl ?_
  refine o_lenV X1 hx hby hZ e1 Vk d23_8 (q := 9) rfl ?_
  refine o_istore X1 hx hby d23_9 (l' := #[rv o0, iv p1, iv 0, rv kc, iv 0, .unset, .unset]) rfl (q := 11) rfl ?_
  refine o_iconst X1 hx hby d23_11 (z := 0) rfl (q := 12) rfl ?_
  refine o_istore X1 hx hby d23_12 (l' := #[rv o0, iv p1, iv 0, rv kc, iv 0, iv 0, .unset]) rfl (q := 14) rfl ?_
  refine o_iload X1 hx hby d23_14 rfl (q := 16) rfl ?_
  refine o_iload X1 hx hby d23_16 rfl (q := 18) rfl ?_
  refine o_icY X1 hx hby d23_18 (flt (by decide : ¬ ((0 : Int32) < (0 : Int32)))).2.1 (by decide) (q := 80) (by decide) ?_
  refine o_iloadN X1 hx hby d23_80 rfl (q := 81) rfl ?_
  exact own_outI X1 hx hlk hret (hb hby d23_81) (Q := Q23 Z o0 p1 kc kk h0 n0) ⟨rfl, N0, e1⟩ (by decide) (by decide)
theorem d15_0 : decode prog_57_method_9_code 0 = .ok (.iconst 0, 1) := by decide +kernel
theorem d15_1 : decode prog_57_method_9_code 1 = .ok (.istore_n 3, 1) := by decide +kernel
theorem d15_2 : decode prog_57_method_9_code 2 = .ok (.iconst 0, 1) := by decide +kernel
theorem d15_3 : decode prog_57_method_9_code 3 = .ok (.istore 4, 2) := by decide +kernel
theorem d15_5 : decode prog_57_method_9_code 5 = .ok (.iload 4, 2) := by decide +kernel
theorem d15_7 : decode prog_57_method_9_code 7 = .ok (.aload_n 0, 1) := by decide +kernel
theorem d15_8 : decode prog_57_method_9_code 8 = .ok (.getfield 35, 3) := by decide +kernel
theorem d15_11 : decode prog_57_method_9_code 11 = .ok (.arraylength, 1) := by decide +kernel
theorem d15_12 : decode prog_57_method_9_code 12 = .ok (.if_icmp .ge 61, 3) := by decide +kernel
theorem d15_73 : decode prog_57_method_9_code 73 = .ok (.iload_n 3, 1) := by decide +kernel
theorem d15_74 : decode prog_57_method_9_code 74 = .ok (.ireturn, 1) := by decide +kernel
theorem ef_15 (m : MethodId) (x0 x2 : Addr) : entryFrame m #[(.ref x0), .null, (.ref x2)] 5 = mkF m 0 #[.val (.ref x0), .val .null, .val (.ref x2), .unset, .unset] [] := by first | (simp [entryFrame, mkF, argsToLocals, Value.category]; done) | rfl
def Q15 (Z : State) (o0 o2 kc : Addr) (kk : ClassId) (h0 : Heap) (n0 : Nat) (v : Option Value) (h : Heap) (L : List Loc) : Prop := v = some (.int 0) ∧ Fr n0 L ∧ h = h0
set_option maxRecDepth 65536 in
set_option maxHeartbeats 40000000 in
theorem rm15 (l : Launch) (Z : State) (a0 : Array Value) (hw : ∀ d ∈ tables_1, d.before a0 Z = true) (ws : List Jvm.Cond) (o0 o2 kc : Addr) (kk : ClassId) (h0 : Heap) (n0 : Nat) (Z0 : n0 ≤ h0.size) (Fk : Fld Z h0 o0 "com/example/headway/headway/engine/HashIndex" "keyColumns" "[I" (.ref kc)) (Vk : Arv Z h0 kc kk .int 0 [] (.int 0)) :
    MetFree l mn_19 (head1 (Jvm.Cond.code mn_19 prog_57_method_9_code 5 (some .int) :: ws) (⟨0, 0, 0, 0⟩ : Room)) (fun a U => a = #[(.ref o0), .null, (.ref o2)] ∧ Z.Warmed39 U.vm ∧ U.heap = h0) (fun _ _ _ _ _ => True) (fun _ U o U' => ∃ v L, o = .returned v ∧ Q15 Z o0 o2 kc kk h0 n0 v U'.heap L ∧ FrameEnd U o U' L (⟨0, 0, 0, 0⟩ : Room).cells (⟨0, 0, 0, 0⟩ : Room).slots) := by
  refine MetFree.of_bodySF (plainFor_of_name pn_5) hisR ?_
  intro p e s m args below meth c s₁ Bd hml0 hP hK
  obtain ⟨rfl, hZ, hh⟩ := hP
  have hx := Bd.exec
  have hby := Bd.bytes
  have hml : c.maxLocals = 5 := hml0
  have hown : s.vm.findClass "com/example/headway/headway/engine/HashIndex" = some m.cls := findClass_of_methodNamed Bd.named
  have hnm := (name_of_methodNamed Bd.named Bd.method).1
  have X0 : Stand p l e (⟨0, 0, 0, 0⟩ : Room) s m #[(.ref o0), .null, (.ref o2)] below meth c s₁ [] 0 0 := Stand.of_body Bd
  have e0 : s₁.heap = h0 := by rw [← hh, Bd.state]; rfl
  have N0 := Fr.nil n0
  have hret := Bd.returns
  have hlk := BodyLoose.notSynchronized Bd
  show own_Out p e below (fun o U' => ∃ v L, o = .returned v ∧ Q15 Z o0 o2 kc kk h0 n0 v U'.heap L ∧ FrameEnd s o U' L (⟨0, 0, 0, 0⟩ : Room).cells (⟨0, 0, 0, 0⟩ : Room).slots) (s₁.setTop (entryFrame m #[(.ref o0), .null, (.ref o2)] 5))
  refine own_of (fun t k => castTop (ef_15 m o0 o2) k) ?_
  show own_Out p e below _ (s₁.setTop (mkF m 0 #[rv o0, .val (.null), rv o2, .unset, .unset] []))
  refine o_iconst X0 hx hby d15_0 (z := 0) rfl (q := 1) rfl ?_
  refine o_istoreN X0 hx hby d15_1 (l' := #[rv o0, .val (.null), rv o2, iv 0, .unset]) rfl (q := 2) rfl ?_
  refine o_iconst X0 hx hby d15_2 (z := 0) rfl (q := 3) rfl ?_
  refine o_istore X0 hx hby d15_3 (l' := #[rv o0, .val (.null), rv o2, iv 0, iv 0]) rfl (q := 5) rfl ?_
  refine o_iload X0 hx hby d15_5 rfl (q := 7) rfl ?_
  refine o_aloadN X0 hx hby d15_7 rfl rfl (q := 8) rfl ?_
  refine o_getF X0 hx hZ hown hby (w_ hw 80 rfl) Via.refl e0 Fk d15_8 (q := 11) rfl fun T1 X1 e1 => ?_
  refine o_lenV X1 hx hby hZ e1 Vk d15_11 (q := 12) rfl ?_
  refine o_icY X1 hx hby d15_12 (flt (by decide : ¬ ((0 : Int32) < (0 : Int32)))).2.1 (by decide) (q := 73) (by decide) ?_
  refine o_iloadN X1 hx hby d15_73 rfl (q := 74) rfl ?_
  exact own_outI X1 hx hlk hret (hb hby d15_74) (Q := Q15 Z o0 o2 kc kk h0 n0) ⟨rfl, N0, e1⟩ (by decide) (by decide)
theorem d25_0 : decode prog_57_method_7_code 0 = .ok (.iconst 0, 1) := by decide +kernel
theorem d25_1 : decode prog_57_method_7_code 1 = .ok (.istore 4, 2) := by decide +kernel
theorem d25_3 : decode prog_57_method_7_code 3 = .ok (.iload 4, 2) := by decide +kernel
theorem d25_5 : decode prog_57_method_7_code 5 = .ok (.aload_n 0, 1) := by decide +kernel
theorem d25_6 : decode prog_57_method_7_code 6 = .ok (.getfield 35, 3) := by decide +kernel
theorem d25_9 : decode prog_57_method_7_code 9 = .ok (.arraylength, 1) := by decide +kernel
theorem d25_10 : decode prog_57_method_7_code 10 = .ok (.if_icmp .ge 94, 3) := by decide +kernel
theorem d25_104 : decode prog_57_method_7_code 104 = .ok (.iconst 1, 1) := by decide +kernel
theorem d25_105 : decode prog_57_method_7_code 105 = .ok (.ireturn, 1) := by decide +kernel
theorem ef_25 (m : MethodId) (x0 : Addr) (x1 : Int32) (x3 : Addr) : entryFrame m #[(.ref x0), (.int x1), .null, (.ref x3)] 7 = mkF m 0 #[.val (.ref x0), .val (.int x1), .val .null, .val (.ref x3), .unset, .unset, .unset] [] := by first | (simp [entryFrame, mkF, argsToLocals, Value.category]; done) | rfl
def Q25 (Z : State) (o0 : Addr) (p1 : Int32) (o3 kc : Addr) (kk : ClassId) (h0 : Heap) (n0 : Nat) (v : Option Value) (h : Heap) (L : List Loc) : Prop := v = some (.int 1) ∧ Fr n0 L ∧ h = h0
set_option maxRecDepth 65536 in
set_option maxHeartbeats 40000000 in
theorem rm25 (l : Launch) (Z : State) (a0 : Array Value) (hw : ∀ d ∈ tables_1, d.before a0 Z = true) (ws : List Jvm.Cond) (o0 : Addr) (p1 : Int32) (o3 kc : Addr) (kk : ClassId) (h0 : Heap) (n0 : Nat) (Z0 : n0 ≤ h0.size) (Fk : Fld Z h0 o0 "com/example/headway/headway/engine/HashIndex" "keyColumns" "[I" (.ref kc)) (Vk : Arv Z h0 kc kk .int 0 [] (.int 0)) :
    MetFree l mn_20 (head1 (Jvm.Cond.code mn_20 prog_57_method_7_code 7 (some .boolean) :: ws) (⟨0, 0, 0, 0⟩ : Room)) (fun a U => a = #[(.ref o0), (.int p1), .null, (.ref o3)] ∧ Z.Warmed39 U.vm ∧ U.heap = h0) (fun _ _ _ _ _ => True) (fun _ U o U' => ∃ v L, o = .returned v ∧ Q25 Z o0 p1 o3 kc kk h0 n0 v U'.heap L ∧ FrameEnd U o U' L (⟨0, 0, 0, 0⟩ : Room).cells (⟨0, 0, 0, 0⟩ : Room).slots) := by
  refine MetFree.of_bodySF (plainFor_of_name pn_5) hisR ?_
  intro p e s m args below meth c s₁ Bd hml0 hP hK
  obtain ⟨rfl, hZ, hh⟩ := hP
  have hx := Bd.exec
  have hby := Bd.bytes
  have hml : c.maxLocals = 7 := hml0
  have hown : s.vm.findClass "com/example/headway/headway/engine/HashIndex" = some m.cls := findClass_of_methodNamed Bd.named
  have hnm := (name_of_methodNamed Bd.named Bd.method).1
  have X0 : Stand p l e (⟨0, 0, 0, 0⟩ : Room) s m #[(.ref o0), (.int p1), .null, (.ref o3)] below meth c s₁ [] 0 0 := Stand.of_body Bd
  have e0 : s₁.heap = h0 := by rw [← hh, Bd.state]; rfl
  have N0 := Fr.nil n0
  have hret := Bd.returns
  have hlk := BodyLoose.notSynchronized Bd
  show own_Out p e below (fun o U' => ∃ v L, o = .returned v ∧ Q25 Z o0 p1 o3 kc kk h0 n0 v U'.heap L ∧ FrameEnd s o U' L (⟨0, 0, 0, 0⟩ : Room).cells (⟨0, 0, 0, 0⟩ : Room).slots) (s₁.setTop (entryFrame m #[(.ref o0), (.int p1), .null, (.ref o3)] 7))
  refine own_of (fun t k => castTop (ef_25 m o0 p1 o3) k) ?_
  show own_Out p e below _ (s₁.setTop (mkF m 0 #[rv o0, iv p1, .val (.null), rv o3, .unset, .unset, .unset] []))
  refine o_iconst X0 hx hby d25_0 (z := 0) rfl (q := 1) rfl ?_
  refine o_istore X0 hx hby d25_1 (l' := #[rv o0, iv p1, .val (.null), rv o3, iv 0, .unset, .unset]) rfl (q := 3) rfl ?_
  refine o_iload X0 hx hby d25_3 rfl (q := 5) rfl ?_
  refine o_aloadN X0 hx hby d25_5 rfl rfl (q := 6) rfl ?_
  refine o_getF X0 hx hZ hown hby (w_ hw 80 rfl) Via.refl e0 Fk d25_6 (q := 9) rfl fun T1 X1 e1 => ?_
  refine o_lenV X1 hx hby hZ e1 Vk d25_9 (q := 10) rfl ?_
  refine o_icY X1 hx hby d25_10 (flt (by decide : ¬ ((0 : Int32) < (0 : Int32)))).2.1 (by decide) (q := 104) (by decide) ?_
  refine o_iconst X1 hx hby d25_104 (z := 1) rfl (q := 105) rfl ?_
  exact own_outN X1 hx hlk (t := .boolean) hret (by simp) (hb hby d25_105) (z' := (1 : Int32)) rfl (Q := Q25 Z o0 p1 o3 kc kk h0 n0) ⟨rfl, N0, e1⟩ (by decide) (by decide)
theorem own_in {c L : Int32} (h : c = (-1 : Int32) ∨ (¬ c < 0 ∧ c < L)) (g : ¬ (c = (-1 : Int32))) : ¬ c < 0 ∧ c < L := h.resolve_left g
theorem own_k1 {k L : Int32} (h : ¬ k < 0 ∧ k < L) : (k - (1 : Int32)) = (-1 : Int32) ∨ (¬ (k - (1 : Int32)) < 0 ∧ (k - (1 : Int32)) < L) := by
  obtain ⟨h1, h2⟩ := h
  have n0 : (0 : Int32).toInt = 0 := rfl
  have n1 : (-1 : Int32).toInt = -1 := rfl
  rw [Int32.lt_iff_toInt_lt] at h1 h2
  have e := own_sub1 (m := k) (by omega)
  simp only [Int32.lt_iff_toInt_lt, ← Int32.toInt_inj, e]; omega
theorem pd_9 : parseMethodDescriptor "(ILcom/example/headway/headway/engine/Row;[I)Z" = some ⟨[.int, (.object "com/example/headway/headway/engine/Row"), (.array .int)], some .boolean⟩ := by decide +kernel
theorem d18_0 : decode prog_57_method_6_code 0 = .ok (.iload_n 1, 1) := by decide +kernel
theorem d18_1 : decode prog_57_method_6_code 1 = .ok (.iconst (-1), 1) := by decide +kernel
theorem d18_2 : decode prog_57_method_6_code 2 = .ok (.if_icmp .eq 34, 3) := by decide +kernel
theorem d18_5 : decode prog_57_method_6_code 5 = .ok (.aload_n 0, 1) := by decide +kernel
theorem d18_6 : decode prog_57_method_6_code 6 = .ok (.getfield 16, 3) := by decide +kernel
theorem d18_9 : decode prog_57_method_6_code 9 = .ok (.iload_n 1, 1) := by decide +kernel
theorem d18_10 : decode prog_57_method_6_code 10 = .ok (.iaload, 1) := by decide +kernel
theorem d18_11 : decode prog_57_method_6_code 11 = .ok (.iload_n 2, 1) := by decide +kernel
theorem d18_12 : decode prog_57_method_6_code 12 = .ok (.if_icmp .ne 14, 3) := by decide +kernel
theorem d18_15 : decode prog_57_method_6_code 15 = .ok (.aload_n 0, 1) := by decide +kernel
theorem d18_16 : decode prog_57_method_6_code 16 = .ok (.iload_n 1, 1) := by decide +kernel
theorem d18_17 : decode prog_57_method_6_code 17 = .ok (.aload_n 3, 1) := by decide +kernel
theorem d18_18 : decode prog_57_method_6_code 18 = .ok (.aload 4, 2) := by decide +kernel
theorem d18_20 : decode prog_57_method_6_code 20 = .ok (.invokevirtual 103, 3) := by decide +kernel
theorem d18_23 : decode prog_57_method_6_code 23 = .ok (.ifCond .ne 13, 3) := by decide +kernel
theorem d18_36 : decode prog_57_method_6_code 36 = .ok (.iload_n 1, 1) := by decide +kernel
theorem d18_37 : decode prog_57_method_6_code 37 = .ok (.ireturn, 1) := by decide +kernel
theorem ef_18 (m : MethodId) (x0 : Addr) (x1 : Int32) (x4 : Addr) : entryFrame m #[(.ref x0), (.int x1), (.int 0), .null, (.ref x4)] 5 = mkF m 0 #[.val (.ref x0), .val (.int x1), .val (.int 0), .val .null, .val (.ref x4)] [] := by first | (simp [entryFrame, mkF, argsToLocals, Value.category]; done) | rfl
def Q18 (Z : State) (o0 : Addr) (p1 : Int32) (o4 ha : Addr) (kh : ClassId) (Ln : Int32) (nl : Nat) (kc : Addr) (kk : ClassId) (h0 : Heap) (n0 : Nat) (v : Option Value) (h : Heap) (L : List Loc) : Prop := v = some (.int p1) ∧ Fr n0 L ∧ h = h0
set_option maxRecDepth 65536 in
set_option maxHeartbeats 40000000 in
theorem rm18 (l : Launch) (Z : State) (a0 : Array Value) (hw : ∀ d ∈ tables_1, d.before a0 Z = true) (ws : List Jvm.Cond) (o0 : Addr) (p1 : Int32) (o4 ha : Addr) (kh : ClassId) (Ln : Int32) (nl : Nat) (kc : Addr) (kk : ClassId) (h0 : Heap) (n0 : Nat) (Z0 : n0 ≤ h0.size) (E : Exa Z h0 o0 "com/example/headway/headway/engine/HashIndex") (Fh : Fld Z h0 o0 "com/example/headway/headway/engine/HashIndex" "hashes" "[I" (.ref ha)) (Vh : Arv Z h0 ha kh .int Ln (zr nl) (.int 0)) (Fk : Fld Z h0 o0 "com/example/headway/headway/engine/HashIndex" "keyColumns" "[I" (.ref kc)) (Vk : Arv Z h0 kc kk .int 0 [] (.int 0)) (hc : p1 = (-1 : Int32) ∨ (¬ p1 < 0 ∧ p1 < Ln)) :
    MetFree l mn_21 (head1 (Jvm.Cond.code mn_21 prog_57_method_6_code 5 (some .int) :: ws) (⟨1, 0, 0, 18⟩ : Room)) (fun a U => a = #[(.ref o0), (.int p1), (.int 0), .null, (.ref o4)] ∧ Z.Warmed39 U.vm ∧ U.heap = h0) (fun _ _ _ _ _ => True) (fun _ U o U' => ∃ v L, o = .returned v ∧ Q18 Z o0 p1 o4 ha kh Ln nl kc kk h0 n0 v U'.heap L ∧ FrameEnd U o U' L (⟨1, 0, 0, 18⟩ : Room).cells (⟨1, 0, 0, 18⟩ : Room).slots) := by
  refine MetFree.of_bodySF (plainFor_of_name pn_5) hisR ?_
  intro p e s m args below meth c s₁ Bd hml0 hP hK
  obtain ⟨rfl, hZ, hh⟩ := hP
  have hx := Bd.exec
  have hby := Bd.bytes
  have hml : c.maxLocals = 5 := hml0
  have hown : s.vm.findClass "com/example/headway/headway/engine/HashIndex" = some m.cls := findClass_of_methodNamed Bd.named
  have hnm := (name_of_methodNamed Bd.named Bd.method).1
  have X0 : Stand p l e (⟨1, 0, 0, 18⟩ : Room) s m #[(.ref o0), (.int p1), (.int 0), .null, (.ref o4)] below meth c s₁ [] 0 0 := Stand.of_body Bd
  have e0 : s₁.heap = h0 := by rw [← hh, Bd.state]; rfl
  have N0 := Fr.nil n0
  have hret := Bd.returns
  have hlk := BodyLoose.notSynchronized Bd
  show own_Out p e below (fun o U' => ∃ v L, o = .returned v ∧ Q18 Z o0 p1 o4 ha kh Ln nl kc kk h0 n0 v U'.heap L ∧ FrameEnd s o U' L (⟨1, 0, 0, 18⟩ : Room).cells (⟨1, 0, 0, 18⟩ : Room).slots) (s₁.setTop (entryFrame m #[(.ref o0), (.int p1), (.int 0), .null, (.ref o4)] 5))
  refine own_of (fun t k => castTop (ef_18 m o0 p1 o4) k) ?_
  show own_Out p e below _ (s₁.setTop (mkF m 0 #[rv o0, iv p1, iv 0, .val (.null), rv o4] []))
  refine o_iloadN X0 hx hby d18_0 rfl (q := 1) rfl ?_
  refine o_iconst X0 hx hby d18_1 (z := (-1)) rfl (q := 2) rfl ?_
  by_cases hc2_1 : p1 = (-1 : Int32)
  · skip
    refine o_icY X0 hx hby d18_2 (teq hc2_1).1 (by decide) (q := 36) (by decide) ?_
    refine o_iloadN X0 hx hby d18_36 rfl (q := 37) rfl ?_
    exact own_outI X0 hx hlk hret (hb hby d18_37) (Q := Q18 Z o0 p1 o4 ha kh Ln nl kc kk h0 n0) ⟨rfl, N0, e0⟩ (by decide) (by decide)
  · skip
    refine o_icN X0 hx hby d18_2 (feq hc2_1).1 (q := 5) rfl ?_
    refine o_aloadN X0 hx hby d18_5 rfl rfl (q := 6) rfl ?_
    refine o_getF X0 hx hZ hown hby (w_ hw 72 rfl) Via.refl e0 Fh d18_6 (q := 9) rfl fun T2 X2 e2 => ?_
    refine o_iloadN X2 hx hby d18_9 rfl (q := 10) rfl ?_
    refine o_iaV X2 hx hby hZ e2 Vh (own_in hc hc2_1) (v := .int 0) (own_zr _ _) d18_10 (q := 11) rfl ?_
    refine o_iloadN X2 hx hby d18_11 rfl (q := 12) rfl ?_
    refine o_icN X2 hx hby d18_12 (teq (by decide : (0 : Int32) = (0 : Int32))).2 (q := 15) rfl ?_
    refine o_aloadN X2 hx hby d18_15 rfl rfl (q := 16) rfl ?_
    refine o_iloadN X2 hx hby d18_16 rfl (q := 17) rfl ?_
    refine o_aloadN X2 hx hby d18_17 rfl rfl (q := 18) rfl ?_
    refine o_aload X2 hx hby d18_18 rfl rfl (q := 20) rfl ?_
    obtain ⟨cq3, q3, q3'⟩ := Exa.cell E
    obtain ⟨_, _, ⟨T3, L3, k3, n3⟩, -, X3, ⟨Lc3, hQ3, l3, y3, z3⟩, st3⟩ := X2.privateBack hx (y := mn_20) hown (mvT hZ (w_ hw 160 rfl)) (mvT hZ (w_ hw 161 rfl)) (mvT hZ (own_selP (y := mn_20) (w_ hw 161 rfl) (w_ hw 162 rfl) (w_ hw 62 rfl) (by decide))) (Cond.privateMethod_at (mvP hZ (w_ hw 162 rfl) (args := #[]))) (mvT hZ (w_ hw 163 rfl)) (by decide) (backOf (W := 0) (rm25 l Z a0 hw [] o0 p1 o4 kc kk h0 n0 Z0 Fk Vk) hZ (w_ hw 163 rfl) (w_ hw 63 rfl) (by decide) (by decide)) (g := (mkF m 20 #[rv o0, iv p1, iv 0, .val (.null), rv o4] [.ref o4, .null, .int p1, .ref o0])) rfl (by rw [hml]; rfl) (Steps.refl _) (a := o0) (by rw [e2]; exact q3) q3' (argsL := [(.int p1), .null, (.ref o4)]) (rest := []) (lenOf pd_9 rfl) rfl (by show 2 * 0 + _ ≤ _; exact Nat.le_of_eq rfl) (hb hby d18_20) (fun _ _ => ⟨rfl, e2, (by decide : 0 + 0 ≤ _), (by decide : 0 + 0 ≤ _)⟩)
    dsimp only [Pt.U, Pt.locs, Pt.cells, Pt.slots] at X3 l3 y3 z3 st3 hQ3
    subst l3 y3 z3
    obtain ⟨rfl, N3q, hh3⟩ := hQ3
    have N3 := Fr.app N0 N3q
    refine own_of (fun _ k => st3.trans k) ?_
    show own_Out p e below _ (T3.setTop (mkF m 23 #[rv o0, iv p1, iv 0, .val (.null), rv o4] [.int 1]))
    refine o_ifY X3 hx hby d18_23 ((if0 _ _).trans (feq (by decide : ¬ ((1 : Int32) = (0 : Int32)))).2) (by decide) (q := 36) (by decide) ?_
    refine o_iloadN X3 hx hby d18_36 rfl (q := 37) rfl ?_
    exact own_outI X3 hx hlk hret (hb hby d18_37) (Q := Q18 Z o0 p1 o4 ha kh Ln nl kc kk h0 n0) ⟨rfl, N3, hh3⟩ (by decide) (by decide)
theorem pd_10 : parseMethodDescriptor "(Lcom/example/headway/headway/engine/Row;[I)I" = some ⟨[(.object "com/example/headway/headway/engine/Row"), (.array .int)], some .int⟩ := by decide +kernel
theorem pd_11 : parseMethodDescriptor "(IILcom/example/headway/headway/engine/Row;[I)I" = some ⟨[.int, .int, (.object "com/example/headway/headway/engine/Row"), (.array .int)], some .int⟩ := by decide +kernel
theorem d14_0 : decode prog_57_method_4_code 0 = .ok (.aload_n 0, 1) := by decide +kernel
theorem d14_1 : decode prog_57_method_4_code 1 = .ok (.aload_n 1, 1) := by decide +kernel
theorem d14_2 : decode prog_57_method_4_code 2 = .ok (.aload_n 2, 1) := by decide +kernel
theorem d14_3 : decode prog_57_method_4_code 3 = .ok (.invokevirtual 92, 3) := by decide +kernel
theorem d14_6 : decode prog_57_method_4_code 6 = .ok (.ldc 75, 2) := by decide +kernel
theorem d14_8 : decode prog_57_method_4_code 8 = .ok (.imul, 1) := by decide +kernel
theorem d14_9 : decode prog_57_method_4_code 9 = .ok (.istore_n 3, 1) := by decide +kernel
theorem d14_10 : decode prog_57_method_4_code 10 = .ok (.aload_n 0, 1) := by decide +kernel
theorem d14_11 : decode prog_57_method_4_code 11 = .ok (.aload_n 0, 1) := by decide +kernel
theorem d14_12 : decode prog_57_method_4_code 12 = .ok (.getfield 9, 3) := by decide +kernel
theorem d14_15 : decode prog_57_method_4_code 15 = .ok (.iload_n 3, 1) := by decide +kernel
theorem d14_16 : decode prog_57_method_4_code 16 = .ok (.aload_n 0, 1) := by decide +kernel
theorem d14_17 : decode prog_57_method_4_code 17 = .ok (.getfield 9, 3) := by decide +kernel
theorem d14_20 : decode prog_57_method_4_code 20 = .ok (.invokestatic 95, 3) := by decide +kernel
theorem d14_23 : decode prog_57_method_4_code 23 = .ok (.iaload, 1) := by decide +kernel
theorem d14_24 : decode prog_57_method_4_code 24 = .ok (.iload_n 3, 1) := by decide +kernel
theorem d14_25 : decode prog_57_method_4_code 25 = .ok (.aload_n 1, 1) := by decide +kernel
theorem d14_26 : decode prog_57_method_4_code 26 = .ok (.aload_n 2, 1) := by decide +kernel
theorem d14_27 : decode prog_57_method_4_code 27 = .ok (.invokevirtual 99, 3) := by decide +kernel
theorem d14_30 : decode prog_57_method_4_code 30 = .ok (.ireturn, 1) := by decide +kernel
theorem ef_14n16 (m : MethodId) (x0 x2 : Addr) : entryFrame m #[(.ref x0), .null, (.ref x2)] 4 = mkF m 0 #[.val (.ref x0), .val .null, .val (.ref x2), .unset] [] := by first | (simp [entryFrame, mkF, argsToLocals, Value.category]; done) | rfl
def Q14n16 (Z : State) (o0 o2 fa : Addr) (kf : ClassId) (a : Int32) (tl : List Value) (ha : Addr) (kh : ClassId) (Ln : Int32) (nl : Nat) (kc : Addr) (kk : ClassId) (h0 : Heap) (n0 : Nat) (v : Option Value) (h : Heap) (L : List Loc) : Prop := v = some (.int a) ∧ Fr n0 L ∧ h = h0
set_option maxRecDepth 65536 in
set_option maxHeartbeats 40000000 in
theorem rm14n16 (l : Launch) (Z : State) (a0 : Array Value) (hw : ∀ d ∈ tables_1, d.before a0 Z = true) (ws : List Jvm.Cond) (o0 o2 fa : Addr) (kf : ClassId) (a : Int32) (tl : List Value) (ha : Addr) (kh : ClassId) (Ln : Int32) (nl : Nat) (kc : Addr) (kk : ClassId) (h0 : Heap) (n0 : Nat) (Z0 : n0 ≤ h0.size) (Ff : Fld Z h0 o0 "com/example/headway/headway/engine/HashIndex" "firstInBucket" "[I" (.ref fa)) (Vf : Arv Z h0 fa kf .int 16 (.int a :: tl) (.int 0)) (E : Exa Z h0 o0 "com/example/headway/headway/engine/HashIndex") (Fh : Fld Z h0 o0 "com/example/headway/headway/engine/HashIndex" "hashes" "[I" (.ref ha)) (Vh : Arv Z h0 ha kh .int Ln (zr nl) (.int 0)) (Fk : Fld Z h0 o0 "com/example/headway/headway/engine/HashIndex" "keyColumns" "[I" (.ref kc)) (Vk : Arv Z h0 kc kk .int 0 [] (.int 0)) (hc : a = (-1 : Int32) ∨ (¬ a < 0 ∧ a < Ln)) :
    MetFree l mn_22 (head1 (Jvm.Cond.code mn_22 prog_57_method_4_code 4 (some .int) :: ws) (⟨2, 0, 0, 34⟩ : Room)) (fun a U => a = #[(.ref o0), .null, (.ref o2)] ∧ Z.Warmed39 U.vm ∧ U.heap = h0) (fun _ _ _ _ _ => True) (fun _ U o U' => ∃ v L, o = .returned v ∧ Q14n16 Z o0 o2 fa kf a tl ha kh Ln nl kc kk h0 n0 v U'.heap L ∧ FrameEnd U o U' L (⟨2, 0, 0, 34⟩ : Room).cells (⟨2, 0, 0, 34⟩ : Room).slots) := by
  refine MetFree.of_bodySF (plainFor_of_name pn_5) hisR ?_
  intro p e s m args below meth c s₁ Bd hml0 hP hK
  obtain ⟨rfl, hZ, hh⟩ := hP
  have hx := Bd.exec
  have hby := Bd.bytes
  have hml : c.maxLocals = 4 := hml0
  have hown : s.vm.findClass "com/example/headway/headway/engine/HashIndex" = some m.cls := findClass_of_methodNamed Bd.named
  have hnm := (name_of_methodNamed Bd.named Bd.method).1
  have X0 : Stand p l e (⟨2, 0, 0, 34⟩ : Room) s m #[(.ref o0), .null, (.ref o2)] below meth c s₁ [] 0 0 := Stand.of_body Bd
  have e0 : s₁.heap = h0 := by rw [← hh, Bd.state]; rfl
  have N0 := Fr.nil n0
  have hret := Bd.returns
  have hlk := BodyLoose.notSynchronized Bd
  show own_Out p e below (fun o U' => ∃ v L, o = .returned v ∧ Q14n16 Z o0 o2 fa kf a tl ha kh Ln nl kc kk h0 n0 v U'.heap L ∧ FrameEnd s o U' L (⟨2, 0, 0, 34⟩ : Room).cells (⟨2, 0, 0, 34⟩ : Room).slots) (s₁.setTop (entryFrame m #[(.ref o0), .null, (.ref o2)] 4))
  refine own_of (fun t k => castTop (ef_14n16 m o0 o2) k) ?_
  show own_Out p e below _ (s₁.setTop (mkF m 0 #[rv o0, .val (.null), rv o2, .unset] []))
  refine o_aloadN X0 hx hby d14_0 rfl rfl (q := 1) rfl ?_
  refine o_aloadN X0 hx hby d14_1 rfl rfl (q := 2) rfl ?_
  refine o_aloadN X0 hx hby d14_2 rfl rfl (q := 3) rfl ?_
  obtain ⟨cq1, q1, q1'⟩ := Exa.cell E
  obtain ⟨_, _, ⟨T1, L1, k1, n1⟩, -, X1, ⟨Lc1, hQ1, l1, y1, z1⟩, st1⟩ := X0.privateBack hx (y := mn_19) hown (mvT hZ (w_ hw 119 rfl)) (mvT hZ (w_ hw 120 rfl)) (mvT hZ (own_selP (y := mn_19) (w_ hw 120 rfl) (w_ hw 121 rfl) (w_ hw 62 rfl) (by decide))) (Cond.privateMethod_at (mvP hZ (w_ hw 121 rfl) (args := #[]))) (mvT hZ (w_ hw 122 rfl)) (by decide) (backOf (W := 0) (rm15 l Z a0 hw [] o0 o2 kc kk h0 n0 Z0 Fk Vk) hZ (w_ hw 122 rfl) (w_ hw 63 rfl) (by decide) (by decide)) (g := (mkF m 3 #[rv o0, .val (.null), rv o2, .unset] [.ref o2, .null, .ref o0])) rfl (by rw [hml]; rfl) (Steps.refl _) (a := o0) (by rw [e0]; exact q1) q1' (argsL := [.null, (.ref o2)]) (rest := []) (lenOf pd_10 rfl) rfl (by show 2 * 0 + _ ≤ _; exact Nat.le_of_eq rfl) (hb hby d14_3) (fun _ _ => ⟨rfl, e0, (by decide : 0 + 0 ≤ _), (by decide : 0 + 0 ≤ _)⟩)
  dsimp only [Pt.U, Pt.locs, Pt.cells, Pt.slots] at X1 l1 y1 z1 st1 hQ1
  subst l1 y1 z1
  obtain ⟨rfl, N1q, hh1⟩ := hQ1
  have N1 := Fr.app N0 N1q
  refine own_of (fun _ k => st1.trans k) ?_
  show own_Out p e below _ (T1.setTop (mkF m 6 #[rv o0, .val (.null), rv o2, .unset] [.int 0]))
  refine o_ldcI X1 hx hZ hown hby (w_ hw 123 rfl) d14_6 (q := 8) rfl ?_
  refine o_imul X1 hx hby d14_8 (z := 0) rfl (q := 9) rfl ?_
  refine o_istoreN X1 hx hby d14_9 (l' := #[rv o0, .val (.null), rv o2, iv 0]) rfl (q := 10) rfl ?_
  refine o_aloadN X1 hx hby d14_10 rfl rfl (q := 11) rfl ?_
  refine o_aloadN X1 hx hby d14_11 rfl rfl (q := 12) rfl ?_
  refine o_getF X1 hx hZ hown hby (w_ hw 68 rfl) Via.refl hh1 Ff d14_12 (q := 15) rfl fun T2 X2 e2 => ?_
  refine o_iloadN X2 hx hby d14_15 rfl (q := 16) rfl ?_
  refine o_aloadN X2 hx hby d14_16 rfl rfl (q := 17) rfl ?_
  refine o_getF X2 hx hZ hown hby (w_ hw 68 rfl) Via.refl e2 Ff d14_17 (q := 20) rfl fun T3 X3 e3 => ?_
  obtain ⟨_, _, ⟨T4, L4, k4, n4⟩, -, X4, ⟨Lc4, hQ4, l4, y4, z4⟩, st4⟩ := Jvm.LawKit.callS X3 hx (y := mn_16) hown (mvT hZ (w_ hw 124 rfl)) (mvT hZ (w_ hw 125 rfl)) (mvT hZ (w_ hw 63 rfl)) (mvT hZ (w_ hw 126 rfl)) (by decide) (backOf (W := 2) (rm16n16 l Z a0 hw [] fa kf (.int a :: tl) h0 n0 Z0 Vf) hZ (w_ hw 126 rfl) (w_ hw 63 rfl) (by decide) (by decide)) (g := (mkF m 20 #[rv o0, .val (.null), rv o2, iv 0] [.ref fa, .int 0, .ref fa, .ref o0])) rfl (by rw [hml]; rfl) (argsL := [(.int 0), (.ref fa)]) (rest := [(.ref fa), (.ref o0)]) (lenOf pd_8 rfl) rfl (by show 2 * 0 + _ ≤ _; exact Nat.le_of_eq rfl) (hb hby d14_20) (fun _ _ => ⟨rfl, e3, (by decide : 0 + 0 ≤ _), (by decide : 0 + 0 ≤ _)⟩)
  dsimp only [Pt.U, Pt.locs, Pt.cells, Pt.slots] at X4 l4 y4 z4 st4 hQ4
  subst l4 y4 z4
  obtain ⟨rfl, N4q, hh4⟩ := hQ4
  have N4 := Fr.app N1 N4q
  refine own_of st4 ?_
  show own_Out p e below _ (T4.setTop (mkF m 23 #[rv o0, .val (.null), rv o2, iv 0] [.int 0, .ref fa, .ref o0]))
  refine o_iaV X4 hx hby hZ hh4 Vf ⟨by decide, by decide⟩ (v := .int a) rfl d14_23 (q := 24) rfl ?_
  refine o_iloadN X4 hx hby d14_24 rfl (q := 25) rfl ?_
  refine o_aloadN X4 hx hby d14_25 rfl rfl (q := 26) rfl ?_
  refine o_aloadN X4 hx hby d14_26 rfl rfl (q := 27) rfl ?_
  obtain ⟨cq5, q5, q5'⟩ := Exa.cell E
  obtain ⟨_, _, ⟨T5, L5, k5, n5⟩, -, X5, ⟨Lc5, hQ5, l5, y5, z5⟩, st5⟩ := X4.privateBack hx (y := mn_21) hown (mvT hZ (w_ hw 132 rfl)) (mvT hZ (w_ hw 133 rfl)) (mvT hZ (own_selP (y := mn_21) (w_ hw 133 rfl) (w_ hw 134 rfl) (w_ hw 62 rfl) (by decide))) (Cond.privateMethod_at (mvP hZ (w_ hw 134 rfl) (args := #[]))) (mvT hZ (w_ hw 135 rfl)) (by decide) (backOf (W := 0) (rm18 l Z a0 hw [] o0 a o2 ha kh Ln nl kc kk h0 n0 Z0 E Fh Vh Fk Vk hc) hZ (w_ hw 135 rfl) (w_ hw 63 rfl) (by decide) (by decide)) (g := (mkF m 27 #[rv o0, .val (.null), rv o2, iv 0] [.ref o2, .null, .int 0, .int a, .ref o0])) rfl (by rw [hml]; rfl) (Steps.refl _) (a := o0) (by rw [hh4]; exact q5) q5' (argsL := [(.int a), (.int 0), .null, (.ref o2)]) (rest := []) (lenOf pd_11 rfl) rfl (by show 2 * 0 + _ ≤ _; exact Nat.le_of_eq rfl) (hb hby d14_27) (fun _ _ => ⟨rfl, hh4, (by decide : 0 + 0 ≤ _), (by decide : 0 + 0 ≤ _)⟩)
  dsimp only [Pt.U, Pt.locs, Pt.cells, Pt.slots] at X5 l5 y5 z5 st5 hQ5
  subst l5 y5 z5
  obtain ⟨rfl, N5q, hh5⟩ := hQ5
  have N5 := Fr.app N4 N5q
  refine own_of (fun _ k => st5.trans k) ?_
  show own_Out p e below _ (T5.setTop (mkF m 30 #[rv o0, .val (.null), rv o2, iv 0] [.int a]))
  exact own_outI X5 hx hlk hret (hb hby d14_30) (Q := Q14n16 Z o0 o2 fa kf a tl ha kh Ln nl kc kk h0 n0) ⟨rfl, N5, hh5⟩ (by decide) (by decide)
theorem ef_14n32 (m : MethodId) (x0 x2 : Addr) : entryFrame m #[(.ref x0), .null, (.ref x2)] 4 = mkF m 0 #[.val (.ref x0), .val .null, .val (.ref x2), .unset] [] := by first | (simp [entryFrame, mkF, argsToLocals, Value.category]; done) | rfl
def Q14n32 (Z : State) (o0 o2 fa : Addr) (kf : ClassId) (a : Int32) (tl : List Value) (ha : Addr) (kh : ClassId) (Ln : Int32) (nl : Nat) (kc : Addr) (kk : ClassId) (h0 : Heap) (n0 : Nat) (v : Option Value) (h : Heap) (L : List Loc) : Prop := v = some (.int a) ∧ Fr n0 L ∧ h = h0
set_option maxRecDepth 65536 in
set_option maxHeartbeats 40000000 in
theorem rm14n32 (l : Launch) (Z : State) (a0 : Array Value) (hw : ∀ d ∈ tables_1, d.before a0 Z = true) (ws : List Jvm.Cond) (o0 o2 fa : Addr) (kf : ClassId) (a : Int32) (tl : List Value) (ha : Addr) (kh : ClassId) (Ln : Int32) (nl : Nat) (kc : Addr) (kk : ClassId) (h0 : Heap) (n0 : Nat) (Z0 : n0 ≤ h0.size) (Ff : Fld Z h0 o0 "com/example/headway/headway/engine/HashIndex" "firstInBucket" "[I" (.ref fa)) (Vf : Arv Z h0 fa kf .int 32 (.int a :: tl) (.int 0)) (E : Exa Z h0 o0 "com/example/headway/headway/engine/HashIndex") (Fh : Fld Z h0 o0 "com/example/headway/headway/engine/HashIndex" "hashes" "[I" (.ref ha)) (Vh : Arv Z h0 ha kh .int Ln (zr nl) (.int 0)) (Fk : Fld Z h0 o0 "com/example/headway/headway/engine/HashIndex" "keyColumns" "[I" (.ref kc)) (Vk : Arv Z h0 kc kk .int 0 [] (.int 0)) (hc : a = (-1 : Int32) ∨ (¬ a < 0 ∧ a < Ln)) :
    MetFree l mn_22 (head1 (Jvm.Cond.code mn_22 prog_57_method_4_code 4 (some .int) :: ws) (⟨2, 0, 0, 34⟩ : Room)) (fun a U => a = #[(.ref o0), .null, (.ref o2)] ∧ Z.Warmed39 U.vm ∧ U.heap = h0) (fun _ _ _ _ _ => True) (fun _ U o U' => ∃ v L, o = .returned v ∧ Q14n32 Z o0 o2 fa kf a tl ha kh Ln nl kc kk h0 n0 v U'.heap L ∧ FrameEnd U o U' L (⟨2, 0, 0, 34⟩ : Room).cells (⟨2, 0, 0, 34⟩ : Room).slots) := by
  refine MetFree.of_bodySF (plainFor_of_name pn_5) hisR ?_
  intro p e s m args below meth c s₁ Bd hml0 hP hK
  obtain ⟨rfl, hZ, hh⟩ := hP
  have hx := Bd.exec
  have hby := Bd.bytes
  have hml : c.maxLocals = 4 := hml0
  have hown : s.vm.findClass "com/example/headway/headway/engine/HashIndex" = some m.cls := findClass_of_methodNamed Bd.named
  have hnm := (name_of_methodNamed Bd.named Bd.method).1
  have X0 : Stand p l e (⟨2, 0, 0, 34⟩ : Room) s m #[(.ref o0), .null, (.ref o2)] below meth c s₁ [] 0 0 := Stand.of_body Bd
  have e0 : s₁.heap = h0 := by rw [← hh, Bd.state]; rfl
  have N0 := Fr.nil n0
  have hret := Bd.returns
  have hlk := BodyLoose.notSynchronized Bd
  show own_Out p e below (fun o U' => ∃ v L, o = .returned v ∧ Q14n32 Z o0 o2 fa kf a tl ha kh Ln nl kc kk h0 n0 v U'.heap L ∧ FrameEnd s o U' L (⟨2, 0, 0, 34⟩ : Room).cells (⟨2, 0, 0, 34⟩ : Room).slots) (s₁.setTop (entryFrame m #[(.ref o0), .null, (.ref o2)] 4))
  refine own_of (fun t k => castTop (ef_14n32 m o0 o2) k) ?_
  show own_Out p e below _ (s₁.setTop (mkF m 0 #[rv o0, .val (.null), rv o2, .unset] []))
  refine o_aloadN X0 hx hby d14_0 rfl rfl (q := 1) rfl ?_
  refine o_aloadN X0 hx hby d14_1 rfl rfl (q := 2) rfl ?_
  refine o_aloadN X0 hx hby d14_2 rfl rfl (q := 3) rfl ?_
  obtain ⟨cq1, q1, q1'⟩ := Exa.cell E
  obtain ⟨_, _, ⟨T1, L1, k1, n1⟩, -, X1, ⟨Lc1, hQ1, l1, y1, z1⟩, st1⟩ := X0.privateBack hx (y := mn_19) hown (mvT hZ (w_ hw 119 rfl)) (mvT hZ (w_ hw 120 rfl)) (mvT hZ (own_selP (y := mn_19) (w_ hw 120 rfl) (w_ hw 121 rfl) (w_ hw 62 rfl) (by decide))) (Cond.privateMethod_at (mvP hZ (w_ hw 121 rfl) (args := #[]))) (mvT hZ (w_ hw 122 rfl)) (by decide) (backOf (W := 0) (rm15 l Z a0 hw [] o0 o2 kc kk h0 n0 Z0 Fk Vk) hZ (w_ hw 122 rfl) (w_ hw 63 rfl) (by decide) (by decide)) (g := (mkF m 3 #[rv o0, .val (.null), rv o2, .unset] [.ref o2, .null, .ref o0])) rfl (by rw [hml]; rfl) (Steps.refl _) (a := o0) (by rw [e0]; exact q1) q1' (argsL := [.null, (.ref o2)]) (rest := []) (lenOf pd_10 rfl) rfl (by show 2 * 0 + _ ≤ _; exact Nat.le_of_eq rfl) (hb hby d14_3) (fun _ _ => ⟨rfl, e0, (by decide : 0 + 0 ≤ _), (by decide : 0 + 0 ≤ _)⟩)
  dsimp only [Pt.U, Pt.locs, Pt.cells, Pt.slots] at X1 l1 y1 z1 st1 hQ1
  subst l1 y1 z1
  obtain ⟨rfl, N1q, hh1⟩ := hQ1
  have N1 := Fr.app N0 N1q
  refine own_of (fun _ k => st1.trans k) ?_
  show own_Out p e below _ (T1.setTop (mkF m 6 #[rv o0, .val (.null), rv o2, .unset] [.int 0]))
  refine o_ldcI X1 hx hZ hown hby (w_ hw 123 rfl) d14_6 (q := 8) rfl ?_
  refine o_imul X1 hx hby d14_8 (z := 0) rfl (q := 9) rfl ?_
  refine o_istoreN X1 hx hby d14_9 (l' := #[rv o0, .val (.null), rv o2, iv 0]) rfl (q := 10) rfl ?_
  refine o_aloadN X1 hx hby d14_10 rfl rfl (q := 11) rfl ?_
  refine o_aloadN X1 hx hby d14_11 rfl rfl (q := 12) rfl ?_
  refine o_getF X1 hx hZ hown hby (w_ hw 68 rfl) Via.refl hh1 Ff d14_12 (q := 15) rfl fun T2 X2 e2 => ?_
  refine o_iloadN X2 hx hby d14_15 rfl (q := 16) rfl ?_
  refine o_aloadN X2 hx hby d14_16 rfl rfl (q := 17) rfl ?_
  refine o_getF X2 hx hZ hown hby (w_ hw 68 rfl) Via.refl e2 Ff d14_17 (q := 20) rfl fun T3 X3 e3 => ?_
  obtain ⟨_, _, ⟨T4, L4, k4, n4⟩, -, X4, ⟨Lc4, hQ4, l4, y4, z4⟩, st4⟩ := Jvm.LawKit.callS X3 hx (y := mn_16) hown (mvT hZ (w_ hw 124 rfl)) (mvT hZ (w_ hw 125 rfl)) (mvT hZ (w_ hw 63 rfl)) (mvT hZ (w_ hw 126 rfl)) (by decide) (backOf (W := 2) (rm16n32 l Z a0 hw [] fa kf (.int a :: tl) h0 n0 Z0 Vf) hZ (w_ hw 126 rfl) (w_ hw 63 rfl) (by decide) (by decide)) (g := (mkF m 20 #[rv o0, .val (.null), rv o2, iv 0] [.ref fa, .int 0, .ref fa, .ref o0])) rfl (by rw [hml]; rfl) (argsL := [(.int 0), (.ref fa)]) (rest := [(.ref fa), (.ref o0)]) (lenOf pd_8 rfl) rfl (by show 2 * 0 + _ ≤ _; exact Nat.le_of_eq rfl) (hb hby d14_20) (fun _ _ => ⟨rfl, e3, (by decide : 0 + 0 ≤ _), (by decide : 0 + 0 ≤ _)⟩)
  dsimp only [Pt.U, Pt.locs, Pt.cells, Pt.slots] at X4 l4 y4 z4 st4 hQ4
  subst l4 y4 z4
  obtain ⟨rfl, N4q, hh4⟩ := hQ4
  have N4 := Fr.app N1 N4q
  refine own_of st4 ?_
  show own_Out p e below _ (T4.setTop (mkF m 23 #[rv o0, .val (.null), rv o2, iv 0] [.int 0, .ref fa, .ref o0]))
  refine o_iaV X4 hx hby hZ hh4 Vf ⟨by decide, by decide⟩ (v := .int a) rfl d14_23 (q := 24) rfl ?_
  refine o_iloadN X4 hx hby d14_24 rfl (q := 25) rfl ?_
  refine o_aloadN X4 hx hby d14_25 rfl rfl (q := 26) rfl ?_
  refine o_aloadN X4 hx hby d14_26 rfl rfl (q := 27) rfl ?_
  obtain ⟨cq5, q5, q5'⟩ := Exa.cell E
  obtain ⟨_, _, ⟨T5, L5, k5, n5⟩, -, X5, ⟨Lc5, hQ5, l5, y5, z5⟩, st5⟩ := X4.privateBack hx (y := mn_21) hown (mvT hZ (w_ hw 132 rfl)) (mvT hZ (w_ hw 133 rfl)) (mvT hZ (own_selP (y := mn_21) (w_ hw 133 rfl) (w_ hw 134 rfl) (w_ hw 62 rfl) (by decide))) (Cond.privateMethod_at (mvP hZ (w_ hw 134 rfl) (args := #[]))) (mvT hZ (w_ hw 135 rfl)) (by decide) (backOf (W := 0) (rm18 l Z a0 hw [] o0 a o2 ha kh Ln nl kc kk h0 n0 Z0 E Fh Vh Fk Vk hc) hZ (w_ hw 135 rfl) (w_ hw 63 rfl) (by decide) (by decide)) (g := (mkF m 27 #[rv o0, .val (.null), rv o2, iv 0] [.ref o2, .null, .int 0, .int a, .ref o0])) rfl (by rw [hml]; rfl) (Steps.refl _) (a := o0) (by rw [hh4]; exact q5) q5' (argsL := [(.int a), (.int 0), .null, (.ref o2)]) (rest := []) (lenOf pd_11 rfl) rfl (by show 2 * 0 + _ ≤ _; exact Nat.le_of_eq rfl) (hb hby d14_27) (fun _ _ => ⟨rfl, hh4, (by decide : 0 + 0 ≤ _), (by decide : 0 + 0 ≤ _)⟩)
  dsimp only [Pt.U, Pt.locs, Pt.cells, Pt.slots] at X5 l5 y5 z5 st5 hQ5
  subst l5 y5 z5
  obtain ⟨rfl, N5q, hh5⟩ := hQ5
  have N5 := Fr.app N4 N5q
  refine own_of (fun _ k => st5.trans k) ?_
  show own_Out p e below _ (T5.setTop (mkF m 30 #[rv o0, .val (.null), rv o2, iv 0] [.int a]))
  exact own_outI X5 hx hlk hret (hb hby d14_30) (Q := Q14n32 Z o0 o2 fa kf a tl ha kh Ln nl kc kk h0 n0) ⟨rfl, N5, hh5⟩ (by decide) (by decide)
theorem d26_0 : decode prog_57_method_5_code 0 = .ok (.aload_n 0, 1) := by decide +kernel
theorem d26_1 : decode prog_57_method_5_code 1 = .ok (.aload_n 0, 1) := by decide +kernel
theorem d26_2 : decode prog_57_method_5_code 2 = .ok (.getfield 13, 3) := by decide +kernel
theorem d26_5 : decode prog_57_method_5_code 5 = .ok (.iload_n 1, 1) := by decide +kernel
theorem d26_6 : decode prog_57_method_5_code 6 = .ok (.iaload, 1) := by decide +kernel
theorem d26_7 : decode prog_57_method_5_code 7 = .ok (.aload_n 0, 1) := by decide +kernel
theorem d26_8 : decode prog_57_method_5_code 8 = .ok (.getfield 16, 3) := by decide +kernel
theorem d26_11 : decode prog_57_method_5_code 11 = .ok (.iload_n 1, 1) := by decide +kernel
theorem d26_12 : decode prog_57_method_5_code 12 = .ok (.iaload, 1) := by decide +kernel
theorem d26_13 : decode prog_57_method_5_code 13 = .ok (.aload_n 2, 1) := by decide +kernel
theorem d26_14 : decode prog_57_method_5_code 14 = .ok (.aload_n 3, 1) := by decide +kernel
theorem d26_15 : decode prog_57_method_5_code 15 = .ok (.invokevirtual 99, 3) := by decide +kernel
theorem d26_18 : decode prog_57_method_5_code 18 = .ok (.ireturn, 1) := by decide +kernel
theorem ef_26 (m : MethodId) (x0 : Addr) (x1 : Int32) (x3 : Addr) : entryFrame m #[(.ref x0), (.int x1), .null, (.ref x3)] 4 = mkF m 0 #[.val (.ref x0), .val (.int x1), .val .null, .val (.ref x3)] [] := by first | (simp [entryFrame, mkF, argsToLocals, Value.category]; done) | rfl
def Q26 (Z : State) (o0 : Addr) (p1 : Int32) (o3 na : Addr) (kn : ClassId) (vs : List Value) (ha : Addr) (kh : ClassId) (Ln : Int32) (nl : Nat) (kc : Addr) (kk : ClassId) (h0 : Heap) (n0 : Nat) (v : Option Value) (h : Heap) (L : List Loc) : Prop := v = some (.int (p1 - (1 : Int32))) ∧ Fr n0 L ∧ h = h0
set_option maxRecDepth 65536 in
set_option maxHeartbeats 40000000 in
theorem rm26 (l : Launch) (Z : State) (a0 : Array Value) (hw : ∀ d ∈ tables_1, d.before a0 Z = true) (ws : List Jvm.Cond) (o0 : Addr) (p1 : Int32) (o3 na : Addr) (kn : ClassId) (vs : List Value) (ha : Addr) (kh : ClassId) (Ln : Int32) (nl : Nat) (kc : Addr) (kk : ClassId) (h0 : Heap) (n0 : Nat) (Z0 : n0 ≤ h0.size) (Fn : Fld Z h0 o0 "com/example/headway/headway/engine/HashIndex" "nextInBucket" "[I" (.ref na)) (Vn : Arv Z h0 na kn .int Ln vs (.int 0)) (E : Exa Z h0 o0 "com/example/headway/headway/engine/HashIndex") (Fh : Fld Z h0 o0 "com/example/headway/headway/engine/HashIndex" "hashes" "[I" (.ref ha)) (Vh : Arv Z h0 ha kh .int Ln (zr nl) (.int 0)) (Fk : Fld Z h0 o0 "com/example/headway/headway/engine/HashIndex" "keyColumns" "[I" (.ref kc)) (Vk : Arv Z h0 kc kk .int 0 [] (.int 0)) (hj : ¬ p1 < 0 ∧ p1 < Ln) (hv : vs.getD p1.toNatClampNeg (.int 0) = .int (p1 - 1)) :
    MetFree l mn_23 (head1 (Jvm.Cond.code mn_23 prog_57_method_5_code 4 (some .int) :: ws) (⟨2, 0, 0, 34⟩ : Room)) (fun a U => a = #[(.ref o0), (.int p1), .null, (.ref o3)] ∧ Z.Warmed39 U.vm ∧ U.heap = h0) (fun _ _ _ _ _ => True) (fun _ U o U' => ∃ v L, o = .returned v ∧ Q26 Z o0 p1 o3 na kn vs ha kh Ln nl kc kk h0 n0 v U'.heap L ∧ FrameEnd U o U' L (⟨2, 0, 0, 34⟩ : Room).cells (⟨2, 0, 0, 34⟩ : Room).slots) := by
  refine MetFree.of_bodySF (plainFor_of_name pn_5) hisR ?_
  intro p e s m args below meth c s₁ Bd hml0 hP hK
  obtain ⟨rfl, hZ, hh⟩ := hP
  have hx := Bd.exec
  have hby := Bd.bytes
  have hml : c.maxLocals = 4 := hml0
  have hown : s.vm.findClass "com/example/headway/headway/engine/HashIndex" = some m.cls := findClass_of_methodNamed Bd.named
  have hnm := (name_of_methodNamed Bd.named Bd.method).1
  have X0 : Stand p l e (⟨2, 0, 0, 34⟩ : Room) s m #[(.ref o0), (.int p1), .null, (.ref o3)] below meth c s₁ [] 0 0 := Stand.of_body Bd
  have e0 : s₁.heap = h0 := by rw [← hh, Bd.state]; rfl
  have N0 := Fr.nil n0
  have hret := Bd.returns
  have hlk := BodyLoose.notSynchronized Bd
  show own_Out p e below (fun o U' => ∃ v L, o = .returned v ∧ Q26 Z o0 p1 o3 na kn vs ha kh Ln nl kc kk h0 n0 v U'.heap L ∧ FrameEnd s o U' L (⟨2, 0, 0, 34⟩ : Room).cells (⟨2, 0, 0, 34⟩ : Room).slots) (s₁.setTop (entryFrame m #[(.ref o0), (.int p1), .null, (.ref o3)] 4))
  refine own_of (fun t k => castTop (ef_26 m o0 p1 o3) k) ?_
  show own_Out p e below _ (s₁.setTop (mkF m 0 #[rv o0, iv p1, .val (.null), rv o3] []))
  refine o_aloadN X0 hx hby d26_0 rfl rfl (q := 1) rfl ?_
  refine o_aloadN X0 hx hby d26_1 rfl rfl (q := 2) rfl ?_
  refine o_getF X0 hx hZ hown hby (w_ hw 70 rfl) Via.refl e0 Fn d26_2 (q := 5) rfl fun T1 X1 e1 => ?_
  refine o_iloadN X1 hx hby d26_5 rfl (q := 6) rfl ?_
  refine o_iaV X1 hx hby hZ e1 Vn hj (v := .int (p1 - (1 : Int32))) hv d26_6 (q := 7) rfl ?_
  refine o_aloadN X1 hx hby d26_7 rfl rfl (q := 8) rfl ?_
  refine o_getF X1 hx hZ hown hby (w_ hw 72 rfl) Via.refl e1 Fh d26_8 (q := 11) rfl fun T2 X2 e2 => ?_
  refine o_iloadN X2 hx hby d26_11 rfl (q := 12) rfl ?_
  refine o_iaV X2 hx hby hZ e2 Vh hj (v := .int 0) (own_zr _ _) d26_12 (q := 13) rfl ?_
  refine o_aloadN X2 hx hby d26_13 rfl rfl (q := 14) rfl ?_
  refine o_aloadN X2 hx hby d26_14 rfl rfl (q := 15) rfl ?_
  obtain ⟨cq3, q3, q3'⟩ := Exa.cell E
  obtain ⟨_, _, ⟨T3, L3, k3, n3⟩, -, X3, ⟨Lc3, hQ3, l3, y3, z3⟩, st3⟩ := X2.privateBack hx (y := mn_21) hown (mvT hZ (w_ hw 132 rfl)) (mvT hZ (w_ hw 133 rfl)) (mvT hZ (own_selP (y := mn_21) (w_ hw 133 rfl) (w_ hw 134 rfl) (w_ hw 62 rfl) (by decide))) (Cond.privateMethod_at (mvP hZ (w_ hw 134 rfl) (args := #[]))) (mvT hZ (w_ hw 135 rfl)) (by decide) (backOf (W := 0) (rm18 l Z a0 hw [] o0 (p1 - (1 : Int32)) o3 ha kh Ln nl kc kk h0 n0 Z0 E Fh Vh Fk Vk (own_k1 hj)) hZ (w_ hw 135 rfl) (w_ hw 63 rfl) (by decide) (by decide)) (g := (mkF m 15 #[rv o0, iv p1, .val (.null), rv o3] [.ref o3, .null, .int 0, .int (p1 - (1 : Int32)), .ref o0])) rfl (by rw [hml]; rfl) (Steps.refl _) (a := o0) (by rw [e2]; exact q3) q3' (argsL := [(.int (p1 - (1 : Int32))), (.int 0), .null, (.ref o3)]) (rest := []) (lenOf pd_11 rfl) rfl (by show 2 * 0 + _ ≤ _; exact Nat.le_of_eq rfl) (hb hby d26_15) (fun _ _ => ⟨rfl, e2, (by decide : 0 + 0 ≤ _), (by decide : 0 + 0 ≤ _)⟩)
  dsimp only [Pt.U, Pt.locs, Pt.cells, Pt.slots] at X3 l3 y3 z3 st3 hQ3
  subst l3 y3 z3
  obtain ⟨rfl, N3q, hh3⟩ := hQ3
  have N3 := Fr.app N0 N3q
  refine own_of (fun _ k => st3.trans k) ?_
  show own_Out p e below _ (T3.setTop (mkF m 18 #[rv o0, iv p1, .val (.null), rv o3] [.int (p1 - (1 : Int32))]))
  exact own_outI X3 hx hlk hret (hb hby d26_18) (Q := Q26 Z o0 p1 o3 na kn vs ha kh Ln nl kc kk h0 n0) ⟨rfl, N3, hh3⟩ (by decide) (by decide)
theorem d13_0 : decode prog_57_method_3_code 0 = .ok (.aload_n 0, 1) := by decide +kernel
theorem d13_1 : decode prog_57_method_3_code 1 = .ok (.aconst_null, 1) := by decide +kernel
theorem d13_2 : decode prog_57_method_3_code 2 = .ok (.putfield 80, 3) := by decide +kernel
theorem d13_5 : decode prog_57_method_3_code 5 = .ok (.aload_n 0, 1) := by decide +kernel
theorem d13_6 : decode prog_57_method_3_code 6 = .ok (.aconst_null, 1) := by decide +kernel
theorem d13_7 : decode prog_57_method_3_code 7 = .ok (.putfield 89, 3) := by decide +kernel
theorem d13_10 : decode prog_57_method_3_code 10 = .ok (.aload_n 0, 1) := by decide +kernel
theorem d13_11 : decode prog_57_method_3_code 11 = .ok (.ldc 59, 2) := by decide +kernel
theorem d13_13 : decode prog_57_method_3_code 13 = .ok (.putfield 21, 3) := by decide +kernel
theorem d13_16 : decode prog_57_method_3_code 16 = .ok (.return_, 1) := by decide +kernel
theorem ef_13 (m : MethodId) (x0 : Addr) : entryFrame m #[(.ref x0)] 1 = mkF m 0 #[.val (.ref x0)] [] := by first | (simp [entryFrame, mkF, argsToLocals, Value.category]; done) | rfl
def Q13 (Z : State) (o0 rb kc fa na ha : Addr) (LL mm : Int32) (v1 : Value) (v2 : Value) (rl : Int32) (h0 : Heap) (n0 : Nat) (v : Option Value) (h : Heap) (L : List Loc) : Prop := v = none ∧ Fr n0 L ∧ Keep h0 h [o0] ∧ Exa Z h o0 "com/example/headway/headway/engine/HashIndex" ∧ Fld Z h o0 "com/example/headway/headway/engine/HashIndex" "rows" "Lcom/example/headway/headway/engine/RowBuffer;" (.ref rb) ∧ Fld Z h o0 "com/example/headway/headway/engine/HashIndex" "keyColumns" "[I" (.ref kc) ∧ Fld Z h o0 "com/example/headway/headway/engine/HashIndex" "firstInBucket" "[I" (.ref fa) ∧ Fld Z h o0 "com/example/headway/headway/engine/HashIndex" "nextInBucket" "[I" (.ref na) ∧ Fld Z h o0 "com/example/headway/headway/engine/HashIndex" "hashes" "[I" (.ref ha) ∧ Fld Z h o0 "com/example/headway/headway/engine/HashIndex" "loadLimit" "I" (.int 805306368) ∧ Fld Z h o0 "com/example/headway/headway/engine/HashIndex" "indexed" "I" (.int mm) ∧ Fld Z h o0 "com/example/headway/headway/engine/HashIndex" "largerFirstInBucket" "[I" .null ∧ Fld Z h o0 "com/example/headway/headway/engine/HashIndex" "largerNextInBucket" "[I" .null ∧ Fld Z h o0 "com/example/headway/headway/engine/HashIndex" "relinked" "I" (.int rl)
set_option maxRecDepth 65536 in
set_option maxHeartbeats 40000000 in
theorem rm13 (l : Launch) (Z : State) (a0 : Array Value) (hw : ∀ d ∈ tables_1, d.before a0 Z = true) (ws : List Jvm.Cond) (o0 rb kc fa na ha : Addr) (LL mm : Int32) (v1 : Value) (v2 : Value) (rl : Int32) (h0 : Heap) (n0 : Nat) (Z0 : n0 ≤ h0.size) (E : Exa Z h0 o0 "com/example/headway/headway/engine/HashIndex") (F_rows : Fld Z h0 o0 "com/example/headway/headway/engine/HashIndex" "rows" "Lcom/example/headway/headway/engine/RowBuffer;" (.ref rb)) (F_keyColumns : Fld Z h0 o0 "com/example/headway/headway/engine/HashIndex" "keyColumns" "[I" (.ref kc)) (F_firstInBucket : Fld Z h0 o0 "com/example/headway/headway/engine/HashIndex" "firstInBucket" "[I" (.ref fa)) (F_nextInBucket : Fld Z h0 o0 "com/example/headway/headway/engine/HashIndex" "nextInBucket" "[I" (.ref na)) (F_hashes : Fld Z h0 o0 "com/example/headway/headway/engine/HashIndex" "hashes" "[I" (.ref ha)) (F_loadLimit : Fld Z h0 o0 "com/example/headway/headway/engine/HashIndex" "loadLimit" "I" (.int LL)) (F_indexed : Fld Z h0 o0 "com/example/headway/headway/engine/HashIndex" "indexed" "I" (.int mm)) (F_largerFirstInBucket : Fld Z h0 o0 "com/example/headway/headway/engine/HashIndex" "largerFirstInBucket" "[I" v1) (F_largerNextInBucket : Fld Z h0 o0 "com/example/headway/headway/engine/HashIndex" "largerNextInBucket" "[I" v2) (F_relinked : Fld Z h0 o0 "com/example/headway/headway/engine/HashIndex" "relinked" "I" (.int rl)) (g_o0 : n0 ≤ o0) :
    MetFree l mn_24 (head1 (Jvm.Cond.code mn_24 prog_57_method_3_code 1 none :: ws) (⟨0, 0, 0, 0⟩ : Room)) (fun a U => a = #[(.ref o0)] ∧ Z.Warmed39 U.vm ∧ U.heap = h0) (fun _ _ _ _ _ => True) (fun _ U o U' => ∃ v L, o = .returned v ∧ Q13 Z o0 rb kc fa na ha LL mm v1 v2 rl h0 n0 v U'.heap L ∧ FrameEnd U o U' L (⟨0, 0, 0, 0⟩ : Room).cells (⟨0, 0, 0, 0⟩ : Room).slots) := by
  refine MetFree.of_bodySF (plainFor_of_name pn_5) hisR ?_
  intro p e s m args below meth c s₁ Bd hml0 hP hK
  obtain ⟨rfl, hZ, hh⟩ := hP
  have hx := Bd.exec
  have hby := Bd.bytes
  have hml : c.maxLocals = 1 := hml0
  have hown : s.vm.findClass "com/example/headway/headway/engine/HashIndex" = some m.cls := findClass_of_methodNamed Bd.named
  have hnm := (name_of_methodNamed Bd.named Bd.method).1
  have X0 : Stand p l e (⟨0, 0, 0, 0⟩ : Room) s m #[(.ref o0)] below meth c s₁ [] 0 0 := Stand.of_body Bd
  have e0 : s₁.heap = h0 := by rw [← hh, Bd.state]; rfl
  have N0 := Fr.nil n0
  have hret := Bd.returns
  have hlk := BodyLoose.notSynchronized Bd
  show own_Out p e below (fun o U' => ∃ v L, o = .returned v ∧ Q13 Z o0 rb kc fa na ha LL mm v1 v2 rl h0 n0 v U'.heap L ∧ FrameEnd s o U' L (⟨0, 0, 0, 0⟩ : Room).cells (⟨0, 0, 0, 0⟩ : Room).slots) (s₁.setTop (entryFrame m #[(.ref o0)] 1))
  refine own_of (fun t k => castTop (ef_13 m o0) k) ?_
  show own_Out p e below _ (s₁.setTop (mkF m 0 #[rv o0] []))
  refine o_aloadN X0 hx hby d13_0 rfl rfl (q := 1) rfl ?_
  refine o_aconst_null X0 hx hby d13_1 (q := 2) rfl ?_
  obtain ⟨T1, h1, X1, e1, W1, st1⟩ := putF X0 hx hZ hown (host := "") (Or.inl (w_ hw 109 rfl)) Via.refl e0 F_largerFirstInBucket E (Or.inl (w_ hw 110 rfl)) (w_ hw 62 rfl) (ty := (.array .int)) (by decide) rfl rfl (g := (mkF m 2 #[rv o0] [.null, .ref o0])) rfl rfl (hb hby d13_2)
  have Fw1 := F_largerFirstInBucket.same W1
  refine own_of st1 ?_
  show own_Out p e below _ (T1.setTop (mkF m 5 #[rv o0] []))
  refine o_aloadN X1 hx hby d13_5 rfl rfl (q := 6) rfl ?_
  refine o_aconst_null X1 hx hby d13_6 (q := 7) rfl ?_
  have qz3 := (F_largerNextInBucket.other W1 (Or.inr (slot_ne (Or.inl (w_ hw 112 rfl)) (Or.inl (w_ hw 110 rfl)) (by decide) (t := (.array .int)) (t' := (.array .int)) (by decide) (by decide))))
  have qz4 := (E.wr W1)
  obtain ⟨T2, h2, X2, e2, W2, st2⟩ := putF X1 hx hZ hown (host := "") (Or.inl (w_ hw 111 rfl)) Via.refl e1 qz3 qz4 (Or.inl (w_ hw 112 rfl)) (w_ hw 62 rfl) (ty := (.array .int)) (by decide) rfl rfl (g := (mkF m 7 #[rv o0] [.null, .ref o0])) rfl rfl (hb hby d13_7)
  have qz5 := (F_largerNextInBucket.other W1 (Or.inr (slot_ne (Or.inl (w_ hw 112 rfl)) (Or.inl (w_ hw 110 rfl)) (by decide) (t := (.array .int)) (t' := (.array .int)) (by decide) (by decide))))
  have Fw2 := qz5.same W2
  refine own_of st2 ?_
  show own_Out p e below _ (T2.setTop (mkF m 10 #[rv o0] []))
  refine o_aloadN X2 hx hby d13_10 rfl rfl (q := 11) rfl ?_
  refine o_ldcI X2 hx hZ hown hby (w_ hw 113 rfl) d13_11 (q := 13) rfl ?_
  have qz7 := ((F_loadLimit.other W1 (Or.inr (slot_ne (Or.inl (w_ hw 76 rfl)) (Or.inl (w_ hw 110 rfl)) (by decide) (t := .int) (t' := (.array .int)) (by decide) (by decide)))).other W2 (Or.inr (slot_ne (Or.inl (w_ hw 76 rfl)) (Or.inl (w_ hw 112 rfl)) (by decide) (t := .int) (t' := (.array .int)) (by decide) (by decide))))
  have qz8 := (qz4.wr W2)
  obtain ⟨T6, h6, X6, e6, W6, st6⟩ := putF X2 hx hZ hown (host := "") (Or.inl (w_ hw 75 rfl)) Via.refl e2 qz7 qz8 (Or.inl (w_ hw 76 rfl)) (w_ hw 62 rfl) (ty := .int) (by decide) rfl rfl (g := (mkF m 13 #[rv o0] [.int 805306368, .ref o0])) rfl rfl (hb hby d13_13)
  have qz9 := ((F_loadLimit.other W1 (Or.inr (slot_ne (Or.inl (w_ hw 76 rfl)) (Or.inl (w_ hw 110 rfl)) (by decide) (t := .int) (t' := (.array .int)) (by decide) (by decide)))).other W2 (Or.inr (slot_ne (Or.inl (w_ hw 76 rfl)) (Or.inl (w_ hw 112 rfl)) (by decide) (t := .int) (t' := (.array .int)) (by decide) (by decide))))
  have Fw6 := qz9.same W6
  refine own_of st6 ?_
  show own_Out p e below _ (T6.setTop (mkF m 16 #[rv o0] []))
  have qz10 := ((((Keep.refl h0 [o0]).wr W1 (Or.inl (List.mem_of_getElem? (i := 0) rfl))).wr W2 (Or.inl (List.mem_of_getElem? (i := 0) rfl))).wr W6 (Or.inl (List.mem_of_getElem? (i := 0) rfl)))
  have qz11 := (qz8.wr W6)
  have qz12 := (((F_rows.other W1 (Or.inr (slot_ne (Or.inr (w_ hw 78 rfl)) (Or.inl (w_ hw 110 rfl)) (by decide) (t := (.object "com/example/headway/headway/engine/RowBuffer")) (t' := (.array .int)) (by decide) (by decide)))).other W2 (Or.inr (slot_ne (Or.inr (w_ hw 78 rfl)) (Or.inl (w_ hw 112 rfl)) (by decide) (t := (.object "com/example/headway/headway/engine/RowBuffer")) (t' := (.array .int)) (by decide) (by decide)))).other W6 (Or.inr (slot_ne (Or.inr (w_ hw 78 rfl)) (Or.inl (w_ hw 76 rfl)) (by decide) (t := (.object "com/example/headway/headway/engine/RowBuffer")) (t' := .int) (by decide) (by decide))))
  have qz13 := (((F_keyColumns.other W1 (Or.inr (slot_ne (Or.inr (w_ hw 81 rfl)) (Or.inl (w_ hw 110 rfl)) (by decide) (t := (.array .int)) (t' := (.array .int)) (by decide) (by decide)))).other W2 (Or.inr (slot_ne (Or.inr (w_ hw 81 rfl)) (Or.inl (w_ hw 112 rfl)) (by decide) (t := (.array .int)) (t' := (.array .int)) (by decide) (by decide)))).other W6 (Or.inr (slot_ne (Or.inr (w_ hw 81 rfl)) (Or.inl (w_ hw 76 rfl)) (by decide) (t := (.array .int)) (t' := .int) (by decide) (by decide))))
  have qz14 := (((F_firstInBucket.other W1 (Or.inr (slot_ne (Or.inl (w_ hw 69 rfl)) (Or.inl (w_ hw 110 rfl)) (by decide) (t := (.array .int)) (t' := (.array .int)) (by decide) (by decide)))).other W2 (Or.inr (slot_ne (Or.inl (w_ hw 69 rfl)) (Or.inl (w_ hw 112 rfl)) (by decide) (t := (.array .int)) (t' := (.array .int)) (by decide) (by decide)))).other W6 (Or.inr (slot_ne (Or.inl (w_ hw 69 rfl)) (Or.inl (w_ hw 76 rfl)) (by decide) (t := (.array .int)) (t' := .int) (by decide) (by decide))))
  have qz15 := (((F_nextInBucket.other W1 (Or.inr (slot_ne (Or.inl (w_ hw 71 rfl)) (Or.inl (w_ hw 110 rfl)) (by decide) (t := (.array .int)) (t' := (.array .int)) (by decide) (by decide)))).other W2 (Or.inr (slot_ne (Or.inl (w_ hw 71 rfl)) (Or.inl (w_ hw 112 rfl)) (by decide) (t := (.array .int)) (t' := (.array .int)) (by decide) (by decide)))).other W6 (Or.inr (slot_ne (Or.inl (w_ hw 71 rfl)) (Or.inl (w_ hw 76 rfl)) (by decide) (t := (.array .int)) (t' := .int) (by decide) (by decide))))
  have qz16 := (((F_hashes.other W1 (Or.inr (slot_ne (Or.inl (w_ hw 73 rfl)) (Or.inl (w_ hw 110 rfl)) (by decide) (t := (.array .int)) (t' := (.array .int)) (by decide) (by decide)))).other W2 (Or.inr (slot_ne (Or.inl (w_ hw 73 rfl)) (Or.inl (w_ hw 112 rfl)) (by decide) (t := (.array .int)) (t' := (.array .int)) (by decide) (by decide)))).other W6 (Or.inr (slot_ne (Or.inl (w_ hw 73 rfl)) (Or.inl (w_ hw 76 rfl)) (by decide) (t := (.array .int)) (t' := .int) (by decide) (by decide))))
  have qz17 := (((F_indexed.other W1 (Or.inr (slot_ne (Or.inl (w_ hw 96 rfl)) (Or.inl (w_ hw 110 rfl)) (by decide) (t := .int) (t' := (.array .int)) (by decide) (by decide)))).other W2 (Or.inr (slot_ne (Or.inl (w_ hw 96 rfl)) (Or.inl (w_ hw 112 rfl)) (by decide) (t := .int) (t' := (.array .int)) (by decide) (by decide)))).other W6 (Or.inr (slot_ne (Or.inl (w_ hw 96 rfl)) (Or.inl (w_ hw 76 rfl)) (by decide) (t := .int) (t' := .int) (by decide) (by decide))))
  have qz18 := ((Fw1.other W2 (Or.inr (slot_ne (Or.inl (w_ hw 110 rfl)) (Or.inl (w_ hw 112 rfl)) (by decide) (t := (.array .int)) (t' := (.array .int)) (by decide) (by decide)))).other W6 (Or.inr (slot_ne (Or.inl (w_ hw 110 rfl)) (Or.inl (w_ hw 76 rfl)) (by decide) (t := (.array .int)) (t' := .int) (by decide) (by decide))))
  have qz19 := (Fw2.other W6 (Or.inr (slot_ne (Or.inl (w_ hw 112 rfl)) (Or.inl (w_ hw 76 rfl)) (by decide) (t := (.array .int)) (t' := .int) (by decide) (by decide))))
  have qz20 := (((F_relinked.other W1 (Or.inr (slot_ne (Or.inl (w_ hw 176 rfl)) (Or.inl (w_ hw 110 rfl)) (by decide) (t := .int) (t' := (.array .int)) (by decide) (by decide)))).other W2 (Or.inr (slot_ne (Or.inl (w_ hw 176 rfl)) (Or.inl (w_ hw 112 rfl)) (by decide) (t := .int) (t' := (.array .int)) (by decide) (by decide)))).other W6 (Or.inr (slot_ne (Or.inl (w_ hw 176 rfl)) (Or.inl (w_ hw 76 rfl)) (by decide) (t := .int) (t' := .int) (by decide) (by decide))))
  exact own_outV X6 hx hlk hret (hb hby d13_16) (Q := Q13 Z o0 rb kc fa na ha LL mm v1 v2 rl h0 n0) (by rw [e6]; exact ⟨rfl, (Fr.snoc X6 (Fr.snoc X2 (Fr.snoc X1 N0 g_o0) g_o0) g_o0), qz10, qz11, qz12, qz13, qz14, qz15, qz16, Fw6, qz17, qz18, qz19, qz20⟩) (by decide) (by decide)
theorem d27_0 : decode prog_57_method_12_code 0 = .ok (.aload_n 0, 1) := by decide +kernel
theorem d27_1 : decode prog_57_method_12_code 1 = .ok (.iconst 2, 1) := by decide +kernel
theorem d27_2 : decode prog_57_method_12_code 2 = .ok (.aload_n 0, 1) := by decide +kernel
theorem d27_3 : decode prog_57_method_12_code 3 = .ok (.getfield 9, 3) := by decide +kernel
theorem d27_6 : decode prog_57_method_12_code 6 = .ok (.arraylength, 1) := by decide +kernel
theorem d27_7 : decode prog_57_method_12_code 7 = .ok (.imul, 1) := by decide +kernel
theorem d27_8 : decode prog_57_method_12_code 8 = .ok (.newarray .int, 2) := by decide +kernel
theorem d27_10 : decode prog_57_method_12_code 10 = .ok (.putfield 80, 3) := by decide +kernel
theorem d27_13 : decode prog_57_method_12_code 13 = .ok (.aload_n 0, 1) := by decide +kernel
theorem d27_14 : decode prog_57_method_12_code 14 = .ok (.getfield 80, 3) := by decide +kernel
theorem d27_17 : decode prog_57_method_12_code 17 = .ok (.iconst (-1), 1) := by decide +kernel
theorem d27_18 : decode prog_57_method_12_code 18 = .ok (.invokestatic 47, 3) := by decide +kernel
theorem d27_21 : decode prog_57_method_12_code 21 = .ok (.aload_n 0, 1) := by decide +kernel
theorem d27_22 : decode prog_57_method_12_code 22 = .ok (.aload_n 0, 1) := by decide +kernel
theorem d27_23 : decode prog_57_method_12_code 23 = .ok (.getfield 13, 3) := by decide +kernel
theorem d27_26 : decode prog_57_method_12_code 26 = .ok (.arraylength, 1) := by decide +kernel
theorem d27_27 : decode prog_57_method_12_code 27 = .ok (.newarray .int, 2) := by decide +kernel
theorem d27_29 : decode prog_57_method_12_code 29 = .ok (.putfield 89, 3) := by decide +kernel
theorem d27_32 : decode prog_57_method_12_code 32 = .ok (.aload_n 0, 1) := by decide +kernel
theorem d27_33 : decode prog_57_method_12_code 33 = .ok (.iconst 0, 1) := by decide +kernel
theorem d27_34 : decode prog_57_method_12_code 34 = .ok (.putfield 144, 3) := by decide +kernel
theorem d27_37 : decode prog_57_method_12_code 37 = .ok (.return_, 1) := by decide +kernel
theorem ef_27 (m : MethodId) (x0 : Addr) : entryFrame m #[(.ref x0)] 1 = mkF m 0 #[.val (.ref x0)] [] := by first | (simp [entryFrame, mkF, argsToLocals, Value.category]; done) | rfl
def Q27 (Z : State) (o0 rb kc fa na ha : Addr) (LL mm rl : Int32) (kf kn : ClassId) (vf : List Value) (vs : List Value) (h0 : Heap) (n0 : Nat) (v : Option Value) (h : Heap) (L : List Loc) : Prop := ∃ (lf ln : Addr) (kl km : ClassId), v = none ∧ Fr n0 L ∧ Keep h0 h [o0] ∧ Exa Z h o0 "com/example/headway/headway/engine/HashIndex" ∧ Fld Z h o0 "com/example/headway/headway/engine/HashIndex" "rows" "Lcom/example/headway/headway/engine/RowBuffer;" (.ref rb) ∧ Fld Z h o0 "com/example/headway/headway/engine/HashIndex" "keyColumns" "[I" (.ref kc) ∧ Fld Z h o0 "com/example/headway/headway/engine/HashIndex" "firstInBucket" "[I" (.ref fa) ∧ Fld Z h o0 "com/example/headway/headway/engine/HashIndex" "nextInBucket" "[I" (.ref na) ∧ Fld Z h o0 "com/example/headway/headway/engine/HashIndex" "hashes" "[I" (.ref ha) ∧ Fld Z h o0 "com/example/headway/headway/engine/HashIndex" "loadLimit" "I" (.int LL) ∧ Fld Z h o0 "com/example/headway/headway/engine/HashIndex" "indexed" "I" (.int mm) ∧ Fld Z h o0 "com/example/headway/headway/engine/HashIndex" "largerFirstInBucket" "[I" (.ref lf) ∧ Fld Z h o0 "com/example/headway/headway/engine/HashIndex" "largerNextInBucket" "[I" (.ref ln) ∧ Fld Z h o0 "com/example/headway/headway/engine/HashIndex" "relinked" "I" (.int 0) ∧ Arv Z h lf kl .int 32 (fl (0 : Int32) 31) (.int 0) ∧ Arv Z h ln km .int 16 [(.int 0), (.int 0), (.int 0), (.int 0), (.int 0), (.int 0), (.int 0), (.int 0), (.int 0), (.int 0), (.int 0), (.int 0), (.int 0), (.int 0), (.int 0), (.int 0)] (.int 0) ∧ n0 ≤ lf ∧ h0.size ≤ lf ∧ n0 ≤ ln ∧ h0.size ≤ ln ∧ lf ≠ ln
set_option maxRecDepth 65536 in
set_option maxHeartbeats 40000000 in
theorem rm27 (l : Launch) (Z : State) (a0 : Array Value) (hw : ∀ d ∈ tables_1, d.before a0 Z = true) (ws : List Jvm.Cond) (o0 rb kc fa na ha : Addr) (LL mm rl : Int32) (kf kn : ClassId) (vf : List Value) (vs : List Value) (h0 : Heap) (n0 : Nat) (Z0 : n0 ≤ h0.size) (E : Exa Z h0 o0 "com/example/headway/headway/engine/HashIndex") (F_rows : Fld Z h0 o0 "com/example/headway/headway/engine/HashIndex" "rows" "Lcom/example/headway/headway/engine/RowBuffer;" (.ref rb)) (F_keyColumns : Fld Z h0 o0 "com/example/headway/headway/engine/HashIndex" "keyColumns" "[I" (.ref kc)) (F_firstInBucket : Fld Z h0 o0 "com/example/headway/headway/engine/HashIndex" "firstInBucket" "[I" (.ref fa)) (F_nextInBucket : Fld Z h0 o0 "com/example/headway/headway/engine/HashIndex" "nextInBucket" "[I" (.ref na)) (F_hashes : Fld Z h0 o0 "com/example/headway/headway/engine/HashIndex" "hashes" "[I" (.ref ha)) (F_loadLimit : Fld Z h0 o0 "com/example/headway/headway/engine/HashIndex" "loadLimit" "I" (.int LL)) (F_indexed : Fld Z h0 o0 "com/example/headway/headway/engine/HashIndex" "indexed" "I" (.int mm)) (F_largerFirstInBucket : Fld Z h0 o0 "com/example/headway/headway/engine/HashIndex" "largerFirstInBucket" "[I" .null) (F_largerNextInBucket : Fld Z h0 o0 "com/example/headway/headway/engine/HashIndex" "largerNextInBucket" "[I" .null) (F_relinked : Fld Z h0 o0 "com/example/headway/headway/engine/HashIndex" "relinked" "I" (.int rl)) (g_o0 : n0 ≤ o0) (Vf : Arv Z h0 fa kf .int 16 vf (.int 0)) (Vn : Arv Z h0 na kn .int 16 vs (.int 0)) (nf0 : fa ≠ o0) (nn0 : na ≠ o0) :
    MetFree l mn_25 (head1 (Jvm.Cond.code mn_25 prog_57_method_12_code 1 none :: ws) (⟨1, 2, 48, 15⟩ : Room)) (fun a U => a = #[(.ref o0)] ∧ Z.Warmed39 U.vm ∧ U.heap = h0) (fun _ _ _ _ _ => True) (fun _ U o U' => ∃ v L, o = .returned v ∧ Q27 Z o0 rb kc fa na ha LL mm rl kf kn vf vs h0 n0 v U'.heap L ∧ FrameEnd U o U' L (⟨1, 2, 48, 15⟩ : Room).cells (⟨1, 2, 48, 15⟩ : Room).slots) := by
  refine MetFree.of_bodySF (plainFor_of_name pn_5) hisR ?_
  intro p e s m args below meth c s₁ Bd hml0 hP hK
  obtain ⟨rfl, hZ, hh⟩ := hP
  have hx := Bd.exec
  have hby := Bd.bytes
  have hml : c.maxLocals = 1 := hml0
  have hown : s.vm.findClass "com/example/headway/headway/engine/HashIndex" = some m.cls := findClass_of_methodNamed Bd.named
  have hnm := (name_of_methodNamed Bd.named Bd.method).1
  have X0 : Stand p l e (⟨1, 2, 48, 15⟩ : Room) s m #[(.ref o0)] below meth c s₁ [] 0 0 := Stand.of_body Bd
  have e0 : s₁.heap = h0 := by rw [← hh, Bd.state]; rfl
  have N0 := Fr.nil n0
  have hret := Bd.returns
  have hlk := BodyLoose.notSynchronized Bd
  show own_Out p e below (fun o U' => ∃ v L, o = .returned v ∧ Q27 Z o0 rb kc fa na ha LL mm rl kf kn vf vs h0 n0 v U'.heap L ∧ FrameEnd s o U' L (⟨1, 2, 48, 15⟩ : Room).cells (⟨1, 2, 48, 15⟩ : Room).slots) (s₁.setTop (entryFrame m #[(.ref o0)] 1))
  refine own_of (fun t k => castTop (ef_27 m o0) k) ?_
  show own_Out p e below _ (s₁.setTop (mkF m 0 #[rv o0] []))
  refine o_aloadN X0 hx hby d27_0 rfl rfl (q := 1) rfl ?_
  refine o_iconst X0 hx hby d27_1 (z := 2) rfl (q := 2) rfl ?_
  refine o_aloadN X0 hx hby d27_2 rfl rfl (q := 3) rfl ?_
  refine o_getF X0 hx hZ hown hby (w_ hw 68 rfl) Via.refl e0 F_firstInBucket d27_3 (q := 6) rfl fun T1 X1 e1 => ?_
  refine o_lenV X1 hx hby hZ e1 Vf d27_6 (q := 7) rfl ?_
  refine o_imul X1 hx hby d27_7 (z := 32) rfl (q := 8) rfl ?_
  obtain ⟨T2, h2, k2, X2, e2, E2, A2, st2⟩ := newP X1 hx hZ (w_ hw 0 rfl) e1 (g := (mkF m 8 #[rv o0] [.int 32, .ref o0])) rfl (hb hby d27_8) rfl (by decide) (cap := 32) (by decide) (by decide) (by decide) (by decide)
  obtain ⟨b2, g2⟩ : ∃ z, z = h0.size := ⟨_, rfl⟩
  rw [← g2] at A2 st2
  have g_b2 : n0 ≤ b2 := Nat.le_trans Z0 (Nat.le_of_eq g2.symm)
  have sz_b2 : h0.size ≤ b2 := Nat.le_trans (Nat.le_refl h0.size) (Nat.le_of_eq g2.symm)
  have V_b2 : Arv Z h2 b2 k2 .int 32 [(.int 0), (.int 0), (.int 0), (.int 0), (.int 0), (.int 0), (.int 0), (.int 0), (.int 0), (.int 0), (.int 0), (.int 0), (.int 0), (.int 0), (.int 0), (.int 0), (.int 0), (.int 0), (.int 0), (.int 0), (.int 0), (.int 0), (.int 0), (.int 0), (.int 0), (.int 0), (.int 0), (.int 0), (.int 0), (.int 0), (.int 0), (.int 0)] (.int 0) := (Arv.new A2 (by decide)).pad (pad_rep [] (.int 0) 32)
  refine own_of st2 ?_
  show own_Out p e below _ (T2.setTop (mkF m 10 #[rv o0] [.ref b2, .ref o0]))
  have qz4 := (F_largerFirstInBucket.ext E2)
  have qz5 := (E.ext E2)
  obtain ⟨T3, h3, X3, e3, W3, st3⟩ := putF X2 hx hZ hown (host := "") (Or.inl (w_ hw 109 rfl)) Via.refl e2 qz4 qz5 (Or.inl (w_ hw 110 rfl)) (w_ hw 62 rfl) (ty := (.array .int)) (by decide) rfl rfl (g := (mkF m 10 #[rv o0] [.ref b2, .ref o0])) rfl rfl (hb hby d27_10)
  have qz6 := (F_largerFirstInBucket.ext E2)
  have Fw3 := qz6.same W3
  refine own_of st3 ?_
  show own_Out p e below _ (T3.setTop (mkF m 13 #[rv o0] []))
  refine o_aloadN X3 hx hby d27_13 rfl rfl (q := 14) rfl ?_
  refine o_getF X3 hx hZ hown hby (w_ hw 109 rfl) Via.refl e3 Fw3 d27_14 (q := 17) rfl fun T7 X7 e7 => ?_
  refine o_iconst X7 hx hby d27_17 (z := (-1)) rfl (q := 18) rfl ?_
  have ne_o0_b2 : o0 ≠ b2 := Nat.ne_of_lt (Nat.lt_of_lt_of_le E.lt sz_b2)
  have qz9 := (V_b2.other W3 (Ne.symm ne_o0_b2))
  have qz10 := (Nat.le_trans (Nat.le_trans Z0 E2.1) (Keep.of_wr W3).1)
  obtain ⟨_, _, ⟨T8, L8, k8, n8⟩, -, X8, ⟨Lc8, hQ8, l8, y8, z8⟩, st8⟩ := Jvm.LawKit.callS X7 hx (y := mn_7) hown (mvT hZ (w_ hw 82 rfl)) (mvT hZ (w_ hw 83 rfl)) (mvT hZ (w_ hw 84 rfl)) (mvT hZ (w_ hw 85 rfl)) (by decide) (backOf (W := 0) (rm9n32 l Z a0 hw [] b2 k2 h3 n0 qz10 qz9 g_b2) hZ (w_ hw 85 rfl) (w_ hw 84 rfl) (by decide) (by decide)) (g := (mkF m 18 #[rv o0] [.int (-1), .ref b2])) rfl (by rw [hml]; rfl) (argsL := [(.ref b2), (.int (-1 : Int32))]) (rest := []) (lenOf pd_3 rfl) rfl (by show 2 * 0 + _ ≤ _; exact Nat.le_of_eq rfl) (hb hby d27_18) (fun _ _ => ⟨rfl, e7, (by decide : 1 + 0 ≤ _), (by decide : 32 + 0 ≤ _)⟩)
  dsimp only [Pt.U, Pt.locs, Pt.cells, Pt.slots] at X8 l8 y8 z8 st8 hQ8
  subst l8 y8 z8
  obtain ⟨rfl, N8q, K8, V8⟩ := hQ8
  have N8 := Fr.app (Fr.snoc X3 N0 g_o0) N8q
  refine own_of st8 ?_
  show own_Out p e below _ (T8.setTop (mkF m 21 #[rv o0] []))
  refine o_aloadN X8 hx hby d27_21 rfl rfl (q := 22) rfl ?_
  refine o_aloadN X8 hx hby d27_22 rfl rfl (q := 23) rfl ?_
  have qz12 := (((F_nextInBucket.ext E2).other W3 (Or.inr (slot_ne (Or.inl (w_ hw 71 rfl)) (Or.inl (w_ hw 110 rfl)) (by decide) (t := (.array .int)) (t' := (.array .int)) (by decide) (by decide)))).keep K8 (ninS ne_o0_b2 nin0))
  refine o_getF X8 hx hZ hown hby (w_ hw 70 rfl) Via.refl rfl qz12 d27_23 (q := 26) rfl fun T11 X11 e11 => ?_
  have ne_na_b2 : na ≠ b2 := Nat.ne_of_lt (Nat.lt_of_lt_of_le Vn.lt sz_b2)
  have qz13 := (((Vn.ext E2).other W3 nn0).keep K8 (ninS ne_na_b2 nin0))
  refine o_lenV X11 hx hby hZ e11 qz13 d27_26 (q := 27) rfl ?_
  obtain ⟨T14, h14, k14, X14, e14, E14, A14, st14⟩ := newP X11 hx hZ (w_ hw 0 rfl) e11 (g := (mkF m 27 #[rv o0] [.int 16, .ref o0])) rfl (hb hby d27_27) rfl (by decide) (cap := 16) (by decide) (by decide) (by decide) (by decide)
  obtain ⟨b14, g14⟩ : ∃ z, z = T8.heap.size := ⟨_, rfl⟩
  rw [← g14] at A14 st14
  have qz15 := (Nat.le_trans qz10 K8.1)
  have g_b14 : n0 ≤ b14 := Nat.le_trans qz15 (Nat.le_of_eq g14.symm)
  have qz16 := (Nat.le_trans (Nat.le_trans (Nat.le_trans (Nat.le_refl h0.size) E2.1) (Keep.of_wr W3).1) K8.1)
  have sz_b14 : h0.size ≤ b14 := Nat.le_trans qz16 (Nat.le_of_eq g14.symm)
  have V_b14 : Arv Z h14 b14 k14 .int 16 [(.int 0), (.int 0), (.int 0), (.int 0), (.int 0), (.int 0), (.int 0), (.int 0), (.int 0), (.int 0), (.int 0), (.int 0), (.int 0), (.int 0), (.int 0), (.int 0)] (.int 0) := (Arv.new A14 (by decide)).pad (pad_rep [] (.int 0) 16)
  refine own_of st14 ?_
  show own_Out p e below _ (T14.setTop (mkF m 29 #[rv o0] [.ref b14, .ref o0]))
  have qz18 := ((((F_largerNextInBucket.ext E2).other W3 (Or.inr (slot_ne (Or.inl (w_ hw 112 rfl)) (Or.inl (w_ hw 110 rfl)) (by decide) (t := (.array .int)) (t' := (.array .int)) (by decide) (by decide)))).keep K8 (ninS ne_o0_b2 nin0)).ext E14)
  have qz19 := (((qz5.wr W3).keep K8).ext E14)
  obtain ⟨T17, h17, X17, e17, W17, st17⟩ := putF X14 hx hZ hown (host := "") (Or.inl (w_ hw 111 rfl)) Via.refl e14 qz18 qz19 (Or.inl (w_ hw 112 rfl)) (w_ hw 62 rfl) (ty := (.array .int)) (by decide) rfl rfl (g := (mkF m 29 #[rv o0] [.ref b14, .ref o0])) rfl rfl (hb hby d27_29)
  have qz20 := ((((F_largerNextInBucket.ext E2).other W3 (Or.inr (slot_ne (Or.inl (w_ hw 112 rfl)) (Or.inl (w_ hw 110 rfl)) (by decide) (t := (.array .int)) (t' := (.array .int)) (by decide) (by decide)))).keep K8 (ninS ne_o0_b2 nin0)).ext E14)
  have Fw17 := qz20.same W17
  refine own_of st17 ?_
  show own_Out p e below _ (T17.setTop (mkF m 32 #[rv o0] []))
  refine o_aloadN X17 hx hby d27_32 rfl rfl (q := 33) rfl ?_
  refine o_iconst X17 hx hby d27_33 (z := 0) rfl (q := 34) rfl ?_
  have qz22 := (((((F_relinked.ext E2).other W3 (Or.inr (slot_ne (Or.inl (w_ hw 176 rfl)) (Or.inl (w_ hw 110 rfl)) (by decide) (t := .int) (t' := (.array .int)) (by decide) (by decide)))).keep K8 (ninS ne_o0_b2 nin0)).ext E14).other W17 (Or.inr (slot_ne (Or.inl (w_ hw 176 rfl)) (Or.inl (w_ hw 112 rfl)) (by decide) (t := .int) (t' := (.array .int)) (by decide) (by decide))))
  have qz23 := (qz19.wr W17)
  obtain ⟨T21, h21, X21, e21, W21, st21⟩ := putF X17 hx hZ hown (host := "") (Or.inl (w_ hw 175 rfl)) Via.refl e17 qz22 qz23 (Or.inl (w_ hw 176 rfl)) (w_ hw 62 rfl) (ty := .int) (by decide) rfl rfl (g := (mkF m 34 #[rv o0] [.int 0, .ref o0])) rfl rfl (hb hby d27_34)
  have qz24 := (((((F_relinked.ext E2).other W3 (Or.inr (slot_ne (Or.inl (w_ hw 176 rfl)) (Or.inl (w_ hw 110 rfl)) (by decide) (t := .int) (t' := (.array .int)) (by decide) (by decide)))).keep K8 (ninS ne_o0_b2 nin0)).ext E14).other W17 (Or.inr (slot_ne (Or.inl (w_ hw 176 rfl)) (Or.inl (w_ hw 112 rfl)) (by decide) (t := .int) (t' := (.array .int)) (by decide) (by decide))))
  have Fw21 := qz24.same W21
  refine own_of st21 ?_
  show own_Out p e below _ (T21.setTop (mkF m 37 #[rv o0] []))
  have ne_b2_b14 : b2 ≠ b14 := Nat.ne_of_lt (Nat.lt_of_lt_of_le (Nat.lt_of_lt_of_le (Nat.lt_of_lt_of_le A2.lt (Keep.of_wr W3).1) K8.1) (Nat.le_of_eq g14.symm))
  have qz25 := (((((((Keep.refl h0 [o0]).ext E2).wr W3 (Or.inl (List.mem_of_getElem? (i := 0) rfl))).trans K8 (allS (Or.inr sz_b2) all0)).ext E14).wr W17 (Or.inl (List.mem_of_getElem? (i := 0) rfl))).wr W21 (Or.inl (List.mem_of_getElem? (i := 0) rfl)))
  have qz26 := (qz23.wr W21)
  have qz27 := ((((((F_rows.ext E2).other W3 (Or.inr (slot_ne (Or.inr (w_ hw 78 rfl)) (Or.inl (w_ hw 110 rfl)) (by decide) (t := (.object "com/example/headway/headway/engine/RowBuffer")) (t' := (.array .int)) (by decide) (by decide)))).keep K8 (ninS ne_o0_b2 nin0)).ext E14).other W17 (Or.inr (slot_ne (Or.inr (w_ hw 78 rfl)) (Or.inl (w_ hw 112 rfl)) (by decide) (t := (.object "com/example/headway/headway/engine/RowBuffer")) (t' := (.array .int)) (by decide) (by decide)))).other W21 (Or.inr (slot_ne (Or.inr (w_ hw 78 rfl)) (Or.inl (w_ hw 176 rfl)) (by decide) (t := (.object "com/example/headway/headway/engine/RowBuffer")) (t' := .int) (by decide) (by decide))))
  have qz28 := ((((((F_keyColumns.ext E2).other W3 (Or.inr (slot_ne (Or.inr (w_ hw 81 rfl)) (Or.inl (w_ hw 110 rfl)) (by decide) (t := (.array .int)) (t' := (.array .int)) (by decide) (by decide)))).keep K8 (ninS ne_o0_b2 nin0)).ext E14).other W17 (Or.inr (slot_ne (Or.inr (w_ hw 81 rfl)) (Or.inl (w_ hw 112 rfl)) (by decide) (t := (.array .int)) (t' := (.array .int)) (by decide) (by decide)))).other W21 (Or.inr (slot_ne (Or.inr (w_ hw 81 rfl)) (Or.inl (w_ hw 176 rfl)) (by decide) (t := (.array .int)) (t' := .int) (by decide) (by decide))))
  have qz29 := ((((((F_firstInBucket.ext E2).other W3 (Or.inr (slot_ne (Or.inl (w_ hw 69 rfl)) (Or.inl (w_ hw 110 rfl)) (by decide) (t := (.array .int)) (t' := (.array .int)) (by decide) (by decide)))).keep K8 (ninS ne_o0_b2 nin0)).ext E14).other W17 (Or.inr (slot_ne (Or.inl (w_ hw 69 rfl)) (Or.inl (w_ hw 112 rfl)) (by decide) (t := (.array .int)) (t' := (.array .int)) (by decide) (by decide)))).other W21 (Or.inr (slot_ne (Or.inl (w_ hw 69 rfl)) (Or.inl (w_ hw 176 rfl)) (by decide) (t := (.array .int)) (t' := .int) (by decide) (by decide))))
  have qz30 := (((qz12.ext E14).other W17 (Or.inr (slot_ne (Or.inl (w_ hw 71 rfl)) (Or.inl (w_ hw 112 rfl)) (by decide) (t := (.array .int)) (t' := (.array .int)) (by decide) (by decide)))).other W21 (Or.inr (slot_ne (Or.inl (w_ hw 71 rfl)) (Or.inl (w_ hw 176 rfl)) (by decide) (t := (.array .int)) (t' := .int) (by decide) (by decide))))
  have qz31 := ((((((F_hashes.ext E2).other W3 (Or.inr (slot_ne (Or.inl (w_ hw 73 rfl)) (Or.inl (w_ hw 110 rfl)) (by decide) (t := (.array .int)) (t' := (.array .int)) (by decide) (by decide)))).keep K8 (ninS ne_o0_b2 nin0)).ext E14).other W17 (Or.inr (slot_ne (Or.inl (w_ hw 73 rfl)) (Or.inl (w_ hw 112 rfl)) (by decide) (t := (.array .int)) (t' := (.array .int)) (by decide) (by decide)))).other W21 (Or.inr (slot_ne (Or.inl (w_ hw 73 rfl)) (Or.inl (w_ hw 176 rfl)) (by decide) (t := (.array .int)) (t' := .int) (by decide) (by decide))))
  have qz32 := ((((((F_loadLimit.ext E2).other W3 (Or.inr (slot_ne (Or.inl (w_ hw 76 rfl)) (Or.inl (w_ hw 110 rfl)) (by decide) (t := .int) (t' := (.array .int)) (by decide) (by decide)))).keep K8 (ninS ne_o0_b2 nin0)).ext E14).other W17 (Or.inr (slot_ne (Or.inl (w_ hw 76 rfl)) (Or.inl (w_ hw 112 rfl)) (by decide) (t := .int) (t' := (.array .int)) (by decide) (by decide)))).other W21 (Or.inr (slot_ne (Or.inl (w_ hw 76 rfl)) (Or.inl (w_ hw 176 rfl)) (by decide) (t := .int) (t' := .int) (by decide) (by decide))))
  have qz33 := ((((((F_indexed.ext E2).other W3 (Or.inr (slot_ne (Or.inl (w_ hw 96 rfl)) (Or.inl (w_ hw 110 rfl)) (by decide) (t := .int) (t' := (.array .int)) (by decide) (by decide)))).keep K8 (ninS ne_o0_b2 nin0)).ext E14).other W17 (Or.inr (slot_ne (Or.inl (w_ hw 96 rfl)) (Or.inl (w_ hw 112 rfl)) (by decide) (t := .int) (t' := (.array .int)) (by decide) (by decide)))).other W21 (Or.inr (slot_ne (Or.inl (w_ hw 96 rfl)) (Or.inl (w_ hw 176 rfl)) (by decide) (t := .int) (t' := .int) (by decide) (by decide))))
  have qz34 := ((((Fw3.keep K8 (ninS ne_o0_b2 nin0)).ext E14).other W17 (Or.inr (slot_ne (Or.inl (w_ hw 110 rfl)) (Or.inl (w_ hw 112 rfl)) (by decide) (t := (.array .int)) (t' := (.array .int)) (by decide) (by decide)))).other W21 (Or.inr (slot_ne (Or.inl (w_ hw 110 rfl)) (Or.inl (w_ hw 176 rfl)) (by decide) (t := (.array .int)) (t' := .int) (by decide) (by decide))))
  have qz35 := (Fw17.other W21 (Or.inr (slot_ne (Or.inl (w_ hw 112 rfl)) (Or.inl (w_ hw 176 rfl)) (by decide) (t := (.array .int)) (t' := .int) (by decide) (by decide))))
  have qz36 := (((V8.ext E14).other W17 (Ne.symm ne_o0_b2)).other W21 (Ne.symm ne_o0_b2))
  have ne_o0_b14 : o0 ≠ b14 := Nat.ne_of_lt (Nat.lt_of_lt_of_le E.lt sz_b14)
  have qz37 := ((V_b14.other W17 (Ne.symm ne_o0_b14)).other W21 (Ne.symm ne_o0_b14))
  exact own_outV X21 hx hlk hret (hb hby d27_37) (Q := Q27 Z o0 rb kc fa na ha LL mm rl kf kn vf vs h0 n0) (by rw [e21]; exact ⟨b2, b14, k2, k14, rfl, (Fr.snoc X21 (Fr.snoc X17 N8 g_o0) g_o0), qz25, qz26, qz27, qz28, qz29, qz30, qz31, qz32, qz33, qz34, qz35, Fw21, qz36, qz37, g_b2, sz_b2, g_b14, sz_b14, ne_b2_b14⟩) (by decide) (by decide)
theorem d29_0 : decode jdk_29_method_69_code 0 = .ok (.iload_n 0, 1) := by decide +kernel
theorem d29_1 : decode jdk_29_method_69_code 1 = .ok (.iload_n 1, 1) := by decide +kernel
theorem d29_2 : decode jdk_29_method_69_code 2 = .ok (.if_icmp .gt 7, 3) := by decide +kernel
theorem d29_9 : decode jdk_29_method_69_code 9 = .ok (.iload_n 1, 1) := by decide +kernel
theorem d29_10 : decode jdk_29_method_69_code 10 = .ok (.ireturn, 1) := by decide +kernel
theorem ef_29a14b8 (m : MethodId)  : entryFrame m #[(.int 14), (.int 8)] 2 = mkF m 0 #[.val (.int 14), .val (.int 8)] [] := by first | (simp [entryFrame, mkF, argsToLocals, Value.category]; done) | rfl
def Q29a14b8 (Z : State)  (h0 : Heap) (n0 : Nat) (v : Option Value) (h : Heap) (L : List Loc) : Prop := v = some (.int 8) ∧ Fr n0 L ∧ h = h0
set_option maxRecDepth 65536 in
set_option maxHeartbeats 40000000 in
theorem rm29a14b8 (l : Launch) (Z : State) (a0 : Array Value) (hw : ∀ d ∈ tables_1, d.before a0 Z = true) (ws : List Jvm.Cond)  (h0 : Heap) (n0 : Nat) (Z0 : n0 ≤ h0.size) :
    MetFree l mn_26 (head1 (Jvm.Cond.code mn_26 jdk_29_method_69_code 2 (some .int) :: ws) (⟨0, 0, 0, 0⟩ : Room)) (fun a U => a = #[(.int 14), (.int 8)] ∧ Z.Warmed39 U.vm ∧ U.heap = h0) (fun _ _ _ _ _ => True) (fun _ U o U' => ∃ v L, o = .returned v ∧ Q29a14b8 Z  h0 n0 v U'.heap L ∧ FrameEnd U o U' L (⟨0, 0, 0, 0⟩ : Room).cells (⟨0, 0, 0, 0⟩ : Room).slots) := by
  refine MetFree.of_bodySF (Jvm.Free.JP.mathPlain rfl (by decide +kernel)) hisR ?_
  intro p e s m args below meth c s₁ Bd hml0 hP hK
  obtain ⟨rfl, hZ, hh⟩ := hP
  have hx := Bd.exec
  have hby := Bd.bytes
  have hml : c.maxLocals = 2 := hml0
  have hown : s.vm.findClass "java/lang/Math" = some m.cls := findClass_of_methodNamed Bd.named
  have hnm := (name_of_methodNamed Bd.named Bd.method).1
  have X0 : Stand p l e (⟨0, 0, 0, 0⟩ : Room) s m #[(.int 14), (.int 8)] below meth c s₁ [] 0 0 := Stand.of_body Bd
  have e0 : s₁.heap = h0 := by rw [← hh, Bd.state]; rfl
  have N0 := Fr.nil n0
  have hret := Bd.returns
  have hlk := BodyLoose.notSynchronized Bd
  show own_Out p e below (fun o U' => ∃ v L, o = .returned v ∧ Q29a14b8 Z  h0 n0 v U'.heap L ∧ FrameEnd s o U' L (⟨0, 0, 0, 0⟩ : Room).cells (⟨0, 0, 0, 0⟩ : Room).slots) (s₁.setTop (entryFrame m #[(.int 14), (.int 8)] 2))
  refine own_of (fun t k => castTop (ef_29a14b8 m ) k) ?_
  show own_Out p e below _ (s₁.setTop (mkF m 0 #[iv 14, iv 8] []))
  refine o_iloadN X0 hx hby d29_0 rfl (q := 1) rfl ?_
  refine o_iloadN X0 hx hby d29_1 rfl (q := 2) rfl ?_
  refine o_icY X0 hx hby d29_2 (tlt (by decide : (8 : Int32) < (14 : Int32))).2.2.1 (by decide) (q := 9) (by decide) ?_
  refine o_iloadN X0 hx hby d29_9 rfl (q := 10) rfl ?_
  exact own_outI X0 hx hlk hret (hb hby d29_10) (Q := Q29a14b8 Z  h0 n0) ⟨rfl, N0, e0⟩ (by decide) (by decide)
theorem d29_5 : decode jdk_29_method_69_code 5 = .ok (.iload_n 0, 1) := by decide +kernel
theorem d29_6 : decode jdk_29_method_69_code 6 = .ok (.goto 4, 3) := by decide +kernel
theorem ef_29a15b16 (m : MethodId)  : entryFrame m #[(.int 15), (.int 16)] 2 = mkF m 0 #[.val (.int 15), .val (.int 16)] [] := by first | (simp [entryFrame, mkF, argsToLocals, Value.category]; done) | rfl
def Q29a15b16 (Z : State)  (h0 : Heap) (n0 : Nat) (v : Option Value) (h : Heap) (L : List Loc) : Prop := v = some (.int 15) ∧ Fr n0 L ∧ h = h0
set_option maxRecDepth 65536 in
set_option maxHeartbeats 40000000 in
theorem rm29a15b16 (l : Launch) (Z : State) (a0 : Array Value) (hw : ∀ d ∈ tables_1, d.before a0 Z = true) (ws : List Jvm.Cond)  (h0 : Heap) (n0 : Nat) (Z0 : n0 ≤ h0.size) :
    MetFree l mn_26 (head1 (Jvm.Cond.code mn_26 jdk_29_method_69_code 2 (some .int) :: ws) (⟨0, 0, 0, 0⟩ : Room)) (fun a U => a = #[(.int 15), (.int 16)] ∧ Z.Warmed39 U.vm ∧ U.heap = h0) (fun _ _ _ _ _ => True) (fun _ U o U' => ∃ v L, o = .returned v ∧ Q29a15b16 Z  h0 n0 v U'.heap L ∧ FrameEnd U o U' L (⟨0, 0, 0, 0⟩ : Room).cells (⟨0, 0, 0, 0⟩ : Room).slots) := by
  refine MetFree.of_bodySF (Jvm.Free.JP.mathPlain rfl (by decide +kernel)) hisR ?_
  intro p e s m args below meth c s₁ Bd hml0 hP hK
  obtain ⟨rfl, hZ, hh⟩ := hP
  have hx := Bd.exec
  have hby := Bd.bytes
  have hml : c.maxLocals = 2 := hml0
  have hown : s.vm.findClass "java/lang/Math" = some m.cls := findClass_of_methodNamed Bd.named
  have hnm := (name_of_methodNamed Bd.named Bd.method).1
  have X0 : Stand p l e (⟨0, 0, 0, 0⟩ : Room) s m #[(.int 15), (.int 16)] below meth c s₁ [] 0 0 := Stand.of_body Bd
  have e0 : s₁.heap = h0 := by rw [← hh, Bd.state]; rfl
  have N0 := Fr.nil n0
  have hret := Bd.returns
  have hlk := BodyLoose.notSynchronized Bd
  show own_Out p e below (fun o U' => ∃ v L, o = .returned v ∧ Q29a15b16 Z  h0 n0 v U'.heap L ∧ FrameEnd s o U' L (⟨0, 0, 0, 0⟩ : Room).cells (⟨0, 0, 0, 0⟩ : Room).slots) (s₁.setTop (entryFrame m #[(.int 15), (.int 16)] 2))
  refine own_of (fun t k => castTop (ef_29a15b16 m ) k) ?_
  show own_Out p e below _ (s₁.setTop (mkF m 0 #[iv 15, iv 16] []))
  refine o_iloadN X0 hx hby d29_0 rfl (q := 1) rfl ?_
  refine o_iloadN X0 hx hby d29_1 rfl (q := 2) rfl ?_
  refine o_icN X0 hx hby d29_2 (flt (by decide : ¬ ((16 : Int32) < (15 : Int32)))).2.2.1 (q := 5) rfl ?_
  refine o_iloadN X0 hx hby d29_5 rfl (q := 6) rfl ?_
  refine o_goto X0 hx hby d29_6 (by decide) (q := 10) (by decide) ?_
  exact own_outI X0 hx hlk hret (hb hby d29_10) (Q := Q29a15b16 Z  h0 n0) ⟨rfl, N0, e0⟩ (by decide) (by decide)
theorem ef_29a16b32 (m : MethodId)  : entryFrame m #[(.int 16), (.int 32)] 2 = mkF m 0 #[.val (.int 16), .val (.int 32)] [] := by first | (simp [entryFrame, mkF, argsToLocals, Value.category]; done) | rfl
def Q29a16b32 (Z : State)  (h0 : Heap) (n0 : Nat) (v : Option Value) (h : Heap) (L : List Loc) : Prop := v = some (.int 16) ∧ Fr n0 L ∧ h = h0
set_option maxRecDepth 65536 in
set_option maxHeartbeats 40000000 in
theorem rm29a16b32 (l : Launch) (Z : State) (a0 : Array Value) (hw : ∀ d ∈ tables_1, d.before a0 Z = true) (ws : List Jvm.Cond)  (h0 : Heap) (n0 : Nat) (Z0 : n0 ≤ h0.size) :
    MetFree l mn_26 (head1 (Jvm.Cond.code mn_26 jdk_29_method_69_code 2 (some .int) :: ws) (⟨0, 0, 0, 0⟩ : Room)) (fun a U => a = #[(.int 16), (.int 32)] ∧ Z.Warmed39 U.vm ∧ U.heap = h0) (fun _ _ _ _ _ => True) (fun _ U o U' => ∃ v L, o = .returned v ∧ Q29a16b32 Z  h0 n0 v U'.heap L ∧ FrameEnd U o U' L (⟨0, 0, 0, 0⟩ : Room).cells (⟨0, 0, 0, 0⟩ : Room).slots) := by
  refine MetFree.of_bodySF (Jvm.Free.JP.mathPlain rfl (by decide +kernel)) hisR ?_
  intro p e s m args below meth c s₁ Bd hml0 hP hK
  obtain ⟨rfl, hZ, hh⟩ := hP
  have hx := Bd.exec
  have hby := Bd.bytes
  have hml : c.maxLocals = 2 := hml0
  have hown : s.vm.findClass "java/lang/Math" = some m.cls := findClass_of_methodNamed Bd.named
  have hnm := (name_of_methodNamed Bd.named Bd.method).1
  have X0 : Stand p l e (⟨0, 0, 0, 0⟩ : Room) s m #[(.int 16), (.int 32)] below meth c s₁ [] 0 0 := Stand.of_body Bd
  have e0 : s₁.heap = h0 := by rw [← hh, Bd.state]; rfl
  have N0 := Fr.nil n0
  have hret := Bd.returns
  have hlk := BodyLoose.notSynchronized Bd
  show own_Out p e below (fun o U' => ∃ v L, o = .returned v ∧ Q29a16b32 Z  h0 n0 v U'.heap L ∧ FrameEnd s o U' L (⟨0, 0, 0, 0⟩ : Room).cells (⟨0, 0, 0, 0⟩ : Room).slots) (s₁.setTop (entryFrame m #[(.int 16), (.int 32)] 2))
  refine own_of (fun t k => castTop (ef_29a16b32 m ) k) ?_
  show own_Out p e below _ (s₁.setTop (mkF m 0 #[iv 16, iv 32] []))
  refine o_iloadN X0 hx hby d29_0 rfl (q := 1) rfl ?_
  refine o_iloadN X0 hx hby d29_1 rfl (q := 2) rfl ?_
  refine o_icN X0 hx hby d29_2 (flt (by decide : ¬ ((32 : Int32) < (16 : Int32)))).2.2.1 (q := 5) rfl ?_
  refine o_iloadN X0 hx hby d29_5 rfl (q := 6) rfl ?_
  refine o_goto X0 hx hby d29_6 (by decide) (q := 10) (by decide) ?_
  exact own_outI X0 hx hlk hret (hb hby d29_10) (Q := Q29a16b32 Z  h0 n0) ⟨rfl, N0, e0⟩ (by decide) (by decide)
theorem pd_12 : parseMethodDescriptor "(II[I[I)V" = some ⟨[.int, .int, (.array .int), (.array .int)], none⟩ := by decide +kernel
theorem d28_0 : decode prog_57_method_13_code 0 = .ok (.aload_n 0, 1) := by decide +kernel
theorem d28_1 : decode prog_57_method_13_code 1 = .ok (.getfield 53, 3) := by decide +kernel
theorem d28_4 : decode prog_57_method_13_code 4 = .ok (.aload_n 0, 1) := by decide +kernel
theorem d28_5 : decode prog_57_method_13_code 5 = .ok (.getfield 144, 3) := by decide +kernel
theorem d28_8 : decode prog_57_method_13_code 8 = .ok (.bipush 8, 2) := by decide +kernel
theorem d28_10 : decode prog_57_method_13_code 10 = .ok (.iadd, 1) := by decide +kernel
theorem d28_11 : decode prog_57_method_13_code 11 = .ok (.invokestatic 147, 3) := by decide +kernel
theorem d28_14 : decode prog_57_method_13_code 14 = .ok (.istore_n 1, 1) := by decide +kernel
theorem d28_15 : decode prog_57_method_13_code 15 = .ok (.aload_n 0, 1) := by decide +kernel
theorem d28_16 : decode prog_57_method_13_code 16 = .ok (.getfield 144, 3) := by decide +kernel
theorem d28_19 : decode prog_57_method_13_code 19 = .ok (.istore_n 2, 1) := by decide +kernel
theorem d28_20 : decode prog_57_method_13_code 20 = .ok (.iload_n 2, 1) := by decide +kernel
theorem d28_21 : decode prog_57_method_13_code 21 = .ok (.iload_n 1, 1) := by decide +kernel
theorem d28_22 : decode prog_57_method_13_code 22 = .ok (.if_icmp .ge 27, 3) := by decide +kernel
theorem d28_25 : decode prog_57_method_13_code 25 = .ok (.iload_n 2, 1) := by decide +kernel
theorem d28_26 : decode prog_57_method_13_code 26 = .ok (.aload_n 0, 1) := by decide +kernel
theorem d28_27 : decode prog_57_method_13_code 27 = .ok (.getfield 16, 3) := by decide +kernel
theorem d28_30 : decode prog_57_method_13_code 30 = .ok (.iload_n 2, 1) := by decide +kernel
theorem d28_31 : decode prog_57_method_13_code 31 = .ok (.iaload, 1) := by decide +kernel
theorem d28_32 : decode prog_57_method_13_code 32 = .ok (.aload_n 0, 1) := by decide +kernel
theorem d28_33 : decode prog_57_method_13_code 33 = .ok (.getfield 80, 3) := by decide +kernel
theorem d28_36 : decode prog_57_method_13_code 36 = .ok (.aload_n 0, 1) := by decide +kernel
theorem d28_37 : decode prog_57_method_13_code 37 = .ok (.getfield 89, 3) := by decide +kernel
theorem d28_40 : decode prog_57_method_13_code 40 = .ok (.invokestatic 76, 3) := by decide +kernel
theorem d28_43 : decode prog_57_method_13_code 43 = .ok (.iinc 2 1, 3) := by decide +kernel
theorem d28_46 : decode prog_57_method_13_code 46 = .ok (.goto (-26), 3) := by decide +kernel
theorem d28_49 : decode prog_57_method_13_code 49 = .ok (.aload_n 0, 1) := by decide +kernel
theorem d28_50 : decode prog_57_method_13_code 50 = .ok (.iload_n 1, 1) := by decide +kernel
theorem d28_51 : decode prog_57_method_13_code 51 = .ok (.putfield 144, 3) := by decide +kernel
theorem d28_54 : decode prog_57_method_13_code 54 = .ok (.aload_n 0, 1) := by decide +kernel
theorem d28_55 : decode prog_57_method_13_code 55 = .ok (.getfield 144, 3) := by decide +kernel
theorem d28_58 : decode prog_57_method_13_code 58 = .ok (.aload_n 0, 1) := by decide +kernel
theorem d28_59 : decode prog_57_method_13_code 59 = .ok (.getfield 53, 3) := by decide +kernel
theorem d28_62 : decode prog_57_method_13_code 62 = .ok (.if_icmp .ne 44, 3) := by decide +kernel
theorem d28_106 : decode prog_57_method_13_code 106 = .ok (.return_, 1) := by decide +kernel
theorem ef_28a (m : MethodId) (x0 : Addr) : entryFrame m #[(.ref x0)] 3 = mkF m 0 #[.val (.ref x0), .unset, .unset] [] := by first | (simp [entryFrame, mkF, argsToLocals, Value.category]; done) | rfl
def Q28a (Z : State) (o0 rb kc fa na ha : Addr) (LL : Int32) (lf ln : Addr) (kl km kh : ClassId) (h0 : Heap) (n0 : Nat) (v : Option Value) (h : Heap) (L : List Loc) : Prop := v = none ∧ Fr n0 L ∧ Keep h0 h [o0, lf, ln] ∧ Exa Z h o0 "com/example/headway/headway/engine/HashIndex" ∧ Fld Z h o0 "com/example/headway/headway/engine/HashIndex" "rows" "Lcom/example/headway/headway/engine/RowBuffer;" (.ref rb) ∧ Fld Z h o0 "com/example/headway/headway/engine/HashIndex" "keyColumns" "[I" (.ref kc) ∧ Fld Z h o0 "com/example/headway/headway/engine/HashIndex" "firstInBucket" "[I" (.ref fa) ∧ Fld Z h o0 "com/example/headway/headway/engine/HashIndex" "nextInBucket" "[I" (.ref na) ∧ Fld Z h o0 "com/example/headway/headway/engine/HashIndex" "hashes" "[I" (.ref ha) ∧ Fld Z h o0 "com/example/headway/headway/engine/HashIndex" "loadLimit" "I" (.int LL) ∧ Fld Z h o0 "com/example/headway/headway/engine/HashIndex" "indexed" "I" (.int 14) ∧ Fld Z h o0 "com/example/headway/headway/engine/HashIndex" "largerFirstInBucket" "[I" (.ref lf) ∧ Fld Z h o0 "com/example/headway/headway/engine/HashIndex" "largerNextInBucket" "[I" (.ref ln) ∧ Fld Z h o0 "com/example/headway/headway/engine/HashIndex" "relinked" "I" (.int 8) ∧ Arv Z h lf kl .int 32 (.int 7 :: (List.replicate 31 (.int (-1)))) (.int 0) ∧ Arv Z h ln km .int 16 [(.int (-1 : Int32)), (.int 0), (.int 1), (.int 2), (.int 3), (.int 4), (.int 5), (.int 6), (.int 0), (.int 0), (.int 0), (.int 0), (.int 0), (.int 0), (.int 0), (.int 0)] (.int 0)
set_option maxRecDepth 65536 in
set_option maxHeartbeats 40000000 in
theorem rm28a (l : Launch) (Z : State) (a0 : Array Value) (hw : ∀ d ∈ tables_1, d.before a0 Z = true) (ws : List Jvm.Cond) (o0 rb kc fa na ha : Addr) (LL : Int32) (lf ln : Addr) (kl km kh : ClassId) (h0 : Heap) (n0 : Nat) (Z0 : n0 ≤ h0.size) (E : Exa Z h0 o0 "com/example/headway/headway/engine/HashIndex") (F_rows : Fld Z h0 o0 "com/example/headway/headway/engine/HashIndex" "rows" "Lcom/example/headway/headway/engine/RowBuffer;" (.ref rb)) (F_keyColumns : Fld Z h0 o0 "com/example/headway/headway/engine/HashIndex" "keyColumns" "[I" (.ref kc)) (F_firstInBucket : Fld Z h0 o0 "com/example/headway/headway/engine/HashIndex" "firstInBucket" "[I" (.ref fa)) (F_nextInBucket : Fld Z h0 o0 "com/example/headway/headway/engine/HashIndex" "nextInBucket" "[I" (.ref na)) (F_hashes : Fld Z h0 o0 "com/example/headway/headway/engine/HashIndex" "hashes" "[I" (.ref ha)) (F_loadLimit : Fld Z h0 o0 "com/example/headway/headway/engine/HashIndex" "loadLimit" "I" (.int LL)) (F_indexed : Fld Z h0 o0 "com/example/headway/headway/engine/HashIndex" "indexed" "I" (.int 14)) (F_largerFirstInBucket : Fld Z h0 o0 "com/example/headway/headway/engine/HashIndex" "largerFirstInBucket" "[I" (.ref lf)) (F_largerNextInBucket : Fld Z h0 o0 "com/example/headway/headway/engine/HashIndex" "largerNextInBucket" "[I" (.ref ln)) (F_relinked : Fld Z h0 o0 "com/example/headway/headway/engine/HashIndex" "relinked" "I" (.int 0)) (g_o0 : n0 ≤ o0) (Vf : Arv Z h0 lf kl .int 32 (fl (0 : Int32) 31) (.int 0)) (Vn : Arv Z h0 ln km .int 16 [(.int 0), (.int 0), (.int 0), (.int 0), (.int 0), (.int 0), (.int 0), (.int 0), (.int 0), (.int 0), (.int 0), (.int 0), (.int 0), (.int 0), (.int 0), (.int 0)] (.int 0)) (Vh : Arv Z h0 ha kh .int 16 (zr 16) (.int 0)) (glf : n0 ≤ lf) (gln : n0 ≤ ln) (n1x : lf ≠ ln) (n2x : lf ≠ o0) (n3x : ln ≠ o0) (n4x : ha ≠ lf) (n5x : ha ≠ ln) (n6x : ha ≠ o0) :
    MetFree l mn_27 (head1 (Jvm.Cond.code mn_27 prog_57_method_13_code 3 none :: ws) (⟨3, 0, 0, 43⟩ : Room)) (fun a U => a = #[(.ref o0)] ∧ Z.Warmed39 U.vm ∧ U.heap = h0) (fun _ _ _ _ _ => True) (fun _ U o U' => ∃ v L, o = .returned v ∧ Q28a Z o0 rb kc fa na ha LL lf ln kl km kh h0 n0 v U'.heap L ∧ FrameEnd U o U' L (⟨3, 0, 0, 43⟩ : Room).cells (⟨3, 0, 0, 43⟩ : Room).slots) := by
  refine MetFree.of_bodySF (plainFor_of_name pn_5) hisR ?_
  intro p e s m args below meth c s₁ Bd hml0 hP hK
  obtain ⟨rfl, hZ, hh⟩ := hP
  have hx := Bd.exec
  have hby := Bd.bytes
  have hml : c.maxLocals = 3 := hml0
  have hown : s.vm.findClass "com/example/headway/headway/engine/HashIndex" = some m.cls := findClass_of_methodNamed Bd.named
  have hnm := (name_of_methodNamed Bd.named Bd.method).1
  have X0 : Stand p l e (⟨3, 0, 0, 43⟩ : Room) s m #[(.ref o0)] below meth c s₁ [] 0 0 := Stand.of_body Bd
  have e0 : s₁.heap = h0 := by rw [← hh, Bd.state]; rfl
  have N0 := Fr.nil n0
  have hret := Bd.returns
  have hlk := BodyLoose.notSynchronized Bd
  show own_Out p e below (fun o U' => ∃ v L, o = .returned v ∧ Q28a Z o0 rb kc fa na ha LL lf ln kl km kh h0 n0 v U'.heap L ∧ FrameEnd s o U' L (⟨3, 0, 0, 43⟩ : Room).cells (⟨3, 0, 0, 43⟩ : Room).slots) (s₁.setTop (entryFrame m #[(.ref o0)] 3))
  refine own_of (fun t k => castTop (ef_28a m o0) k) ?_
  show own_Out p e below _ (s₁.setTop (mkF m 0 #[rv o0, .unset, .unset] []))
  refine o_aloadN X0 hx hby d28_0 rfl rfl (q := 1) rfl ?_
  refine o_getF X0 hx hZ hown hby (w_ hw 95 rfl) Via.refl e0 F_indexed d28_1 (q := 4) rfl fun T1 X1 e1 => ?_
  refine o_aloadN X1 hx hby d28_4 rfl rfl (q := 5) rfl ?_
  refine o_getF X1 hx hZ hown hby (w_ hw 175 rfl) Via.refl e1 F_relinked d28_5 (q := 8) rfl fun T2 X2 e2 => ?_
  refine o_bipush X2 hx hby d28_8 (z := 8) rfl (q := 10) rfl ?_
  refine o_iadd X2 hx hby d28_10 (z := 8) rfl (q := 11) rfl ?_
  obtain ⟨_, _, ⟨T3, L3, k3, n3⟩, -, X3, ⟨Lc3, hQ3, l3, y3, z3⟩, st3⟩ := Jvm.LawKit.callS X2 hx (y := mn_26) hown (mvT hZ (w_ hw 181 rfl)) (mvT hZ (w_ hw 182 rfl)) (mvT hZ (w_ hw 147 rfl)) (mvT hZ (w_ hw 183 rfl)) (by decide) (backOf (W := 0) (rm29a14b8 l Z a0 hw []  h0 n0 Z0 ) hZ (w_ hw 183 rfl) (w_ hw 147 rfl) (by decide) (by decide)) (g := (mkF m 11 #[rv o0, .unset, .unset] [.int 8, .int 14])) rfl (by rw [hml]; rfl) (argsL := [(.int 14), (.int 8)]) (rest := []) (lenOf pd_4 rfl) rfl (by show 2 * 0 + _ ≤ _; exact Nat.le_of_eq rfl) (hb hby d28_11) (fun _ _ => ⟨rfl, e2, (by decide : 0 + 0 ≤ _), (by decide : 0 + 0 ≤ _)⟩)
  dsimp only [Pt.U, Pt.locs, Pt.cells, Pt.slots] at X3 l3 y3 z3 st3 hQ3
  subst l3 y3 z3
  obtain ⟨rfl, N3q, hh3⟩ := hQ3
  have N3 := Fr.app N0 N3q
  refine own_of st3 ?_
  show own_Out p e below _ (T3.setTop (mkF m 14 #[rv o0, .unset, .unset] [.int 8]))
  refine o_istoreN X3 hx hby d28_14 (l' := #[rv o0, iv 8, .unset]) rfl (q := 15) rfl ?_
  refine o_aloadN X3 hx hby d28_15 rfl rfl (q := 16) rfl ?_
  refine o_getF X3 hx hZ hown hby (w_ hw 175 rfl) Via.refl hh3 F_relinked d28_16 (q := 19) rfl fun T4 X4 e4 => ?_
  refine o_istoreN X4 hx hby d28_19 (l' := #[rv o0, iv 8, iv 0]) rfl (q := 20) rfl ?_
  refine o_iloadN X4 hx hby d28_20 rfl (q := 21) rfl ?_
  refine o_iloadN X4 hx hby d28_21 rfl (q := 22) rfl ?_
  refine o_icN X4 hx hby d28_22 (tlt (by decide : (0 : Int32) < (8 : Int32))).2.1 (q := 25) rfl ?_
  refine o_iloadN X4 hx hby d28_25 rfl (q := 26) rfl ?_
  refine o_aloadN X4 hx hby d28_26 rfl rfl (q := 27) rfl ?_
  refine o_getF X4 hx hZ hown hby (w_ hw 72 rfl) Via.refl e4 F_hashes d28_27 (q := 30) rfl fun T5 X5 e5 => ?_
  refine o_iloadN X5 hx hby d28_30 rfl (q := 31) rfl ?_
  refine o_iaV X5 hx hby hZ e5 Vh ⟨by decide, by decide⟩ (v := .int 0) rfl d28_31 (q := 32) rfl ?_
  refine o_aloadN X5 hx hby d28_32 rfl rfl (q := 33) rfl ?_
  refine o_getF X5 hx hZ hown hby (w_ hw 109 rfl) Via.refl e5 F_largerFirstInBucket d28_33 (q := 36) rfl fun T6 X6 e6 => ?_
  refine o_aloadN X6 hx hby d28_36 rfl rfl (q := 37) rfl ?_
  refine o_getF X6 hx hZ hown hby (w_ hw 111 rfl) Via.refl e6 F_largerNextInBucket d28_37 (q := 40) rfl fun T7 X7 e7 => ?_
  obtain ⟨_, _, ⟨T8, L8, k8, n8⟩, -, X8, ⟨Lc8, hQ8, l8, y8, z8⟩, st8⟩ := Jvm.LawKit.callS X7 hx (y := mn_17) hown (mvT hZ (w_ hw 157 rfl)) (mvT hZ (w_ hw 158 rfl)) (mvT hZ (w_ hw 63 rfl)) (mvT hZ (w_ hw 159 rfl)) (by decide) (backOf (W := 0) (rm24n32 l Z a0 hw [] (0 : Int32) lf ln kl km (16 : Int32) ((0 : Int32) - (1 : Int32)) (List.replicate 31 (.int (-1))) [(.int 0), (.int 0), (.int 0), (.int 0), (.int 0), (.int 0), (.int 0), (.int 0), (.int 0), (.int 0), (.int 0), (.int 0), (.int 0), (.int 0), (.int 0), (.int 0)] h0 n0 Z0 Vf Vn glf gln n1x ⟨by decide, by decide⟩ (Nat.le_of_ble_eq_true rfl)) hZ (w_ hw 159 rfl) (w_ hw 63 rfl) (by decide) (by decide)) (g := (mkF m 40 #[rv o0, iv 8, iv 0] [.ref ln, .ref lf, .int 0, .int 0])) rfl (by rw [hml]; rfl) (argsL := [(.int 0), (.int 0), (.ref lf), (.ref ln)]) (rest := []) (lenOf pd_12 rfl) rfl (by show 2 * 0 + _ ≤ _; exact Nat.le_of_eq rfl) (hb hby d28_40) (fun _ _ => ⟨rfl, e7, (by decide : 0 + 0 ≤ _), (by decide : 0 + 0 ≤ _)⟩)
  dsimp only [Pt.U, Pt.locs, Pt.cells, Pt.slots] at X8 l8 y8 z8 st8 hQ8
  subst l8 y8 z8
  obtain ⟨rfl, N8q, K8, Vf8, Vn8⟩ := hQ8
  have N8 := Fr.app N3 N8q
  refine own_of st8 ?_
  show own_Out p e below _ (T8.setTop (mkF m 43 #[rv o0, iv 8, iv 0] []))
  refine o_iinc X8 hx hby d28_43 rfl (l' := #[rv o0, iv 8, iv 1]) rfl (q := 46) rfl ?_
  refine o_goto X8 hx hby d28_46 (by decide) (q := 20) (by decide) ?_
  refine o_iloadN X8 hx hby d28_20 rfl (q := 21) rfl ?_
  refine o_iloadN X8 hx hby d28_21 rfl (q := 22) rfl ?_
  refine o_icN X8 hx hby d28_22 (tlt (by decide : (1 : Int32) < (8 : Int32))).2.1 (q := 25) rfl ?_
  refine o_iloadN X8 hx hby d28_25 rfl (q := 26) rfl ?_
  refine o_aloadN X8 hx hby d28_26 rfl rfl (q := 27) rfl ?_
  have qz10 := (F_hashes.keep K8 (ninS (Ne.symm n2x) (ninS (Ne.symm n3x) nin0)))
  refine o_getF X8 hx hZ hown hby (w_ hw 72 rfl) Via.refl rfl qz10 d28_27 (q := 30) rfl fun T9 X9 e9 => ?_
  refine o_iloadN X9 hx hby d28_30 rfl (q := 31) rfl ?_
  have qz11 := (Vh.keep K8 (ninS n4x (ninS n5x nin0)))
  refine o_iaV X9 hx hby hZ e9 qz11 ⟨by decide, by decide⟩ (v := .int 0) rfl d28_31 (q := 32) rfl ?_
  refine o_aloadN X9 hx hby d28_32 rfl rfl (q := 33) rfl ?_
  have qz13 := (F_largerFirstInBucket.keep K8 (ninS (Ne.symm n2x) (ninS (Ne.symm n3x) nin0)))
  refine o_getF X9 hx hZ hown hby (w_ hw 109 rfl) Via.refl e9 qz13 d28_33 (q := 36) rfl fun T12 X12 e12 => ?_
  refine o_aloadN X12 hx hby d28_36 rfl rfl (q := 37) rfl ?_
  have qz15 := (F_largerNextInBucket.keep K8 (ninS (Ne.symm n2x) (ninS (Ne.symm n3x) nin0)))
  refine o_getF X12 hx hZ hown hby (w_ hw 111 rfl) Via.refl e12 qz15 d28_37 (q := 40) rfl fun T14 X14 e14 => ?_
  have qz17 := (Nat.le_trans Z0 K8.1)
  obtain ⟨_, _, ⟨T16, L16, k16, n16⟩, -, X16, ⟨Lc16, hQ16, l16, y16, z16⟩, st16⟩ := Jvm.LawKit.callS X14 hx (y := mn_17) hown (mvT hZ (w_ hw 157 rfl)) (mvT hZ (w_ hw 158 rfl)) (mvT hZ (w_ hw 63 rfl)) (mvT hZ (w_ hw 159 rfl)) (by decide) (backOf (W := 0) (rm24n32 l Z a0 hw [] (1 : Int32) lf ln kl km (16 : Int32) (0 : Int32) (List.replicate 31 (.int (-1))) [(.int ((0 : Int32) - (1 : Int32))), (.int 0), (.int 0), (.int 0), (.int 0), (.int 0), (.int 0), (.int 0), (.int 0), (.int 0), (.int 0), (.int 0), (.int 0), (.int 0), (.int 0), (.int 0)] T8.heap n0 qz17 Vf8 Vn8 glf gln n1x ⟨by decide, by decide⟩ (Nat.le_of_ble_eq_true rfl)) hZ (w_ hw 159 rfl) (w_ hw 63 rfl) (by decide) (by decide)) (g := (mkF m 40 #[rv o0, iv 8, iv 1] [.ref ln, .ref lf, .int 0, .int 1])) rfl (by rw [hml]; rfl) (argsL := [(.int 1), (.int 0), (.ref lf), (.ref ln)]) (rest := []) (lenOf pd_12 rfl) rfl (by show 2 * 0 + _ ≤ _; exact Nat.le_of_eq rfl) (hb hby d28_40) (fun _ _ => ⟨rfl, e14, (by decide : 0 + 0 ≤ _), (by decide : 0 + 0 ≤ _)⟩)
  dsimp only [Pt.U, Pt.locs, Pt.cells, Pt.slots] at X16 l16 y16 z16 st16 hQ16
  subst l16 y16 z16
  obtain ⟨rfl, N16q, K16, Vf16, Vn16⟩ := hQ16
  have N16 := Fr.app N8 N16q
  refine own_of st16 ?_
  show own_Out p e below _ (T16.setTop (mkF m 43 #[rv o0, iv 8, iv 1] []))
  refine o_iinc X16 hx hby d28_43 rfl (l' := #[rv o0, iv 8, iv 2]) rfl (q := 46) rfl ?_
  refine o_goto X16 hx hby d28_46 (by decide) (q := 20) (by decide) ?_
  refine o_iloadN X16 hx hby d28_20 rfl (q := 21) rfl ?_
  refine o_iloadN X16 hx hby d28_21 rfl (q := 22) rfl ?_
  refine o_icN X16 hx hby d28_22 (tlt (by decide : (2 : Int32) < (8 : Int32))).2.1 (q := 25) rfl ?_
  refine o_iloadN X16 hx hby d28_25 rfl (q := 26) rfl ?_
  refine o_aloadN X16 hx hby d28_26 rfl rfl (q := 27) rfl ?_
  have qz19 := (qz10.keep K16 (ninS (Ne.symm n2x) (ninS (Ne.symm n3x) nin0)))
  refine o_getF X16 hx hZ hown hby (w_ hw 72 rfl) Via.refl rfl qz19 d28_27 (q := 30) rfl fun T18 X18 e18 => ?_
  refine o_iloadN X18 hx hby d28_30 rfl (q := 31) rfl ?_
  have qz20 := (qz11.keep K16 (ninS n4x (ninS n5x nin0)))
  refine o_iaV X18 hx hby hZ e18 qz20 ⟨by decide, by decide⟩ (v := .int 0) rfl d28_31 (q := 32) rfl ?_
  refine o_aloadN X18 hx hby d28_32 rfl rfl (q := 33) rfl ?_
  have qz22 := (qz13.keep K16 (ninS (Ne.symm n2x) (ninS (Ne.symm n3x) nin0)))
  refine o_getF X18 hx hZ hown hby (w_ hw 109 rfl) Via.refl e18 qz22 d28_33 (q := 36) rfl fun T21 X21 e21 => ?_
  refine o_aloadN X21 hx hby d28_36 rfl rfl (q := 37) rfl ?_
  have qz24 := (qz15.keep K16 (ninS (Ne.symm n2x) (ninS (Ne.symm n3x) nin0)))
  refine o_getF X21 hx hZ hown hby (w_ hw 111 rfl) Via.refl e21 qz24 d28_37 (q := 40) rfl fun T23 X23 e23 => ?_
  have qz26 := (Nat.le_trans qz17 K16.1)
  obtain ⟨_, _, ⟨T25, L25, k25, n25⟩, -, X25, ⟨Lc25, hQ25, l25, y25, z25⟩, st25⟩ := Jvm.LawKit.callS X23 hx (y := mn_17) hown (mvT hZ (w_ hw 157 rfl)) (mvT hZ (w_ hw 158 rfl)) (mvT hZ (w_ hw 63 rfl)) (mvT hZ (w_ hw 159 rfl)) (by decide) (backOf (W := 0) (rm24n32 l Z a0 hw [] (2 : Int32) lf ln kl km (16 : Int32) (1 : Int32) (List.replicate 31 (.int (-1))) [(.int ((0 : Int32) - (1 : Int32))), (.int 0), (.int 0), (.int 0), (.int 0), (.int 0), (.int 0), (.int 0), (.int 0), (.int 0), (.int 0), (.int 0), (.int 0), (.int 0), (.int 0), (.int 0)] T16.heap n0 qz26 Vf16 Vn16 glf gln n1x ⟨by decide, by decide⟩ (Nat.le_of_ble_eq_true rfl)) hZ (w_ hw 159 rfl) (w_ hw 63 rfl) (by decide) (by decide)) (g := (mkF m 40 #[rv o0, iv 8, iv 2] [.ref ln, .ref lf, .int 0, .int 2])) rfl (by rw [hml]; rfl) (argsL := [(.int 2), (.int 0), (.ref lf), (.ref ln)]) (rest := []) (lenOf pd_12 rfl) rfl (by show 2 * 0 + _ ≤ _; exact Nat.le_of_eq rfl) (hb hby d28_40) (fun _ _ => ⟨rfl, e23, (by decide : 0 + 0 ≤ _), (by decide : 0 + 0 ≤ _)⟩)
  dsimp only [Pt.U, Pt.locs, Pt.cells, Pt.slots] at X25 l25 y25 z25 st25 hQ25
  subst l25 y25 z25
  obtain ⟨rfl, N25q, K25, Vf25, Vn25⟩ := hQ25
  have N25 := Fr.app N16 N25q
  refine own_of st25 ?_
  show own_Out p e below _ (T25.setTop (mkF m 43 #[rv o0, iv 8, iv 2] []))
  refine o_iinc X25 hx hby d28_43 rfl (l' := #[rv o0, iv 8, iv 3]) rfl (q := 46) rfl ?_
  refine o_goto X25 hx hby d28_46 (by decide) (q := 20) (by decide) ?_
  refine o_iloadN X25 hx hby d28_20 rfl (q := 21) rfl ?_
  refine o_iloadN X25 hx hby d28_21 rfl (q := 22) rfl ?_
  refine o_icN X25 hx hby d28_22 (tlt (by decide : (3 : Int32) < (8 : Int32))).2.1 (q := 25) rfl ?_
  refine o_iloadN X25 hx hby d28_25 rfl (q := 26) rfl ?_
  refine o_aloadN X25 hx hby d28_26 rfl rfl (q := 27) rfl ?_
  have qz28 := (qz19.keep K25 (ninS (Ne.symm n2x) (ninS (Ne.symm n3x) nin0)))
  refine o_getF X25 hx hZ hown hby (w_ hw 72 rfl) Via.refl rfl qz28 d28_27 (q := 30) rfl fun T27 X27 e27 => ?_
  refine o_iloadN X27 hx hby d28_30 rfl (q := 31) rfl ?_
  have qz29 := (qz20.keep K25 (ninS n4x (ninS n5x nin0)))
  refine o_iaV X27 hx hby hZ e27 qz29 ⟨by decide, by decide⟩ (v := .int 0) rfl d28_31 (q := 32) rfl ?_
  refine o_aloadN X27 hx hby d28_32 rfl rfl (q := 33) rfl ?_
  have qz31 := (qz22.keep K25 (ninS (Ne.symm n2x) (ninS (Ne.symm n3x) nin0)))
  refine o_getF X27 hx hZ hown hby (w_ hw 109 rfl) Via.refl e27 qz31 d28_33 (q := 36) rfl fun T30 X30 e30 => ?_
  refine o_aloadN X30 hx hby d28_36 rfl rfl (q := 37) rfl ?_
  have qz33 := (qz24.keep K25 (ninS (Ne.symm n2x) (ninS (Ne.symm n3x) nin0)))
  refine o_getF X30 hx hZ hown hby (w_ hw 111 rfl) Via.refl e30 qz33 d28_37 (q := 40) rfl fun T32 X32 e32 => ?_
  have qz35 := (Nat.le_trans qz26 K25.1)
  obtain ⟨_, _, ⟨T34, L34, k34, n34⟩, -, X34, ⟨Lc34, hQ34, l34, y34, z34⟩, st34⟩ := Jvm.LawKit.callS X32 hx (y := mn_17) hown (mvT hZ (w_ hw 157 rfl)) (mvT hZ (w_ hw 158 rfl)) (mvT hZ (w_ hw 63 rfl)) (mvT hZ (w_ hw 159 rfl)) (by decide) (backOf (W := 0) (rm24n32 l Z a0 hw [] (3 : Int32) lf ln kl km (16 : Int32) (2 : Int32) (List.replicate 31 (.int (-1))) [(.int ((0 : Int32) - (1 : Int32))), (.int 0), (.int 1), (.int 0), (.int 0), (.int 0), (.int 0), (.int 0), (.int 0), (.int 0), (.int 0), (.int 0), (.int 0), (.int 0), (.int 0), (.int 0)] T25.heap n0 qz35 Vf25 Vn25 glf gln n1x ⟨by decide, by decide⟩ (Nat.le_of_ble_eq_true rfl)) hZ (w_ hw 159 rfl) (w_ hw 63 rfl) (by decide) (by decide)) (g := (mkF m 40 #[rv o0, iv 8, iv 3] [.ref ln, .ref lf, .int 0, .int 3])) rfl (by rw [hml]; rfl) (argsL := [(.int 3), (.int 0), (.ref lf), (.ref ln)]) (rest := []) (lenOf pd_12 rfl) rfl (by show 2 * 0 + _ ≤ _; exact Nat.le_of_eq rfl) (hb hby d28_40) (fun _ _ => ⟨rfl, e32, (by decide : 0 + 0 ≤ _), (by decide : 0 + 0 ≤ _)⟩)
  dsimp only [Pt.U, Pt.locs, Pt.cells, Pt.slots] at X34 l34 y34 z34 st34 hQ34
  subst l34 y34 z34
  obtain ⟨rfl, N34q, K34, Vf34, Vn34⟩ := hQ34
  have N34 := Fr.app N25 N34q
  refine own_of st34 ?_
  show own_Out p e below _ (T34.setTop (mkF m 43 #[rv o0, iv 8, iv 3] []))
  refine o_iinc X34 hx hby d28_43 rfl (l' := #[rv o0, iv 8, iv 4]) rfl (q := 46) rfl ?_
  refine o_goto X34 hx hby d28_46 (by decide) (q := 20) (by decide) ?_
  refine o_iloadN X34 hx hby d28_20 rfl (q := 21) rfl ?_
  refine o_iloadN X34 hx hby d28_21 rfl (q := 22) rfl ?_
  refine o_icN X34 hx hby d28_22 (tlt (by decide : (4 : Int32) < (8 : Int32))).2.1 (q := 25) rfl ?_
  refine o_iloadN X34 hx hby d28_25 rfl (q := 26) rfl ?_
  refine o_aloadN X34 hx hby d28_26 rfl rfl (q := 27) rfl ?_
  have qz37 := (qz28.keep K34 (ninS (Ne.symm n2x) (ninS (Ne.symm n3x) nin0)))
  refine o_getF X34 hx hZ hown hby (w_ hw 72 rfl) Via.refl rfl qz37 d28_27 (q := 30) rfl fun T36 X36 e36 => ?_
  refine o_iloadN X36 hx hby d28_30 rfl (q := 31) rfl ?_
  have qz38 := (qz29.keep K34 (ninS n4x (ninS n5x nin0)))
  refine o_iaV X36 hx hby hZ e36 qz38 ⟨by decide, by decide⟩ (v := .int 0) rfl d28_31 (q := 32) rfl ?_
  refine o_aloadN X36 hx hby d28_32 rfl rfl (q := 33) rfl ?_
  have qz40 := (qz31.keep K34 (ninS (Ne.symm n2x) (ninS (Ne.symm n3x) nin0)))
  refine o_getF X36 hx hZ hown hby (w_ hw 109 rfl) Via.refl e36 qz40 d28_33 (q := 36) rfl fun T39 X39 e39 => ?_
  refine o_aloadN X39 hx hby d28_36 rfl rfl (q := 37) rfl ?_
  have qz42 := (qz33.keep K34 (ninS (Ne.symm n2x) (ninS (Ne.symm n3x) nin0)))
  refine o_getF X39 hx hZ hown hby (w_ hw 111 rfl) Via.refl e39 qz42 d28_37 (q := 40) rfl fun T41 X41 e41 => ?_
  have qz44 := (Nat.le_trans qz35 K34.1)
  obtain ⟨_, _, ⟨T43, L43, k43, n43⟩, -, X43, ⟨Lc43, hQ43, l43, y43, z43⟩, st43⟩ := Jvm.LawKit.callS X41 hx (y := mn_17) hown (mvT hZ (w_ hw 157 rfl)) (mvT hZ (w_ hw 158 rfl)) (mvT hZ (w_ hw 63 rfl)) (mvT hZ (w_ hw 159 rfl)) (by decide) (backOf (W := 0) (rm24n32 l Z a0 hw [] (4 : Int32) lf ln kl km (16 : Int32) (3 : Int32) (List.replicate 31 (.int (-1))) [(.int ((0 : Int32) - (1 : Int32))), (.int 0), (.int 1), (.int 2), (.int 0), (.int 0), (.int 0), (.int 0), (.int 0), (.int 0), (.int 0), (.int 0), (.int 0), (.int 0), (.int 0), (.int 0)] T34.heap n0 qz44 Vf34 Vn34 glf gln n1x ⟨by decide, by decide⟩ (Nat.le_of_ble_eq_true rfl)) hZ (w_ hw 159 rfl) (w_ hw 63 rfl) (by decide) (by decide)) (g := (mkF m 40 #[rv o0, iv 8, iv 4] [.ref ln, .ref lf, .int 0, .int 4])) rfl (by rw [hml]; rfl) (argsL := [(.int 4), (.int 0), (.ref lf), (.ref ln)]) (rest := []) (lenOf pd_12 rfl) rfl (by show 2 * 0 + _ ≤ _; exact Nat.le_of_eq rfl) (hb hby d28_40) (fun _ _ => ⟨rfl, e41, (by decide : 0 + 0 ≤ _), (by decide : 0 + 0 ≤ _)⟩)
  dsimp only [Pt.U, Pt.locs, Pt.cells, Pt.slots] at X43 l43 y43 z43 st43 hQ43
  subst l43 y43 z43
  obtain ⟨rfl, N43q, K43, Vf43, Vn43⟩ := hQ43
  have N43 := Fr.app N34 N43q
  refine own_of st43 ?_
  show own_Out p e below _ (T43.setTop (mkF m 43 #[rv o0, iv 8, iv 4] []))
  refine o_iinc X43 hx hby d28_43 rfl (l' := #[rv o0, iv 8, iv 5]) rfl (q := 46) rfl ?_
  refine o_goto X43 hx hby d28_46 (by decide) (q := 20) (by decide) ?_
  refine o_iloadN X43 hx hby d28_20 rfl (q := 21) rfl ?_
  refine o_iloadN X43 hx hby d28_21 rfl (q := 22) rfl ?_
  refine o_icN X43 hx hby d28_22 (tlt (by decide : (5 : Int32) < (8 : Int32))).2.1 (q := 25) rfl ?_
  refine o_iloadN X43 hx hby d28_25 rfl (q := 26) rfl ?_
  refine o_aloadN X43 hx hby d28_26 rfl rfl (q := 27) rfl ?_
  have qz46 := (qz37.keep K43 (ninS (Ne.symm n2x) (ninS (Ne.symm n3x) nin0)))
  refine o_getF X43 hx hZ hown hby (w_ hw 72 rfl) Via.refl rfl qz46 d28_27 (q := 30) rfl fun T45 X45 e45 => ?_
  refine o_iloadN X45 hx hby d28_30 rfl (q := 31) rfl ?_
  have qz47 := (qz38.keep K43 (ninS n4x (ninS n5x nin0)))
  refine o_iaV X45 hx hby hZ e45 qz47 ⟨by decide, by decide⟩ (v := .int 0) rfl d28_31 (q := 32) rfl ?_
  refine o_aloadN X45 hx hby d28_32 rfl rfl (q := 33) rfl ?_
  have qz49 := (qz40.keep K43 (ninS (Ne.symm n2x) (ninS (Ne.symm n3x) nin0)))
  refine o_getF X45 hx hZ hown hby (w_ hw 109 rfl) Via.refl e45 qz49 d28_33 (q := 36) rfl fun T48 X48 e48 => ?_
  refine o_aloadN X48 hx hby d28_36 rfl rfl (q := 37) rfl ?_
  have qz51 := (qz42.keep K43 (ninS (Ne.symm n2x) (ninS (Ne.symm n3x) nin0)))
  refine o_getF X48 hx hZ hown hby (w_ hw 111 rfl) Via.refl e48 qz51 d28_37 (q := 40) rfl fun T50 X50 e50 => ?_
  have qz53 := (Nat.le_trans qz44 K43.1)
  obtain ⟨_, _, ⟨T52, L52, k52, n52⟩, -, X52, ⟨Lc52, hQ52, l52, y52, z52⟩, st52⟩ := Jvm.LawKit.callS X50 hx (y := mn_17) hown (mvT hZ (w_ hw 157 rfl)) (mvT hZ (w_ hw 158 rfl)) (mvT hZ (w_ hw 63 rfl)) (mvT hZ (w_ hw 159 rfl)) (by decide) (backOf (W := 0) (rm24n32 l Z a0 hw [] (5 : Int32) lf ln kl km (16 : Int32) (4 : Int32) (List.replicate 31 (.int (-1))) [(.int ((0 : Int32) - (1 : Int32))), (.int 0), (.int 1), (.int 2), (.int 3), (.int 0), (.int 0), (.int 0), (.int 0), (.int 0), (.int 0), (.int 0), (.int 0), (.int 0), (.int 0), (.int 0)] T43.heap n0 qz53 Vf43 Vn43 glf gln n1x ⟨by decide, by decide⟩ (Nat.le_of_ble_eq_true rfl)) hZ (w_ hw 159 rfl) (w_ hw 63 rfl) (by decide) (by decide)) (g := (mkF m 40 #[rv o0, iv 8, iv 5] [.ref ln, .ref lf, .int 0, .int 5])) rfl (by rw [hml]; rfl) (argsL := [(.int 5), (.int 0), (.ref lf), (.ref ln)]) (rest := []) (lenOf pd_12 rfl) rfl (by show 2 * 0 + _ ≤ _; exact Nat.le_of_eq rfl) (hb hby d28_40) (fun _ _ => ⟨rfl, e50, (by decide : 0 + 0 ≤ _), (by decide : 0 + 0 ≤ _)⟩)
  dsimp only [Pt.U, Pt.locs, Pt.cells, Pt.slots] at X52 l52 y52 z52 st52 hQ52
  subst l52 y52 z52
  obtain ⟨rfl, N52q, K52, Vf52, Vn52⟩ := hQ52
  have N52 := Fr.app N43 N52q
  refine own_of st52 ?_
  show own_Out p e below _ (T52.setTop (mkF m 43 #[rv o0, iv 8, iv 5] []))
  refine o_iinc X52 hx hby d28_43 rfl (l' := #[rv o0, iv 8, iv 6]) rfl (q := 46) rfl ?_
  refine o_goto X52 hx hby d28_46 (by decide) (q := 20) (by decide) ?_
  refine o_iloadN X52 hx hby d28_20 rfl (q := 21) rfl ?_
  refine o_iloadN X52 hx hby d28_21 rfl (q := 22) rfl ?_
  refine o_icN X52 hx hby d28_22 (tlt (by decide : (6 : Int32) < (8 : Int32))).2.1 (q := 25) rfl ?_
  refine o_iloadN X52 hx hby d28_25 rfl (q := 26) rfl ?_
  refine o_aloadN X52 hx hby d28_26 rfl rfl (q := 27) rfl ?_
  have qz55 := (qz46.keep K52 (ninS (Ne.symm n2x) (ninS (Ne.symm n3x) nin0)))
  refine o_getF X52 hx hZ hown hby (w_ hw 72 rfl) Via.refl rfl qz55 d28_27 (q := 30) rfl fun T54 X54 e54 => ?_
  refine o_iloadN X54 hx hby d28_30 rfl (q := 31) rfl ?_
  have qz56 := (qz47.keep K52 (ninS n4x (ninS n5x nin0)))
  refine o_iaV X54 hx hby hZ e54 qz56 ⟨by decide, by decide⟩ (v := .int 0) rfl d28_31 (q := 32) rfl ?_
  refine o_aloadN X54 hx hby d28_32 rfl rfl (q := 33) rfl ?_
  have qz58 := (qz49.keep K52 (ninS (Ne.symm n2x) (ninS (Ne.symm n3x) nin0)))
  refine o_getF X54 hx hZ hown hby (w_ hw 109 rfl) Via.refl e54 qz58 d28_33 (q := 36) rfl fun T57 X57 e57 => ?_
  refine o_aloadN X57 hx hby d28_36 rfl rfl (q := 37) rfl ?_
  have qz60 := (qz51.keep K52 (ninS (Ne.symm n2x) (ninS (Ne.symm n3x) nin0)))
  refine o_getF X57 hx hZ hown hby (w_ hw 111 rfl) Via.refl e57 qz60 d28_37 (q := 40) rfl fun T59 X59 e59 => ?_
  have qz62 := (Nat.le_trans qz53 K52.1)
  obtain ⟨_, _, ⟨T61, L61, k61, n61⟩, -, X61, ⟨Lc61, hQ61, l61, y61, z61⟩, st61⟩ := Jvm.LawKit.callS X59 hx (y := mn_17) hown (mvT hZ (w_ hw 157 rfl)) (mvT hZ (w_ hw 158 rfl)) (mvT hZ (w_ hw 63 rfl)) (mvT hZ (w_ hw 159 rfl)) (by decide) (backOf (W := 0) (rm24n32 l Z a0 hw [] (6 : Int32) lf ln kl km (16 : Int32) (5 : Int32) (List.replicate 31 (.int (-1))) [(.int ((0 : Int32) - (1 : Int32))), (.int 0), (.int 1), (.int 2), (.int 3), (.int 4), (.int 0), (.int 0), (.int 0), (.int 0), (.int 0), (.int 0), (.int 0), (.int 0), (.int 0), (.int 0)] T52.heap n0 qz62 Vf52 Vn52 glf gln n1x ⟨by decide, by decide⟩ (Nat.le_of_ble_eq_true rfl)) hZ (w_ hw 159 rfl) (w_ hw 63 rfl) (by decide) (by decide)) (g := (mkF m 40 #[rv o0, iv 8, iv 6] [.ref ln, .ref lf, .int 0, .int 6])) rfl (by rw [hml]; rfl) (argsL := [(.int 6), (.int 0), (.ref lf), (.ref ln)]) (rest := []) (lenOf pd_12 rfl) rfl (by show 2 * 0 + _ ≤ _; exact Nat.le_of_eq rfl) (hb hby d28_40) (fun _ _ => ⟨rfl, e59, (by decide : 0 + 0 ≤ _), (by decide : 0 + 0 ≤ _)⟩)
  dsimp only [Pt.U, Pt.locs, Pt.cells, Pt.slots] at X61 l61 y61 z61 st61 hQ61
  subst l61 y61 z61
  obtain ⟨rfl, N61q, K61, Vf61, Vn61⟩ := hQ61
  have N61 := Fr.app N52 N61q
  refine own_of st61 ?_
  show own_Out p e below _ (T61.setTop (mkF m 43 #[rv o0, iv 8, iv 6] []))
  refine o_iinc X61 hx hby d28_43 rfl (l' := #[rv o0, iv 8, iv 7]) rfl (q := 46) rfl ?_
  refine o_goto X61 hx hby d28_46 (by decide) (q := 20) (by decide) ?_
  refine o_iloadN X61 hx hby d28_20 rfl (q := 21) rfl ?_
  refine o_iloadN X61 hx hby d28_21 rfl (q := 22) rfl ?_
  refine o_icN X61 hx hby d28_22 (tlt (by decide : (7 : Int32) < (8 : Int32))).2.1 (q := 25) rfl ?_
  refine o_iloadN X61 hx hby d28_25 rfl (q := 26) rfl ?_
  refine o_aloadN X61 hx hby d28_26 rfl rfl (q := 27) rfl ?_
  have qz64 := (qz55.keep K61 (ninS (Ne.symm n2x) (ninS (Ne.symm n3x) nin0)))
  refine o_getF X61 hx hZ hown hby (w_ hw 72 rfl) Via.refl rfl qz64 d28_27 (q := 30) rfl fun T63 X63 e63 => ?_
  refine o_iloadN X63 hx hby d28_30 rfl (q := 31) rfl ?_
  have qz65 := (qz56.keep K61 (ninS n4x (ninS n5x nin0)))
  refine o_iaV X63 hx hby hZ e63 qz65 ⟨by decide, by decide⟩ (v := .int 0) rfl d28_31 (q := 32) rfl ?_
  refine o_aloadN X63 hx hby d28_32 rfl rfl (q := 33) rfl ?_
  have qz67 := (qz58.keep K61 (ninS (Ne.symm n2x) (ninS (Ne.symm n3x) nin0)))
  refine o_getF X63 hx hZ hown hby (w_ hw 109 rfl) Via.refl e63 qz67 d28_33 (q := 36) rfl fun T66 X66 e66 => ?_
  refine o_aloadN X66 hx hby d28_36 rfl rfl (q := 37) rfl ?_
  have qz69 := (qz60.keep K61 (ninS (Ne.symm n2x) (ninS (Ne.symm n3x) nin0)))
  refine o_getF X66 hx hZ hown hby (w_ hw 111 rfl) Via.refl e66 qz69 d28_37 (q := 40) rfl fun T68 X68 e68 => ?_
  have qz71 := (Nat.le_trans qz62 K61.1)
  obtain ⟨_, _, ⟨T70, L70, k70, n70⟩, -, X70, ⟨Lc70, hQ70, l70, y70, z70⟩, st70⟩ := Jvm.LawKit.callS X68 hx (y := mn_17) hown (mvT hZ (w_ hw 157 rfl)) (mvT hZ (w_ hw 158 rfl)) (mvT hZ (w_ hw 63 rfl)) (mvT hZ (w_ hw 159 rfl)) (by decide) (backOf (W := 0) (rm24n32 l Z a0 hw [] (7 : Int32) lf ln kl km (16 : Int32) (6 : Int32) (List.replicate 31 (.int (-1))) [(.int ((0 : Int32) - (1 : Int32))), (.int 0), (.int 1), (.int 2), (.int 3), (.int 4), (.int 5), (.int 0), (.int 0), (.int 0), (.int 0), (.int 0), (.int 0), (.int 0), (.int 0), (.int 0)] T61.heap n0 qz71 Vf61 Vn61 glf gln n1x ⟨by decide, by decide⟩ (Nat.le_of_ble_eq_true rfl)) hZ (w_ hw 159 rfl) (w_ hw 63 rfl) (by decide) (by decide)) (g := (mkF m 40 #[rv o0, iv 8, iv 7] [.ref ln, .ref lf, .int 0, .int 7])) rfl (by rw [hml]; rfl) (argsL := [(.int 7), (.int 0), (.ref lf), (.ref ln)]) (rest := []) (lenOf pd_12 rfl) rfl (by show 2 * 0 + _ ≤ _; exact Nat.le_of_eq rfl) (hb hby d28_40) (fun _ _ => ⟨rfl, e68, (by decide : 0 + 0 ≤ _), (by decide : 0 + 0 ≤ _)⟩)
  dsimp only [Pt.U, Pt.locs, Pt.cells, Pt.slots] at X70 l70 y70 z70 st70 hQ70
  subst l70 y70 z70
  obtain ⟨rfl, N70q, K70, Vf70, Vn70⟩ := hQ70
  have N70 := Fr.app N61 N70q
  refine own_of st70 ?_
  show own_Out p e below _ (T70.setTop (mkF m 43 #[rv o0, iv 8, iv 7] []))
  refine o_iinc X70 hx hby d28_43 rfl (l' := #[rv o0, iv 8, iv 8]) rfl (q := 46) rfl ?_
  refine o_goto X70 hx hby d28_46 (by decide) (q := 20) (by decide) ?_
  refine o_iloadN X70 hx hby d28_20 rfl (q := 21) rfl ?_
  refine o_iloadN X70 hx hby d28_21 rfl (q := 22) rfl ?_
  refine o_icY X70 hx hby d28_22 (flt (by decide : ¬ ((8 : Int32) < (8 : Int32)))).2.1 (by decide) (q := 49) (by decide) ?_
  refine o_aloadN X70 hx hby d28_49 rfl rfl (q := 50) rfl ?_
  refine o_iloadN X70 hx hby d28_50 rfl (q := 51) rfl ?_
  have qz73 := ((((((((F_relinked.keep K8 (ninS (Ne.symm n2x) (ninS (Ne.symm n3x) nin0))).keep K16 (ninS (Ne.symm n2x) (ninS (Ne.symm n3x) nin0))).keep K25 (ninS (Ne.symm n2x) (ninS (Ne.symm n3x) nin0))).keep K34 (ninS (Ne.symm n2x) (ninS (Ne.symm n3x) nin0))).keep K43 (ninS (Ne.symm n2x) (ninS (Ne.symm n3x) nin0))).keep K52 (ninS (Ne.symm n2x) (ninS (Ne.symm n3x) nin0))).keep K61 (ninS (Ne.symm n2x) (ninS (Ne.symm n3x) nin0))).keep K70 (ninS (Ne.symm n2x) (ninS (Ne.symm n3x) nin0)))
  have qz74 := ((((((((E.keep K8).keep K16).keep K25).keep K34).keep K43).keep K52).keep K61).keep K70)
  obtain ⟨T72, h72, X72, e72, W72, st72⟩ := putF X70 hx hZ hown (host := "") (Or.inl (w_ hw 175 rfl)) Via.refl rfl qz73 qz74 (Or.inl (w_ hw 176 rfl)) (w_ hw 62 rfl) (ty := .int) (by decide) rfl rfl (g := (mkF m 51 #[rv o0, iv 8, iv 8] [.int 8, .ref o0])) rfl rfl (hb hby d28_51)
  have qz75 := ((((((((F_relinked.keep K8 (ninS (Ne.symm n2x) (ninS (Ne.symm n3x) nin0))).keep K16 (ninS (Ne.symm n2x) (ninS (Ne.symm n3x) nin0))).keep K25 (ninS (Ne.symm n2x) (ninS (Ne.symm n3x) nin0))).keep K34 (ninS (Ne.symm n2x) (ninS (Ne.symm n3x) nin0))).keep K43 (ninS (Ne.symm n2x) (ninS (Ne.symm n3x) nin0))).keep K52 (ninS (Ne.symm n2x) (ninS (Ne.symm n3x) nin0))).keep K61 (ninS (Ne.symm n2x) (ninS (Ne.symm n3x) nin0))).keep K70 (ninS (Ne.symm n2x) (ninS (Ne.symm n3x) nin0)))
  have Fw72 := qz75.same W72
  refine own_of st72 ?_
  show own_Out p e below _ (T72.setTop (mkF m 54 #[rv o0, iv 8, iv 8] []))
  refine o_aloadN X72 hx hby d28_54 rfl rfl (q := 55) rfl ?_
  refine o_getF X72 hx hZ hown hby (w_ hw 175 rfl) Via.refl e72 Fw72 d28_55 (q := 58) rfl fun T76 X76 e76 => ?_
  refine o_aloadN X76 hx hby d28_58 rfl rfl (q := 59) rfl ?_
  have qz78 := (((((((((F_indexed.keep K8 (ninS (Ne.symm n2x) (ninS (Ne.symm n3x) nin0))).keep K16 (ninS (Ne.symm n2x) (ninS (Ne.symm n3x) nin0))).keep K25 (ninS (Ne.symm n2x) (ninS (Ne.symm n3x) nin0))).keep K34 (ninS (Ne.symm n2x) (ninS (Ne.symm n3x) nin0))).keep K43 (ninS (Ne.symm n2x) (ninS (Ne.symm n3x) nin0))).keep K52 (ninS (Ne.symm n2x) (ninS (Ne.symm n3x) nin0))).keep K61 (ninS (Ne.symm n2x) (ninS (Ne.symm n3x) nin0))).keep K70 (ninS (Ne.symm n2x) (ninS (Ne.symm n3x) nin0))).other W72 (Or.inr (slot_ne (Or.inl (w_ hw 96 rfl)) (Or.inl (w_ hw 176 rfl)) (by decide) (t := .int) (t' := .int) (by decide) (by decide))))
  refine o_getF X76 hx hZ hown hby (w_ hw 95 rfl) Via.refl e76 qz78 d28_59 (q := 62) rfl fun T77 X77 e77 => ?_
  refine o_icY X77 hx hby d28_62 (feq (by decide : ¬ ((8 : Int32) = (14 : Int32)))).2 (by decide) (q := 106) (by decide) ?_
  have qz79 := ((((((((((Keep.refl h0 [o0, lf, ln]).trans K8 (allS (Or.inl (List.mem_of_getElem? (i := 1) rfl)) (allS (Or.inl (List.mem_of_getElem? (i := 2) rfl)) all0))).trans K16 (allS (Or.inl (List.mem_of_getElem? (i := 1) rfl)) (allS (Or.inl (List.mem_of_getElem? (i := 2) rfl)) all0))).trans K25 (allS (Or.inl (List.mem_of_getElem? (i := 1) rfl)) (allS (Or.inl (List.mem_of_getElem? (i := 2) rfl)) all0))).trans K34 (allS (Or.inl (List.mem_of_getElem? (i := 1) rfl)) (allS (Or.inl (List.mem_of_getElem? (i := 2) rfl)) all0))).trans K43 (allS (Or.inl (List.mem_of_getElem? (i := 1) rfl)) (allS (Or.inl (List.mem_of_getElem? (i := 2) rfl)) all0))).trans K52 (allS (Or.inl (List.mem_of_getElem? (i := 1) rfl)) (allS (Or.inl (List.mem_of_getElem? (i := 2) rfl)) all0))).trans K61 (allS (Or.inl (List.mem_of_getElem? (i := 1) rfl)) (allS (Or.inl (List.mem_of_getElem? (i := 2) rfl)) all0))).trans K70 (allS (Or.inl (List.mem_of_getElem? (i := 1) rfl)) (allS (Or.inl (List.mem_of_getElem? (i := 2) rfl)) all0))).wr W72 (Or.inl (List.mem_of_getElem? (i := 0) rfl)))
  have qz80 := (qz74.wr W72)
  have qz81 := (((((((((F_rows.keep K8 (ninS (Ne.symm n2x) (ninS (Ne.symm n3x) nin0))).keep K16 (ninS (Ne.symm n2x) (ninS (Ne.symm n3x) nin0))).keep K25 (ninS (Ne.symm n2x) (ninS (Ne.symm n3x) nin0))).keep K34 (ninS (Ne.symm n2x) (ninS (Ne.symm n3x) nin0))).keep K43 (ninS (Ne.symm n2x) (ninS (Ne.symm n3x) nin0))).keep K52 (ninS (Ne.symm n2x) (ninS (Ne.symm n3x) nin0))).keep K61 (ninS (Ne.symm n2x) (ninS (Ne.symm n3x) nin0))).keep K70 (ninS (Ne.symm n2x) (ninS (Ne.symm n3x) nin0))).other W72 (Or.inr (slot_ne (Or.inr (w_ hw 78 rfl)) (Or.inl (w_ hw 176 rfl)) (by decide) (t := (.object "com/example/headway/headway/engine/RowBuffer")) (t' := .int) (by decide) (by decide))))
  have qz82 := (((((((((F_keyColumns.keep K8 (ninS (Ne.symm n2x) (ninS (Ne.symm n3x) nin0))).keep K16 (ninS (Ne.symm n2x) (ninS (Ne.symm n3x) nin0))).keep K25 (ninS (Ne.symm n2x) (ninS (Ne.symm n3x) nin0))).keep K34 (ninS (Ne.symm n2x) (ninS (Ne.symm n3x) nin0))).keep K43 (ninS (Ne.symm n2x) (ninS (Ne.symm n3x) nin0))).keep K52 (ninS (Ne.symm n2x) (ninS (Ne.symm n3x) nin0))).keep K61 (ninS (Ne.symm n2x) (ninS (Ne.symm n3x) nin0))).keep K70 (ninS (Ne.symm n2x) (ninS (Ne.symm n3x) nin0))).other W72 (Or.inr (slot_ne (Or.inr (w_ hw 81 rfl)) (Or.inl (w_ hw 176 rfl)) (by decide) (t := (.array .int)) (t' := .int) (by decide) (by decide))))
  have qz83 := (((((((((F_firstInBucket.keep K8 (ninS (Ne.symm n2x) (ninS (Ne.symm n3x) nin0))).keep K16 (ninS (Ne.symm n2x) (ninS (Ne.symm n3x) nin0))).keep K25 (ninS (Ne.symm n2x) (ninS (Ne.symm n3x) nin0))).keep K34 (ninS (Ne.symm n2x) (ninS (Ne.symm n3x) nin0))).keep K43 (ninS (Ne.symm n2x) (ninS (Ne.symm n3x) nin0))).keep K52 (ninS (Ne.symm n2x) (ninS (Ne.symm n3x) nin0))).keep K61 (ninS (Ne.symm n2x) (ninS (Ne.symm n3x) nin0))).keep K70 (ninS (Ne.symm n2x) (ninS (Ne.symm n3x) nin0))).other W72 (Or.inr (slot_ne (Or.inl (w_ hw 69 rfl)) (Or.inl (w_ hw 176 rfl)) (by decide) (t := (.array .int)) (t' := .int) (by decide) (by decide))))
  have qz84 := (((((((((F_nextInBucket.keep K8 (ninS (Ne.symm n2x) (ninS (Ne.symm n3x) nin0))).keep K16 (ninS (Ne.symm n2x) (ninS (Ne.symm n3x) nin0))).keep K25 (ninS (Ne.symm n2x) (ninS (Ne.symm n3x) nin0))).keep K34 (ninS (Ne.symm n2x) (ninS (Ne.symm n3x) nin0))).keep K43 (ninS (Ne.symm n2x) (ninS (Ne.symm n3x) nin0))).keep K52 (ninS (Ne.symm n2x) (ninS (Ne.symm n3x) nin0))).keep K61 (ninS (Ne.symm n2x) (ninS (Ne.symm n3x) nin0))).keep K70 (ninS (Ne.symm n2x) (ninS (Ne.symm n3x) nin0))).other W72 (Or.inr (slot_ne (Or.inl (w_ hw 71 rfl)) (Or.inl (w_ hw 176 rfl)) (by decide) (t := (.array .int)) (t' := .int) (by decide) (by decide))))
  have qz85 := ((qz64.keep K70 (ninS (Ne.symm n2x) (ninS (Ne.symm n3x) nin0))).other W72 (Or.inr (slot_ne (Or.inl (w_ hw 73 rfl)) (Or.inl (w_ hw 176 rfl)) (by decide) (t := (.array .int)) (t' := .int) (by decide) (by decide))))
  have qz86 := (((((((((F_loadLimit.keep K8 (ninS (Ne.symm n2x) (ninS (Ne.symm n3x) nin0))).keep K16 (ninS (Ne.symm n2x) (ninS (Ne.symm n3x) nin0))).keep K25 (ninS (Ne.symm n2x) (ninS (Ne.symm n3x) nin0))).keep K34 (ninS (Ne.symm n2x) (ninS (Ne.symm n3x) nin0))).keep K43 (ninS (Ne.symm n2x) (ninS (Ne.symm n3x) nin0))).keep K52 (ninS (Ne.symm n2x) (ninS (Ne.symm n3x) nin0))).keep K61 (ninS (Ne.symm n2x) (ninS (Ne.symm n3x) nin0))).keep K70 (ninS (Ne.symm n2x) (ninS (Ne.symm n3x) nin0))).other W72 (Or.inr (slot_ne (Or.inl (w_ hw 76 rfl)) (Or.inl (w_ hw 176 rfl)) (by decide) (t := .int) (t' := .int) (by decide) (by decide))))
  have qz87 := ((qz67.keep K70 (ninS (Ne.symm n2x) (ninS (Ne.symm n3x) nin0))).other W72 (Or.inr (slot_ne (Or.inl (w_ hw 110 rfl)) (Or.inl (w_ hw 176 rfl)) (by decide) (t := (.array .int)) (t' := .int) (by decide) (by decide))))
  have qz88 := ((qz69.keep K70 (ninS (Ne.symm n2x) (ninS (Ne.symm n3x) nin0))).other W72 (Or.inr (slot_ne (Or.inl (w_ hw 112 rfl)) (Or.inl (w_ hw 176 rfl)) (by decide) (t := (.array .int)) (t' := .int) (by decide) (by decide))))
  have qz89 := (Vf70.other W72 n2x)
  have qz90 := (Vn70.other W72 n3x)
  exact own_outV X77 hx hlk hret (hb hby d28_106) (Q := Q28a Z o0 rb kc fa na ha LL lf ln kl km kh h0 n0) (by rw [e77]; exact ⟨rfl, (Fr.snoc X72 N70 g_o0), qz79, qz80, qz81, qz82, qz83, qz84, qz85, qz86, qz78, qz87, qz88, Fw72, qz89, qz90⟩) (by decide) (by decide)
theorem d28_65 : decode prog_57_method_13_code 65 = .ok (.aload_n 0, 1) := by decide +kernel
theorem d28_66 : decode prog_57_method_13_code 66 = .ok (.aload_n 0, 1) := by decide +kernel
theorem d28_67 : decode prog_57_method_13_code 67 = .ok (.getfield 80, 3) := by decide +kernel
theorem d28_70 : decode prog_57_method_13_code 70 = .ok (.putfield 9, 3) := by decide +kernel
theorem d28_73 : decode prog_57_method_13_code 73 = .ok (.aload_n 0, 1) := by decide +kernel
theorem d28_74 : decode prog_57_method_13_code 74 = .ok (.aload_n 0, 1) := by decide +kernel
theorem d28_75 : decode prog_57_method_13_code 75 = .ok (.getfield 89, 3) := by decide +kernel
theorem d28_78 : decode prog_57_method_13_code 78 = .ok (.putfield 13, 3) := by decide +kernel
theorem d28_81 : decode prog_57_method_13_code 81 = .ok (.aload_n 0, 1) := by decide +kernel
theorem d28_82 : decode prog_57_method_13_code 82 = .ok (.aconst_null, 1) := by decide +kernel
theorem d28_83 : decode prog_57_method_13_code 83 = .ok (.putfield 80, 3) := by decide +kernel
theorem d28_86 : decode prog_57_method_13_code 86 = .ok (.aload_n 0, 1) := by decide +kernel
theorem d28_87 : decode prog_57_method_13_code 87 = .ok (.aconst_null, 1) := by decide +kernel
theorem d28_88 : decode prog_57_method_13_code 88 = .ok (.putfield 89, 3) := by decide +kernel
theorem d28_91 : decode prog_57_method_13_code 91 = .ok (.aload_n 0, 1) := by decide +kernel
theorem d28_92 : decode prog_57_method_13_code 92 = .ok (.ldc2_w 19, 3) := by decide +kernel
theorem d28_95 : decode prog_57_method_13_code 95 = .ok (.aload_n 0, 1) := by decide +kernel
theorem d28_96 : decode prog_57_method_13_code 96 = .ok (.getfield 9, 3) := by decide +kernel
theorem d28_99 : decode prog_57_method_13_code 99 = .ok (.arraylength, 1) := by decide +kernel
theorem d28_100 : decode prog_57_method_13_code 100 = .ok (.i2d, 1) := by decide +kernel
theorem d28_101 : decode prog_57_method_13_code 101 = .ok (.dmul, 1) := by decide +kernel
theorem d28_102 : decode prog_57_method_13_code 102 = .ok (.d2i, 1) := by decide +kernel
theorem d28_103 : decode prog_57_method_13_code 103 = .ok (.putfield 21, 3) := by decide +kernel
theorem ef_28b (m : MethodId) (x0 : Addr) : entryFrame m #[(.ref x0)] 3 = mkF m 0 #[.val (.ref x0), .unset, .unset] [] := by first | (simp [entryFrame, mkF, argsToLocals, Value.category]; done) | rfl
def Q28b (Z : State) (o0 rb kc fa na ha : Addr) (LL : Int32) (lf ln : Addr) (kl km kh : ClassId) (h0 : Heap) (n0 : Nat) (v : Option Value) (h : Heap) (L : List Loc) : Prop := v = none ∧ Fr n0 L ∧ Keep h0 h [o0, lf, ln] ∧ Exa Z h o0 "com/example/headway/headway/engine/HashIndex" ∧ Fld Z h o0 "com/example/headway/headway/engine/HashIndex" "rows" "Lcom/example/headway/headway/engine/RowBuffer;" (.ref rb) ∧ Fld Z h o0 "com/example/headway/headway/engine/HashIndex" "keyColumns" "[I" (.ref kc) ∧ Fld Z h o0 "com/example/headway/headway/engine/HashIndex" "firstInBucket" "[I" (.ref lf) ∧ Fld Z h o0 "com/example/headway/headway/engine/HashIndex" "nextInBucket" "[I" (.ref ln) ∧ Fld Z h o0 "com/example/headway/headway/engine/HashIndex" "hashes" "[I" (.ref ha) ∧ Fld Z h o0 "com/example/headway/headway/engine/HashIndex" "loadLimit" "I" (.int 24) ∧ Fld Z h o0 "com/example/headway/headway/engine/HashIndex" "indexed" "I" (.int 15) ∧ Fld Z h o0 "com/example/headway/headway/engine/HashIndex" "largerFirstInBucket" "[I" .null ∧ Fld Z h o0 "com/example/headway/headway/engine/HashIndex" "largerNextInBucket" "[I" .null ∧ Fld Z h o0 "com/example/headway/headway/engine/HashIndex" "relinked" "I" (.int 15) ∧ Arv Z h lf kl .int 32 (.int 14 :: (List.replicate 31 (.int (-1)))) (.int 0) ∧ Arv Z h ln km .int 16 [(.int (-1 : Int32)), (.int 0), (.int 1), (.int 2), (.int 3), (.int 4), (.int 5), (.int 6), (.int 7), (.int 8), (.int 9), (.int 10), (.int 11), (.int 12), (.int 13), (.int 0)] (.int 0)
set_option maxRecDepth 65536 in
set_option maxHeartbeats 40000000 in
theorem rm28b (l : Launch) (Z : State) (a0 : Array Value) (hw : ∀ d ∈ tables_1, d.before a0 Z = true) (ws : List Jvm.Cond) (o0 rb kc fa na ha : Addr) (LL : Int32) (lf ln : Addr) (kl km kh : ClassId) (h0 : Heap) (n0 : Nat) (Z0 : n0 ≤ h0.size) (E : Exa Z h0 o0 "com/example/headway/headway/engine/HashIndex") (F_rows : Fld Z h0 o0 "com/example/headway/headway/engine/HashIndex" "rows" "Lcom/example/headway/headway/engine/RowBuffer;" (.ref rb)) (F_keyColumns : Fld Z h0 o0 "com/example/headway/headway/engine/HashIndex" "keyColumns" "[I" (.ref kc)) (F_firstInBucket : Fld Z h0 o0 "com/example/headway/headway/engine/HashIndex" "firstInBucket" "[I" (.ref fa)) (F_nextInBucket : Fld Z h0 o0 "com/example/headway/headway/engine/HashIndex" "nextInBucket" "[I" (.ref na)) (F_hashes : Fld Z h0 o0 "com/example/headway/headway/engine/HashIndex" "hashes" "[I" (.ref ha)) (F_loadLimit : Fld Z h0 o0 "com/example/headway/headway/engine/HashIndex" "loadLimit" "I" (.int LL)) (F_indexed : Fld Z h0 o0 "com/example/headway/headway/engine/HashIndex" "indexed" "I" (.int 15)) (F_largerFirstInBucket : Fld Z h0 o0 "com/example/headway/headway/engine/HashIndex" "largerFirstInBucket" "[I" (.ref lf)) (F_largerNextInBucket : Fld Z h0 o0 "com/example/headway/headway/engine/HashIndex" "largerNextInBucket" "[I" (.ref ln)) (F_relinked : Fld Z h0 o0 "com/example/headway/headway/engine/HashIndex" "relinked" "I" (.int 8)) (g_o0 : n0 ≤ o0) (Vf : Arv Z h0 lf kl .int 32 (.int 7 :: (List.replicate 31 (.int (-1)))) (.int 0)) (Vn : Arv Z h0 ln km .int 16 [(.int (-1 : Int32)), (.int 0), (.int 1), (.int 2), (.int 3), (.int 4), (.int 5), (.int 6), (.int 0), (.int 0), (.int 0), (.int 0), (.int 0), (.int 0), (.int 0), (.int 0)] (.int 0)) (Vh : Arv Z h0 ha kh .int 16 (zr 16) (.int 0)) (glf : n0 ≤ lf) (gln : n0 ≤ ln) (n1x : lf ≠ ln) (n2x : lf ≠ o0) (n3x : ln ≠ o0) (n4x : ha ≠ lf) (n5x : ha ≠ ln) (n6x : ha ≠ o0) :
    MetFree l mn_27 (head1 (Jvm.Cond.code mn_27 prog_57_method_13_code 3 none :: ws) (⟨3, 0, 0, 43⟩ : Room)) (fun a U => a = #[(.ref o0)] ∧ Z.Warmed39 U.vm ∧ U.heap = h0) (fun _ _ _ _ _ => True) (fun _ U o U' => ∃ v L, o = .returned v ∧ Q28b Z o0 rb kc fa na ha LL lf ln kl km kh h0 n0 v U'.heap L ∧ FrameEnd U o U' L (⟨3, 0, 0, 43⟩ : Room).cells (⟨3, 0, 0, 43⟩ : Room).slots) := by
  refine MetFree.of_bodySF (plainFor_of_name pn_5) hisR ?_
  intro p e s m args below meth c s₁ Bd hml0 hP hK
  obtain ⟨rfl, hZ, hh⟩ := hP
  have hx := Bd.exec
  have hby := Bd.bytes
  have hml : c.maxLocals = 3 := hml0
  have hown : s.vm.findClass "com/example/headway/headway/engine/HashIndex" = some m.cls := findClass_of_methodNamed Bd.named
  have hnm := (name_of_methodNamed Bd.named Bd.method).1
  have X0 : Stand p l e (⟨3, 0, 0, 43⟩ : Room) s m #[(.ref o0)] below meth c s₁ [] 0 0 := Stand.of_body Bd
  have e0 : s₁.heap = h0 := by rw [← hh, Bd.state]; rfl
  have N0 := Fr.nil n0
  have hret := Bd.returns
  have hlk := BodyLoose.notSynchronized Bd
  show own_Out p e below (fun o U' => ∃ v L, o = .returned v ∧ Q28b Z o0 rb kc fa na ha LL lf ln kl km kh h0 n0 v U'.heap L ∧ FrameEnd s o U' L (⟨3, 0, 0, 43⟩ : Room).cells (⟨3, 0, 0, 43⟩ : Room).slots) (s₁.setTop (entryFrame m #[(.ref o0)] 3))
  refine own_of (fun t k => castTop (ef_28b m o0) k) ?_
  show own_Out p e below _ (s₁.setTop (mkF m 0 #[rv o0, .unset, .unset] []))
  refine o_aloadN X0 hx hby d28_0 rfl rfl (q := 1) rfl ?_
  refine o_getF X0 hx hZ hown hby (w_ hw 95 rfl) Via.refl e0 F_indexed d28_1 (q := 4) rfl fun T1 X1 e1 => ?_
  refine o_aloadN X1 hx hby d28_4 rfl rfl (q := 5) rfl ?_
  refine o_getF X1 hx hZ hown hby (w_ hw 175 rfl) Via.refl e1 F_relinked d28_5 (q := 8) rfl fun T2 X2 e2 => ?_
  refine o_bipush X2 hx hby d28_8 (z := 8) rfl (q := 10) rfl ?_
  refine o_iadd X2 hx hby d28_10 (z := 16) rfl (q := 11) rfl ?_
  obtain ⟨_, _, ⟨T3, L3, k3, n3⟩, -, X3, ⟨Lc3, hQ3, l3, y3, z3⟩, st3⟩ := Jvm.LawKit.callS X2 hx (y := mn_26) hown (mvT hZ (w_ hw 181 rfl)) (mvT hZ (w_ hw 182 rfl)) (mvT hZ (w_ hw 147 rfl)) (mvT hZ (w_ hw 183 rfl)) (by decide) (backOf (W := 0) (rm29a15b16 l Z a0 hw []  h0 n0 Z0 ) hZ (w_ hw 183 rfl) (w_ hw 147 rfl) (by decide) (by decide)) (g := (mkF m 11 #[rv o0, .unset, .unset] [.int 16, .int 15])) rfl (by rw [hml]; rfl) (argsL := [(.int 15), (.int 16)]) (rest := []) (lenOf pd_4 rfl) rfl (by show 2 * 0 + _ ≤ _; exact Nat.le_of_eq rfl) (hb hby d28_11) (fun _ _ => ⟨rfl, e2, (by decide : 0 + 0 ≤ _), (by decide : 0 + 0 ≤ _)⟩)
  dsimp only [Pt.U, Pt.locs, Pt.cells, Pt.slots] at X3 l3 y3 z3 st3 hQ3
  subst l3 y3 z3
  obtain ⟨rfl, N3q, hh3⟩ := hQ3
  have N3 := Fr.app N0 N3q
  refine own_of st3 ?_
  show own_Out p e below _ (T3.setTop (mkF m 14 #[rv o0, .unset, .unset] [.int 15]))
  refine o_istoreN X3 hx hby d28_14 (l' := #[rv o0, iv 15, .unset]) rfl (q := 15) rfl ?_
  refine o_aloadN X3 hx hby d28_15 rfl rfl (q := 16) rfl ?_
  refine o_getF X3 hx hZ hown hby (w_ hw 175 rfl) Via.refl hh3 F_relinked d28_16 (q := 19) rfl fun T4 X4 e4 => ?_
  refine o_istoreN X4 hx hby d28_19 (l' := #[rv o0, iv 15, iv 8]) rfl (q := 20) rfl ?_
  refine o_iloadN X4 hx hby d28_20 rfl (q := 21) rfl ?_
  refine o_iloadN X4 hx hby d28_21 rfl (q := 22) rfl ?_
  refine o_icN X4 hx hby d28_22 (tlt (by decide : (8 : Int32) < (15 : Int32))).2.1 (q := 25) rfl ?_
  refine o_iloadN X4 hx hby d28_25 rfl (q := 26) rfl ?_
  refine o_aloadN X4 hx hby d28_26 rfl rfl (q := 27) rfl ?_
  refine o_getF X4 hx hZ hown hby (w_ hw 72 rfl) Via.refl e4 F_hashes d28_27 (q := 30) rfl fun T5 X5 e5 => ?_
  refine o_iloadN X5 hx hby d28_30 rfl (q := 31) rfl ?_
  refine o_iaV X5 hx hby hZ e5 Vh ⟨by decide, by decide⟩ (v := .int 0) rfl d28_31 (q := 32) rfl ?_
  refine o_aloadN X5 hx hby d28_32 rfl rfl (q := 33) rfl ?_
  refine o_getF X5 hx hZ hown hby (w_ hw 109 rfl) Via.refl e5 F_largerFirstInBucket d28_33 (q := 36) rfl fun T6 X6 e6 => ?_
  refine o_aloadN X6 hx hby d28_36 rfl rfl (q := 37) rfl ?_
  refine o_getF X6 hx hZ hown hby (w_ hw 111 rfl) Via.refl e6 F_largerNextInBucket d28_37 (q := 40) rfl fun T7 X7 e7 => ?_
  obtain ⟨_, _, ⟨T8, L8, k8, n8⟩, -, X8, ⟨Lc8, hQ8, l8, y8, z8⟩, st8⟩ := Jvm.LawKit.callS X7 hx (y := mn_17) hown (mvT hZ (w_ hw 157 rfl)) (mvT hZ (w_ hw 158 rfl)) (mvT hZ (w_ hw 63 rfl)) (mvT hZ (w_ hw 159 rfl)) (by decide) (backOf (W := 0) (rm24n32 l Z a0 hw [] (8 : Int32) lf ln kl km (16 : Int32) (7 : Int32) (List.replicate 31 (.int (-1))) [(.int (-1 : Int32)), (.int 0), (.int 1), (.int 2), (.int 3), (.int 4), (.int 5), (.int 6), (.int 0), (.int 0), (.int 0), (.int 0), (.int 0), (.int 0), (.int 0), (.int 0)] h0 n0 Z0 Vf Vn glf gln n1x ⟨by decide, by decide⟩ (Nat.le_of_ble_eq_true rfl)) hZ (w_ hw 159 rfl) (w_ hw 63 rfl) (by decide) (by decide)) (g := (mkF m 40 #[rv o0, iv 15, iv 8] [.ref ln, .ref lf, .int 0, .int 8])) rfl (by rw [hml]; rfl) (argsL := [(.int 8), (.int 0), (.ref lf), (.ref ln)]) (rest := []) (lenOf pd_12 rfl) rfl (by show 2 * 0 + _ ≤ _; exact Nat.le_of_eq rfl) (hb hby d28_40) (fun _ _ => ⟨rfl, e7, (by decide : 0 + 0 ≤ _), (by decide : 0 + 0 ≤ _)⟩)
  dsimp only [Pt.U, Pt.locs, Pt.cells, Pt.slots] at X8 l8 y8 z8 st8 hQ8
  subst l8 y8 z8
  obtain ⟨rfl, N8q, K8, Vf8, Vn8⟩ := hQ8
  have N8 := Fr.app N3 N8q
  refine own_of st8 ?_
  show own_Out p e below _ (T8.setTop (mkF m 43 #[rv o0, iv 15, iv 8] []))
  refine o_iinc X8 hx hby d28_43 rfl (l' := #[rv o0, iv 15, iv 9]) rfl (q := 46) rfl ?_
  refine o_goto X8 hx hby d28_46 (by decide) (q := 20) (by decide) ?_
  refine o_iloadN X8 hx hby d28_20 rfl (q := 21) rfl ?_
  refine o_iloadN X8 hx hby d28_21 rfl (q := 22) rfl ?_
  refine o_icN X8 hx hby d28_22 (tlt (by decide : (9 : Int32) < (15 : Int32))).2.1 (q := 25) rfl ?_
  refine o_iloadN X8 hx hby d28_25 rfl (q := 26) rfl ?_
  refine o_aloadN X8 hx hby d28_26 rfl rfl (q := 27) rfl ?_
  have qz10 := (F_hashes.keep K8 (ninS (Ne.symm n2x) (ninS (Ne.symm n3x) nin0)))
  refine o_getF X8 hx hZ hown hby (w_ hw 72 rfl) Via.refl rfl qz10 d28_27 (q := 30) rfl fun T9 X9 e9 => ?_
  refine o_iloadN X9 hx hby d28_30 rfl (q := 31) rfl ?_
  have qz11 := (Vh.keep K8 (ninS n4x (ninS n5x nin0)))
  refine o_iaV X9 hx hby hZ e9 qz11 ⟨by decide, by decide⟩ (v := .int 0) rfl d28_31 (q := 32) rfl ?_
  refine o_aloadN X9 hx hby d28_32 rfl rfl (q := 33) rfl ?_
  have qz13 := (F_largerFirstInBucket.keep K8 (ninS (Ne.symm n2x) (ninS (Ne.symm n3x) nin0)))
  refine o_getF X9 hx hZ hown hby (w_ hw 109 rfl) Via.refl e9 qz13 d28_33 (q := 36) rfl fun T12 X12 e12 => ?_
  refine o_aloadN X12 hx hby d28_36 rfl rfl (q := 37) rfl ?_
  have qz15 := (F_largerNextInBucket.keep K8 (ninS (Ne.symm n2x) (ninS (Ne.symm n3x) nin0)))
  refine o_getF X12 hx hZ hown hby (w_ hw 111 rfl) Via.refl e12 qz15 d28_37 (q := 40) rfl fun T14 X14 e14 => ?_
  have qz17 := (Nat.le_trans Z0 K8.1)
  obtain ⟨_, _, ⟨T16, L16, k16, n16⟩, -, X16, ⟨Lc16, hQ16, l16, y16, z16⟩, st16⟩ := Jvm.LawKit.callS X14 hx (y := mn_17) hown (mvT hZ (w_ hw 157 rfl)) (mvT hZ (w_ hw 158 rfl)) (mvT hZ (w_ hw 63 rfl)) (mvT hZ (w_ hw 159 rfl)) (by decide) (backOf (W := 0) (rm24n32 l Z a0 hw [] (9 : Int32) lf ln kl km (16 : Int32) (8 : Int32) (List.replicate 31 (.int (-1))) [(.int (-1 : Int32)), (.int 0), (.int 1), (.int 2), (.int 3), (.int 4), (.int 5), (.int 6), (.int 7), (.int 0), (.int 0), (.int 0), (.int 0), (.int 0), (.int 0), (.int 0)] T8.heap n0 qz17 Vf8 Vn8 glf gln n1x ⟨by decide, by decide⟩ (Nat.le_of_ble_eq_true rfl)) hZ (w_ hw 159 rfl) (w_ hw 63 rfl) (by decide) (by decide)) (g := (mkF m 40 #[rv o0, iv 15, iv 9] [.ref ln, .ref lf, .int 0, .int 9])) rfl (by rw [hml]; rfl) (argsL := [(.int 9), (.int 0), (.ref lf), (.ref ln)]) (rest := []) (lenOf pd_12 rfl) rfl (by show 2 * 0 + _ ≤ _; exact Nat.le_of_eq rfl) (hb hby d28_40) (fun _ _ => ⟨rfl, e14, (by decide : 0 + 0 ≤ _), (by decide : 0 + 0 ≤ _)⟩)
  dsimp only [Pt.U, Pt.locs, Pt.cells, Pt.slots] at X16 l16 y16 z16 st16 hQ16
  subst l16 y16 z16
  obtain ⟨rfl, N16q, K16, Vf16, Vn16⟩ := hQ16
  have N16 := Fr.app N8 N16q
  refine own_of st16 ?_
  show own_Out p e below _ (T16.setTop (mkF m 43 #[rv o0, iv 15, iv 9] []))
  refine o_iinc X16 hx hby d28_43 rfl (l' := #[rv o0, iv 15, iv 10]) rfl (q := 46) rfl ?_
  refine o_goto X16 hx hby d28_46 (by decide) (q := 20) (by decide) ?_
  refine o_iloadN X16 hx hby d28_20 rfl (q := 21) rfl ?_
  refine o_iloadN X16 hx hby d28_21 rfl (q := 22) rfl ?_
  refine o_icN X16 hx hby d28_22 (tlt (by decide : (10 : Int32) < (15 : Int32))).2.1 (q := 25) rfl ?_
  refine o_iloadN X16 hx hby d28_25 rfl (q := 26) rfl ?_
  refine o_aloadN X16 hx hby d28_26 rfl rfl (q := 27) rfl ?_
  have qz19 := (qz10.keep K16 (ninS (Ne.symm n2x) (ninS (Ne.symm n3x) nin0)))
  refine o_getF X16 hx hZ hown hby (w_ hw 72 rfl) Via.refl rfl qz19 d28_27 (q := 30) rfl fun T18 X18 e18 => ?_
  refine o_iloadN X18 hx hby d28_30 rfl (q := 31) rfl ?_
  have qz20 := (qz11.keep K16 (ninS n4x (ninS n5x nin0)))
  refine o_iaV X18 hx hby hZ e18 qz20 ⟨by decide, by decide⟩ (v := .int 0) rfl d28_31 (q := 32) rfl ?_
  refine o_aloadN X18 hx hby d28_32 rfl rfl (q := 33) rfl ?_
  have qz22 := (qz13.keep K16 (ninS (Ne.symm n2x) (ninS (Ne.symm n3x) nin0)))
  refine o_getF X18 hx hZ hown hby (w_ hw 109 rfl) Via.refl e18 qz22 d28_33 (q := 36) rfl fun T21 X21 e21 => ?_
  refine o_aloadN X21 hx hby d28_36 rfl rfl (q := 37) rfl ?_
  have qz24 := (qz15.keep K16 (ninS (Ne.symm n2x) (ninS (Ne.symm n3x) nin0)))
  refine o_getF X21 hx hZ hown hby (w_ hw 111 rfl) Via.refl e21 qz24 d28_37 (q := 40) rfl fun T23 X23 e23 => ?_
  have qz26 := (Nat.le_trans qz17 K16.1)
  obtain ⟨_, _, ⟨T25, L25, k25, n25⟩, -, X25, ⟨Lc25, hQ25, l25, y25, z25⟩, st25⟩ := Jvm.LawKit.callS X23 hx (y := mn_17) hown (mvT hZ (w_ hw 157 rfl)) (mvT hZ (w_ hw 158 rfl)) (mvT hZ (w_ hw 63 rfl)) (mvT hZ (w_ hw 159 rfl)) (by decide) (backOf (W := 0) (rm24n32 l Z a0 hw [] (10 : Int32) lf ln kl km (16 : Int32) (9 : Int32) (List.replicate 31 (.int (-1))) [(.int (-1 : Int32)), (.int 0), (.int 1), (.int 2), (.int 3), (.int 4), (.int 5), (.int 6), (.int 7), (.int 8), (.int 0), (.int 0), (.int 0), (.int 0), (.int 0), (.int 0)] T16.heap n0 qz26 Vf16 Vn16 glf gln n1x ⟨by decide, by decide⟩ (Nat.le_of_ble_eq_true rfl)) hZ (w_ hw 159 rfl) (w_ hw 63 rfl) (by decide) (by decide)) (g := (mkF m 40 #[rv o0, iv 15, iv 10] [.ref ln, .ref lf, .int 0, .int 10])) rfl (by rw [hml]; rfl) (argsL := [(.int 10), (.int 0), (.ref lf), (.ref ln)]) (rest := []) (lenOf pd_12 rfl) rfl (by show 2 * 0 + _ ≤ _; exact Nat.le_of_eq rfl) (hb hby d28_40) (fun _ _ => ⟨rfl, e23, (by decide : 0 + 0 ≤ _), (by decide : 0 + 0 ≤ _)⟩)
  dsimp only [Pt.U, Pt.locs, Pt.cells, Pt.slots] at X25 l25 y25 z25 st25 hQ25
  subst l25 y25 z25
  obtain ⟨rfl, N25q, K25, Vf25, Vn25⟩ := hQ25
  have N25 := Fr.app N16 N25q
  refine own_of st25 ?_
  show own_Out p e below _ (T25.setTop (mkF m 43 #[rv o0, iv 15, iv 10] []))
  refine o_iinc X25 hx hby d28_43 rfl (l' := #[rv o0, iv 15, iv 11]) rfl (q := 46) rfl ?_
  refine o_goto X25 hx hby d28_46 (by decide) (q := 20) (by decide) ?_
  refine o_iloadN X25 hx hby d28_20 rfl (q := 21) rfl ?_
  refine o_iloadN X25 hx hby d28_21 rfl (q := 22) rfl ?_
  refine o_icN X25 hx hby d28_22 (tlt (by decide : (11 : Int32) < (15 : Int32))).2.1 (q := 25) rfl ?_
  refine o_iloadN X25 hx hby d28_25 rfl (q := 26) rfl ?_
  refine o_aloadN X25 hx hby d28_26 rfl rfl (q := 27) rfl ?_
  have qz28 := (qz19.keep K25 (ninS (Ne.symm n2x) (ninS (Ne.symm n3x) nin0)))
  refine o_getF X25 hx hZ hown hby (w_ hw 72 rfl) Via.refl rfl qz28 d28_27 (q := 30) rfl fun T27 X27 e27 => ?_
  refine o_iloadN X27 hx hby d28_30 rfl (q := 31) rfl ?_
  have qz29 := (qz20.keep K25 (ninS n4x (ninS n5x nin0)))
  refine o_iaV X27 hx hby hZ e27 qz29 ⟨by decide, by decide⟩ (v := .int 0) rfl d28_31 (q := 32) rfl ?_
  refine o_aloadN X27 hx hby d28_32 rfl rfl (q := 33) rfl ?_
  have qz31 := (qz22.keep K25 (ninS (Ne.symm n2x) (ninS (Ne.symm n3x) nin0)))
  refine o_getF X27 hx hZ hown hby (w_ hw 109 rfl) Via.refl e27 qz31 d28_33 (q := 36) rfl fun T30 X30 e30 => ?_
  refine o_aloadN X30 hx hby d28_36 rfl rfl (q := 37) rfl ?_
  have qz33 := (qz24.keep K25 (ninS (Ne.symm n2x) (ninS (Ne.symm n3x) nin0)))
  refine o_getF X30 hx hZ hown hby (w_ hw 111 rfl) Via.refl e30 qz33 d28_37 (q := 40) rfl fun T32 X32 e32 => ?_
  have qz35 := (Nat.le_trans qz26 K25.1)
  obtain ⟨_, _, ⟨T34, L34, k34, n34⟩, -, X34, ⟨Lc34, hQ34, l34, y34, z34⟩, st34⟩ := Jvm.LawKit.callS X32 hx (y := mn_17) hown (mvT hZ (w_ hw 157 rfl)) (mvT hZ (w_ hw 158 rfl)) (mvT hZ (w_ hw 63 rfl)) (mvT hZ (w_ hw 159 rfl)) (by decide) (backOf (W := 0) (rm24n32 l Z a0 hw [] (11 : Int32) lf ln kl km (16 : Int32) (10 : Int32) (List.replicate 31 (.int (-1))) [(.int (-1 : Int32)), (.int 0), (.int 1), (.int 2), (.int 3), (.int 4), (.int 5), (.int 6), (.int 7), (.int 8), (.int 9), (.int 0), (.int 0), (.int 0), (.int 0), (.int 0)] T25.heap n0 qz35 Vf25 Vn25 glf gln n1x ⟨by decide, by decide⟩ (Nat.le_of_ble_eq_true rfl)) hZ (w_ hw 159 rfl) (w_ hw 63 rfl) (by decide) (by decide)) (g := (mkF m 40 #[rv o0, iv 15, iv 11] [.ref ln, .ref lf, .int 0, .int 11])) rfl (by rw [hml]; rfl) (argsL := [(.int 11), (.int 0), (.ref lf), (.ref ln)]) (rest := []) (lenOf pd_12 rfl) rfl (by show 2 * 0 + _ ≤ _; exact Nat.le_of_eq rfl) (hb hby d28_40) (fun _ _ => ⟨rfl, e32, (by decide : 0 + 0 ≤ _), (by decide : 0 + 0 ≤ _)⟩)
  dsimp only [Pt.U, Pt.locs, Pt.cells, Pt.slots] at X34 l34 y34 z34 st34 hQ34
  subst l34 y34 z34
  obtain ⟨rfl, N34q, K34, Vf34, Vn34⟩ := hQ34
  have N34 := Fr.app N25 N34q
  refine own_of st34 ?_
  show own_Out p e below _ (T34.setTop (mkF m 43 #[rv o0, iv 15, iv 11] []))
  refine o_iinc X34 hx hby d28_43 rfl (l' := #[rv o0, iv 15, iv 12]) rfl (q := 46) rfl ?_
  refine o_goto X34 hx hby d28_46 (by decide) (q := 20) (by decide) ?_
  refine o_iloadN X34 hx hby d28_20 rfl (q := 21) rfl ?_
  refine o_iloadN X34 hx hby d28_21 rfl (q := 22) rfl ?_
  refine o_icN X34 hx hby d28_22 (tlt (by decide : (12 : Int32) < (15 : Int32))).2.1 (q := 25) rfl ?_
  refine o_iloadN X34 hx hby d28_25 rfl (q := 26) rfl ?_
  refine o_aloadN X34 hx hby d28_26 rfl rfl (q := 27) rfl ?_
  have qz37 := (qz28.keep K34 (ninS (Ne.symm n2x) (ninS (Ne.symm n3x) nin0)))
  refine o_getF X34 hx hZ hown hby (w_ hw 72 rfl) Via.refl rfl qz37 d28_27 (q := 30) rfl fun T36 X36 e36 => ?_
  refine o_iloadN X36 hx hby d28_30 rfl (q := 31) rfl ?_
  have qz38 := (qz29.keep K34 (ninS n4x (ninS n5x nin0)))
  refine o_iaV X36 hx hby hZ e36 qz38 ⟨by decide, by decide⟩ (v := .int 0) rfl d28_31 (q := 32) rfl ?_
  refine o_aloadN X36 hx hby d28_32 rfl rfl (q := 33) rfl ?_
  have qz40 := (qz31.keep K34 (ninS (Ne.symm n2x) (ninS (Ne.symm n3x) nin0)))
  refine o_getF X36 hx hZ hown hby (w_ hw 109 rfl) Via.refl e36 qz40 d28_33 (q := 36) rfl fun T39 X39 e39 => ?_
  refine o_aloadN X39 hx hby d28_36 rfl rfl (q := 37) rfl ?_
  have qz42 := (qz33.keep K34 (ninS (Ne.symm n2x) (ninS (Ne.symm n3x) nin0)))
  refine o_getF X39 hx hZ hown hby (w_ hw 111 rfl) Via.refl e39 qz42 d28_37 (q := 40) rfl fun T41 X41 e41 => ?_
  have qz44 := (Nat.le_trans qz35 K34.1)
  obtain ⟨_, _, ⟨T43, L43, k43, n43⟩, -, X43, ⟨Lc43, hQ43, l43, y43, z43⟩, st43⟩ := Jvm.LawKit.callS X41 hx (y := mn_17) hown (mvT hZ (w_ hw 157 rfl)) (mvT hZ (w_ hw 158 rfl)) (mvT hZ (w_ hw 63 rfl)) (mvT hZ (w_ hw 159 rfl)) (by decide) (backOf (W := 0) (rm24n32 l Z a0 hw [] (12 : Int32) lf ln kl km (16 : Int32) (11 : Int32) (List.replicate 31 (.int (-1))) [(.int (-1 : Int32)), (.int 0), (.int 1), (.int 2), (.int 3), (.int 4), (.int 5), (.int 6), (.int 7), (.int 8), (.int 9), (.int 10), (.int 0), (.int 0), (.int 0), (.int 0)] T34.heap n0 qz44 Vf34 Vn34 glf gln n1x ⟨by decide, by decide⟩ (Nat.le_of_ble_eq_true rfl)) hZ (w_ hw 159 rfl) (w_ hw 63 rfl) (by decide) (by decide)) (g := (mkF m 40 #[rv o0, iv 15, iv 12] [.ref ln, .ref lf, .int 0, .int 12])) rfl (by rw [hml]; rfl) (argsL := [(.int 12), (.int 0), (.ref lf), (.ref ln)]) (rest := []) (lenOf pd_12 rfl) rfl (by show 2 * 0 + _ ≤ _; exact Nat.le_of_eq rfl) (hb hby d28_40) (fun _ _ => ⟨rfl, e41, (by decide : 0 + 0 ≤ _), (by decide : 0 + 0 ≤ _)⟩)
  dsimp only [Pt.U, Pt.locs, Pt.cells, Pt.slots] at X43 l43 y43 z43 st43 hQ43
  subst l43 y43 z43
  obtain ⟨rfl, N43q, K43, Vf43, Vn43⟩ := hQ43
  have N43 := Fr.app N34 N43q
  refine own_of st43 ?_
  show own_Out p e below _ (T43.setTop (mkF m 43 #[rv o0, iv 15, iv 12] []))
  refine o_iinc X43 hx hby d28_43 rfl (l' := #[rv o0, iv 15, iv 13]) rfl (q := 46) rfl ?_
  refine o_goto X43 hx hby d28_46 (by decide) (q := 20) (by decide) ?_
  refine o_iloadN X43 hx hby d28_20 rfl (q := 21) rfl ?_
  refine o_iloadN X43 hx hby d28_21 rfl (q := 22) rfl ?_
  refine o_icN X43 hx hby d28_22 (tlt (by decide : (13 : Int32) < (15 : Int32))).2.1 (q := 25) rfl ?_
  refine o_iloadN X43 hx hby d28_25 rfl (q := 26) rfl ?_
  refine o_aloadN X43 hx hby d28_26 rfl rfl (q := 27) rfl ?_
  have qz46 := (qz37.keep K43 (ninS (Ne.symm n2x) (ninS (Ne.symm n3x) nin0)))
  refine o_getF X43 hx hZ hown hby (w_ hw 72 rfl) Via.refl rfl qz46 d28_27 (q := 30) rfl fun T45 X45 e45 => ?_
  refine o_iloadN X45 hx hby d28_30 rfl (q := 31) rfl ?_
  have qz47 := (qz38.keep K43 (ninS n4x (ninS n5x nin0)))
  refine o_iaV X45 hx hby hZ e45 qz47 ⟨by decide, by decide⟩ (v := .int 0) rfl d28_31 (q := 32) rfl ?_
  refine o_aloadN X45 hx hby d28_32 rfl rfl (q := 33) rfl ?_
  have qz49 := (qz40.keep K43 (ninS (Ne.symm n2x) (ninS (Ne.symm n3x) nin0)))
  refine o_getF X45 hx hZ hown hby (w_ hw 109 rfl) Via.refl e45 qz49 d28_33 (q := 36) rfl fun T48 X48 e48 => ?_
  refine o_aloadN X48 hx hby d28_36 rfl rfl (q := 37) rfl ?_
  have qz51 := (qz42.keep K43 (ninS (Ne.symm n2x) (ninS (Ne.symm n3x) nin0)))
  refine o_getF X48 hx hZ hown hby (w_ hw 111 rfl) Via.refl e48 qz51 d28_37 (q := 40) rfl fun T50 X50 e50 => ?_
  have qz53 := (Nat.le_trans qz44 K43.1)
  obtain ⟨_, _, ⟨T52, L52, k52, n52⟩, -, X52, ⟨Lc52, hQ52, l52, y52, z52⟩, st52⟩ := Jvm.LawKit.callS X50 hx (y := mn_17) hown (mvT hZ (w_ hw 157 rfl)) (mvT hZ (w_ hw 158 rfl)) (mvT hZ (w_ hw 63 rfl)) (mvT hZ (w_ hw 159 rfl)) (by decide) (backOf (W := 0) (rm24n32 l Z a0 hw [] (13 : Int32) lf ln kl km (16 : Int32) (12 : Int32) (List.replicate 31 (.int (-1))) [(.int (-1 : Int32)), (.int 0), (.int 1), (.int 2), (.int 3), (.int 4), (.int 5), (.int 6), (.int 7), (.int 8), (.int 9), (.int 10), (.int 11), (.int 0), (.int 0), (.int 0)] T43.heap n0 qz53 Vf43 Vn43 glf gln n1x ⟨by decide, by decide⟩ (Nat.le_of_ble_eq_true rfl)) hZ (w_ hw 159 rfl) (w_ hw 63 rfl) (by decide) (by decide)) (g := (mkF m 40 #[rv o0, iv 15, iv 13] [.ref ln, .ref lf, .int 0, .int 13])) rfl (by rw [hml]; rfl) (argsL := [(.int 13), (.int 0), (.ref lf), (.ref ln)]) (rest := []) (lenOf pd_12 rfl) rfl (by show 2 * 0 + _ ≤ _; exact Nat.le_of_eq rfl) (hb hby d28_40) (fun _ _ => ⟨rfl, e50, (by decide : 0 + 0 ≤ _), (by decide : 0 + 0 ≤ _)⟩)
  dsimp only [Pt.U, Pt.locs, Pt.cells, Pt.slots] at X52 l52 y52 z52 st52 hQ52
  subst l52 y52 z52
  obtain ⟨rfl, N52q, K52, Vf52, Vn52⟩ := hQ52
  have N52 := Fr.app N43 N52q
  refine own_of st52 ?_
  show own_Out p e below _ (T52.setTop (mkF m 43 #[rv o0, iv 15, iv 13] []))
  refine o_iinc X52 hx hby d28_43 rfl (l' := #[rv o0, iv 15, iv 14]) rfl (q := 46) rfl ?_
  refine o_goto X52 hx hby d28_46 (by decide) (q := 20) (by decide) ?_
  refine o_iloadN X52 hx hby d28_20 rfl (q := 21) rfl ?_
  refine o_iloadN X52 hx hby d28_21 rfl (q := 22) rfl ?_
  refine o_icN X52 hx hby d28_22 (tlt (by decide : (14 : Int32) < (15 : Int32))).2.1 (q := 25) rfl ?_
  refine o_iloadN X52 hx hby d28_25 rfl (q := 26) rfl ?_
  refine o_aloadN X52 hx hby d28_26 rfl rfl (q := 27) rfl ?_
  have qz55 := (qz46.keep K52 (ninS (Ne.symm n2x) (ninS (Ne.symm n3x) nin0)))
  refine o_getF X52 hx hZ hown hby (w_ hw 72 rfl) Via.refl rfl qz55 d28_27 (q := 30) rfl fun T54 X54 e54 => ?_
  refine o_iloadN X54 hx hby d28_30 rfl (q := 31) rfl ?_
  have qz56 := (qz47.keep K52 (ninS n4x (ninS n5x nin0)))
  refine o_iaV X54 hx hby hZ e54 qz56 ⟨by decide, by decide⟩ (v := .int 0) rfl d28_31 (q := 32) rfl ?_
  refine o_aloadN X54 hx hby d28_32 rfl rfl (q := 33) rfl ?_
  have qz58 := (qz49.keep K52 (ninS (Ne.symm n2x) (ninS (Ne.symm n3x) nin0)))
  refine o_getF X54 hx hZ hown hby (w_ hw 109 rfl) Via.refl e54 qz58 d28_33 (q := 36) rfl fun T57 X57 e57 => ?_
  refine o_aloadN X57 hx hby d28_36 rfl rfl (q := 37) rfl ?_
  have qz60 := (qz51.keep K52 (ninS (Ne.symm n2x) (ninS (Ne.symm n3x) nin0)))
  refine o_getF X57 hx hZ hown hby (w_ hw 111 rfl) Via.refl e57 qz60 d28_37 (q := 40) rfl fun T59 X59 e59 => ?_
  have qz62 := (Nat.le_trans qz53 K52.1)
  obtain ⟨_, _, ⟨T61, L61, k61, n61⟩, -, X61, ⟨Lc61, hQ61, l61, y61, z61⟩, st61⟩ := Jvm.LawKit.callS X59 hx (y := mn_17) hown (mvT hZ (w_ hw 157 rfl)) (mvT hZ (w_ hw 158 rfl)) (mvT hZ (w_ hw 63 rfl)) (mvT hZ (w_ hw 159 rfl)) (by decide) (backOf (W := 0) (rm24n32 l Z a0 hw [] (14 : Int32) lf ln kl km (16 : Int32) (13 : Int32) (List.replicate 31 (.int (-1))) [(.int (-1 : Int32)), (.int 0), (.int 1), (.int 2), (.int 3), (.int 4), (.int 5), (.int 6), (.int 7), (.int 8), (.int 9), (.int 10), (.int 11), (.int 12), (.int 0), (.int 0)] T52.heap n0 qz62 Vf52 Vn52 glf gln n1x ⟨by decide, by decide⟩ (Nat.le_of_ble_eq_true rfl)) hZ (w_ hw 159 rfl) (w_ hw 63 rfl) (by decide) (by decide)) (g := (mkF m 40 #[rv o0, iv 15, iv 14] [.ref ln, .ref lf, .int 0, .int 14])) rfl (by rw [hml]; rfl) (argsL := [(.int 14), (.int 0), (.ref lf), (.ref ln)]) (rest := []) (lenOf pd_12 rfl) rfl (by show 2 * 0 + _ ≤ _; exact Nat.le_of_eq rfl) (hb hby d28_40) (fun _ _ => ⟨rfl, e59, (by decide : 0 + 0 ≤ _), (by decide : 0 + 0 ≤ _)⟩)
  dsimp only [Pt.U, Pt.locs, Pt.cells, Pt.slots] at X61 l61 y61 z61 st61 hQ61
  subst l61 y61 z61
  obtain ⟨rfl, N61q, K61, Vf61, Vn61⟩ := hQ61
  have N61 := Fr.app N52 N61q
  refine own_of st61 ?_
  show own_Out p e below _ (T61.setTop (mkF m 43 #[rv o0, iv 15, iv 14] []))
  refine o_iinc X61 hx hby d28_43 rfl (l' := #[rv o0, iv 15, iv 15]) rfl (q := 46) rfl ?_
  refine o_goto X61 hx hby d28_46 (by decide) (q := 20) (by decide) ?_
  refine o_iloadN X61 hx hby d28_20 rfl (q := 21) rfl ?_
  refine o_iloadN X61 hx hby d28_21 rfl (q := 22) rfl ?_
  refine o_icY X61 hx hby d28_22 (flt (by decide : ¬ ((15 : Int32) < (15 : Int32)))).2.1 (by decide) (q := 49) (by decide) ?_
  refine o_aloadN X61 hx hby d28_49 rfl rfl (q := 50) rfl ?_
  refine o_iloadN X61 hx hby d28_50 rfl (q := 51) rfl ?_
  have qz64 := (((((((F_relinked.keep K8 (ninS (Ne.symm n2x) (ninS (Ne.symm n3x) nin0))).keep K16 (ninS (Ne.symm n2x) (ninS (Ne.symm n3x) nin0))).keep K25 (ninS (Ne.symm n2x) (ninS (Ne.symm n3x) nin0))).keep K34 (ninS (Ne.symm n2x) (ninS (Ne.symm n3x) nin0))).keep K43 (ninS (Ne.symm n2x) (ninS (Ne.symm n3x) nin0))).keep K52 (ninS (Ne.symm n2x) (ninS (Ne.symm n3x) nin0))).keep K61 (ninS (Ne.symm n2x) (ninS (Ne.symm n3x) nin0)))
  have qz65 := (((((((E.keep K8).keep K16).keep K25).keep K34).keep K43).keep K52).keep K61)
  obtain ⟨T63, h63, X63, e63, W63, st63⟩ := putF X61 hx hZ hown (host := "") (Or.inl (w_ hw 175 rfl)) Via.refl rfl qz64 qz65 (Or.inl (w_ hw 176 rfl)) (w_ hw 62 rfl) (ty := .int) (by decide) rfl rfl (g := (mkF m 51 #[rv o0, iv 15, iv 15] [.int 15, .ref o0])) rfl rfl (hb hby d28_51)
  have qz66 := (((((((F_relinked.keep K8 (ninS (Ne.symm n2x) (ninS (Ne.symm n3x) nin0))).keep K16 (ninS (Ne.symm n2x) (ninS (Ne.symm n3x) nin0))).keep K25 (ninS (Ne.symm n2x) (ninS (Ne.symm n3x) nin0))).keep K34 (ninS (Ne.symm n2x) (ninS (Ne.symm n3x) nin0))).keep K43 (ninS (Ne.symm n2x) (ninS (Ne.symm n3x) nin0))).keep K52 (ninS (Ne.symm n2x) (ninS (Ne.symm n3x) nin0))).keep K61 (ninS (Ne.symm n2x) (ninS (Ne.symm n3x) nin0)))
  have Fw63 := qz66.same W63
  refine own_of st63 ?_
  show own_Out p e below _ (T63.setTop (mkF m 54 #[rv o0, iv 15, iv 15] []))
  refine o_aloadN X63 hx hby d28_54 rfl rfl (q := 55) rfl ?_
  refine o_getF X63 hx hZ hown hby (w_ hw 175 rfl) Via.refl e63 Fw63 d28_55 (q := 58) rfl fun T67 X67 e67 => ?_
  refine o_aloadN X67 hx hby d28_58 rfl rfl (q := 59) rfl ?_
  have qz69 := ((((((((F_indexed.keep K8 (ninS (Ne.symm n2x) (ninS (Ne.symm n3x) nin0))).keep K16 (ninS (Ne.symm n2x) (ninS (Ne.symm n3x) nin0))).keep K25 (ninS (Ne.symm n2x) (ninS (Ne.symm n3x) nin0))).keep K34 (ninS (Ne.symm n2x) (ninS (Ne.symm n3x) nin0))).keep K43 (ninS (Ne.symm n2x) (ninS (Ne.symm n3x) nin0))).keep K52 (ninS (Ne.symm n2x) (ninS (Ne.symm n3x) nin0))).keep K61 (ninS (Ne.symm n2x) (ninS (Ne.symm n3x) nin0))).other W63 (Or.inr (slot_ne (Or.inl (w_ hw 96 rfl)) (Or.inl (w_ hw 176 rfl)) (by decide) (t := .int) (t' := .int) (by decide) (by decide))))
  refine o_getF X67 hx hZ hown hby (w_ hw 95 rfl) Via.refl e67 qz69 d28_59 (q := 62) rfl fun T68 X68 e68 => ?_
  refine o_icN X68 hx hby d28_62 (teq (by decide : (15 : Int32) = (15 : Int32))).2 (q := 65) rfl ?_
  refine o_aloadN X68 hx hby d28_65 rfl rfl (q := 66) rfl ?_
  refine o_aloadN X68 hx hby d28_66 rfl rfl (q := 67) rfl ?_
  have qz71 := ((qz58.keep K61 (ninS (Ne.symm n2x) (ninS (Ne.symm n3x) nin0))).other W63 (Or.inr (slot_ne (Or.inl (w_ hw 110 rfl)) (Or.inl (w_ hw 176 rfl)) (by decide) (t := (.array .int)) (t' := .int) (by decide) (by decide))))
  refine o_getF X68 hx hZ hown hby (w_ hw 109 rfl) Via.refl e68 qz71 d28_67 (q := 70) rfl fun T70 X70 e70 => ?_
  have qz73 := ((((((((F_firstInBucket.keep K8 (ninS (Ne.symm n2x) (ninS (Ne.symm n3x) nin0))).keep K16 (ninS (Ne.symm n2x) (ninS (Ne.symm n3x) nin0))).keep K25 (ninS (Ne.symm n2x) (ninS (Ne.symm n3x) nin0))).keep K34 (ninS (Ne.symm n2x) (ninS (Ne.symm n3x) nin0))).keep K43 (ninS (Ne.symm n2x) (ninS (Ne.symm n3x) nin0))).keep K52 (ninS (Ne.symm n2x) (ninS (Ne.symm n3x) nin0))).keep K61 (ninS (Ne.symm n2x) (ninS (Ne.symm n3x) nin0))).other W63 (Or.inr (slot_ne (Or.inl (w_ hw 69 rfl)) (Or.inl (w_ hw 176 rfl)) (by decide) (t := (.array .int)) (t' := .int) (by decide) (by decide))))
  have qz74 := (qz65.wr W63)
  obtain ⟨T72, h72, X72, e72, W72, st72⟩ := putF X70 hx hZ hown (host := "") (Or.inl (w_ hw 68 rfl)) Via.refl e70 qz73 qz74 (Or.inl (w_ hw 69 rfl)) (w_ hw 62 rfl) (ty := (.array .int)) (by decide) rfl rfl (g := (mkF m 70 #[rv o0, iv 15, iv 15] [.ref lf, .ref o0])) rfl rfl (hb hby d28_70)
  have qz75 := ((((((((F_firstInBucket.keep K8 (ninS (Ne.symm n2x) (ninS (Ne.symm n3x) nin0))).keep K16 (ninS (Ne.symm n2x) (ninS (Ne.symm n3x) nin0))).keep K25 (ninS (Ne.symm n2x) (ninS (Ne.symm n3x) nin0))).keep K34 (ninS (Ne.symm n2x) (ninS (Ne.symm n3x) nin0))).keep K43 (ninS (Ne.symm n2x) (ninS (Ne.symm n3x) nin0))).keep K52 (ninS (Ne.symm n2x) (ninS (Ne.symm n3x) nin0))).keep K61 (ninS (Ne.symm n2x) (ninS (Ne.symm n3x) nin0))).other W63 (Or.inr (slot_ne (Or.inl (w_ hw 69 rfl)) (Or.inl (w_ hw 176 rfl)) (by decide) (t := (.array .int)) (t' := .int) (by decide) (by decide))))
  have Fw72 := qz75.same W72
  refine own_of st72 ?_
  show own_Out p e below _ (T72.setTop (mkF m 73 #[rv o0, iv 15, iv 15] []))
  refine o_aloadN X72 hx hby d28_73 rfl rfl (q := 74) rfl ?_
  refine o_aloadN X72 hx hby d28_74 rfl rfl (q := 75) rfl ?_
  have qz77 := (((qz60.keep K61 (ninS (Ne.symm n2x) (ninS (Ne.symm n3x) nin0))).other W63 (Or.inr (slot_ne (Or.inl (w_ hw 112 rfl)) (Or.inl (w_ hw 176 rfl)) (by decide) (t := (.array .int)) (t' := .int) (by decide) (by decide)))).other W72 (Or.inr (slot_ne (Or.inl (w_ hw 112 rfl)) (Or.inl (w_ hw 69 rfl)) (by decide) (t := (.array .int)) (t' := (.array .int)) (by decide) (by decide))))
  refine o_getF X72 hx hZ hown hby (w_ hw 111 rfl) Via.refl e72 qz77 d28_75 (q := 78) rfl fun T76 X76 e76 => ?_
  have qz79 := (((((((((F_nextInBucket.keep K8 (ninS (Ne.symm n2x) (ninS (Ne.symm n3x) nin0))).keep K16 (ninS (Ne.symm n2x) (ninS (Ne.symm n3x) nin0))).keep K25 (ninS (Ne.symm n2x) (ninS (Ne.symm n3x) nin0))).keep K34 (ninS (Ne.symm n2x) (ninS (Ne.symm n3x) nin0))).keep K43 (ninS (Ne.symm n2x) (ninS (Ne.symm n3x) nin0))).keep K52 (ninS (Ne.symm n2x) (ninS (Ne.symm n3x) nin0))).keep K61 (ninS (Ne.symm n2x) (ninS (Ne.symm n3x) nin0))).other W63 (Or.inr (slot_ne (Or.inl (w_ hw 71 rfl)) (Or.inl (w_ hw 176 rfl)) (by decide) (t := (.array .int)) (t' := .int) (by decide) (by decide)))).other W72 (Or.inr (slot_ne (Or.inl (w_ hw 71 rfl)) (Or.inl (w_ hw 69 rfl)) (by decide) (t := (.array .int)) (t' := (.array .int)) (by decide) (by decide))))
  have qz80 := (qz74.wr W72)
  obtain ⟨T78, h78, X78, e78, W78, st78⟩ := putF X76 hx hZ hown (host := "") (Or.inl (w_ hw 70 rfl)) Via.refl e76 qz79 qz80 (Or.inl (w_ hw 71 rfl)) (w_ hw 62 rfl) (ty := (.array .int)) (by decide) rfl rfl (g := (mkF m 78 #[rv o0, iv 15, iv 15] [.ref ln, .ref o0])) rfl rfl (hb hby d28_78)
  have qz81 := (((((((((F_nextInBucket.keep K8 (ninS (Ne.symm n2x) (ninS (Ne.symm n3x) nin0))).keep K16 (ninS (Ne.symm n2x) (ninS (Ne.symm n3x) nin0))).keep K25 (ninS (Ne.symm n2x) (ninS (Ne.symm n3x) nin0))).keep K34 (ninS (Ne.symm n2x) (ninS (Ne.symm n3x) nin0))).keep K43 (ninS (Ne.symm n2x) (ninS (Ne.symm n3x) nin0))).keep K52 (ninS (Ne.symm n2x) (ninS (Ne.symm n3x) nin0))).keep K61 (ninS (Ne.symm n2x) (ninS (Ne.symm n3x) nin0))).other W63 (Or.inr (slot_ne (Or.inl (w_ hw 71 rfl)) (Or.inl (w_ hw 176 rfl)) (by decide) (t := (.array .int)) (t' := .int) (by decide) (by decide)))).other W72 (Or.inr (slot_ne (Or.inl (w_ hw 71 rfl)) (Or.inl (w_ hw 69 rfl)) (by decide) (t := (.array .int)) (t' := (.array .int)) (by decide) (by decide))))
  have Fw78 := qz81.same W78
  refine own_of st78 ?_
  show own_Out p e below _ (T78.setTop (mkF m 81 #[rv o0, iv 15, iv 15] []))
  refine o_aloadN X78 hx hby d28_81 rfl rfl (q := 82) rfl ?_
  refine o_aconst_null X78 hx hby d28_82 (q := 83) rfl ?_
  have qz83 := ((qz71.other W72 (Or.inr (slot_ne (Or.inl (w_ hw 110 rfl)) (Or.inl (w_ hw 69 rfl)) (by decide) (t := (.array .int)) (t' := (.array .int)) (by decide) (by decide)))).other W78 (Or.inr (slot_ne (Or.inl (w_ hw 110 rfl)) (Or.inl (w_ hw 71 rfl)) (by decide) (t := (.array .int)) (t' := (.array .int)) (by decide) (by decide))))
  have qz84 := (qz80.wr W78)
  obtain ⟨T82, h82, X82, e82, W82, st82⟩ := putF X78 hx hZ hown (host := "") (Or.inl (w_ hw 109 rfl)) Via.refl e78 qz83 qz84 (Or.inl (w_ hw 110 rfl)) (w_ hw 62 rfl) (ty := (.array .int)) (by decide) rfl rfl (g := (mkF m 83 #[rv o0, iv 15, iv 15] [.null, .ref o0])) rfl rfl (hb hby d28_83)
  have qz85 := ((qz71.other W72 (Or.inr (slot_ne (Or.inl (w_ hw 110 rfl)) (Or.inl (w_ hw 69 rfl)) (by decide) (t := (.array .int)) (t' := (.array .int)) (by decide) (by decide)))).other W78 (Or.inr (slot_ne (Or.inl (w_ hw 110 rfl)) (Or.inl (w_ hw 71 rfl)) (by decide) (t := (.array .int)) (t' := (.array .int)) (by decide) (by decide))))
  have Fw82 := qz85.same W82
  refine own_of st82 ?_
  show own_Out p e below _ (T82.setTop (mkF m 86 #[rv o0, iv 15, iv 15] []))
  refine o_aloadN X82 hx hby d28_86 rfl rfl (q := 87) rfl ?_
  refine o_aconst_null X82 hx hby d28_87 (q := 88) rfl ?_
  have qz87 := ((qz77.other W78 (Or.inr (slot_ne (Or.inl (w_ hw 112 rfl)) (Or.inl (w_ hw 71 rfl)) (by decide) (t := (.array .int)) (t' := (.array .int)) (by decide) (by decide)))).other W82 (Or.inr (slot_ne (Or.inl (w_ hw 112 rfl)) (Or.inl (w_ hw 110 rfl)) (by decide) (t := (.array .int)) (t' := (.array .int)) (by decide) (by decide))))
  have qz88 := (qz84.wr W82)
  obtain ⟨T86, h86, X86, e86, W86, st86⟩ := putF X82 hx hZ hown (host := "") (Or.inl (w_ hw 111 rfl)) Via.refl e82 qz87 qz88 (Or.inl (w_ hw 112 rfl)) (w_ hw 62 rfl) (ty := (.array .int)) (by decide) rfl rfl (g := (mkF m 88 #[rv o0, iv 15, iv 15] [.null, .ref o0])) rfl rfl (hb hby d28_88)
  have qz89 := ((qz77.other W78 (Or.inr (slot_ne (Or.inl (w_ hw 112 rfl)) (Or.inl (w_ hw 71 rfl)) (by decide) (t := (.array .int)) (t' := (.array .int)) (by decide) (by decide)))).other W82 (Or.inr (slot_ne (Or.inl (w_ hw 112 rfl)) (Or.inl (w_ hw 110 rfl)) (by decide) (t := (.array .int)) (t' := (.array .int)) (by decide) (by decide))))
  have Fw86 := qz89.same W86
  refine own_of st86 ?_
  show own_Out p e below _ (T86.setTop (mkF m 91 #[rv o0, iv 15, iv 15] []))
  refine o_aloadN X86 hx hby d28_91 rfl rfl (q := 92) rfl ?_
  refine own_of (X86.ldc2DoubleC hx hown (mvT hZ (w_ hw 74 rfl)) (g := (mkF m 92 #[rv o0, iv 15, iv 15] [.ref o0])) rfl (hb hby d28_92)) ?_
  show own_Out p e below _ (T86.setTop (mkF m 95 #[rv o0, iv 15, iv 15] [.double (4604930618986332160 : UInt64), .ref o0]))
  refine o_aloadN X86 hx hby d28_95 rfl rfl (q := 96) rfl ?_
  have qz91 := (((Fw72.other W78 (Or.inr (slot_ne (Or.inl (w_ hw 69 rfl)) (Or.inl (w_ hw 71 rfl)) (by decide) (t := (.array .int)) (t' := (.array .int)) (by decide) (by decide)))).other W82 (Or.inr (slot_ne (Or.inl (w_ hw 69 rfl)) (Or.inl (w_ hw 110 rfl)) (by decide) (t := (.array .int)) (t' := (.array .int)) (by decide) (by decide)))).other W86 (Or.inr (slot_ne (Or.inl (w_ hw 69 rfl)) (Or.inl (w_ hw 112 rfl)) (by decide) (t := (.array .int)) (t' := (.array .int)) (by decide) (by decide))))
  refine o_getF X86 hx hZ hown hby (w_ hw 68 rfl) Via.refl e86 qz91 d28_96 (q := 99) rfl fun T90 X90 e90 => ?_
  have qz92 := (((((Vf61.other W63 n2x).other W72 n2x).other W78 n2x).other W82 n2x).other W86 n2x)
  refine o_lenV X90 hx hby hZ e90 qz92 d28_99 (q := 100) rfl ?_
  refine own_of (fun _ k => XS.i2dS X90.here hx rfl (v := (4629700416936869888 : UInt64)) (hb hby d28_100) rfl (by decide +kernel) k) ?_
  show own_Out p e below _ (T90.setTop (mkF m 101 #[rv o0, iv 15, iv 15] [.double (4629700416936869888 : UInt64), .double (4604930618986332160 : UInt64), .ref o0]))
  refine own_of (fun _ k => XS.dmulS X90.here hx rfl (v := (4627448617123184640 : UInt64)) (hb hby d28_101) rfl (Jvm.Free.Fl.noNaN64_no.mpr (by decide +kernel)) (by decide +kernel) k) ?_
  show own_Out p e below _ (T90.setTop (mkF m 102 #[rv o0, iv 15, iv 15] [.double (4627448617123184640 : UInt64), .ref o0]))
  refine own_of (fun _ k => XS.d2iS X90.here hx rfl (v := (24 : Int32)) (hb hby d28_102) rfl (by decide +kernel) k) ?_
  show own_Out p e below _ (T90.setTop (mkF m 103 #[rv o0, iv 15, iv 15] [.int 24, .ref o0]))
  have qz94 := ((((((((((((F_loadLimit.keep K8 (ninS (Ne.symm n2x) (ninS (Ne.symm n3x) nin0))).keep K16 (ninS (Ne.symm n2x) (ninS (Ne.symm n3x) nin0))).keep K25 (ninS (Ne.symm n2x) (ninS (Ne.symm n3x) nin0))).keep K34 (ninS (Ne.symm n2x) (ninS (Ne.symm n3x) nin0))).keep K43 (ninS (Ne.symm n2x) (ninS (Ne.symm n3x) nin0))).keep K52 (ninS (Ne.symm n2x) (ninS (Ne.symm n3x) nin0))).keep K61 (ninS (Ne.symm n2x) (ninS (Ne.symm n3x) nin0))).other W63 (Or.inr (slot_ne (Or.inl (w_ hw 76 rfl)) (Or.inl (w_ hw 176 rfl)) (by decide) (t := .int) (t' := .int) (by decide) (by decide)))).other W72 (Or.inr (slot_ne (Or.inl (w_ hw 76 rfl)) (Or.inl (w_ hw 69 rfl)) (by decide) (t := .int) (t' := (.array .int)) (by decide) (by decide)))).other W78 (Or.inr (slot_ne (Or.inl (w_ hw 76 rfl)) (Or.inl (w_ hw 71 rfl)) (by decide) (t := .int) (t' := (.array .int)) (by decide) (by decide)))).other W82 (Or.inr (slot_ne (Or.inl (w_ hw 76 rfl)) (Or.inl (w_ hw 110 rfl)) (by decide) (t := .int) (t' := (.array .int)) (by decide) (by decide)))).other W86 (Or.inr (slot_ne (Or.inl (w_ hw 76 rfl)) (Or.inl (w_ hw 112 rfl)) (by decide) (t := .int) (t' := (.array .int)) (by decide) (by decide))))
  have qz95 := (qz88.wr W86)
  obtain ⟨T93, h93, X93, e93, W93, st93⟩ := putF X90 hx hZ hown (host := "") (Or.inl (w_ hw 75 rfl)) Via.refl e90 qz94 qz95 (Or.inl (w_ hw 76 rfl)) (w_ hw 62 rfl) (ty := .int) (by decide) rfl rfl (g := (mkF m 103 #[rv o0, iv 15, iv 15] [.int 24, .ref o0])) rfl rfl (hb hby d28_103)
  have qz96 := ((((((((((((F_loadLimit.keep K8 (ninS (Ne.symm n2x) (ninS (Ne.symm n3x) nin0))).keep K16 (ninS (Ne.symm n2x) (ninS (Ne.symm n3x) nin0))).keep K25 (ninS (Ne.symm n2x) (ninS (Ne.symm n3x) nin0))).keep K34 (ninS (Ne.symm n2x) (ninS (Ne.symm n3x) nin0))).keep K43 (ninS (Ne.symm n2x) (ninS (Ne.symm n3x) nin0))).keep K52 (ninS (Ne.symm n2x) (ninS (Ne.symm n3x) nin0))).keep K61 (ninS (Ne.symm n2x) (ninS (Ne.symm n3x) nin0))).other W63 (Or.inr (slot_ne (Or.inl (w_ hw 76 rfl)) (Or.inl (w_ hw 176 rfl)) (by decide) (t := .int) (t' := .int) (by decide) (by decide)))).other W72 (Or.inr (slot_ne (Or.inl (w_ hw 76 rfl)) (Or.inl (w_ hw 69 rfl)) (by decide) (t := .int) (t' := (.array .int)) (by decide) (by decide)))).other W78 (Or.inr (slot_ne (Or.inl (w_ hw 76 rfl)) (Or.inl (w_ hw 71 rfl)) (by decide) (t := .int) (t' := (.array .int)) (by decide) (by decide)))).other W82 (Or.inr (slot_ne (Or.inl (w_ hw 76 rfl)) (Or.inl (w_ hw 110 rfl)) (by decide) (t := .int) (t' := (.array .int)) (by decide) (by decide)))).other W86 (Or.inr (slot_ne (Or.inl (w_ hw 76 rfl)) (Or.inl (w_ hw 112 rfl)) (by decide) (t := .int) (t' := (.array .int)) (by decide) (by decide))))
  have Fw93 := qz96.same W93
  refine own_of st93 ?_
  show own_Out p e below _ (T93.setTop (mkF m 106 #[rv o0, iv 15, iv 15] []))
  have qz97 := ((((((((((((((Keep.refl h0 [o0, lf, ln]).trans K8 (allS (Or.inl (List.mem_of_getElem? (i := 1) rfl)) (allS (Or.inl (List.mem_of_getElem? (i := 2) rfl)) all0))).trans K16 (allS (Or.inl (List.mem_of_getElem? (i := 1) rfl)) (allS (Or.inl (List.mem_of_getElem? (i := 2) rfl)) all0))).trans K25 (allS (Or.inl (List.mem_of_getElem? (i := 1) rfl)) (allS (Or.inl (List.mem_of_getElem? (i := 2) rfl)) all0))).trans K34 (allS (Or.inl (List.mem_of_getElem? (i := 1) rfl)) (allS (Or.inl (List.mem_of_getElem? (i := 2) rfl)) all0))).trans K43 (allS (Or.inl (List.mem_of_getElem? (i := 1) rfl)) (allS (Or.inl (List.mem_of_getElem? (i := 2) rfl)) all0))).trans K52 (allS (Or.inl (List.mem_of_getElem? (i := 1) rfl)) (allS (Or.inl (List.mem_of_getElem? (i := 2) rfl)) all0))).trans K61 (allS (Or.inl (List.mem_of_getElem? (i := 1) rfl)) (allS (Or.inl (List.mem_of_getElem? (i := 2) rfl)) all0))).wr W63 (Or.inl (List.mem_of_getElem? (i := 0) rfl))).wr W72 (Or.inl (List.mem_of_getElem? (i := 0) rfl))).wr W78 (Or.inl (List.mem_of_getElem? (i := 0) rfl))).wr W82 (Or.inl (List.mem_of_getElem? (i := 0) rfl))).wr W86 (Or.inl (List.mem_of_getElem? (i := 0) rfl))).wr W93 (Or.inl (List.mem_of_getElem? (i := 0) rfl)))
  have qz98 := (qz95.wr W93)
  have qz99 := (((((((((((((F_rows.keep K8 (ninS (Ne.symm n2x) (ninS (Ne.symm n3x) nin0))).keep K16 (ninS (Ne.symm n2x) (ninS (Ne.symm n3x) nin0))).keep K25 (ninS (Ne.symm n2x) (ninS (Ne.symm n3x) nin0))).keep K34 (ninS (Ne.symm n2x) (ninS (Ne.symm n3x) nin0))).keep K43 (ninS (Ne.symm n2x) (ninS (Ne.symm n3x) nin0))).keep K52 (ninS (Ne.symm n2x) (ninS (Ne.symm n3x) nin0))).keep K61 (ninS (Ne.symm n2x) (ninS (Ne.symm n3x) nin0))).other W63 (Or.inr (slot_ne (Or.inr (w_ hw 78 rfl)) (Or.inl (w_ hw 176 rfl)) (by decide) (t := (.object "com/example/headway/headway/engine/RowBuffer")) (t' := .int) (by decide) (by decide)))).other W72 (Or.inr (slot_ne (Or.inr (w_ hw 78 rfl)) (Or.inl (w_ hw 69 rfl)) (by decide) (t := (.object "com/example/headway/headway/engine/RowBuffer")) (t' := (.array .int)) (by decide) (by decide)))).other W78 (Or.inr (slot_ne (Or.inr (w_ hw 78 rfl)) (Or.inl (w_ hw 71 rfl)) (by decide) (t := (.object "com/example/headway/headway/engine/RowBuffer")) (t' := (.array .int)) (by decide) (by decide)))).other W82 (Or.inr (slot_ne (Or.inr (w_ hw 78 rfl)) (Or.inl (w_ hw 110 rfl)) (by decide) (t := (.object "com/example/headway/headway/engine/RowBuffer")) (t' := (.array .int)) (by decide) (by decide)))).other W86 (Or.inr (slot_ne (Or.inr (w_ hw 78 rfl)) (Or.inl (w_ hw 112 rfl)) (by decide) (t := (.object "com/example/headway/headway/engine/RowBuffer")) (t' := (.array .int)) (by decide) (by decide)))).other W93 (Or.inr (slot_ne (Or.inr (w_ hw 78 rfl)) (Or.inl (w_ hw 76 rfl)) (by decide) (t := (.object "com/example/headway/headway/engine/RowBuffer")) (t' := .int) (by decide) (by decide))))
  have qz100 := (((((((((((((F_keyColumns.keep K8 (ninS (Ne.symm n2x) (ninS (Ne.symm n3x) nin0))).keep K16 (ninS (Ne.symm n2x) (ninS (Ne.symm n3x) nin0))).keep K25 (ninS (Ne.symm n2x) (ninS (Ne.symm n3x) nin0))).keep K34 (ninS (Ne.symm n2x) (ninS (Ne.symm n3x) nin0))).keep K43 (ninS (Ne.symm n2x) (ninS (Ne.symm n3x) nin0))).keep K52 (ninS (Ne.symm n2x) (ninS (Ne.symm n3x) nin0))).keep K61 (ninS (Ne.symm n2x) (ninS (Ne.symm n3x) nin0))).other W63 (Or.inr (slot_ne (Or.inr (w_ hw 81 rfl)) (Or.inl (w_ hw 176 rfl)) (by decide) (t := (.array .int)) (t' := .int) (by decide) (by decide)))).other W72 (Or.inr (slot_ne (Or.inr (w_ hw 81 rfl)) (Or.inl (w_ hw 69 rfl)) (by decide) (t := (.array .int)) (t' := (.array .int)) (by decide) (by decide)))).other W78 (Or.inr (slot_ne (Or.inr (w_ hw 81 rfl)) (Or.inl (w_ hw 71 rfl)) (by decide) (t := (.array .int)) (t' := (.array .int)) (by decide) (by decide)))).other W82 (Or.inr (slot_ne (Or.inr (w_ hw 81 rfl)) (Or.inl (w_ hw 110 rfl)) (by decide) (t := (.array .int)) (t' := (.array .int)) (by decide) (by decide)))).other W86 (Or.inr (slot_ne (Or.inr (w_ hw 81 rfl)) (Or.inl (w_ hw 112 rfl)) (by decide) (t := (.array .int)) (t' := (.array .int)) (by decide) (by decide)))).other W93 (Or.inr (slot_ne (Or.inr (w_ hw 81 rfl)) (Or.inl (w_ hw 76 rfl)) (by decide) (t := (.array .int)) (t' := .int) (by decide) (by decide))))
  have qz101 := (qz91.other W93 (Or.inr (slot_ne (Or.inl (w_ hw 69 rfl)) (Or.inl (w_ hw 76 rfl)) (by decide) (t := (.array .int)) (t' := .int) (by decide) (by decide))))
  have qz102 := (((Fw78.other W82 (Or.inr (slot_ne (Or.inl (w_ hw 71 rfl)) (Or.inl (w_ hw 110 rfl)) (by decide) (t := (.array .int)) (t' := (.array .int)) (by decide) (by decide)))).other W86 (Or.inr (slot_ne (Or.inl (w_ hw 71 rfl)) (Or.inl (w_ hw 112 rfl)) (by decide) (t := (.array .int)) (t' := (.array .int)) (by decide) (by decide)))).other W93 (Or.inr (slot_ne (Or.inl (w_ hw 71 rfl)) (Or.inl (w_ hw 76 rfl)) (by decide) (t := (.array .int)) (t' := .int) (by decide) (by decide))))
  have qz103 := (((((((qz55.keep K61 (ninS (Ne.symm n2x) (ninS (Ne.symm n3x) nin0))).other W63 (Or.inr (slot_ne (Or.inl (w_ hw 73 rfl)) (Or.inl (w_ hw 176 rfl)) (by decide) (t := (.array .int)) (t' := .int) (by decide) (by decide)))).other W72 (Or.inr (slot_ne (Or.inl (w_ hw 73 rfl)) (Or.inl (w_ hw 69 rfl)) (by decide) (t := (.array .int)) (t' := (.array .int)) (by decide) (by decide)))).other W78 (Or.inr (slot_ne (Or.inl (w_ hw 73 rfl)) (Or.inl (w_ hw 71 rfl)) (by decide) (t := (.array .int)) (t' := (.array .int)) (by decide) (by decide)))).other W82 (Or.inr (slot_ne (Or.inl (w_ hw 73 rfl)) (Or.inl (w_ hw 110 rfl)) (by decide) (t := (.array .int)) (t' := (.array .int)) (by decide) (by decide)))).other W86 (Or.inr (slot_ne (Or.inl (w_ hw 73 rfl)) (Or.inl (w_ hw 112 rfl)) (by decide) (t := (.array .int)) (t' := (.array .int)) (by decide) (by decide)))).other W93 (Or.inr (slot_ne (Or.inl (w_ hw 73 rfl)) (Or.inl (w_ hw 76 rfl)) (by decide) (t := (.array .int)) (t' := .int) (by decide) (by decide))))
  have qz104 := (((((qz69.other W72 (Or.inr (slot_ne (Or.inl (w_ hw 96 rfl)) (Or.inl (w_ hw 69 rfl)) (by decide) (t := .int) (t' := (.array .int)) (by decide) (by decide)))).other W78 (Or.inr (slot_ne (Or.inl (w_ hw 96 rfl)) (Or.inl (w_ hw 71 rfl)) (by decide) (t := .int) (t' := (.array .int)) (by decide) (by decide)))).other W82 (Or.inr (slot_ne (Or.inl (w_ hw 96 rfl)) (Or.inl (w_ hw 110 rfl)) (by decide) (t := .int) (t' := (.array .int)) (by decide) (by decide)))).other W86 (Or.inr (slot_ne (Or.inl (w_ hw 96 rfl)) (Or.inl (w_ hw 112 rfl)) (by decide) (t := .int) (t' := (.array .int)) (by decide) (by decide)))).other W93 (Or.inr (slot_ne (Or.inl (w_ hw 96 rfl)) (Or.inl (w_ hw 76 rfl)) (by decide) (t := .int) (t' := .int) (by decide) (by decide))))
  have qz105 := ((Fw82.other W86 (Or.inr (slot_ne (Or.inl (w_ hw 110 rfl)) (Or.inl (w_ hw 112 rfl)) (by decide) (t := (.array .int)) (t' := (.array .int)) (by decide) (by decide)))).other W93 (Or.inr (slot_ne (Or.inl (w_ hw 110 rfl)) (Or.inl (w_ hw 76 rfl)) (by decide) (t := (.array .int)) (t' := .int) (by decide) (by decide))))
  have qz106 := (Fw86.other W93 (Or.inr (slot_ne (Or.inl (w_ hw 112 rfl)) (Or.inl (w_ hw 76 rfl)) (by decide) (t := (.array .int)) (t' := .int) (by decide) (by decide))))
  have qz107 := (((((Fw63.other W72 (Or.inr (slot_ne (Or.inl (w_ hw 176 rfl)) (Or.inl (w_ hw 69 rfl)) (by decide) (t := .int) (t' := (.array .int)) (by decide) (by decide)))).other W78 (Or.inr (slot_ne (Or.inl (w_ hw 176 rfl)) (Or.inl (w_ hw 71 rfl)) (by decide) (t := .int) (t' := (.array .int)) (by decide) (by decide)))).other W82 (Or.inr (slot_ne (Or.inl (w_ hw 176 rfl)) (Or.inl (w_ hw 110 rfl)) (by decide) (t := .int) (t' := (.array .int)) (by decide) (by decide)))).other W86 (Or.inr (slot_ne (Or.inl (w_ hw 176 rfl)) (Or.inl (w_ hw 112 rfl)) (by decide) (t := .int) (t' := (.array .int)) (by decide) (by decide)))).other W93 (Or.inr (slot_ne (Or.inl (w_ hw 176 rfl)) (Or.inl (w_ hw 76 rfl)) (by decide) (t := .int) (t' := .int) (by decide) (by decide))))
  have qz108 := (qz92.other W93 n2x)
  have qz109 := ((((((Vn61.other W63 n3x).other W72 n3x).other W78 n3x).other W82 n3x).other W86 n3x).other W93 n3x)
  exact own_outV X93 hx hlk hret (hb hby d28_106) (Q := Q28b Z o0 rb kc fa na ha LL lf ln kl km kh h0 n0) (by rw [e93]; exact ⟨rfl, (Fr.snoc X93 (Fr.snoc X86 (Fr.snoc X82 (Fr.snoc X78 (Fr.snoc X72 (Fr.snoc X63 N61 g_o0) g_o0) g_o0) g_o0) g_o0) g_o0), qz97, qz98, qz99, qz100, qz101, qz102, qz103, Fw93, qz104, qz105, qz106, qz107, qz108, qz109⟩) (by decide) (by decide)
def cp16 (vs : List Value) : List Value := (zr 32).take (0 : Int32).toNatClampNeg ++ ((List.range (16 : Int32).toNatClampNeg).map fun i => vs.getD ((0 : Int32).toNatClampNeg + i) (.int 0)) ++ (zr 32).drop ((0 : Int32).toNatClampNeg + (16 : Int32).toNatClampNeg)
theorem d30_0 : decode jdk_65_method_123_code 0 = .ok (.iload_n 1, 1) := by decide +kernel
theorem d30_1 : decode jdk_65_method_123_code 1 = .ok (.aload_n 0, 1) := by decide +kernel
theorem d30_2 : decode jdk_65_method_123_code 2 = .ok (.arraylength, 1) := by decide +kernel
theorem d30_3 : decode jdk_65_method_123_code 3 = .ok (.if_icmp .ne 11, 3) := by decide +kernel
theorem d30_14 : decode jdk_65_method_123_code 14 = .ok (.iload_n 1, 1) := by decide +kernel
theorem d30_15 : decode jdk_65_method_123_code 15 = .ok (.newarray .int, 2) := by decide +kernel
theorem d30_17 : decode jdk_65_method_123_code 17 = .ok (.astore_n 2, 1) := by decide +kernel
theorem d30_18 : decode jdk_65_method_123_code 18 = .ok (.aload_n 0, 1) := by decide +kernel
theorem d30_19 : decode jdk_65_method_123_code 19 = .ok (.iconst 0, 1) := by decide +kernel
theorem d30_20 : decode jdk_65_method_123_code 20 = .ok (.aload_n 2, 1) := by decide +kernel
theorem d30_21 : decode jdk_65_method_123_code 21 = .ok (.iconst 0, 1) := by decide +kernel
theorem d30_22 : decode jdk_65_method_123_code 22 = .ok (.aload_n 0, 1) := by decide +kernel
theorem d30_23 : decode jdk_65_method_123_code 23 = .ok (.arraylength, 1) := by decide +kernel
theorem d30_24 : decode jdk_65_method_123_code 24 = .ok (.iload_n 1, 1) := by decide +kernel
theorem d30_25 : decode jdk_65_method_123_code 25 = .ok (.invokestatic 304, 3) := by decide +kernel
theorem d30_28 : decode jdk_65_method_123_code 28 = .ok (.invokestatic 150, 3) := by decide +kernel
theorem d30_31 : decode jdk_65_method_123_code 31 = .ok (.aload_n 2, 1) := by decide +kernel
theorem d30_32 : decode jdk_65_method_123_code 32 = .ok (.areturn, 1) := by decide +kernel
theorem ef_30 (m : MethodId) (x0 : Addr) : entryFrame m #[(.ref x0), (.int 32)] 3 = mkF m 0 #[.val (.ref x0), .val (.int 32), .unset] [] := by first | (simp [entryFrame, mkF, argsToLocals, Value.category]; done) | rfl
def Q30 (Z : State) (o0 : Addr) (k0 : ClassId) (vs : List Value) (h0 : Heap) (n0 : Nat) (v : Option Value) (h : Heap) (L : List Loc) : Prop := ∃ (b : Addr) (k : ClassId), v = some (.ref b) ∧ Fr n0 L ∧ Keep h0 h [] ∧ Arv Z h b k .int 32 (cp16 vs) (.int 0) ∧ n0 ≤ b ∧ h0.size ≤ b
set_option maxRecDepth 65536 in
set_option maxHeartbeats 40000000 in
theorem rm30 (l : Launch) (Z : State) (a0 : Array Value) (hw : ∀ d ∈ tables_1, d.before a0 Z = true) (ws : List Jvm.Cond) (o0 : Addr) (k0 : ClassId) (vs : List Value) (h0 : Heap) (n0 : Nat) (Z0 : n0 ≤ h0.size) (V0 : Arv Z h0 o0 k0 .int 16 vs (.int 0)) :
    MetFree l mn_28 (head1 (Jvm.Cond.code mn_28 jdk_65_method_123_code 3 (some (.array .int)) :: ws) (⟨1, 1, 32, 40⟩ : Room)) (fun a U => a = #[(.ref o0), (.int 32)] ∧ Z.Warmed39 U.vm ∧ U.heap = h0) (fun _ _ _ _ _ => True) (fun _ U o U' => ∃ v L, o = .returned v ∧ Q30 Z o0 k0 vs h0 n0 v U'.heap L ∧ FrameEnd U o U' L (⟨1, 1, 32, 40⟩ : Room).cells (⟨1, 1, 32, 40⟩ : Room).slots) := by
  refine MetFree.of_bodySF (plainFor_of_name pn_4) hisR ?_
  intro p e s m args below meth c s₁ Bd hml0 hP hK
  obtain ⟨rfl, hZ, hh⟩ := hP
  have hx := Bd.exec
  have hby := Bd.bytes
  have hml : c.maxLocals = 3 := hml0
  have hown : s.vm.findClass "java/util/Arrays" = some m.cls := findClass_of_methodNamed Bd.named
  have hnm := (name_of_methodNamed Bd.named Bd.method).1
  have X0 : Stand p l e (⟨1, 1, 32, 40⟩ : Room) s m #[(.ref o0), (.int 32)] below meth c s₁ [] 0 0 := Stand.of_body Bd
  have e0 : s₁.heap = h0 := by rw [← hh, Bd.state]; rfl
  have N0 := Fr.nil n0
  have hret := Bd.returns
  have hlk := BodyLoose.notSynchronized Bd
  show own_Out p e below (fun o U' => ∃ v L, o = .returned v ∧ Q30 Z o0 k0 vs h0 n0 v U'.heap L ∧ FrameEnd s o U' L (⟨1, 1, 32, 40⟩ : Room).cells (⟨1, 1, 32, 40⟩ : Room).slots) (s₁.setTop (entryFrame m #[(.ref o0), (.int 32)] 3))
  refine own_of (fun t k => castTop (ef_30 m o0) k) ?_
  show own_Out p e below _ (s₁.setTop (mkF m 0 #[rv o0, iv 32, .unset] []))
  refine o_iloadN X0 hx hby d30_0 rfl (q := 1) rfl ?_
  refine o_aloadN X0 hx hby d30_1 rfl rfl (q := 2) rfl ?_
  refine o_lenV X0 hx hby hZ e0 V0 d30_2 (q := 3) rfl ?_
  refine o_icY X0 hx hby d30_3 (feq (by decide : ¬ ((32 : Int32) = (16 : Int32)))).2 (by decide) (q := 14) (by decide) ?_
  refine o_iloadN X0 hx hby d30_14 rfl (q := 15) rfl ?_
  obtain ⟨T1, h1, k1, X1, e1, E1, A1, st1⟩ := newP X0 hx hZ (w_ hw 0 rfl) e0 (g := (mkF m 15 #[rv o0, iv 32, .unset] [.int 32])) rfl (hb hby d30_15) rfl (by decide) (cap := 32) (by decide) (by decide) (by decide) (by decide)
  obtain ⟨b1, g1⟩ : ∃ z, z = h0.size := ⟨_, rfl⟩
  rw [← g1] at A1 st1
  have g_b1 : n0 ≤ b1 := Nat.le_trans Z0 (Nat.le_of_eq g1.symm)
  have sz_b1 : h0.size ≤ b1 := Nat.le_trans (Nat.le_refl h0.size) (Nat.le_of_eq g1.symm)
  have V_b1 : Arv Z h1 b1 k1 .int 32 [(.int 0), (.int 0), (.int 0), (.int 0), (.int 0), (.int 0), (.int 0), (.int 0), (.int 0), (.int 0), (.int 0), (.int 0), (.int 0), (.int 0), (.int 0), (.int 0), (.int 0), (.int 0), (.int 0), (.int 0), (.int 0), (.int 0), (.int 0), (.int 0), (.int 0), (.int 0), (.int 0), (.int 0), (.int 0), (.int 0), (.int 0), (.int 0)] (.int 0) := (Arv.new A1 (by decide)).pad (pad_rep [] (.int 0) 32)
  refine own_of st1 ?_
  show own_Out p e below _ (T1.setTop (mkF m 17 #[rv o0, iv 32, .unset] [.ref b1]))
  refine o_astoreN X1 hx hby d30_17 rfl (l' := #[rv o0, iv 32, rv b1]) rfl (q := 18) rfl ?_
  refine o_aloadN X1 hx hby d30_18 rfl rfl (q := 19) rfl ?_
  refine o_iconst X1 hx hby d30_19 (z := 0) rfl (q := 20) rfl ?_
  refine o_aloadN X1 hx hby d30_20 rfl rfl (q := 21) rfl ?_
  refine o_iconst X1 hx hby d30_21 (z := 0) rfl (q := 22) rfl ?_
  refine o_aloadN X1 hx hby d30_22 rfl rfl (q := 23) rfl ?_
  have qz2 := (V0.ext E1)
  refine o_lenV X1 hx hby hZ e1 qz2 d30_23 (q := 24) rfl ?_
  refine o_iloadN X1 hx hby d30_24 rfl (q := 25) rfl ?_
  have qz4 := (Nat.le_trans Z0 E1.1)
  obtain ⟨_, _, ⟨T3, L3, k3, n3⟩, -, X3, ⟨Lc3, hQ3, l3, y3, z3⟩, st3⟩ := Jvm.LawKit.callS X1 hx (y := mn_26) hown (mvT hZ (w_ hw 187 rfl)) (mvT hZ (w_ hw 182 rfl)) (mvT hZ (w_ hw 147 rfl)) (mvT hZ (w_ hw 183 rfl)) (by decide) (backOf (W := 4) (rm29a16b32 l Z a0 hw []  h1 n0 qz4 ) hZ (w_ hw 183 rfl) (w_ hw 147 rfl) (by decide) (by decide)) (g := (mkF m 25 #[rv o0, iv 32, rv b1] [.int 32, .int 16, .int 0, .ref b1, .int 0, .ref o0])) rfl (by rw [hml]; rfl) (argsL := [(.int 16), (.int 32)]) (rest := [(.int 0), (.ref b1), (.int 0), (.ref o0)]) (lenOf pd_4 rfl) rfl (by show 2 * 0 + _ ≤ _; exact Nat.le_of_eq rfl) (hb hby d30_25) (fun _ _ => ⟨rfl, e1, (by decide : 1 + 0 ≤ _), (by decide : 32 + 0 ≤ _)⟩)
  dsimp only [Pt.U, Pt.locs, Pt.cells, Pt.slots] at X3 l3 y3 z3 st3 hQ3
  subst l3 y3 z3
  obtain ⟨rfl, N3q, hh3⟩ := hQ3
  have N3 := Fr.app N0 N3q
  refine own_of st3 ?_
  show own_Out p e below _ (T3.setTop (mkF m 28 #[rv o0, iv 32, rv b1] [.int 16, .int 0, .ref b1, .int 0, .ref o0]))
  obtain ⟨T5, h5, L5, X5, e5, NL5, K5, V5, st5⟩ := cpA X3 hx hZ hown (w_ hw 188 rfl) (w_ hw 191 rfl) (w_ hw 189 rfl) (w_ hw 190 rfl) hh3 qz2 V_b1 (Or.inl ⟨rfl, rfl⟩) (sp := 0) (dp := 0) (nn := 16) (by decide) (by decide) (by decide) (by decide) (by decide) rfl (Nat.le_of_ble_eq_true rfl) N3 g_b1 (g := (mkF m 28 #[rv o0, iv 32, rv b1] [.int 16, .int 0, .ref b1, .int 0, .ref o0])) rfl (by rw [hml]; rfl) rfl (hb hby d30_28) (by decide) (W := 0) (by show 2 * 0 + _ ≤ _; exact Nat.le_of_eq rfl) (by decide)
  refine own_of st5 ?_
  show own_Out p e below _ (T5.setTop (mkF m 31 #[rv o0, iv 32, rv b1] []))
  refine o_aloadN X5 hx hby d30_31 rfl rfl (q := 32) rfl ?_
  have qz6 := (((Keep.refl h0 []).ext E1).trans K5 (allS (Or.inr sz_b1) all0))
  exact own_outR X5 hx hlk hret rfl rfl rfl (hb hby d30_32) (Q := Q30 Z o0 k0 vs h0 n0) (by rw [e5]; exact ⟨b1, k1, rfl, NL5, qz6, V5, g_b1, sz_b1⟩) (by decide) (by decide)
def NE (o0 rb kc fa na ha : Addr) (n0 : Nat) : Prop := o0 ≠ fa ∧ o0 ≠ na ∧ o0 ≠ ha ∧ rb ≠ o0 ∧ rb ≠ fa ∧ rb ≠ na ∧ rb ≠ ha ∧ kc ≠ o0 ∧ kc ≠ fa ∧ kc ≠ na ∧ kc ≠ ha ∧ fa ≠ na ∧ fa ≠ ha ∧ na ≠ ha ∧ rb ≠ kc ∧ n0 ≤ o0 ∧ n0 ≤ fa ∧ n0 ≤ na ∧ n0 ≤ ha
def SX (Z : State) (h : Heap) (o0 rb kc fa na ha : Addr) (kk kf kn kh : ClassId) (F L mm LL sz : Int32) (nf nl : Nat) (vs : List Value) (v1 v2 : Value) (rl : Int32) : Prop := IX Z h o0 rb kc fa na ha kk kf kn kh F L mm LL nf nl vs ∧ Exa Z h rb "com/example/headway/headway/engine/RowBuffer" ∧ Fld Z h rb "com/example/headway/headway/engine/RowBuffer" "size" "I" (.int sz) ∧ Fld Z h o0 "com/example/headway/headway/engine/HashIndex" "largerFirstInBucket" "[I" v1 ∧ Fld Z h o0 "com/example/headway/headway/engine/HashIndex" "largerNextInBucket" "[I" v2 ∧ Fld Z h o0 "com/example/headway/headway/engine/HashIndex" "relinked" "I" (.int rl)
theorem d11_0 : decode prog_57_method_2_code 0 = .ok (.aload_n 0, 1) := by decide +kernel
theorem d11_1 : decode prog_57_method_2_code 1 = .ok (.getfield 53, 3) := by decide +kernel
theorem d11_4 : decode prog_57_method_2_code 4 = .ok (.aload_n 0, 1) := by decide +kernel
theorem d11_5 : decode prog_57_method_2_code 5 = .ok (.getfield 25, 3) := by decide +kernel
theorem d11_8 : decode prog_57_method_2_code 8 = .ok (.invokevirtual 56, 3) := by decide +kernel
theorem d11_11 : decode prog_57_method_2_code 11 = .ok (.if_icmp .ge 148, 3) := by decide +kernel
theorem d11_14 : decode prog_57_method_2_code 14 = .ok (.aload_n 0, 1) := by decide +kernel
theorem d11_15 : decode prog_57_method_2_code 15 = .ok (.getfield 53, 3) := by decide +kernel
theorem d11_18 : decode prog_57_method_2_code 18 = .ok (.ldc 59, 2) := by decide +kernel
theorem d11_20 : decode prog_57_method_2_code 20 = .ok (.if_icmp .ne 13, 3) := by decide +kernel
theorem d11_33 : decode prog_57_method_2_code 33 = .ok (.aload_n 0, 1) := by decide +kernel
theorem d11_34 : decode prog_57_method_2_code 34 = .ok (.getfield 53, 3) := by decide +kernel
theorem d11_37 : decode prog_57_method_2_code 37 = .ok (.aload_n 0, 1) := by decide +kernel
theorem d11_38 : decode prog_57_method_2_code 38 = .ok (.getfield 16, 3) := by decide +kernel
theorem d11_41 : decode prog_57_method_2_code 41 = .ok (.arraylength, 1) := by decide +kernel
theorem d11_42 : decode prog_57_method_2_code 42 = .ok (.if_icmp .ne 37, 3) := by decide +kernel
theorem d11_79 : decode prog_57_method_2_code 79 = .ok (.aload_n 0, 1) := by decide +kernel
theorem d11_80 : decode prog_57_method_2_code 80 = .ok (.aload_n 0, 1) := by decide +kernel
theorem d11_81 : decode prog_57_method_2_code 81 = .ok (.getfield 53, 3) := by decide +kernel
theorem d11_84 : decode prog_57_method_2_code 84 = .ok (.invokevirtual 71, 3) := by decide +kernel
theorem d11_87 : decode prog_57_method_2_code 87 = .ok (.ldc 75, 2) := by decide +kernel
theorem d11_89 : decode prog_57_method_2_code 89 = .ok (.imul, 1) := by decide +kernel
theorem d11_90 : decode prog_57_method_2_code 90 = .ok (.istore_n 1, 1) := by decide +kernel
theorem d11_91 : decode prog_57_method_2_code 91 = .ok (.aload_n 0, 1) := by decide +kernel
theorem d11_92 : decode prog_57_method_2_code 92 = .ok (.getfield 16, 3) := by decide +kernel
theorem d11_95 : decode prog_57_method_2_code 95 = .ok (.aload_n 0, 1) := by decide +kernel
theorem d11_96 : decode prog_57_method_2_code 96 = .ok (.getfield 53, 3) := by decide +kernel
theorem d11_99 : decode prog_57_method_2_code 99 = .ok (.iload_n 1, 1) := by decide +kernel
theorem d11_100 : decode prog_57_method_2_code 100 = .ok (.iastore, 1) := by decide +kernel
theorem d11_101 : decode prog_57_method_2_code 101 = .ok (.aload_n 0, 1) := by decide +kernel
theorem d11_102 : decode prog_57_method_2_code 102 = .ok (.getfield 53, 3) := by decide +kernel
theorem d11_105 : decode prog_57_method_2_code 105 = .ok (.iload_n 1, 1) := by decide +kernel
theorem d11_106 : decode prog_57_method_2_code 106 = .ok (.aload_n 0, 1) := by decide +kernel
theorem d11_107 : decode prog_57_method_2_code 107 = .ok (.getfield 9, 3) := by decide +kernel
theorem d11_110 : decode prog_57_method_2_code 110 = .ok (.aload_n 0, 1) := by decide +kernel
theorem d11_111 : decode prog_57_method_2_code 111 = .ok (.getfield 13, 3) := by decide +kernel
theorem d11_114 : decode prog_57_method_2_code 114 = .ok (.invokestatic 76, 3) := by decide +kernel
theorem d11_117 : decode prog_57_method_2_code 117 = .ok (.aload_n 0, 1) := by decide +kernel
theorem d11_118 : decode prog_57_method_2_code 118 = .ok (.dup, 1) := by decide +kernel
theorem d11_119 : decode prog_57_method_2_code 119 = .ok (.getfield 53, 3) := by decide +kernel
theorem d11_122 : decode prog_57_method_2_code 122 = .ok (.iconst 1, 1) := by decide +kernel
theorem d11_123 : decode prog_57_method_2_code 123 = .ok (.iadd, 1) := by decide +kernel
theorem d11_124 : decode prog_57_method_2_code 124 = .ok (.putfield 53, 3) := by decide +kernel
theorem d11_127 : decode prog_57_method_2_code 127 = .ok (.aload_n 0, 1) := by decide +kernel
theorem d11_128 : decode prog_57_method_2_code 128 = .ok (.getfield 80, 3) := by decide +kernel
theorem d11_131 : decode prog_57_method_2_code 131 = .ok (.ifnull 10, 3) := by decide +kernel
theorem d11_141 : decode prog_57_method_2_code 141 = .ok (.aload_n 0, 1) := by decide +kernel
theorem d11_142 : decode prog_57_method_2_code 142 = .ok (.getfield 53, 3) := by decide +kernel
theorem d11_145 : decode prog_57_method_2_code 145 = .ok (.aload_n 0, 1) := by decide +kernel
theorem d11_146 : decode prog_57_method_2_code 146 = .ok (.getfield 21, 3) := by decide +kernel
theorem d11_149 : decode prog_57_method_2_code 149 = .ok (.if_icmp .le 7, 3) := by decide +kernel
theorem d11_156 : decode prog_57_method_2_code 156 = .ok (.goto (-156), 3) := by decide +kernel
set_option maxRecDepth 65536 in
set_option maxHeartbeats 40000000 in
theorem lp16_16 {p : Program} {l : Launch} {e : Env} {s : State} {m : MethodId} {args : Array Value} {below : List Frame} {meth : Method} {c : Code} {Z : State} {a0 : Array Value} {P : Outcome → State → Prop} (hx : p.tables.exec = Jvm.exec) (hZ : Z.Warmed39 s.vm) (hw : ∀ d ∈ tables_1, d.before a0 Z = true) (hby : c.code = prog_57_method_2_code) (hml : c.maxLocals = 2) (hown : s.vm.findClass "com/example/headway/headway/engine/HashIndex" = some m.cls) (o0 rb kc fa na ha : Addr) (kk kf kn kh : ClassId) (M sz LL rl : Int32) (n0 : Nat) (hB : Heap) (ws : List Addr) (D0 : NE o0 rb kc fa na ha n0) (hwo : o0 ∈ ws ∨ hB.size ≤ o0) (hwf : fa ∈ ws ∨ hB.size ≤ fa) (hwn : na ∈ ws ∨ hB.size ≤ na) (hwh : ha ∈ ws ∨ hB.size ≤ ha) (hMs : M.toInt ≤ sz.toInt) (hML : M.toInt ≤ LL.toInt) (hM : M.toInt ≤ 16)
    (hK : ∀ (vs : List Value) (T0 : State) (locs : List Loc) (h0 : Heap) (lv : Slot), (lv = .unset ∨ lv = .val (.int 0)) → Stand p l e (⟨4, 2, 64, 64⟩ : Room) s m args below meth c T0 locs 0 0 → T0.heap = h0 → Keep hB h0 ws → n0 ≤ h0.size → Fr n0 locs → SX Z h0 o0 rb kc fa na ha kk kf kn kh (16 : Int32) (16 : Int32) M LL sz 15 16 vs .null .null rl → vs.length = 16 → NX M vs → own_Out p e below P (T0.setTop (mkF m 0 #[rv o0, lv] []))) :
    ∀ (k : Nat) (mm : Int32) (vs : List Value) (T0 : State) (locs : List Loc) (h0 : Heap) (lv : Slot), M.toInt = mm.toInt + (k : Int) → 0 ≤ mm.toInt → (lv = .unset ∨ lv = .val (.int 0)) → Stand p l e (⟨4, 2, 64, 64⟩ : Room) s m args below meth c T0 locs 0 0 → T0.heap = h0 → Keep hB h0 ws → n0 ≤ h0.size → Fr n0 locs → SX Z h0 o0 rb kc fa na ha kk kf kn kh (16 : Int32) (16 : Int32) mm LL sz 15 16 vs .null .null rl → vs.length = 16 → NX mm vs → own_Out p e below P (T0.setTop (mkF m 0 #[rv o0, lv] [])) := by
  intro k
  induction k with
  | zero =>
    intro mm vs T0 locs h0 lv hk hm hlv X0 e0 K0 Z0 N0 S0 hlen hN
    have q : mm = M := Int32.toInt_inj.mp (by omega)
    subst q
    exact hK vs T0 locs h0 lv hlv X0 e0 K0 Z0 N0 S0 hlen hN
  | succ k ih =>
      intro mm vs T0 locs h0 lv hk hm hlv X0 e0 K0 Z0 N0 S0 hlen hN
      obtain ⟨⟨Ex, Frx, Fkx, Ffx, Fnx, Fhx, Flx, Fix, Vkx, Vfx, Vnx, Vhx⟩, Erx, Fsx, Fgx, Fmx, Fqx⟩ := S0
      obtain ⟨D_o0fa, D_o0na, D_o0ha, D_rbo0, D_rbfa, D_rbna, D_rbha, D_kco0, D_kcfa, D_kcna, D_kcha, D_fana, D_faha, D_naha, D_rbkc, G_o0, G_fa, G_na, G_ha⟩ := D0
      have hm1 : mm.toInt < 16 := by omega
      have hlt : mm < sz := Int32.lt_iff_toInt_lt.mpr (by omega)
      have hneM : ¬ (mm = (805306368 : Int32)) := fun q => by have n : (805306368 : Int32).toInt = 805306368 := rfl; rw [q, n] at hm1; omega
      have nL : (16 : Int32).toInt = 16 := rfl
      have hneL : ¬ (mm = (16 : Int32)) := fun q => by rw [q, nL] at hm1; omega
      have ha1 := own_add1 (m := mm) (by omega)
      have hLL : ¬ (LL < (mm + (1 : Int32))) := by rw [Int32.lt_iff_toInt_lt, ha1]; omega
      have n00 : (0 : Int32).toInt = 0 := rfl
      have hj : ¬ mm < 0 ∧ mm < (16 : Int32) := ⟨by rw [Int32.lt_iff_toInt_lt]; omega, by rw [Int32.lt_iff_toInt_lt, nL]; omega⟩
      have hnat := own_nat hj.1
      have hi : mm.toNatClampNeg < vs.length := by rw [hlen]; omega
      have hz : mm.toNatClampNeg < (zr 16).length := by unfold zr; rw [List.length_replicate]; omega
      show own_Out p e below _ (T0.setTop (mkF m 0 #[rv o0, lv] []))
      refine o_aloadN X0 hx hby d11_0 rfl rfl (q := 1) rfl ?_
      refine o_getF X0 hx hZ hown hby (w_ hw 95 rfl) Via.refl e0 Fix d11_1 (q := 4) rfl fun T1 X1 e1 => ?_
      refine o_aloadN X1 hx hby d11_4 rfl rfl (q := 5) rfl ?_
      refine o_getF X1 hx hZ hown hby (w_ hw 77 rfl) Via.refl e1 Frx d11_5 (q := 8) rfl fun T2 X2 e2 => ?_
      obtain ⟨cq3, kq3, q3a, q3b, q3c⟩ := isOf hZ e2 Erx
      obtain ⟨_, _, ⟨T3, L3, k3, n3⟩, -, X3, ⟨Lc3, hQ3, l3, y3, z3⟩, st3⟩ := X2.virtualBack hx (y := mn_9) (z := mn_9) hown (mvT hZ (w_ hw 97 rfl)) (mvT hZ (w_ hw 98 rfl)) (notFace_of_selects (args := #[]) (mvT hZ (w_ hw 100 rfl))) (mvT hZ (w_ hw 100 rfl)) (mvT hZ (w_ hw 99 rfl)) (by decide) (backOf (W := 1) (rm12 l Z a0 hw [] rb sz h0 n0 Z0 Fsx) hZ (w_ hw 101 rfl) (w_ hw 3 rfl) (by decide) (by decide)) q3a q3c (g := (mkF m 8 #[rv o0, lv] [.ref rb, .int mm])) rfl (by rw [hml]; rfl) (Steps.refl _) (argsL := []) (rest := [(.int mm)]) (lenOf pd_1 rfl) rfl (by show 2 * 0 + _ ≤ _; exact Nat.le_of_eq rfl) (hb hby d11_8) (fun _ _ => ⟨rfl, e2, (by decide : 0 + 0 ≤ _), (by decide : 0 + 0 ≤ _)⟩)
      dsimp only [Pt.U, Pt.locs, Pt.cells, Pt.slots] at X3 l3 y3 z3 st3 hQ3
      subst l3 y3 z3
      obtain ⟨rfl, N3q, hh3⟩ := hQ3
      have N3 := Fr.app N0 N3q
      refine own_of (fun _ k => st3.trans k) ?_
      show own_Out p e below _ (T3.setTop (mkF m 11 #[rv o0, lv] [.int sz, .int mm]))
      refine o_icN X3 hx hby d11_11 (tlt hlt).2.1 (q := 14) rfl ?_
      refine o_aloadN X3 hx hby d11_14 rfl rfl (q := 15) rfl ?_
      refine o_getF X3 hx hZ hown hby (w_ hw 95 rfl) Via.refl hh3 Fix d11_15 (q := 18) rfl fun T4 X4 e4 => ?_
      refine o_ldcI X4 hx hZ hown hby (w_ hw 113 rfl) d11_18 (q := 20) rfl ?_
      refine o_icY X4 hx hby d11_20 (feq hneM).2 (by decide) (q := 33) (by decide) ?_
      refine o_aloadN X4 hx hby d11_33 rfl rfl (q := 34) rfl ?_
      refine o_getF X4 hx hZ hown hby (w_ hw 95 rfl) Via.refl e4 Fix d11_34 (q := 37) rfl fun T5 X5 e5 => ?_
      refine o_aloadN X5 hx hby d11_37 rfl rfl (q := 38) rfl ?_
      refine o_getF X5 hx hZ hown hby (w_ hw 72 rfl) Via.refl e5 Fhx d11_38 (q := 41) rfl fun T6 X6 e6 => ?_
      refine o_lenV X6 hx hby hZ e6 Vhx d11_41 (q := 42) rfl ?_
      refine o_icY X6 hx hby d11_42 (feq hneL).2 (by decide) (q := 79) (by decide) ?_
      refine o_aloadN X6 hx hby d11_79 rfl rfl (q := 80) rfl ?_
      refine o_aloadN X6 hx hby d11_80 rfl rfl (q := 81) rfl ?_
      refine o_getF X6 hx hZ hown hby (w_ hw 95 rfl) Via.refl e6 Fix d11_81 (q := 84) rfl fun T7 X7 e7 => ?_
      obtain ⟨cq8, q8, q8'⟩ := Exa.cell Ex
      obtain ⟨_, _, ⟨T8, L8, k8, n8⟩, -, X8, ⟨Lc8, hQ8, l8, y8, z8⟩, st8⟩ := X7.privateBack hx (y := mn_18) hown (mvT hZ (w_ hw 153 rfl)) (mvT hZ (w_ hw 154 rfl)) (mvT hZ (own_selP (y := mn_18) (w_ hw 154 rfl) (w_ hw 155 rfl) (w_ hw 62 rfl) (by decide))) (Cond.privateMethod_at (mvP hZ (w_ hw 155 rfl) (args := #[]))) (mvT hZ (w_ hw 156 rfl)) (by decide) (backOf (W := 0) (rm23 l Z a0 hw [] o0 mm kc kk h0 n0 Z0 Fkx Vkx) hZ (w_ hw 156 rfl) (w_ hw 63 rfl) (by decide) (by decide)) (g := (mkF m 84 #[rv o0, lv] [.int mm, .ref o0])) rfl (by rw [hml]; rfl) (Steps.refl _) (a := o0) (by rw [e7]; exact q8) q8' (argsL := [(.int mm)]) (rest := []) (lenOf pd_7 rfl) rfl (by show 2 * 0 + _ ≤ _; exact Nat.le_of_eq rfl) (hb hby d11_84) (fun _ _ => ⟨rfl, e7, (by decide : 0 + 0 ≤ _), (by decide : 0 + 0 ≤ _)⟩)
      dsimp only [Pt.U, Pt.locs, Pt.cells, Pt.slots] at X8 l8 y8 z8 st8 hQ8
      subst l8 y8 z8
      obtain ⟨rfl, N8q, hh8⟩ := hQ8
      have N8 := Fr.app N3 N8q
      refine own_of (fun _ k => st8.trans k) ?_
      show own_Out p e below _ (T8.setTop (mkF m 87 #[rv o0, lv] [.int 0]))
      refine o_ldcI X8 hx hZ hown hby (w_ hw 123 rfl) d11_87 (q := 89) rfl ?_
      refine o_imul X8 hx hby d11_89 (z := 0) rfl (q := 90) rfl ?_
      refine o_istoreN X8 hx hby d11_90 (l' := #[rv o0, iv 0]) (by rcases hlv with rfl | rfl <;> rfl) (q := 91) rfl ?_
      refine o_aloadN X8 hx hby d11_91 rfl rfl (q := 92) rfl ?_
      refine o_getF X8 hx hZ hown hby (w_ hw 72 rfl) Via.refl hh8 Fhx d11_92 (q := 95) rfl fun T9 X9 e9 => ?_
      refine o_aloadN X9 hx hby d11_95 rfl rfl (q := 96) rfl ?_
      refine o_getF X9 hx hZ hown hby (w_ hw 95 rfl) Via.refl e9 Fix d11_96 (q := 99) rfl fun T10 X10 e10 => ?_
      refine o_iloadN X10 hx hby d11_99 rfl (q := 100) rfl ?_
      refine o_stV X10 hx hby hZ e10 Vhx hj mm.toNatClampNeg rfl hz d11_100 (q := 101) rfl fun T11 h11 X11 e11 W11 V11 => ?_
      have Vz11 : Arv Z h11 ha kh .int 16 (zr 16) (.int 0) := by have q := V11; rw [own_zset] at q; exact q
      refine o_aloadN X11 hx hby d11_101 rfl rfl (q := 102) rfl ?_
      have qz13 := (Fix.other W11 (Or.inl D_o0ha))
      refine o_getF X11 hx hZ hown hby (w_ hw 95 rfl) Via.refl e11 qz13 d11_102 (q := 105) rfl fun T12 X12 e12 => ?_
      refine o_iloadN X12 hx hby d11_105 rfl (q := 106) rfl ?_
      refine o_aloadN X12 hx hby d11_106 rfl rfl (q := 107) rfl ?_
      have qz15 := (Ffx.other W11 (Or.inl D_o0ha))
      refine o_getF X12 hx hZ hown hby (w_ hw 68 rfl) Via.refl e12 qz15 d11_107 (q := 110) rfl fun T14 X14 e14 => ?_
      refine o_aloadN X14 hx hby d11_110 rfl rfl (q := 111) rfl ?_
      have qz17 := (Fnx.other W11 (Or.inl D_o0ha))
      refine o_getF X14 hx hZ hown hby (w_ hw 70 rfl) Via.refl e14 qz17 d11_111 (q := 114) rfl fun T16 X16 e16 => ?_
      have qz19 := (Vfx.other W11 D_faha)
      have qz20 := (Vnx.other W11 D_naha)
      have qz21 := (Nat.le_trans Z0 (Keep.of_wr W11).1)
      obtain ⟨_, _, ⟨T18, L18, k18, n18⟩, -, X18, ⟨Lc18, hQ18, l18, y18, z18⟩, st18⟩ := Jvm.LawKit.callS X16 hx (y := mn_17) hown (mvT hZ (w_ hw 157 rfl)) (mvT hZ (w_ hw 158 rfl)) (mvT hZ (w_ hw 63 rfl)) (mvT hZ (w_ hw 159 rfl)) (by decide) (backOf (W := 0) (rm24n16 l Z a0 hw [] mm fa na kf kn (16 : Int32) (mm - (1 : Int32)) (List.replicate 15 (.int (-1))) vs h11 n0 qz21 qz19 qz20 G_fa G_na D_fana hj hi) hZ (w_ hw 159 rfl) (w_ hw 63 rfl) (by decide) (by decide)) (g := (mkF m 114 #[rv o0, iv 0] [.ref na, .ref fa, .int 0, .int mm])) rfl (by rw [hml]; rfl) (argsL := [(.int mm), (.int 0), (.ref fa), (.ref na)]) (rest := []) (lenOf pd_12 rfl) rfl (by show 2 * 0 + _ ≤ _; exact Nat.le_of_eq rfl) (hb hby d11_114) (fun _ _ => ⟨rfl, e16, (by decide : 0 + 0 ≤ _), (by decide : 0 + 0 ≤ _)⟩)
      dsimp only [Pt.U, Pt.locs, Pt.cells, Pt.slots] at X18 l18 y18 z18 st18 hQ18
      subst l18 y18 z18
      obtain ⟨rfl, N18q, K18, Vf18, Vn18⟩ := hQ18
      have N18 := Fr.app (Fr.snoc X11 N8 G_ha) N18q
      refine own_of st18 ?_
      show own_Out p e below _ (T18.setTop (mkF m 117 #[rv o0, iv 0] []))
      refine o_aloadN X18 hx hby d11_117 rfl rfl (q := 118) rfl ?_
      refine o_dup X18 hx hby d11_118 rfl (q := 119) rfl ?_
      have qz23 := (qz13.keep K18 (ninS D_o0fa (ninS D_o0na nin0)))
      refine o_getF X18 hx hZ hown hby (w_ hw 95 rfl) Via.refl rfl qz23 d11_119 (q := 122) rfl fun T22 X22 e22 => ?_
      refine o_iconst X22 hx hby d11_122 (z := 1) rfl (q := 123) rfl ?_
      refine o_iadd X22 hx hby d11_123 rfl (q := 124) rfl ?_
      have qz25 := ((Ex.wr W11).keep K18)
      obtain ⟨T24, h24, X24, e24, W24, st24⟩ := putF X22 hx hZ hown (host := "") (Or.inl (w_ hw 95 rfl)) Via.refl e22 qz23 qz25 (Or.inl (w_ hw 96 rfl)) (w_ hw 62 rfl) (ty := .int) (by decide) rfl rfl (g := (mkF m 124 #[rv o0, iv 0] [.int (mm + (1 : Int32)), .ref o0])) rfl rfl (hb hby d11_124)
      have Fw24 := qz23.same W24
      refine own_of st24 ?_
      show own_Out p e below _ (T24.setTop (mkF m 127 #[rv o0, iv 0] []))
      refine o_aloadN X24 hx hby d11_127 rfl rfl (q := 128) rfl ?_
      have qz27 := (((Fgx.other W11 (Or.inl D_o0ha)).keep K18 (ninS D_o0fa (ninS D_o0na nin0))).other W24 (Or.inr (slot_ne (Or.inl (w_ hw 110 rfl)) (Or.inl (w_ hw 96 rfl)) (by decide) (t := (.array .int)) (t' := .int) (by decide) (by decide))))
      refine o_getF X24 hx hZ hown hby (w_ hw 109 rfl) Via.refl e24 qz27 d11_128 (q := 131) rfl fun T26 X26 e26 => ?_
      refine own_of (fun _ k => XS.ifnullYes X26.here hx rfl (pc0 := 131) (pc' := 141) rfl (hb hby d11_131) rfl (by decide) (by decide) k) ?_
      show own_Out p e below _ (T26.setTop (mkF m 141 #[rv o0, iv 0] []))
      refine o_aloadN X26 hx hby d11_141 rfl rfl (q := 142) rfl ?_
      refine o_getF X26 hx hZ hown hby (w_ hw 95 rfl) Via.refl e26 Fw24 d11_142 (q := 145) rfl fun T28 X28 e28 => ?_
      refine o_aloadN X28 hx hby d11_145 rfl rfl (q := 146) rfl ?_
      have qz30 := (((Flx.other W11 (Or.inl D_o0ha)).keep K18 (ninS D_o0fa (ninS D_o0na nin0))).other W24 (Or.inr (slot_ne (Or.inl (w_ hw 76 rfl)) (Or.inl (w_ hw 96 rfl)) (by decide) (t := .int) (t' := .int) (by decide) (by decide))))
      refine o_getF X28 hx hZ hown hby (w_ hw 75 rfl) Via.refl e28 qz30 d11_146 (q := 149) rfl fun T29 X29 e29 => ?_
      refine o_icY X29 hx hby d11_149 (flt hLL).2.2.2 (by decide) (q := 156) (by decide) ?_
      refine o_goto X29 hx hby d11_156 (by decide) (q := 0) (by decide) ?_
      have qz31 := (((Vkx.other W11 D_kcha).keep K18 (ninS D_kcfa (ninS D_kcna nin0))).other W24 D_kco0)
      have qz32 := (Vf18.other W24 (Ne.symm D_o0fa))
      have qz33 := (Vn18.other W24 (Ne.symm D_o0na))
      have qz34 := ((Vz11.keep K18 (ninS (Ne.symm D_faha) (ninS (Ne.symm D_naha) nin0))).other W24 (Ne.symm D_o0ha))
      have qz35 := (qz25.wr W24)
      have qz36 := (((Frx.other W11 (Or.inl D_o0ha)).keep K18 (ninS D_o0fa (ninS D_o0na nin0))).other W24 (Or.inr (slot_ne (Or.inr (w_ hw 78 rfl)) (Or.inl (w_ hw 96 rfl)) (by decide) (t := (.object "com/example/headway/headway/engine/RowBuffer")) (t' := .int) (by decide) (by decide))))
      have qz37 := (((Fkx.other W11 (Or.inl D_o0ha)).keep K18 (ninS D_o0fa (ninS D_o0na nin0))).other W24 (Or.inr (slot_ne (Or.inr (w_ hw 81 rfl)) (Or.inl (w_ hw 96 rfl)) (by decide) (t := (.array .int)) (t' := .int) (by decide) (by decide))))
      have qz38 := ((qz15.keep K18 (ninS D_o0fa (ninS D_o0na nin0))).other W24 (Or.inr (slot_ne (Or.inl (w_ hw 69 rfl)) (Or.inl (w_ hw 96 rfl)) (by decide) (t := (.array .int)) (t' := .int) (by decide) (by decide))))
      have qz39 := ((qz17.keep K18 (ninS D_o0fa (ninS D_o0na nin0))).other W24 (Or.inr (slot_ne (Or.inl (w_ hw 71 rfl)) (Or.inl (w_ hw 96 rfl)) (by decide) (t := (.array .int)) (t' := .int) (by decide) (by decide))))
      have qz40 := (((Fhx.other W11 (Or.inl D_o0ha)).keep K18 (ninS D_o0fa (ninS D_o0na nin0))).other W24 (Or.inr (slot_ne (Or.inl (w_ hw 73 rfl)) (Or.inl (w_ hw 96 rfl)) (by decide) (t := (.array .int)) (t' := .int) (by decide) (by decide))))
      have qz41 := (((Erx.wr W11).keep K18).wr W24)
      have qz42 := (((Fsx.other W11 (Or.inl D_rbha)).keep K18 (ninS D_rbfa (ninS D_rbna nin0))).other W24 (Or.inl D_rbo0))
      have qz43 := (((Fmx.other W11 (Or.inl D_o0ha)).keep K18 (ninS D_o0fa (ninS D_o0na nin0))).other W24 (Or.inr (slot_ne (Or.inl (w_ hw 112 rfl)) (Or.inl (w_ hw 96 rfl)) (by decide) (t := (.array .int)) (t' := .int) (by decide) (by decide))))
      have qz44 := (((Fqx.other W11 (Or.inl D_o0ha)).keep K18 (ninS D_o0fa (ninS D_o0na nin0))).other W24 (Or.inr (slot_ne (Or.inl (w_ hw 176 rfl)) (Or.inl (w_ hw 96 rfl)) (by decide) (t := .int) (t' := .int) (by decide) (by decide))))
      have qz45 := (((K0.wr W11 (hwh)).trans K18 (allS (hwf) (allS (hwn) all0))).wr W24 (hwo))
      have qz46 := (Nat.le_trans (Nat.le_trans qz21 K18.1) (Keep.of_wr W24).1)
      exact ih (mm + 1) (vs.set mm.toNatClampNeg (.int (mm - 1))) _ _ h24 _ (by rw [ha1]; omega) (by rw [ha1]; omega) (Or.inr rfl) X29 e29 qz45 qz46 (Fr.snoc X24 N18 G_o0) ⟨⟨qz35, qz36, qz37, qz38, qz39, qz40, qz30, Fw24, qz31, (by show Arv Z _ fa kf .int 16 (fl (mm + 1) 15) _; unfold fl; rw [own_pm]; exact qz32), qz33, qz34⟩, qz41, qz42, qz27, qz43, qz44⟩ (by rw [List.length_set]; exact hlen) (hN.put hm (by omega) hi)
set_option maxRecDepth 65536 in
set_option maxHeartbeats 40000000 in
theorem lp16_32 {p : Program} {l : Launch} {e : Env} {s : State} {m : MethodId} {args : Array Value} {below : List Frame} {meth : Method} {c : Code} {Z : State} {a0 : Array Value} {P : Outcome → State → Prop} (hx : p.tables.exec = Jvm.exec) (hZ : Z.Warmed39 s.vm) (hw : ∀ d ∈ tables_1, d.before a0 Z = true) (hby : c.code = prog_57_method_2_code) (hml : c.maxLocals = 2) (hown : s.vm.findClass "com/example/headway/headway/engine/HashIndex" = some m.cls) (o0 rb kc fa na ha : Addr) (kk kf kn kh : ClassId) (M sz LL rl : Int32) (n0 : Nat) (hB : Heap) (ws : List Addr) (D0 : NE o0 rb kc fa na ha n0) (hwo : o0 ∈ ws ∨ hB.size ≤ o0) (hwf : fa ∈ ws ∨ hB.size ≤ fa) (hwn : na ∈ ws ∨ hB.size ≤ na) (hwh : ha ∈ ws ∨ hB.size ≤ ha) (hMs : M.toInt ≤ sz.toInt) (hML : M.toInt ≤ LL.toInt) (hM : M.toInt ≤ 32)
    (hK : ∀ (vs : List Value) (T0 : State) (locs : List Loc) (h0 : Heap) (lv : Slot), (lv = .unset ∨ lv = .val (.int 0)) → Stand p l e (⟨4, 2, 64, 64⟩ : Room) s m args below meth c T0 locs 2 64 → T0.heap = h0 → Keep hB h0 ws → n0 ≤ h0.size → Fr n0 locs → SX Z h0 o0 rb kc fa na ha kk kf kn kh (16 : Int32) (32 : Int32) M LL sz 15 32 vs .null .null rl → vs.length = 32 → NX M vs → own_Out p e below P (T0.setTop (mkF m 0 #[rv o0, lv] []))) :
    ∀ (k : Nat) (mm : Int32) (vs : List Value) (T0 : State) (locs : List Loc) (h0 : Heap) (lv : Slot), M.toInt = mm.toInt + (k : Int) → 0 ≤ mm.toInt → (lv = .unset ∨ lv = .val (.int 0)) → Stand p l e (⟨4, 2, 64, 64⟩ : Room) s m args below meth c T0 locs 2 64 → T0.heap = h0 → Keep hB h0 ws → n0 ≤ h0.size → Fr n0 locs → SX Z h0 o0 rb kc fa na ha kk kf kn kh (16 : Int32) (32 : Int32) mm LL sz 15 32 vs .null .null rl → vs.length = 32 → NX mm vs → own_Out p e below P (T0.setTop (mkF m 0 #[rv o0, lv] [])) := by
  intro k
  induction k with
  | zero =>
    intro mm vs T0 locs h0 lv hk hm hlv X0 e0 K0 Z0 N0 S0 hlen hN
    have q : mm = M := Int32.toInt_inj.mp (by omega)
    subst q
    exact hK vs T0 locs h0 lv hlv X0 e0 K0 Z0 N0 S0 hlen hN
  | succ k ih =>
      intro mm vs T0 locs h0 lv hk hm hlv X0 e0 K0 Z0 N0 S0 hlen hN
      obtain ⟨⟨Ex, Frx, Fkx, Ffx, Fnx, Fhx, Flx, Fix, Vkx, Vfx, Vnx, Vhx⟩, Erx, Fsx, Fgx, Fmx, Fqx⟩ := S0
      obtain ⟨D_o0fa, D_o0na, D_o0ha, D_rbo0, D_rbfa, D_rbna, D_rbha, D_kco0, D_kcfa, D_kcna, D_kcha, D_fana, D_faha, D_naha, D_rbkc, G_o0, G_fa, G_na, G_ha⟩ := D0
      have hm1 : mm.toInt < 32 := by omega
      have hlt : mm < sz := Int32.lt_iff_toInt_lt.mpr (by omega)
      have hneM : ¬ (mm = (805306368 : Int32)) := fun q => by have n : (805306368 : Int32).toInt = 805306368 := rfl; rw [q, n] at hm1; omega
      have nL : (32 : Int32).toInt = 32 := rfl
      have hneL : ¬ (mm = (32 : Int32)) := fun q => by rw [q, nL] at hm1; omega
      have ha1 := own_add1 (m := mm) (by omega)
      have hLL : ¬ (LL < (mm + (1 : Int32))) := by rw [Int32.lt_iff_toInt_lt, ha1]; omega
      have n00 : (0 : Int32).toInt = 0 := rfl
      have hj : ¬ mm < 0 ∧ mm < (32 : Int32) := ⟨by rw [Int32.lt_iff_toInt_lt]; omega, by rw [Int32.lt_iff_toInt_lt, nL]; omega⟩
      have hnat := own_nat hj.1
      have hi : mm.toNatClampNeg < vs.length := by rw [hlen]; omega
      have hz : mm.toNatClampNeg < (zr 32).length := by unfold zr; rw [List.length_replicate]; omega
      show own_Out p e below _ (T0.setTop (mkF m 0 #[rv o0, lv] []))
      refine o_aloadN X0 hx hby d11_0 rfl rfl (q := 1) rfl ?_
      refine o_getF X0 hx hZ hown hby (w_ hw 95 rfl) Via.refl e0 Fix d11_1 (q := 4) rfl fun T1 X1 e1 => ?_
      refine o_aloadN X1 hx hby d11_4 rfl rfl (q := 5) rfl ?_
      refine o_getF X1 hx hZ hown hby (w_ hw 77 rfl) Via.refl e1 Frx d11_5 (q := 8) rfl fun T2 X2 e2 => ?_
      obtain ⟨cq3, kq3, q3a, q3b, q3c⟩ := isOf hZ e2 Erx
      obtain ⟨_, _, ⟨T3, L3, k3, n3⟩, -, X3, ⟨Lc3, hQ3, l3, y3, z3⟩, st3⟩ := X2.virtualBack hx (y := mn_9) (z := mn_9) hown (mvT hZ (w_ hw 97 rfl)) (mvT hZ (w_ hw 98 rfl)) (notFace_of_selects (args := #[]) (mvT hZ (w_ hw 100 rfl))) (mvT hZ (w_ hw 100 rfl)) (mvT hZ (w_ hw 99 rfl)) (by decide) (backOf (W := 1) (rm12 l Z a0 hw [] rb sz h0 n0 Z0 Fsx) hZ (w_ hw 101 rfl) (w_ hw 3 rfl) (by decide) (by decide)) q3a q3c (g := (mkF m 8 #[rv o0, lv] [.ref rb, .int mm])) rfl (by rw [hml]; rfl) (Steps.refl _) (argsL := []) (rest := [(.int mm)]) (lenOf pd_1 rfl) rfl (by show 2 * 0 + _ ≤ _; exact Nat.le_of_eq rfl) (hb hby d11_8) (fun _ _ => ⟨rfl, e2, (by decide : 2 + 0 ≤ _), (by decide : 64 + 0 ≤ _)⟩)
      dsimp only [Pt.U, Pt.locs, Pt.cells, Pt.slots] at X3 l3 y3 z3 st3 hQ3
      subst l3 y3 z3
      obtain ⟨rfl, N3q, hh3⟩ := hQ3
      have N3 := Fr.app N0 N3q
      refine own_of (fun _ k => st3.trans k) ?_
      show own_Out p e below _ (T3.setTop (mkF m 11 #[rv o0, lv] [.int sz, .int mm]))
      refine o_icN X3 hx hby d11_11 (tlt hlt).2.1 (q := 14) rfl ?_
      refine o_aloadN X3 hx hby d11_14 rfl rfl (q := 15) rfl ?_
      refine o_getF X3 hx hZ hown hby (w_ hw 95 rfl) Via.refl hh3 Fix d11_15 (q := 18) rfl fun T4 X4 e4 => ?_
      refine o_ldcI X4 hx hZ hown hby (w_ hw 113 rfl) d11_18 (q := 20) rfl ?_
      refine o_icY X4 hx hby d11_20 (feq hneM).2 (by decide) (q := 33) (by decide) ?_
      refine o_aloadN X4 hx hby d11_33 rfl rfl (q := 34) rfl ?_
      refine o_getF X4 hx hZ hown hby (w_ hw 95 rfl) Via.refl e4 Fix d11_34 (q := 37) rfl fun T5 X5 e5 => ?_
      refine o_aloadN X5 hx hby d11_37 rfl rfl (q := 38) rfl ?_
      refine o_getF X5 hx hZ hown hby (w_ hw 72 rfl) Via.refl e5 Fhx d11_38 (q := 41) rfl fun T6 X6 e6 => ?_
      refine o_lenV X6 hx hby hZ e6 Vhx d11_41 (q := 42) rfl ?_
      refine o_icY X6 hx hby d11_42 (feq hneL).2 (by decide) (q := 79) (by decide) ?_
      refine o_aloadN X6 hx hby d11_79 rfl rfl (q := 80) rfl ?_
      refine o_aloadN X6 hx hby d11_80 rfl rfl (q := 81) rfl ?_
      refine o_getF X6 hx hZ hown hby (w_ hw 95 rfl) Via.refl e6 Fix d11_81 (q := 84) rfl fun T7 X7 e7 => ?_
      obtain ⟨cq8, q8, q8'⟩ := Exa.cell Ex
      obtain ⟨_, _, ⟨T8, L8, k8, n8⟩, -, X8, ⟨Lc8, hQ8, l8, y8, z8⟩, st8⟩ := X7.privateBack hx (y := mn_18) hown (mvT hZ (w_ hw 153 rfl)) (mvT hZ (w_ hw 154 rfl)) (mvT hZ (own_selP (y := mn_18) (w_ hw 154 rfl) (w_ hw 155 rfl) (w_ hw 62 rfl) (by decide))) (Cond.privateMethod_at (mvP hZ (w_ hw 155 rfl) (args := #[]))) (mvT hZ (w_ hw 156 rfl)) (by decide) (backOf (W := 0) (rm23 l Z a0 hw [] o0 mm kc kk h0 n0 Z0 Fkx Vkx) hZ (w_ hw 156 rfl) (w_ hw 63 rfl) (by decide) (by decide)) (g := (mkF m 84 #[rv o0, lv] [.int mm, .ref o0])) rfl (by rw [hml]; rfl) (Steps.refl _) (a := o0) (by rw [e7]; exact q8) q8' (argsL := [(.int mm)]) (rest := []) (lenOf pd_7 rfl) rfl (by show 2 * 0 + _ ≤ _; exact Nat.le_of_eq rfl) (hb hby d11_84) (fun _ _ => ⟨rfl, e7, (by decide : 2 + 0 ≤ _), (by decide : 64 + 0 ≤ _)⟩)
      dsimp only [Pt.U, Pt.locs, Pt.cells, Pt.slots] at X8 l8 y8 z8 st8 hQ8
      subst l8 y8 z8
      obtain ⟨rfl, N8q, hh8⟩ := hQ8
      have N8 := Fr.app N3 N8q
      refine own_of (fun _ k => st8.trans k) ?_
      show own_Out p e below _ (T8.setTop (mkF m 87 #[rv o0, lv] [.int 0]))
      refine o_ldcI X8 hx hZ hown hby (w_ hw 123 rfl) d11_87 (q := 89) rfl ?_
      refine o_imul X8 hx hby d11_89 (z := 0) rfl (q := 90) rfl ?_
      refine o_istoreN X8 hx hby d11_90 (l' := #[rv o0, iv 0]) (by rcases hlv with rfl | rfl <;> rfl) (q := 91) rfl ?_
      refine o_aloadN X8 hx hby d11_91 rfl rfl (q := 92) rfl ?_
      refine o_getF X8 hx hZ hown hby (w_ hw 72 rfl) Via.refl hh8 Fhx d11_92 (q := 95) rfl fun T9 X9 e9 => ?_
      refine o_aloadN X9 hx hby d11_95 rfl rfl (q := 96) rfl ?_
      refine o_getF X9 hx hZ hown hby (w_ hw 95 rfl) Via.refl e9 Fix d11_96 (q := 99) rfl fun T10 X10 e10 => ?_
      refine o_iloadN X10 hx hby d11_99 rfl (q := 100) rfl ?_
      refine o_stV X10 hx hby hZ e10 Vhx hj mm.toNatClampNeg rfl hz d11_100 (q := 101) rfl fun T11 h11 X11 e11 W11 V11 => ?_
      have Vz11 : Arv Z h11 ha kh .int 32 (zr 32) (.int 0) := by have q := V11; rw [own_zset] at q; exact q
      refine o_aloadN X11 hx hby d11_101 rfl rfl (q := 102) rfl ?_
      have qz13 := (Fix.other W11 (Or.inl D_o0ha))
      refine o_getF X11 hx hZ hown hby (w_ hw 95 rfl) Via.refl e11 qz13 d11_102 (q := 105) rfl fun T12 X12 e12 => ?_
      refine o_iloadN X12 hx hby d11_105 rfl (q := 106) rfl ?_
      refine o_aloadN X12 hx hby d11_106 rfl rfl (q := 107) rfl ?_
      have qz15 := (Ffx.other W11 (Or.inl D_o0ha))
      refine o_getF X12 hx hZ hown hby (w_ hw 68 rfl) Via.refl e12 qz15 d11_107 (q := 110) rfl fun T14 X14 e14 => ?_
      refine o_aloadN X14 hx hby d11_110 rfl rfl (q := 111) rfl ?_
      have qz17 := (Fnx.other W11 (Or.inl D_o0ha))
      refine o_getF X14 hx hZ hown hby (w_ hw 70 rfl) Via.refl e14 qz17 d11_111 (q := 114) rfl fun T16 X16 e16 => ?_
      have qz19 := (Vfx.other W11 D_faha)
      have qz20 := (Vnx.other W11 D_naha)
      have qz21 := (Nat.le_trans Z0 (Keep.of_wr W11).1)
      obtain ⟨_, _, ⟨T18, L18, k18, n18⟩, -, X18, ⟨Lc18, hQ18, l18, y18, z18⟩, st18⟩ := Jvm.LawKit.callS X16 hx (y := mn_17) hown (mvT hZ (w_ hw 157 rfl)) (mvT hZ (w_ hw 158 rfl)) (mvT hZ (w_ hw 63 rfl)) (mvT hZ (w_ hw 159 rfl)) (by decide) (backOf (W := 0) (rm24n16 l Z a0 hw [] mm fa na kf kn (32 : Int32) (mm - (1 : Int32)) (List.replicate 15 (.int (-1))) vs h11 n0 qz21 qz19 qz20 G_fa G_na D_fana hj hi) hZ (w_ hw 159 rfl) (w_ hw 63 rfl) (by decide) (by decide)) (g := (mkF m 114 #[rv o0, iv 0] [.ref na, .ref fa, .int 0, .int mm])) rfl (by rw [hml]; rfl) (argsL := [(.int mm), (.int 0), (.ref fa), (.ref na)]) (rest := []) (lenOf pd_12 rfl) rfl (by show 2 * 0 + _ ≤ _; exact Nat.le_of_eq rfl) (hb hby d11_114) (fun _ _ => ⟨rfl, e16, (by decide : 2 + 0 ≤ _), (by decide : 64 + 0 ≤ _)⟩)
      dsimp only [Pt.U, Pt.locs, Pt.cells, Pt.slots] at X18 l18 y18 z18 st18 hQ18
      subst l18 y18 z18
      obtain ⟨rfl, N18q, K18, Vf18, Vn18⟩ := hQ18
      have N18 := Fr.app (Fr.snoc X11 N8 G_ha) N18q
      refine own_of st18 ?_
      show own_Out p e below _ (T18.setTop (mkF m 117 #[rv o0, iv 0] []))
      refine o_aloadN X18 hx hby d11_117 rfl rfl (q := 118) rfl ?_
      refine o_dup X18 hx hby d11_118 rfl (q := 119) rfl ?_
      have qz23 := (qz13.keep K18 (ninS D_o0fa (ninS D_o0na nin0)))
      refine o_getF X18 hx hZ hown hby (w_ hw 95 rfl) Via.refl rfl qz23 d11_119 (q := 122) rfl fun T22 X22 e22 => ?_
      refine o_iconst X22 hx hby d11_122 (z := 1) rfl (q := 123) rfl ?_
      refine o_iadd X22 hx hby d11_123 rfl (q := 124) rfl ?_
      have qz25 := ((Ex.wr W11).keep K18)
      obtain ⟨T24, h24, X24, e24, W24, st24⟩ := putF X22 hx hZ hown (host := "") (Or.inl (w_ hw 95 rfl)) Via.refl e22 qz23 qz25 (Or.inl (w_ hw 96 rfl)) (w_ hw 62 rfl) (ty := .int) (by decide) rfl rfl (g := (mkF m 124 #[rv o0, iv 0] [.int (mm + (1 : Int32)), .ref o0])) rfl rfl (hb hby d11_124)
      have Fw24 := qz23.same W24
      refine own_of st24 ?_
      show own_Out p e below _ (T24.setTop (mkF m 127 #[rv o0, iv 0] []))
      refine o_aloadN X24 hx hby d11_127 rfl rfl (q := 128) rfl ?_
      have qz27 := (((Fgx.other W11 (Or.inl D_o0ha)).keep K18 (ninS D_o0fa (ninS D_o0na nin0))).other W24 (Or.inr (slot_ne (Or.inl (w_ hw 110 rfl)) (Or.inl (w_ hw 96 rfl)) (by decide) (t := (.array .int)) (t' := .int) (by decide) (by decide))))
      refine o_getF X24 hx hZ hown hby (w_ hw 109 rfl) Via.refl e24 qz27 d11_128 (q := 131) rfl fun T26 X26 e26 => ?_
      refine own_of (fun _ k => XS.ifnullYes X26.here hx rfl (pc0 := 131) (pc' := 141) rfl (hb hby d11_131) rfl (by decide) (by decide) k) ?_
      show own_Out p e below _ (T26.setTop (mkF m 141 #[rv o0, iv 0] []))
      refine o_aloadN X26 hx hby d11_141 rfl rfl (q := 142) rfl ?_
      refine o_getF X26 hx hZ hown hby (w_ hw 95 rfl) Via.refl e26 Fw24 d11_142 (q := 145) rfl fun T28 X28 e28 => ?_
      refine o_aloadN X28 hx hby d11_145 rfl rfl (q := 146) rfl ?_
      have qz30 := (((Flx.other W11 (Or.inl D_o0ha)).keep K18 (ninS D_o0fa (ninS D_o0na nin0))).other W24 (Or.inr (slot_ne (Or.inl (w_ hw 76 rfl)) (Or.inl (w_ hw 96 rfl)) (by decide) (t := .int) (t' := .int) (by decide) (by decide))))
      refine o_getF X28 hx hZ hown hby (w_ hw 75 rfl) Via.refl e28 qz30 d11_146 (q := 149) rfl fun T29 X29 e29 => ?_
      refine o_icY X29 hx hby d11_149 (flt hLL).2.2.2 (by decide) (q := 156) (by decide) ?_
      refine o_goto X29 hx hby d11_156 (by decide) (q := 0) (by decide) ?_
      have qz31 := (((Vkx.other W11 D_kcha).keep K18 (ninS D_kcfa (ninS D_kcna nin0))).other W24 D_kco0)
      have qz32 := (Vf18.other W24 (Ne.symm D_o0fa))
      have qz33 := (Vn18.other W24 (Ne.symm D_o0na))
      have qz34 := ((Vz11.keep K18 (ninS (Ne.symm D_faha) (ninS (Ne.symm D_naha) nin0))).other W24 (Ne.symm D_o0ha))
      have qz35 := (qz25.wr W24)
      have qz36 := (((Frx.other W11 (Or.inl D_o0ha)).keep K18 (ninS D_o0fa (ninS D_o0na nin0))).other W24 (Or.inr (slot_ne (Or.inr (w_ hw 78 rfl)) (Or.inl (w_ hw 96 rfl)) (by decide) (t := (.object "com/example/headway/headway/engine/RowBuffer")) (t' := .int) (by decide) (by decide))))
      have qz37 := (((Fkx.other W11 (Or.inl D_o0ha)).keep K18 (ninS D_o0fa (ninS D_o0na nin0))).other W24 (Or.inr (slot_ne (Or.inr (w_ hw 81 rfl)) (Or.inl (w_ hw 96 rfl)) (by decide) (t := (.array .int)) (t' := .int) (by decide) (by decide))))
      have qz38 := ((qz15.keep K18 (ninS D_o0fa (ninS D_o0na nin0))).other W24 (Or.inr (slot_ne (Or.inl (w_ hw 69 rfl)) (Or.inl (w_ hw 96 rfl)) (by decide) (t := (.array .int)) (t' := .int) (by decide) (by decide))))
      have qz39 := ((qz17.keep K18 (ninS D_o0fa (ninS D_o0na nin0))).other W24 (Or.inr (slot_ne (Or.inl (w_ hw 71 rfl)) (Or.inl (w_ hw 96 rfl)) (by decide) (t := (.array .int)) (t' := .int) (by decide) (by decide))))
      have qz40 := (((Fhx.other W11 (Or.inl D_o0ha)).keep K18 (ninS D_o0fa (ninS D_o0na nin0))).other W24 (Or.inr (slot_ne (Or.inl (w_ hw 73 rfl)) (Or.inl (w_ hw 96 rfl)) (by decide) (t := (.array .int)) (t' := .int) (by decide) (by decide))))
      have qz41 := (((Erx.wr W11).keep K18).wr W24)
      have qz42 := (((Fsx.other W11 (Or.inl D_rbha)).keep K18 (ninS D_rbfa (ninS D_rbna nin0))).other W24 (Or.inl D_rbo0))
      have qz43 := (((Fmx.other W11 (Or.inl D_o0ha)).keep K18 (ninS D_o0fa (ninS D_o0na nin0))).other W24 (Or.inr (slot_ne (Or.inl (w_ hw 112 rfl)) (Or.inl (w_ hw 96 rfl)) (by decide) (t := (.array .int)) (t' := .int) (by decide) (by decide))))
      have qz44 := (((Fqx.other W11 (Or.inl D_o0ha)).keep K18 (ninS D_o0fa (ninS D_o0na nin0))).other W24 (Or.inr (slot_ne (Or.inl (w_ hw 176 rfl)) (Or.inl (w_ hw 96 rfl)) (by decide) (t := .int) (t' := .int) (by decide) (by decide))))
      have qz45 := (((K0.wr W11 (hwh)).trans K18 (allS (hwf) (allS (hwn) all0))).wr W24 (hwo))
      have qz46 := (Nat.le_trans (Nat.le_trans qz21 K18.1) (Keep.of_wr W24).1)
      exact ih (mm + 1) (vs.set mm.toNatClampNeg (.int (mm - 1))) _ _ h24 _ (by rw [ha1]; omega) (by rw [ha1]; omega) (Or.inr rfl) X29 e29 qz45 qz46 (Fr.snoc X24 N18 G_o0) ⟨⟨qz35, qz36, qz37, qz38, qz39, qz40, qz30, Fw24, qz31, (by show Arv Z _ fa kf .int 16 (fl (mm + 1) 15) _; unfold fl; rw [own_pm]; exact qz32), qz33, qz34⟩, qz41, qz42, qz27, qz43, qz44⟩ (by rw [List.length_set]; exact hlen) (hN.put hm (by omega) hi)
set_option maxRecDepth 65536 in
set_option maxHeartbeats 40000000 in
theorem lp32_16 {p : Program} {l : Launch} {e : Env} {s : State} {m : MethodId} {args : Array Value} {below : List Frame} {meth : Method} {c : Code} {Z : State} {a0 : Array Value} {P : Outcome → State → Prop} (hx : p.tables.exec = Jvm.exec) (hZ : Z.Warmed39 s.vm) (hw : ∀ d ∈ tables_1, d.before a0 Z = true) (hby : c.code = prog_57_method_2_code) (hml : c.maxLocals = 2) (hown : s.vm.findClass "com/example/headway/headway/engine/HashIndex" = some m.cls) (o0 rb kc fa na ha : Addr) (kk kf kn kh : ClassId) (M sz LL rl : Int32) (n0 : Nat) (hB : Heap) (ws : List Addr) (D0 : NE o0 rb kc fa na ha n0) (hwo : o0 ∈ ws ∨ hB.size ≤ o0) (hwf : fa ∈ ws ∨ hB.size ≤ fa) (hwn : na ∈ ws ∨ hB.size ≤ na) (hwh : ha ∈ ws ∨ hB.size ≤ ha) (hMs : M.toInt ≤ sz.toInt) (hML : M.toInt ≤ LL.toInt) (hM : M.toInt ≤ 16)
    (hK : ∀ (vs : List Value) (T0 : State) (locs : List Loc) (h0 : Heap) (lv : Slot), (lv = .unset ∨ lv = .val (.int 0)) → Stand p l e (⟨4, 2, 64, 64⟩ : Room) s m args below meth c T0 locs 0 0 → T0.heap = h0 → Keep hB h0 ws → n0 ≤ h0.size → Fr n0 locs → SX Z h0 o0 rb kc fa na ha kk kf kn kh (32 : Int32) (16 : Int32) M LL sz 31 16 vs .null .null rl → vs.length = 16 → NX M vs → own_Out p e below P (T0.setTop (mkF m 0 #[rv o0, lv] []))) :
    ∀ (k : Nat) (mm : Int32) (vs : List Value) (T0 : State) (locs : List Loc) (h0 : Heap) (lv : Slot), M.toInt = mm.toInt + (k : Int) → 0 ≤ mm.toInt → (lv = .unset ∨ lv = .val (.int 0)) → Stand p l e (⟨4, 2, 64, 64⟩ : Room) s m args below meth c T0 locs 0 0 → T0.heap = h0 → Keep hB h0 ws → n0 ≤ h0.size → Fr n0 locs → SX Z h0 o0 rb kc fa na ha kk kf kn kh (32 : Int32) (16 : Int32) mm LL sz 31 16 vs .null .null rl → vs.length = 16 → NX mm vs → own_Out p e below P (T0.setTop (mkF m 0 #[rv o0, lv] [])) := by
  intro k
  induction k with
  | zero =>
    intro mm vs T0 locs h0 lv hk hm hlv X0 e0 K0 Z0 N0 S0 hlen hN
    have q : mm = M := Int32.toInt_inj.mp (by omega)
    subst q
    exact hK vs T0 locs h0 lv hlv X0 e0 K0 Z0 N0 S0 hlen hN
  | succ k ih =>
      intro mm vs T0 locs h0 lv hk hm hlv X0 e0 K0 Z0 N0 S0 hlen hN
      obtain ⟨⟨Ex, Frx, Fkx, Ffx, Fnx, Fhx, Flx, Fix, Vkx, Vfx, Vnx, Vhx⟩, Erx, Fsx, Fgx, Fmx, Fqx⟩ := S0
      obtain ⟨D_o0fa, D_o0na, D_o0ha, D_rbo0, D_rbfa, D_rbna, D_rbha, D_kco0, D_kcfa, D_kcna, D_kcha, D_fana, D_faha, D_naha, D_rbkc, G_o0, G_fa, G_na, G_ha⟩ := D0
      have hm1 : mm.toInt < 16 := by omega
      have hlt : mm < sz := Int32.lt_iff_toInt_lt.mpr (by omega)
      have hneM : ¬ (mm = (805306368 : Int32)) := fun q => by have n : (805306368 : Int32).toInt = 805306368 := rfl; rw [q, n] at hm1; omega
      have nL : (16 : Int32).toInt = 16 := rfl
      have hneL : ¬ (mm = (16 : Int32)) := fun q => by rw [q, nL] at hm1; omega
      have ha1 := own_add1 (m := mm) (by omega)
      have hLL : ¬ (LL < (mm + (1 : Int32))) := by rw [Int32.lt_iff_toInt_lt, ha1]; omega
      have n00 : (0 : Int32).toInt = 0 := rfl
      have hj : ¬ mm < 0 ∧ mm < (16 : Int32) := ⟨by rw [Int32.lt_iff_toInt_lt]; omega, by rw [Int32.lt_iff_toInt_lt, nL]; omega⟩
      have hnat := own_nat hj.1
      have hi : mm.toNatClampNeg < vs.length := by rw [hlen]; omega
      have hz : mm.toNatClampNeg < (zr 16).length := by unfold zr; rw [List.length_replicate]; omega
      show own_Out p e below _ (T0.setTop (mkF m 0 #[rv o0, lv] []))
      refine o_aloadN X0 hx hby d11_0 rfl rfl (q := 1) rfl ?_
      refine o_getF X0 hx hZ hown hby (w_ hw 95 rfl) Via.refl e0 Fix d11_1 (q := 4) rfl fun T1 X1 e1 => ?_
      refine o_aloadN X1 hx hby d11_4 rfl rfl (q := 5) rfl ?_
      refine o_getF X1 hx hZ hown hby (w_ hw 77 rfl) Via.refl e1 Frx d11_5 (q := 8) rfl fun T2 X2 e2 => ?_
      obtain ⟨cq3, kq3, q3a, q3b, q3c⟩ := isOf hZ e2 Erx
      obtain ⟨_, _, ⟨T3, L3, k3, n3⟩, -, X3, ⟨Lc3, hQ3, l3, y3, z3⟩, st3⟩ := X2.virtualBack hx (y := mn_9) (z := mn_9) hown (mvT hZ (w_ hw 97 rfl)) (mvT hZ (w_ hw 98 rfl)) (notFace_of_selects (args := #[]) (mvT hZ (w_ hw 100 rfl))) (mvT hZ (w_ hw 100 rfl)) (mvT hZ (w_ hw 99 rfl)) (by decide) (backOf (W := 1) (rm12 l Z a0 hw [] rb sz h0 n0 Z0 Fsx) hZ (w_ hw 101 rfl) (w_ hw 3 rfl) (by decide) (by decide)) q3a q3c (g := (mkF m 8 #[rv o0, lv] [.ref rb, .int mm])) rfl (by rw [hml]; rfl) (Steps.refl _) (argsL := []) (rest := [(.int mm)]) (lenOf pd_1 rfl) rfl (by show 2 * 0 + _ ≤ _; exact Nat.le_of_eq rfl) (hb hby d11_8) (fun _ _ => ⟨rfl, e2, (by decide : 0 + 0 ≤ _), (by decide : 0 + 0 ≤ _)⟩)
      dsimp only [Pt.U, Pt.locs, Pt.cells, Pt.slots] at X3 l3 y3 z3 st3 hQ3
      subst l3 y3 z3
      obtain ⟨rfl, N3q, hh3⟩ := hQ3
      have N3 := Fr.app N0 N3q
      refine own_of (fun _ k => st3.trans k) ?_
      show own_Out p e below _ (T3.setTop (mkF m 11 #[rv o0, lv] [.int sz, .int mm]))
      refine o_icN X3 hx hby d11_11 (tlt hlt).2.1 (q := 14) rfl ?_
      refine o_aloadN X3 hx hby d11_14 rfl rfl (q := 15) rfl ?_
      refine o_getF X3 hx hZ hown hby (w_ hw 95 rfl) Via.refl hh3 Fix d11_15 (q := 18) rfl fun T4 X4 e4 => ?_
      refine o_ldcI X4 hx hZ hown hby (w_ hw 113 rfl) d11_18 (q := 20) rfl ?_
      refine o_icY X4 hx hby d11_20 (feq hneM).2 (by decide) (q := 33) (by decide) ?_
      refine o_aloadN X4 hx hby d11_33 rfl rfl (q := 34) rfl ?_
      refine o_getF X4 hx hZ hown hby (w_ hw 95 rfl) Via.refl e4 Fix d11_34 (q := 37) rfl fun T5 X5 e5 => ?_
      refine o_aloadN X5 hx hby d11_37 rfl rfl (q := 38) rfl ?_
      refine o_getF X5 hx hZ hown hby (w_ hw 72 rfl) Via.refl e5 Fhx d11_38 (q := 41) rfl fun T6 X6 e6 => ?_
      refine o_lenV X6 hx hby hZ e6 Vhx d11_41 (q := 42) rfl ?_
      refine o_icY X6 hx hby d11_42 (feq hneL).2 (by decide) (q := 79) (by decide) ?_
      refine o_aloadN X6 hx hby d11_79 rfl rfl (q := 80) rfl ?_
      refine o_aloadN X6 hx hby d11_80 rfl rfl (q := 81) rfl ?_
      refine o_getF X6 hx hZ hown hby (w_ hw 95 rfl) Via.refl e6 Fix d11_81 (q := 84) rfl fun T7 X7 e7 => ?_
      obtain ⟨cq8, q8, q8'⟩ := Exa.cell Ex
      obtain ⟨_, _, ⟨T8, L8, k8, n8⟩, -, X8, ⟨Lc8, hQ8, l8, y8, z8⟩, st8⟩ := X7.privateBack hx (y := mn_18) hown (mvT hZ (w_ hw 153 rfl)) (mvT hZ (w_ hw 154 rfl)) (mvT hZ (own_selP (y := mn_18) (w_ hw 154 rfl) (w_ hw 155 rfl) (w_ hw 62 rfl) (by decide))) (Cond.privateMethod_at (mvP hZ (w_ hw 155 rfl) (args := #[]))) (mvT hZ (w_ hw 156 rfl)) (by decide) (backOf (W := 0) (rm23 l Z a0 hw [] o0 mm kc kk h0 n0 Z0 Fkx Vkx) hZ (w_ hw 156 rfl) (w_ hw 63 rfl) (by decide) (by decide)) (g := (mkF m 84 #[rv o0, lv] [.int mm, .ref o0])) rfl (by rw [hml]; rfl) (Steps.refl _) (a := o0) (by rw [e7]; exact q8) q8' (argsL := [(.int mm)]) (rest := []) (lenOf pd_7 rfl) rfl (by show 2 * 0 + _ ≤ _; exact Nat.le_of_eq rfl) (hb hby d11_84) (fun _ _ => ⟨rfl, e7, (by decide : 0 + 0 ≤ _), (by decide : 0 + 0 ≤ _)⟩)
      dsimp only [Pt.U, Pt.locs, Pt.cells, Pt.slots] at X8 l8 y8 z8 st8 hQ8
      subst l8 y8 z8
      obtain ⟨rfl, N8q, hh8⟩ := hQ8
      have N8 := Fr.app N3 N8q
      refine own_of (fun _ k => st8.trans k) ?_
      show own_Out p e below _ (T8.setTop (mkF m 87 #[rv o0, lv] [.int 0]))
      refine o_ldcI X8 hx hZ hown hby (w_ hw 123 rfl) d11_87 (q := 89) rfl ?_
      refine o_imul X8 hx hby d11_89 (z := 0) rfl (q := 90) rfl ?_
      refine o_istoreN X8 hx hby d11_90 (l' := #[rv o0, iv 0]) (by rcases hlv with rfl | rfl <;> rfl) (q := 91) rfl ?_
      refine o_aloadN X8 hx hby d11_91 rfl rfl (q := 92) rfl ?_
      refine o_getF X8 hx hZ hown hby (w_ hw 72 rfl) Via.refl hh8 Fhx d11_92 (q := 95) rfl fun T9 X9 e9 => ?_
      refine o_aloadN X9 hx hby d11_95 rfl rfl (q := 96) rfl ?_
      refine o_getF X9 hx hZ hown hby (w_ hw 95 rfl) Via.refl e9 Fix d11_96 (q := 99) rfl fun T10 X10 e10 => ?_
      refine o_iloadN X10 hx hby d11_99 rfl (q := 100) rfl ?_
      refine o_stV X10 hx hby hZ e10 Vhx hj mm.toNatClampNeg rfl hz d11_100 (q := 101) rfl fun T11 h11 X11 e11 W11 V11 => ?_
      have Vz11 : Arv Z h11 ha kh .int 16 (zr 16) (.int 0) := by have q := V11; rw [own_zset] at q; exact q
      refine o_aloadN X11 hx hby d11_101 rfl rfl (q := 102) rfl ?_
      have qz13 := (Fix.other W11 (Or.inl D_o0ha))
      refine o_getF X11 hx hZ hown hby (w_ hw 95 rfl) Via.refl e11 qz13 d11_102 (q := 105) rfl fun T12 X12 e12 => ?_
      refine o_iloadN X12 hx hby d11_105 rfl (q := 106) rfl ?_
      refine o_aloadN X12 hx hby d11_106 rfl rfl (q := 107) rfl ?_
      have qz15 := (Ffx.other W11 (Or.inl D_o0ha))
      refine o_getF X12 hx hZ hown hby (w_ hw 68 rfl) Via.refl e12 qz15 d11_107 (q := 110) rfl fun T14 X14 e14 => ?_
      refine o_aloadN X14 hx hby d11_110 rfl rfl (q := 111) rfl ?_
      have qz17 := (Fnx.other W11 (Or.inl D_o0ha))
      refine o_getF X14 hx hZ hown hby (w_ hw 70 rfl) Via.refl e14 qz17 d11_111 (q := 114) rfl fun T16 X16 e16 => ?_
      have qz19 := (Vfx.other W11 D_faha)
      have qz20 := (Vnx.other W11 D_naha)
      have qz21 := (Nat.le_trans Z0 (Keep.of_wr W11).1)
      obtain ⟨_, _, ⟨T18, L18, k18, n18⟩, -, X18, ⟨Lc18, hQ18, l18, y18, z18⟩, st18⟩ := Jvm.LawKit.callS X16 hx (y := mn_17) hown (mvT hZ (w_ hw 157 rfl)) (mvT hZ (w_ hw 158 rfl)) (mvT hZ (w_ hw 63 rfl)) (mvT hZ (w_ hw 159 rfl)) (by decide) (backOf (W := 0) (rm24n32 l Z a0 hw [] mm fa na kf kn (16 : Int32) (mm - (1 : Int32)) (List.replicate 31 (.int (-1))) vs h11 n0 qz21 qz19 qz20 G_fa G_na D_fana hj hi) hZ (w_ hw 159 rfl) (w_ hw 63 rfl) (by decide) (by decide)) (g := (mkF m 114 #[rv o0, iv 0] [.ref na, .ref fa, .int 0, .int mm])) rfl (by rw [hml]; rfl) (argsL := [(.int mm), (.int 0), (.ref fa), (.ref na)]) (rest := []) (lenOf pd_12 rfl) rfl (by show 2 * 0 + _ ≤ _; exact Nat.le_of_eq rfl) (hb hby d11_114) (fun _ _ => ⟨rfl, e16, (by decide : 0 + 0 ≤ _), (by decide : 0 + 0 ≤ _)⟩)
      dsimp only [Pt.U, Pt.locs, Pt.cells, Pt.slots] at X18 l18 y18 z18 st18 hQ18
      subst l18 y18 z18
      obtain ⟨rfl, N18q, K18, Vf18, Vn18⟩ := hQ18
      have N18 := Fr.app (Fr.snoc X11 N8 G_ha) N18q
      refine own_of st18 ?_
      show own_Out p e below _ (T18.setTop (mkF m 117 #[rv o0, iv 0] []))
      refine o_aloadN X18 hx hby d11_117 rfl rfl (q := 118) rfl ?_
      refine o_dup X18 hx hby d11_118 rfl (q := 119) rfl ?_
      have qz23 := (qz13.keep K18 (ninS D_o0fa (ninS D_o0na nin0)))
      refine o_getF X18 hx hZ hown hby (w_ hw 95 rfl) Via.refl rfl qz23 d11_119 (q := 122) rfl fun T22 X22 e22 => ?_
      refine o_iconst X22 hx hby d11_122 (z := 1) rfl (q := 123) rfl ?_
      refine o_iadd X22 hx hby d11_123 rfl (q := 124) rfl ?_
      have qz25 := ((Ex.wr W11).keep K18)
      obtain ⟨T24, h24, X24, e24, W24, st24⟩ := putF X22 hx hZ hown (host := "") (Or.inl (w_ hw 95 rfl)) Via.refl e22 qz23 qz25 (Or.inl (w_ hw 96 rfl)) (w_ hw 62 rfl) (ty := .int) (by decide) rfl rfl (g := (mkF m 124 #[rv o0, iv 0] [.int (mm + (1 : Int32)), .ref o0])) rfl rfl (hb hby d11_124)
      have Fw24 := qz23.same W24
      refine own_of st24 ?_
      show own_Out p e below _ (T24.setTop (mkF m 127 #[rv o0, iv 0] []))
      refine o_aloadN X24 hx hby d11_127 rfl rfl (q := 128) rfl ?_
      have qz27 := (((Fgx.other W11 (Or.inl D_o0ha)).keep K18 (ninS D_o0fa (ninS D_o0na nin0))).other W24 (Or.inr (slot_ne (Or.inl (w_ hw 110 rfl)) (Or.inl (w_ hw 96 rfl)) (by decide) (t := (.array .int)) (t' := .int) (by decide) (by decide))))
      refine o_getF X24 hx hZ hown hby (w_ hw 109 rfl) Via.refl e24 qz27 d11_128 (q := 131) rfl fun T26 X26 e26 => ?_
      refine own_of (fun _ k => XS.ifnullYes X26.here hx rfl (pc0 := 131) (pc' := 141) rfl (hb hby d11_131) rfl (by decide) (by decide) k) ?_
      show own_Out p e below _ (T26.setTop (mkF m 141 #[rv o0, iv 0] []))
      refine o_aloadN X26 hx hby d11_141 rfl rfl (q := 142) rfl ?_
      refine o_getF X26 hx hZ hown hby (w_ hw 95 rfl) Via.refl e26 Fw24 d11_142 (q := 145) rfl fun T28 X28 e28 => ?_
      refine o_aloadN X28 hx hby d11_145 rfl rfl (q := 146) rfl ?_
      have qz30 := (((Flx.other W11 (Or.inl D_o0ha)).keep K18 (ninS D_o0fa (ninS D_o0na nin0))).other W24 (Or.inr (slot_ne (Or.inl (w_ hw 76 rfl)) (Or.inl (w_ hw 96 rfl)) (by decide) (t := .int) (t' := .int) (by decide) (by decide))))
      refine o_getF X28 hx hZ hown hby (w_ hw 75 rfl) Via.refl e28 qz30 d11_146 (q := 149) rfl fun T29 X29 e29 => ?_
      refine o_icY X29 hx hby d11_149 (flt hLL).2.2.2 (by decide) (q := 156) (by decide) ?_
      refine o_goto X29 hx hby d11_156 (by decide) (q := 0) (by decide) ?_
      have qz31 := (((Vkx.other W11 D_kcha).keep K18 (ninS D_kcfa (ninS D_kcna nin0))).other W24 D_kco0)
      have qz32 := (Vf18.other W24 (Ne.symm D_o0fa))
      have qz33 := (Vn18.other W24 (Ne.symm D_o0na))
      have qz34 := ((Vz11.keep K18 (ninS (Ne.symm D_faha) (ninS (Ne.symm D_naha) nin0))).other W24 (Ne.symm D_o0ha))
      have qz35 := (qz25.wr W24)
      have qz36 := (((Frx.other W11 (Or.inl D_o0ha)).keep K18 (ninS D_o0fa (ninS D_o0na nin0))).other W24 (Or.inr (slot_ne (Or.inr (w_ hw 78 rfl)) (Or.inl (w_ hw 96 rfl)) (by decide) (t := (.object "com/example/headway/headway/engine/RowBuffer")) (t' := .int) (by decide) (by decide))))
      have qz37 := (((Fkx.other W11 (Or.inl D_o0ha)).keep K18 (ninS D_o0fa (ninS D_o0na nin0))).other W24 (Or.inr (slot_ne (Or.inr (w_ hw 81 rfl)) (Or.inl (w_ hw 96 rfl)) (by decide) (t := (.array .int)) (t' := .int) (by decide) (by decide))))
      have qz38 := ((qz15.keep K18 (ninS D_o0fa (ninS D_o0na nin0))).other W24 (Or.inr (slot_ne (Or.inl (w_ hw 69 rfl)) (Or.inl (w_ hw 96 rfl)) (by decide) (t := (.array .int)) (t' := .int) (by decide) (by decide))))
      have qz39 := ((qz17.keep K18 (ninS D_o0fa (ninS D_o0na nin0))).other W24 (Or.inr (slot_ne (Or.inl (w_ hw 71 rfl)) (Or.inl (w_ hw 96 rfl)) (by decide) (t := (.array .int)) (t' := .int) (by decide) (by decide))))
      have qz40 := (((Fhx.other W11 (Or.inl D_o0ha)).keep K18 (ninS D_o0fa (ninS D_o0na nin0))).other W24 (Or.inr (slot_ne (Or.inl (w_ hw 73 rfl)) (Or.inl (w_ hw 96 rfl)) (by decide) (t := (.array .int)) (t' := .int) (by decide) (by decide))))
      have qz41 := (((Erx.wr W11).keep K18).wr W24)
      have qz42 := (((Fsx.other W11 (Or.inl D_rbha)).keep K18 (ninS D_rbfa (ninS D_rbna nin0))).other W24 (Or.inl D_rbo0))
      have qz43 := (((Fmx.other W11 (Or.inl D_o0ha)).keep K18 (ninS D_o0fa (ninS D_o0na nin0))).other W24 (Or.inr (slot_ne (Or.inl (w_ hw 112 rfl)) (Or.inl (w_ hw 96 rfl)) (by decide) (t := (.array .int)) (t' := .int) (by decide) (by decide))))
      have qz44 := (((Fqx.other W11 (Or.inl D_o0ha)).keep K18 (ninS D_o0fa (ninS D_o0na nin0))).other W24 (Or.inr (slot_ne (Or.inl (w_ hw 176 rfl)) (Or.inl (w_ hw 96 rfl)) (by decide) (t := .int) (t' := .int) (by decide) (by decide))))
      have qz45 := (((K0.wr W11 (hwh)).trans K18 (allS (hwf) (allS (hwn) all0))).wr W24 (hwo))
      have qz46 := (Nat.le_trans (Nat.le_trans qz21 K18.1) (Keep.of_wr W24).1)
      exact ih (mm + 1) (vs.set mm.toNatClampNeg (.int (mm - 1))) _ _ h24 _ (by rw [ha1]; omega) (by rw [ha1]; omega) (Or.inr rfl) X29 e29 qz45 qz46 (Fr.snoc X24 N18 G_o0) ⟨⟨qz35, qz36, qz37, qz38, qz39, qz40, qz30, Fw24, qz31, (by show Arv Z _ fa kf .int 32 (fl (mm + 1) 31) _; unfold fl; rw [own_pm]; exact qz32), qz33, qz34⟩, qz41, qz42, qz27, qz43, qz44⟩ (by rw [List.length_set]; exact hlen) (hN.put hm (by omega) hi)
set_option maxRecDepth 65536 in
set_option maxHeartbeats 40000000 in
theorem lp32_32 {p : Program} {l : Launch} {e : Env} {s : State} {m : MethodId} {args : Array Value} {below : List Frame} {meth : Method} {c : Code} {Z : State} {a0 : Array Value} {P : Outcome → State → Prop} (hx : p.tables.exec = Jvm.exec) (hZ : Z.Warmed39 s.vm) (hw : ∀ d ∈ tables_1, d.before a0 Z = true) (hby : c.code = prog_57_method_2_code) (hml : c.maxLocals = 2) (hown : s.vm.findClass "com/example/headway/headway/engine/HashIndex" = some m.cls) (o0 rb kc fa na ha : Addr) (kk kf kn kh : ClassId) (M sz LL rl : Int32) (n0 : Nat) (hB : Heap) (ws : List Addr) (D0 : NE o0 rb kc fa na ha n0) (hwo : o0 ∈ ws ∨ hB.size ≤ o0) (hwf : fa ∈ ws ∨ hB.size ≤ fa) (hwn : na ∈ ws ∨ hB.size ≤ na) (hwh : ha ∈ ws ∨ hB.size ≤ ha) (hMs : M.toInt ≤ sz.toInt) (hML : M.toInt ≤ LL.toInt) (hM : M.toInt ≤ 32)
    (hK : ∀ (vs : List Value) (T0 : State) (locs : List Loc) (h0 : Heap) (lv : Slot), (lv = .unset ∨ lv = .val (.int 0)) → Stand p l e (⟨4, 2, 64, 64⟩ : Room) s m args below meth c T0 locs 2 64 → T0.heap = h0 → Keep hB h0 ws → n0 ≤ h0.size → Fr n0 locs → SX Z h0 o0 rb kc fa na ha kk kf kn kh (32 : Int32) (32 : Int32) M LL sz 31 32 vs .null .null rl → vs.length = 32 → NX M vs → own_Out p e below P (T0.setTop (mkF m 0 #[rv o0, lv] []))) :
    ∀ (k : Nat) (mm : Int32) (vs : List Value) (T0 : State) (locs : List Loc) (h0 : Heap) (lv : Slot), M.toInt = mm.toInt + (k : Int) → 0 ≤ mm.toInt → (lv = .unset ∨ lv = .val (.int 0)) → Stand p l e (⟨4, 2, 64, 64⟩ : Room) s m args below meth c T0 locs 2 64 → T0.heap = h0 → Keep hB h0 ws → n0 ≤ h0.size → Fr n0 locs → SX Z h0 o0 rb kc fa na ha kk kf kn kh (32 : Int32) (32 : Int32) mm LL sz 31 32 vs .null .null rl → vs.length = 32 → NX mm vs → own_Out p e below P (T0.setTop (mkF m 0 #[rv o0, lv] [])) := by
  intro k
  induction k with
  | zero =>
    intro mm vs T0 locs h0 lv hk hm hlv X0 e0 K0 Z0 N0 S0 hlen hN
    have q : mm = M := Int32.toInt_inj.mp (by omega)
    subst q
    exact hK vs T0 locs h0 lv hlv X0 e0 K0 Z0 N0 S0 hlen hN
  | succ k ih =>
      intro mm vs T0 locs h0 lv hk hm hlv X0 e0 K0 Z0 N0 S0 hlen hN
      obtain ⟨⟨Ex, Frx, Fkx, Ffx, Fnx, Fhx, Flx, Fix, Vkx, Vfx, Vnx, Vhx⟩, Erx, Fsx, Fgx, Fmx, Fqx⟩ := S0
      obtain ⟨D_o0fa, D_o0na, D_o0ha, D_rbo0, D_rbfa, D_rbna, D_rbha, D_kco0, D_kcfa, D_kcna, D_kcha, D_fana, D_faha, D_naha, D_rbkc, G_o0, G_fa, G_na, G_ha⟩ := D0
      have hm1 : mm.toInt < 32 := by omega
      have hlt : mm < sz := Int32.lt_iff_toInt_lt.mpr (by omega)
      have hneM : ¬ (mm = (805306368 : Int32)) := fun q => by have n : (805306368 : Int32).toInt = 805306368 := rfl; rw [q, n] at hm1; omega
      have nL : (32 : Int32).toInt = 32 := rfl
      have hneL : ¬ (mm = (32 : Int32)) := fun q => by rw [q, nL] at hm1; omega
      have ha1 := own_add1 (m := mm) (by omega)
      have hLL : ¬ (LL < (mm + (1 : Int32))) := by rw [Int32.lt_iff_toInt_lt, ha1]; omega
      have n00 : (0 : Int32).toInt = 0 := rfl
      have hj : ¬ mm < 0 ∧ mm < (32 : Int32) := ⟨by rw [Int32.lt_iff_toInt_lt]; omega, by rw [Int32.lt_iff_toInt_lt, nL]; omega⟩
      have hnat := own_nat hj.1
      have hi : mm.toNatClampNeg < vs.length := by rw [hlen]; omega
      have hz : mm.toNatClampNeg < (zr 32).length := by unfold zr; rw [List.length_replicate]; omega
      show own_Out p e below _ (T0.setTop (mkF m 0 #[rv o0, lv] []))
      refine o_aloadN X0 hx hby d11_0 rfl rfl (q := 1) rfl ?_
      refine o_getF X0 hx hZ hown hby (w_ hw 95 rfl) Via.refl e0 Fix d11_1 (q := 4) rfl fun T1 X1 e1 => ?_
      refine o_aloadN X1 hx hby d11_4 rfl rfl (q := 5) rfl ?_
      refine o_getF X1 hx hZ hown hby (w_ hw 77 rfl) Via.refl e1 Frx d11_5 (q := 8) rfl fun T2 X2 e2 => ?_
      obtain ⟨cq3, kq3, q3a, q3b, q3c⟩ := isOf hZ e2 Erx
      obtain ⟨_, _, ⟨T3, L3, k3, n3⟩, -, X3, ⟨Lc3, hQ3, l3, y3, z3⟩, st3⟩ := X2.virtualBack hx (y := mn_9) (z := mn_9) hown (mvT hZ (w_ hw 97 rfl)) (mvT hZ (w_ hw 98 rfl)) (notFace_of_selects (args := #[]) (mvT hZ (w_ hw 100 rfl))) (mvT hZ (w_ hw 100 rfl)) (mvT hZ (w_ hw 99 rfl)) (by decide) (backOf (W := 1) (rm12 l Z a0 hw [] rb sz h0 n0 Z0 Fsx) hZ (w_ hw 101 rfl) (w_ hw 3 rfl) (by decide) (by decide)) q3a q3c (g := (mkF m 8 #[rv o0, lv] [.ref rb, .int mm])) rfl (by rw [hml]; rfl) (Steps.refl _) (argsL := []) (rest := [(.int mm)]) (lenOf pd_1 rfl) rfl (by show 2 * 0 + _ ≤ _; exact Nat.le_of_eq rfl) (hb hby d11_8) (fun _ _ => ⟨rfl, e2, (by decide : 2 + 0 ≤ _), (by decide : 64 + 0 ≤ _)⟩)
      dsimp only [Pt.U, Pt.locs, Pt.cells, Pt.slots] at X3 l3 y3 z3 st3 hQ3
      subst l3 y3 z3
      obtain ⟨rfl, N3q, hh3⟩ := hQ3
      have N3 := Fr.app N0 N3q
      refine own_of (fun _ k => st3.trans k) ?_
      show own_Out p e below _ (T3.setTop (mkF m 11 #[rv o0, lv] [.int sz, .int mm]))
      refine o_icN X3 hx hby d11_11 (tlt hlt).2.1 (q := 14) rfl ?_
      refine o_aloadN X3 hx hby d11_14 rfl rfl (q := 15) rfl ?_
      refine o_getF X3 hx hZ hown hby (w_ hw 95 rfl) Via.refl hh3 Fix d11_15 (q := 18) rfl fun T4 X4 e4 => ?_
      refine o_ldcI X4 hx hZ hown hby (w_ hw 113 rfl) d11_18 (q := 20) rfl ?_
      refine o_icY X4 hx hby d11_20 (feq hneM).2 (by decide) (q := 33) (by decide) ?_
      refine o_aloadN X4 hx hby d11_33 rfl rfl (q := 34) rfl ?_
      refine o_getF X4 hx hZ hown hby (w_ hw 95 rfl) Via.refl e4 Fix d11_34 (q := 37) rfl fun T5 X5 e5 => ?_
      refine o_aloadN X5 hx hby d11_37 rfl rfl (q := 38) rfl ?_
      refine o_getF X5 hx hZ hown hby (w_ hw 72 rfl) Via.refl e5 Fhx d11_38 (q := 41) rfl fun T6 X6 e6 => ?_
      refine o_lenV X6 hx hby hZ e6 Vhx d11_41 (q := 42) rfl ?_
      refine o_icY X6 hx hby d11_42 (feq hneL).2 (by decide) (q := 79) (by decide) ?_
      refine o_aloadN X6 hx hby d11_79 rfl rfl (q := 80) rfl ?_
      refine o_aloadN X6 hx hby d11_80 rfl rfl (q := 81) rfl ?_
      refine o_getF X6 hx hZ hown hby (w_ hw 95 rfl) Via.refl e6 Fix d11_81 (q := 84) rfl fun T7 X7 e7 => ?_
      obtain ⟨cq8, q8, q8'⟩ := Exa.cell Ex
      obtain ⟨_, _, ⟨T8, L8, k8, n8⟩, -, X8, ⟨Lc8, hQ8, l8, y8, z8⟩, st8⟩ := X7.privateBack hx (y := mn_18) hown (mvT hZ (w_ hw 153 rfl)) (mvT hZ (w_ hw 154 rfl)) (mvT hZ (own_selP (y := mn_18) (w_ hw 154 rfl) (w_ hw 155 rfl) (w_ hw 62 rfl) (by decide))) (Cond.privateMethod_at (mvP hZ (w_ hw 155 rfl) (args := #[]))) (mvT hZ (w_ hw 156 rfl)) (by decide) (backOf (W := 0) (rm23 l Z a0 hw [] o0 mm kc kk h0 n0 Z0 Fkx Vkx) hZ (w_ hw 156 rfl) (w_ hw 63 rfl) (by decide) (by decide)) (g := (mkF m 84 #[rv o0, lv] [.int mm, .ref o0])) rfl (by rw [hml]; rfl) (Steps.refl _) (a := o0) (by rw [e7]; exact q8) q8' (argsL := [(.int mm)]) (rest := []) (lenOf pd_7 rfl) rfl (by show 2 * 0 + _ ≤ _; exact Nat.le_of_eq rfl) (hb hby d11_84) (fun _ _ => ⟨rfl, e7, (by decide : 2 + 0 ≤ _), (by decide : 64 + 0 ≤ _)⟩)
      dsimp only [Pt.U, Pt.locs, Pt.cells, Pt.slots] at X8 l8 y8 z8 st8 hQ8
      subst l8 y8 z8
      obtain ⟨rfl, N8q, hh8⟩ := hQ8
      have N8 := Fr.app N3 N8q
      refine own_of (fun _ k => st8.trans k) ?_
      show own_Out p e below _ (T8.setTop (mkF m 87 #[rv o0, lv] [.int 0]))
      refine o_ldcI X8 hx hZ hown hby (w_ hw 123 rfl) d11_87 (q := 89) rfl ?_
      refine o_imul X8 hx hby d11_89 (z := 0) rfl (q := 90) rfl ?_
      refine o_istoreN X8 hx hby d11_90 (l' := #[rv o0, iv 0]) (by rcases hlv with rfl | rfl <;> rfl) (q := 91) rfl ?_
      refine o_aloadN X8 hx hby d11_91 rfl rfl (q := 92) rfl ?_
      refine o_getF X8 hx hZ hown hby (w_ hw 72 rfl) Via.refl hh8 Fhx d11_92 (q := 95) rfl fun T9 X9 e9 => ?_
      refine o_aloadN X9 hx hby d11_95 rfl rfl (q := 96) rfl ?_
      refine o_getF X9 hx hZ hown hby (w_ hw 95 rfl) Via.refl e9 Fix d11_96 (q := 99) rfl fun T10 X10 e10 => ?_
      refine o_iloadN X10 hx hby d11_99 rfl (q := 100) rfl ?_
      refine o_stV X10 hx hby hZ e10 Vhx hj mm.toNatClampNeg rfl hz d11_100 (q := 101) rfl fun T11 h11 X11 e11 W11 V11 => ?_
      have Vz11 : Arv Z h11 ha kh .int 32 (zr 32) (.int 0) := by have q := V11; rw [own_zset] at q; exact q
      refine o_aloadN X11 hx hby d11_101 rfl rfl (q := 102) rfl ?_
      have qz13 := (Fix.other W11 (Or.inl D_o0ha))
      refine o_getF X11 hx hZ hown hby (w_ hw 95 rfl) Via.refl e11 qz13 d11_102 (q := 105) rfl fun T12 X12 e12 => ?_
      refine o_iloadN X12 hx hby d11_105 rfl (q := 106) rfl ?_
      refine o_aloadN X12 hx hby d11_106 rfl rfl (q := 107) rfl ?_
      have qz15 := (Ffx.other W11 (Or.inl D_o0ha))
      refine o_getF X12 hx hZ hown hby (w_ hw 68 rfl) Via.refl e12 qz15 d11_107 (q := 110) rfl fun T14 X14 e14 => ?_
      refine o_aloadN X14 hx hby d11_110 rfl rfl (q := 111) rfl ?_
      have qz17 := (Fnx.other W11 (Or.inl D_o0ha))
      refine o_getF X14 hx hZ hown hby (w_ hw 70 rfl) Via.refl e14 qz17 d11_111 (q := 114) rfl fun T16 X16 e16 => ?_
      have qz19 := (Vfx.other W11 D_faha)
      have qz20 := (Vnx.other W11 D_naha)
      have qz21 := (Nat.le_trans Z0 (Keep.of_wr W11).1)
      obtain ⟨_, _, ⟨T18, L18, k18, n18⟩, -, X18, ⟨Lc18, hQ18, l18, y18, z18⟩, st18⟩ := Jvm.LawKit.callS X16 hx (y := mn_17) hown (mvT hZ (w_ hw 157 rfl)) (mvT hZ (w_ hw 158 rfl)) (mvT hZ (w_ hw 63 rfl)) (mvT hZ (w_ hw 159 rfl)) (by decide) (backOf (W := 0) (rm24n32 l Z a0 hw [] mm fa na kf kn (32 : Int32) (mm - (1 : Int32)) (List.replicate 31 (.int (-1))) vs h11 n0 qz21 qz19 qz20 G_fa G_na D_fana hj hi) hZ (w_ hw 159 rfl) (w_ hw 63 rfl) (by decide) (by decide)) (g := (mkF m 114 #[rv o0, iv 0] [.ref na, .ref fa, .int 0, .int mm])) rfl (by rw [hml]; rfl) (argsL := [(.int mm), (.int 0), (.ref fa), (.ref na)]) (rest := []) (lenOf pd_12 rfl) rfl (by show 2 * 0 + _ ≤ _; exact Nat.le_of_eq rfl) (hb hby d11_114) (fun _ _ => ⟨rfl, e16, (by decide : 2 + 0 ≤ _), (by decide : 64 + 0 ≤ _)⟩)
      dsimp only [Pt.U, Pt.locs, Pt.cells, Pt.slots] at X18 l18 y18 z18 st18 hQ18
      subst l18 y18 z18
      obtain ⟨rfl, N18q, K18, Vf18, Vn18⟩ := hQ18
      have N18 := Fr.app (Fr.snoc X11 N8 G_ha) N18q
      refine own_of st18 ?_
      show own_Out p e below _ (T18.setTop (mkF m 117 #[rv o0, iv 0] []))
      refine o_aloadN X18 hx hby d11_117 rfl rfl (q := 118) rfl ?_
      refine o_dup X18 hx hby d11_118 rfl (q := 119) rfl ?_
      have qz23 := (qz13.keep K18 (ninS D_o0fa (ninS D_o0na nin0)))
      refine o_getF X18 hx hZ hown hby (w_ hw 95 rfl) Via.refl rfl qz23 d11_119 (q := 122) rfl fun T22 X22 e22 => ?_
      refine o_iconst X22 hx hby d11_122 (z := 1) rfl (q := 123) rfl ?_
      refine o_iadd X22 hx hby d11_123 rfl (q := 124) rfl ?_
      have qz25 := ((Ex.wr W11).keep K18)
      obtain ⟨T24, h24, X24, e24, W24, st24⟩ := putF X22 hx hZ hown (host := "") (Or.inl (w_ hw 95 rfl)) Via.refl e22 qz23 qz25 (Or.inl (w_ hw 96 rfl)) (w_ hw 62 rfl) (ty := .int) (by decide) rfl rfl (g := (mkF m 124 #[rv o0, iv 0] [.int (mm + (1 : Int32)), .ref o0])) rfl rfl (hb hby d11_124)
      have Fw24 := qz23.same W24
      refine own_of st24 ?_
      show own_Out p e below _ (T24.setTop (mkF m 127 #[rv o0, iv 0] []))
      refine o_aloadN X24 hx hby d11_127 rfl rfl (q := 128) rfl ?_
      have qz27 := (((Fgx.other W11 (Or.inl D_o0ha)).keep K18 (ninS D_o0fa (ninS D_o0na nin0))).other W24 (Or.inr (slot_ne (Or.inl (w_ hw 110 rfl)) (Or.inl (w_ hw 96 rfl)) (by decide) (t := (.array .int)) (t' := .int) (by decide) (by decide))))
      refine o_getF X24 hx hZ hown hby (w_ hw 109 rfl) Via.refl e24 qz27 d11_128 (q := 131) rfl fun T26 X26 e26 => ?_
      refine own_of (fun _ k => XS.ifnullYes X26.here hx rfl (pc0 := 131) (pc' := 141) rfl (hb hby d11_131) rfl (by decide) (by decide) k) ?_
      show own_Out p e below _ (T26.setTop (mkF m 141 #[rv o0, iv 0] []))
      refine o_aloadN X26 hx hby d11_141 rfl rfl (q := 142) rfl ?_
      refine o_getF X26 hx hZ hown hby (w_ hw 95 rfl) Via.refl e26 Fw24 d11_142 (q := 145) rfl fun T28 X28 e28 => ?_
      refine o_aloadN X28 hx hby d11_145 rfl rfl (q := 146) rfl ?_
      have qz30 := (((Flx.other W11 (Or.inl D_o0ha)).keep K18 (ninS D_o0fa (ninS D_o0na nin0))).other W24 (Or.inr (slot_ne (Or.inl (w_ hw 76 rfl)) (Or.inl (w_ hw 96 rfl)) (by decide) (t := .int) (t' := .int) (by decide) (by decide))))
      refine o_getF X28 hx hZ hown hby (w_ hw 75 rfl) Via.refl e28 qz30 d11_146 (q := 149) rfl fun T29 X29 e29 => ?_
      refine o_icY X29 hx hby d11_149 (flt hLL).2.2.2 (by decide) (q := 156) (by decide) ?_
      refine o_goto X29 hx hby d11_156 (by decide) (q := 0) (by decide) ?_
      have qz31 := (((Vkx.other W11 D_kcha).keep K18 (ninS D_kcfa (ninS D_kcna nin0))).other W24 D_kco0)
      have qz32 := (Vf18.other W24 (Ne.symm D_o0fa))
      have qz33 := (Vn18.other W24 (Ne.symm D_o0na))
      have qz34 := ((Vz11.keep K18 (ninS (Ne.symm D_faha) (ninS (Ne.symm D_naha) nin0))).other W24 (Ne.symm D_o0ha))
      have qz35 := (qz25.wr W24)
      have qz36 := (((Frx.other W11 (Or.inl D_o0ha)).keep K18 (ninS D_o0fa (ninS D_o0na nin0))).other W24 (Or.inr (slot_ne (Or.inr (w_ hw 78 rfl)) (Or.inl (w_ hw 96 rfl)) (by decide) (t := (.object "com/example/headway/headway/engine/RowBuffer")) (t' := .int) (by decide) (by decide))))
      have qz37 := (((Fkx.other W11 (Or.inl D_o0ha)).keep K18 (ninS D_o0fa (ninS D_o0na nin0))).other W24 (Or.inr (slot_ne (Or.inr (w_ hw 81 rfl)) (Or.inl (w_ hw 96 rfl)) (by decide) (t := (.array .int)) (t' := .int) (by decide) (by decide))))
      have qz38 := ((qz15.keep K18 (ninS D_o0fa (ninS D_o0na nin0))).other W24 (Or.inr (slot_ne (Or.inl (w_ hw 69 rfl)) (Or.inl (w_ hw 96 rfl)) (by decide) (t := (.array .int)) (t' := .int) (by decide) (by decide))))
      have qz39 := ((qz17.keep K18 (ninS D_o0fa (ninS D_o0na nin0))).other W24 (Or.inr (slot_ne (Or.inl (w_ hw 71 rfl)) (Or.inl (w_ hw 96 rfl)) (by decide) (t := (.array .int)) (t' := .int) (by decide) (by decide))))
      have qz40 := (((Fhx.other W11 (Or.inl D_o0ha)).keep K18 (ninS D_o0fa (ninS D_o0na nin0))).other W24 (Or.inr (slot_ne (Or.inl (w_ hw 73 rfl)) (Or.inl (w_ hw 96 rfl)) (by decide) (t := (.array .int)) (t' := .int) (by decide) (by decide))))
      have qz41 := (((Erx.wr W11).keep K18).wr W24)
      have qz42 := (((Fsx.other W11 (Or.inl D_rbha)).keep K18 (ninS D_rbfa (ninS D_rbna nin0))).other W24 (Or.inl D_rbo0))
      have qz43 := (((Fmx.other W11 (Or.inl D_o0ha)).keep K18 (ninS D_o0fa (ninS D_o0na nin0))).other W24 (Or.inr (slot_ne (Or.inl (w_ hw 112 rfl)) (Or.inl (w_ hw 96 rfl)) (by decide) (t := (.array .int)) (t' := .int) (by decide) (by decide))))
      have qz44 := (((Fqx.other W11 (Or.inl D_o0ha)).keep K18 (ninS D_o0fa (ninS D_o0na nin0))).other W24 (Or.inr (slot_ne (Or.inl (w_ hw 176 rfl)) (Or.inl (w_ hw 96 rfl)) (by decide) (t := .int) (t' := .int) (by decide) (by decide))))
      have qz45 := (((K0.wr W11 (hwh)).trans K18 (allS (hwf) (allS (hwn) all0))).wr W24 (hwo))
      have qz46 := (Nat.le_trans (Nat.le_trans qz21 K18.1) (Keep.of_wr W24).1)
      exact ih (mm + 1) (vs.set mm.toNatClampNeg (.int (mm - 1))) _ _ h24 _ (by rw [ha1]; omega) (by rw [ha1]; omega) (Or.inr rfl) X29 e29 qz45 qz46 (Fr.snoc X24 N18 G_o0) ⟨⟨qz35, qz36, qz37, qz38, qz39, qz40, qz30, Fw24, qz31, (by show Arv Z _ fa kf .int 32 (fl (mm + 1) 31) _; unfold fl; rw [own_pm]; exact qz32), qz33, qz34⟩, qz41, qz42, qz27, qz43, qz44⟩ (by rw [List.length_set]; exact hlen) (hN.put hm (by omega) hi)
theorem d11_159 : decode prog_57_method_2_code 159 = .ok (.return_, 1) := by decide +kernel
set_option maxRecDepth 65536 in
set_option maxHeartbeats 40000000 in
theorem ex11_0_0 {p : Program} {l : Launch} {e : Env} {s : State} {m : MethodId} {args : Array Value} {below : List Frame} {meth : Method} {c : Code} {Z : State} {a0 : Array Value} {T0 : State} {locs : List Loc} {Q : Option Value → Heap → List Loc → Prop} (hx : p.tables.exec = Jvm.exec) (hZ : Z.Warmed39 s.vm) (hw : ∀ d ∈ tables_1, d.before a0 Z = true) (hby : c.code = prog_57_method_2_code) (hml : c.maxLocals = 2) (hown : s.vm.findClass "com/example/headway/headway/engine/HashIndex" = some m.cls) (hret : meth.sig.returnType = none) (hlk : meth.locks = false) (o0 rb : Addr) (mm sz : Int32) (n0 : Nat) (h0 : Heap) (lv : Slot) (X0 : Stand p l e (⟨4, 2, 64, 64⟩ : Room) s m args below meth c T0 locs 0 0) (e0 : T0.heap = h0) (Z0 : n0 ≤ h0.size) (N0 : Fr n0 locs) (E : Exa Z h0 o0 "com/example/headway/headway/engine/HashIndex") (Fw : Fld Z h0 o0 "com/example/headway/headway/engine/HashIndex" "rows" "Lcom/example/headway/headway/engine/RowBuffer;" (.ref rb)) (Fi : Fld Z h0 o0 "com/example/headway/headway/engine/HashIndex" "indexed" "I" (.int mm)) (Er : Exa Z h0 rb "com/example/headway/headway/engine/RowBuffer") (Fs : Fld Z h0 rb "com/example/headway/headway/engine/RowBuffer" "size" "I" (.int sz)) (hge : ¬ (mm < sz)) (hQ : ∀ L, Fr n0 L → Q none h0 L) :
    own_Out p e below (fun o U' => ∃ v L, o = .returned v ∧ Q v U'.heap L ∧ FrameEnd s o U' L (⟨4, 2, 64, 64⟩ : Room).cells (⟨4, 2, 64, 64⟩ : Room).slots) (T0.setTop (mkF m 0 #[rv o0, lv] [])) := by
  show own_Out p e below _ (T0.setTop (mkF m 0 #[rv o0, lv] []))
  refine o_aloadN X0 hx hby d11_0 rfl rfl (q := 1) rfl ?_
  refine o_getF X0 hx hZ hown hby (w_ hw 95 rfl) Via.refl e0 Fi d11_1 (q := 4) rfl fun T1 X1 e1 => ?_
  refine o_aloadN X1 hx hby d11_4 rfl rfl (q := 5) rfl ?_
  refine o_getF X1 hx hZ hown hby (w_ hw 77 rfl) Via.refl e1 Fw d11_5 (q := 8) rfl fun T2 X2 e2 => ?_
  obtain ⟨cq3, kq3, q3a, q3b, q3c⟩ := isOf hZ e2 Er
  obtain ⟨_, _, ⟨T3, L3, k3, n3⟩, -, X3, ⟨Lc3, hQ3, l3, y3, z3⟩, st3⟩ := X2.virtualBack hx (y := mn_9) (z := mn_9) hown (mvT hZ (w_ hw 97 rfl)) (mvT hZ (w_ hw 98 rfl)) (notFace_of_selects (args := #[]) (mvT hZ (w_ hw 100 rfl))) (mvT hZ (w_ hw 100 rfl)) (mvT hZ (w_ hw 99 rfl)) (by decide) (backOf (W := 1) (rm12 l Z a0 hw [] rb sz h0 n0 Z0 Fs) hZ (w_ hw 101 rfl) (w_ hw 3 rfl) (by decide) (by decide)) q3a q3c (g := (mkF m 8 #[rv o0, lv] [.ref rb, .int mm])) rfl (by rw [hml]; rfl) (Steps.refl _) (argsL := []) (rest := [(.int mm)]) (lenOf pd_1 rfl) rfl (by show 2 * 0 + _ ≤ _; exact Nat.le_of_eq rfl) (hb hby d11_8) (fun _ _ => ⟨rfl, e2, (by decide : 0 + 0 ≤ _), (by decide : 0 + 0 ≤ _)⟩)
  dsimp only [Pt.U, Pt.locs, Pt.cells, Pt.slots] at X3 l3 y3 z3 st3 hQ3
  subst l3 y3 z3
  obtain ⟨rfl, N3q, hh3⟩ := hQ3
  have N3 := Fr.app N0 N3q
  refine own_of (fun _ k => st3.trans k) ?_
  show own_Out p e below _ (T3.setTop (mkF m 11 #[rv o0, lv] [.int sz, .int mm]))
  refine o_icY X3 hx hby d11_11 (flt hge).2.1 (by decide) (q := 159) (by decide) ?_
  exact own_outV X3 hx hlk hret (hb hby d11_159) (Q := Q) (by rw [hh3]; exact hQ _ N3) (by decide) (by decide)
set_option maxRecDepth 65536 in
set_option maxHeartbeats 40000000 in
theorem ex11_2_48 {p : Program} {l : Launch} {e : Env} {s : State} {m : MethodId} {args : Array Value} {below : List Frame} {meth : Method} {c : Code} {Z : State} {a0 : Array Value} {T0 : State} {locs : List Loc} {Q : Option Value → Heap → List Loc → Prop} (hx : p.tables.exec = Jvm.exec) (hZ : Z.Warmed39 s.vm) (hw : ∀ d ∈ tables_1, d.before a0 Z = true) (hby : c.code = prog_57_method_2_code) (hml : c.maxLocals = 2) (hown : s.vm.findClass "com/example/headway/headway/engine/HashIndex" = some m.cls) (hret : meth.sig.returnType = none) (hlk : meth.locks = false) (o0 rb : Addr) (mm sz : Int32) (n0 : Nat) (h0 : Heap) (lv : Slot) (X0 : Stand p l e (⟨4, 2, 64, 64⟩ : Room) s m args below meth c T0 locs 2 48) (e0 : T0.heap = h0) (Z0 : n0 ≤ h0.size) (N0 : Fr n0 locs) (E : Exa Z h0 o0 "com/example/headway/headway/engine/HashIndex") (Fw : Fld Z h0 o0 "com/example/headway/headway/engine/HashIndex" "rows" "Lcom/example/headway/headway/engine/RowBuffer;" (.ref rb)) (Fi : Fld Z h0 o0 "com/example/headway/headway/engine/HashIndex" "indexed" "I" (.int mm)) (Er : Exa Z h0 rb "com/example/headway/headway/engine/RowBuffer") (Fs : Fld Z h0 rb "com/example/headway/headway/engine/RowBuffer" "size" "I" (.int sz)) (hge : ¬ (mm < sz)) (hQ : ∀ L, Fr n0 L → Q none h0 L) :
    own_Out p e below (fun o U' => ∃ v L, o = .returned v ∧ Q v U'.heap L ∧ FrameEnd s o U' L (⟨4, 2, 64, 64⟩ : Room).cells (⟨4, 2, 64, 64⟩ : Room).slots) (T0.setTop (mkF m 0 #[rv o0, lv] [])) := by
  show own_Out p e below _ (T0.setTop (mkF m 0 #[rv o0, lv] []))
  refine o_aloadN X0 hx hby d11_0 rfl rfl (q := 1) rfl ?_
  refine o_getF X0 hx hZ hown hby (w_ hw 95 rfl) Via.refl e0 Fi d11_1 (q := 4) rfl fun T1 X1 e1 => ?_
  refine o_aloadN X1 hx hby d11_4 rfl rfl (q := 5) rfl ?_
  refine o_getF X1 hx hZ hown hby (w_ hw 77 rfl) Via.refl e1 Fw d11_5 (q := 8) rfl fun T2 X2 e2 => ?_
  obtain ⟨cq3, kq3, q3a, q3b, q3c⟩ := isOf hZ e2 Er
  obtain ⟨_, _, ⟨T3, L3, k3, n3⟩, -, X3, ⟨Lc3, hQ3, l3, y3, z3⟩, st3⟩ := X2.virtualBack hx (y := mn_9) (z := mn_9) hown (mvT hZ (w_ hw 97 rfl)) (mvT hZ (w_ hw 98 rfl)) (notFace_of_selects (args := #[]) (mvT hZ (w_ hw 100 rfl))) (mvT hZ (w_ hw 100 rfl)) (mvT hZ (w_ hw 99 rfl)) (by decide) (backOf (W := 1) (rm12 l Z a0 hw [] rb sz h0 n0 Z0 Fs) hZ (w_ hw 101 rfl) (w_ hw 3 rfl) (by decide) (by decide)) q3a q3c (g := (mkF m 8 #[rv o0, lv] [.ref rb, .int mm])) rfl (by rw [hml]; rfl) (Steps.refl _) (argsL := []) (rest := [(.int mm)]) (lenOf pd_1 rfl) rfl (by show 2 * 0 + _ ≤ _; exact Nat.le_of_eq rfl) (hb hby d11_8) (fun _ _ => ⟨rfl, e2, (by decide : 2 + 0 ≤ _), (by decide : 48 + 0 ≤ _)⟩)
  dsimp only [Pt.U, Pt.locs, Pt.cells, Pt.slots] at X3 l3 y3 z3 st3 hQ3
  subst l3 y3 z3
  obtain ⟨rfl, N3q, hh3⟩ := hQ3
  have N3 := Fr.app N0 N3q
  refine own_of (fun _ k => st3.trans k) ?_
  show own_Out p e below _ (T3.setTop (mkF m 11 #[rv o0, lv] [.int sz, .int mm]))
  refine o_icY X3 hx hby d11_11 (flt hge).2.1 (by decide) (q := 159) (by decide) ?_
  exact own_outV X3 hx hlk hret (hb hby d11_159) (Q := Q) (by rw [hh3]; exact hQ _ N3) (by decide) (by decide)
set_option maxRecDepth 65536 in
set_option maxHeartbeats 40000000 in
theorem ex11_2_64 {p : Program} {l : Launch} {e : Env} {s : State} {m : MethodId} {args : Array Value} {below : List Frame} {meth : Method} {c : Code} {Z : State} {a0 : Array Value} {T0 : State} {locs : List Loc} {Q : Option Value → Heap → List Loc → Prop} (hx : p.tables.exec = Jvm.exec) (hZ : Z.Warmed39 s.vm) (hw : ∀ d ∈ tables_1, d.before a0 Z = true) (hby : c.code = prog_57_method_2_code) (hml : c.maxLocals = 2) (hown : s.vm.findClass "com/example/headway/headway/engine/HashIndex" = some m.cls) (hret : meth.sig.returnType = none) (hlk : meth.locks = false) (o0 rb : Addr) (mm sz : Int32) (n0 : Nat) (h0 : Heap) (lv : Slot) (X0 : Stand p l e (⟨4, 2, 64, 64⟩ : Room) s m args below meth c T0 locs 2 64) (e0 : T0.heap = h0) (Z0 : n0 ≤ h0.size) (N0 : Fr n0 locs) (E : Exa Z h0 o0 "com/example/headway/headway/engine/HashIndex") (Fw : Fld Z h0 o0 "com/example/headway/headway/engine/HashIndex" "rows" "Lcom/example/headway/headway/engine/RowBuffer;" (.ref rb)) (Fi : Fld Z h0 o0 "com/example/headway/headway/engine/HashIndex" "indexed" "I" (.int mm)) (Er : Exa Z h0 rb "com/example/headway/headway/engine/RowBuffer") (Fs : Fld Z h0 rb "com/example/headway/headway/engine/RowBuffer" "size" "I" (.int sz)) (hge : ¬ (mm < sz)) (hQ : ∀ L, Fr n0 L → Q none h0 L) :
    own_Out p e below (fun o U' => ∃ v L, o = .returned v ∧ Q v U'.heap L ∧ FrameEnd s o U' L (⟨4, 2, 64, 64⟩ : Room).cells (⟨4, 2, 64, 64⟩ : Room).slots) (T0.setTop (mkF m 0 #[rv o0, lv] [])) := by
  show own_Out p e below _ (T0.setTop (mkF m 0 #[rv o0, lv] []))
  refine o_aloadN X0 hx hby d11_0 rfl rfl (q := 1) rfl ?_
  refine o_getF X0 hx hZ hown hby (w_ hw 95 rfl) Via.refl e0 Fi d11_1 (q := 4) rfl fun T1 X1 e1 => ?_
  refine o_aloadN X1 hx hby d11_4 rfl rfl (q := 5) rfl ?_
  refine o_getF X1 hx hZ hown hby (w_ hw 77 rfl) Via.refl e1 Fw d11_5 (q := 8) rfl fun T2 X2 e2 => ?_
  obtain ⟨cq3, kq3, q3a, q3b, q3c⟩ := isOf hZ e2 Er
  obtain ⟨_, _, ⟨T3, L3, k3, n3⟩, -, X3, ⟨Lc3, hQ3, l3, y3, z3⟩, st3⟩ := X2.virtualBack hx (y := mn_9) (z := mn_9) hown (mvT hZ (w_ hw 97 rfl)) (mvT hZ (w_ hw 98 rfl)) (notFace_of_selects (args := #[]) (mvT hZ (w_ hw 100 rfl))) (mvT hZ (w_ hw 100 rfl)) (mvT hZ (w_ hw 99 rfl)) (by decide) (backOf (W := 1) (rm12 l Z a0 hw [] rb sz h0 n0 Z0 Fs) hZ (w_ hw 101 rfl) (w_ hw 3 rfl) (by decide) (by decide)) q3a q3c (g := (mkF m 8 #[rv o0, lv] [.ref rb, .int mm])) rfl (by rw [hml]; rfl) (Steps.refl _) (argsL := []) (rest := [(.int mm)]) (lenOf pd_1 rfl) rfl (by show 2 * 0 + _ ≤ _; exact Nat.le_of_eq rfl) (hb hby d11_8) (fun _ _ => ⟨rfl, e2, (by decide : 2 + 0 ≤ _), (by decide : 64 + 0 ≤ _)⟩)
  dsimp only [Pt.U, Pt.locs, Pt.cells, Pt.slots] at X3 l3 y3 z3 st3 hQ3
  subst l3 y3 z3
  obtain ⟨rfl, N3q, hh3⟩ := hQ3
  have N3 := Fr.app N0 N3q
  refine own_of (fun _ k => st3.trans k) ?_
  show own_Out p e below _ (T3.setTop (mkF m 11 #[rv o0, lv] [.int sz, .int mm]))
  refine o_icY X3 hx hby d11_11 (flt hge).2.1 (by decide) (q := 159) (by decide) ?_
  exact own_outV X3 hx hlk hret (hb hby d11_159) (Q := Q) (by rw [hh3]; exact hQ _ N3) (by decide) (by decide)
def FIN (Z : State) (h : Heap) (o0 rb kc ha : Addr) (kk kh : ClassId) (N : Int32) (n0 : Nat) : Prop := ∃ (fa na : Addr) (kf kn : ClassId) (F : Int32) (nf : Nat) (vs : List Value) (v1 v2 : Value) (LL rl : Int32), SX Z h o0 rb kc fa na ha kk kf kn kh F 16 N LL N nf 16 vs v1 v2 rl ∧ NE o0 rb kc fa na ha n0 ∧ vs.length = 16 ∧ NX N vs ∧ ((F = 16 ∧ nf = 15) ∨ (F = 32 ∧ nf = 31))
def LG (o0 rb kc fa na ha lf ln : Addr) (n0 nb : Nat) : Prop := lf ≠ ln ∧ o0 ≠ lf ∧ rb ≠ lf ∧ kc ≠ lf ∧ fa ≠ lf ∧ na ≠ lf ∧ ha ≠ lf ∧ o0 ≠ ln ∧ rb ≠ ln ∧ kc ≠ ln ∧ fa ≠ ln ∧ na ≠ ln ∧ ha ≠ ln ∧ n0 ≤ lf ∧ n0 ≤ ln ∧ nb ≤ lf ∧ nb ≤ ln
theorem own_cases {k : Int32} {n : Nat} (h0 : ¬ k < 0) (h1 : k.toInt < n) : ∃ i : Nat, i < n ∧ k = Int32.ofNat i := by
  have n0 : (0 : Int32).toInt = 0 := rfl
  rw [Int32.lt_iff_toInt_lt] at h0
  have r := rng32 k
  refine ⟨k.toInt.toNat, by omega, Int32.toInt_inj.mp ?_⟩
  rw [Int32.toInt_ofNat_of_lt (by omega)]; omega
theorem own_nx0 (vs : List Value) : NX 0 vs := fun k h0 h1 => absurd h1 h0
theorem own_nx15 : NX 15 [(.int (-1 : Int32)), (.int 0), (.int 1), (.int 2), (.int 3), (.int 4), (.int 5), (.int 6), (.int 7), (.int 8), (.int 9), (.int 10), (.int 11), (.int 12), (.int 13), (.int 0)] := fun k h0 h1 => by
  rw [Int32.lt_iff_toInt_lt] at h1
  obtain ⟨i, hi, rfl⟩ := own_cases (n := 15) h0 h1
  match i, hi with
  | 0, _ => rfl
  | 1, _ => rfl
  | 2, _ => rfl
  | 3, _ => rfl
  | 4, _ => rfl
  | 5, _ => rfl
  | 6, _ => rfl
  | 7, _ => rfl
  | 8, _ => rfl
  | 9, _ => rfl
  | 10, _ => rfl
  | 11, _ => rfl
  | 12, _ => rfl
  | 13, _ => rfl
  | 14, _ => rfl
theorem own_cplen (vs : List Value) : (cp16 vs).length = 32 := rfl
theorem own_nxcp {vs : List Value} (N : NX 16 vs) : NX 16 (cp16 vs) := fun k h0 h1 => by
  have e := N k h0 h1
  rw [Int32.lt_iff_toInt_lt] at h1
  obtain ⟨i, hi, rfl⟩ := own_cases (n := 16) h0 h1
  match i, hi with
  | 0, _ => exact e
  | 1, _ => exact e
  | 2, _ => exact e
  | 3, _ => exact e
  | 4, _ => exact e
  | 5, _ => exact e
  | 6, _ => exact e
  | 7, _ => exact e
  | 8, _ => exact e
  | 9, _ => exact e
  | 10, _ => exact e
  | 11, _ => exact e
  | 12, _ => exact e
  | 13, _ => exact e
  | 14, _ => exact e
  | 15, _ => exact e
  | n + 16, h => exact absurd h (by omega)
theorem own_hc {n L : Int32} (h0 : 0 ≤ n.toInt) (h1 : n.toInt ≤ L.toInt) : (n - (1 : Int32)) = (-1 : Int32) ∨ (¬ (n - (1 : Int32)) < 0 ∧ (n - (1 : Int32)) < L) := by
  have n0 : (0 : Int32).toInt = 0 := rfl
  have n1 : (-1 : Int32).toInt = -1 := rfl
  have e := own_sub1 (m := n) (by omega)
  simp only [Int32.lt_iff_toInt_lt, ← Int32.toInt_inj, e]; omega
theorem own_nxt {a b sz : Int32} (h : a < sz ∧ sz.toInt ≤ 15) (g : ¬ (sz = b)) (e : b.toInt = a.toInt + 1) : b < sz ∧ sz.toInt ≤ 15 := by
  have q := h.1
  rw [Int32.lt_iff_toInt_lt] at q ⊢
  have g' : ¬ sz.toInt = b.toInt := fun z => g (Int32.toInt_inj.mp z)
  have h2 := h.2; omega
theorem d11_134 : decode prog_57_method_2_code 134 = .ok (.aload_n 0, 1) := by decide +kernel
theorem d11_135 : decode prog_57_method_2_code 135 = .ok (.invokevirtual 83, 3) := by decide +kernel
theorem d11_138 : decode prog_57_method_2_code 138 = .ok (.goto 18, 3) := by decide +kernel
set_option maxRecDepth 65536 in
set_option maxHeartbeats 40000000 in
theorem t14 {p : Program} {l : Launch} {e : Env} {s : State} {m : MethodId} {args : Array Value} {below : List Frame} {meth : Method} {c : Code} {Z : State} {a0 : Array Value} {T0 : State} {locs : List Loc} {Q : Option Value → Heap → List Loc → Prop} (hx : p.tables.exec = Jvm.exec) (hZ : Z.Warmed39 s.vm) (hw : ∀ d ∈ tables_1, d.before a0 Z = true) (hby : c.code = prog_57_method_2_code) (hml : c.maxLocals = 2) (hown : s.vm.findClass "com/example/headway/headway/engine/HashIndex" = some m.cls) (hret : meth.sig.returnType = none) (hlk : meth.locks = false) (o0 rb kc fa na ha : Addr) (lf ln : Addr) (kk kf kn kh : ClassId) (kl km : ClassId) (sz : Int32) (n0 : Nat) (hB : Heap) (ws : List Addr) (h0 : Heap) (lv : Slot) (vs : List Value) (D0 : NE o0 rb kc fa na ha n0) (hwo : o0 ∈ ws ∨ hB.size ≤ o0) (hwf : fa ∈ ws ∨ hB.size ≤ fa) (hwn : na ∈ ws ∨ hB.size ≤ na) (hwh : ha ∈ ws ∨ hB.size ≤ ha) (LG0 : LG o0 rb kc fa na ha lf ln n0 hB.size) (hS : (14 : Int32) < sz ∧ sz.toInt ≤ 15) (hlv : lv = .unset ∨ lv = .val (.int 0)) (X0 : Stand p l e (⟨4, 2, 64, 64⟩ : Room) s m args below meth c T0 locs 2 48) (e0 : T0.heap = h0) (K0 : Keep hB h0 ws) (Z0 : n0 ≤ h0.size) (N0 : Fr n0 locs) (S0 : SX Z h0 o0 rb kc fa na ha kk kf kn kh 16 16 (14 : Int32) 12 sz 15 16 vs (.ref lf) (.ref ln) (8 : Int32)) (Vlx : Arv Z h0 lf kl .int 32 (.int 7 :: (List.replicate 31 (.int (-1)))) (.int 0)) (Vmx : Arv Z h0 ln km .int 16 [(.int (-1 : Int32)), (.int 0), (.int 1), (.int 2), (.int 3), (.int 4), (.int 5), (.int 6), (.int 0), (.int 0), (.int 0), (.int 0), (.int 0), (.int 0), (.int 0), (.int 0)] (.int 0)) (hlen : vs.length = 16) (hN : NX (14 : Int32) vs)
    (hQ : ∀ h L, Fr n0 L → Keep hB h ws → FIN Z h o0 rb kc ha kk kh sz n0 → Q none h L) :
    own_Out p e below (fun o U' => ∃ v L, o = .returned v ∧ Q v U'.heap L ∧ FrameEnd s o U' L (⟨4, 2, 64, 64⟩ : Room).cells (⟨4, 2, 64, 64⟩ : Room).slots) (T0.setTop (mkF m 0 #[rv o0, lv] [])) := by
  obtain ⟨⟨Ex, Frx, Fkx, Ffx, Fnx, Fhx, Flx, Fix, Vkx, Vfx, Vnx, Vhx⟩, Erx, Fsx, Fgx, Fmx, Fqx⟩ := S0
  obtain ⟨D_o0fa, D_o0na, D_o0ha, D_rbo0, D_rbfa, D_rbna, D_rbha, D_kco0, D_kcfa, D_kcna, D_kcha, D_fana, D_faha, D_naha, D_rbkc, G_o0, G_fa, G_na, G_ha⟩ := D0
  have LGk := LG0
  obtain ⟨L_lfln, L_o0lf, L_rblf, L_kclf, L_falf, L_nalf, L_half, L_o0ln, L_rbln, L_kcln, L_faln, L_naln, L_haln, L_glf, L_gln, L_slf, L_sln⟩ := LGk
  show own_Out p e below _ (T0.setTop (mkF m 0 #[rv o0, lv] []))
  refine o_aloadN X0 hx hby d11_0 rfl rfl (q := 1) rfl ?_
  refine o_getF X0 hx hZ hown hby (w_ hw 95 rfl) Via.refl e0 Fix d11_1 (q := 4) rfl fun T1 X1 e1 => ?_
  refine o_aloadN X1 hx hby d11_4 rfl rfl (q := 5) rfl ?_
  refine o_getF X1 hx hZ hown hby (w_ hw 77 rfl) Via.refl e1 Frx d11_5 (q := 8) rfl fun T2 X2 e2 => ?_
  obtain ⟨cq3, kq3, q3a, q3b, q3c⟩ := isOf hZ e2 Erx
  obtain ⟨_, _, ⟨T3, L3, k3, n3⟩, -, X3, ⟨Lc3, hQ3, l3, y3, z3⟩, st3⟩ := X2.virtualBack hx (y := mn_9) (z := mn_9) hown (mvT hZ (w_ hw 97 rfl)) (mvT hZ (w_ hw 98 rfl)) (notFace_of_selects (args := #[]) (mvT hZ (w_ hw 100 rfl))) (mvT hZ (w_ hw 100 rfl)) (mvT hZ (w_ hw 99 rfl)) (by decide) (backOf (W := 1) (rm12 l Z a0 hw [] rb sz h0 n0 Z0 Fsx) hZ (w_ hw 101 rfl) (w_ hw 3 rfl) (by decide) (by decide)) q3a q3c (g := (mkF m 8 #[rv o0, lv] [.ref rb, .int 14])) rfl (by rw [hml]; rfl) (Steps.refl _) (argsL := []) (rest := [(.int 14)]) (lenOf pd_1 rfl) rfl (by show 2 * 0 + _ ≤ _; exact Nat.le_of_eq rfl) (hb hby d11_8) (fun _ _ => ⟨rfl, e2, (by decide : 2 + 0 ≤ _), (by decide : 48 + 0 ≤ _)⟩)
  dsimp only [Pt.U, Pt.locs, Pt.cells, Pt.slots] at X3 l3 y3 z3 st3 hQ3
  subst l3 y3 z3
  obtain ⟨rfl, N3q, hh3⟩ := hQ3
  have N3 := Fr.app N0 N3q
  refine own_of (fun _ k => st3.trans k) ?_
  show own_Out p e below _ (T3.setTop (mkF m 11 #[rv o0, lv] [.int sz, .int 14]))
  refine o_icN X3 hx hby d11_11 (tlt hS.1).2.1 (q := 14) rfl ?_
  refine o_aloadN X3 hx hby d11_14 rfl rfl (q := 15) rfl ?_
  refine o_getF X3 hx hZ hown hby (w_ hw 95 rfl) Via.refl hh3 Fix d11_15 (q := 18) rfl fun T4 X4 e4 => ?_
  refine o_ldcI X4 hx hZ hown hby (w_ hw 113 rfl) d11_18 (q := 20) rfl ?_
  refine o_icY X4 hx hby d11_20 (feq (by decide : ¬ ((14 : Int32) = (805306368 : Int32)))).2 (by decide) (q := 33) (by decide) ?_
  refine o_aloadN X4 hx hby d11_33 rfl rfl (q := 34) rfl ?_
  refine o_getF X4 hx hZ hown hby (w_ hw 95 rfl) Via.refl e4 Fix d11_34 (q := 37) rfl fun T5 X5 e5 => ?_
  refine o_aloadN X5 hx hby d11_37 rfl rfl (q := 38) rfl ?_
  refine o_getF X5 hx hZ hown hby (w_ hw 72 rfl) Via.refl e5 Fhx d11_38 (q := 41) rfl fun T6 X6 e6 => ?_
  refine o_lenV X6 hx hby hZ e6 Vhx d11_41 (q := 42) rfl ?_
  refine o_icY X6 hx hby d11_42 (feq (by decide : ¬ ((14 : Int32) = (16 : Int32)))).2 (by decide) (q := 79) (by decide) ?_
  refine o_aloadN X6 hx hby d11_79 rfl rfl (q := 80) rfl ?_
  refine o_aloadN X6 hx hby d11_80 rfl rfl (q := 81) rfl ?_
  refine o_getF X6 hx hZ hown hby (w_ hw 95 rfl) Via.refl e6 Fix d11_81 (q := 84) rfl fun T7 X7 e7 => ?_
  obtain ⟨cq8, q8, q8'⟩ := Exa.cell Ex
  obtain ⟨_, _, ⟨T8, L8, k8, n8⟩, -, X8, ⟨Lc8, hQ8, l8, y8, z8⟩, st8⟩ := X7.privateBack hx (y := mn_18) hown (mvT hZ (w_ hw 153 rfl)) (mvT hZ (w_ hw 154 rfl)) (mvT hZ (own_selP (y := mn_18) (w_ hw 154 rfl) (w_ hw 155 rfl) (w_ hw 62 rfl) (by decide))) (Cond.privateMethod_at (mvP hZ (w_ hw 155 rfl) (args := #[]))) (mvT hZ (w_ hw 156 rfl)) (by decide) (backOf (W := 0) (rm23 l Z a0 hw [] o0 (14 : Int32) kc kk h0 n0 Z0 Fkx Vkx) hZ (w_ hw 156 rfl) (w_ hw 63 rfl) (by decide) (by decide)) (g := (mkF m 84 #[rv o0, lv] [.int 14, .ref o0])) rfl (by rw [hml]; rfl) (Steps.refl _) (a := o0) (by rw [e7]; exact q8) q8' (argsL := [(.int 14)]) (rest := []) (lenOf pd_7 rfl) rfl (by show 2 * 0 + _ ≤ _; exact Nat.le_of_eq rfl) (hb hby d11_84) (fun _ _ => ⟨rfl, e7, (by decide : 2 + 0 ≤ _), (by decide : 48 + 0 ≤ _)⟩)
  dsimp only [Pt.U, Pt.locs, Pt.cells, Pt.slots] at X8 l8 y8 z8 st8 hQ8
  subst l8 y8 z8
  obtain ⟨rfl, N8q, hh8⟩ := hQ8
  have N8 := Fr.app N3 N8q
  refine own_of (fun _ k => st8.trans k) ?_
  show own_Out p e below _ (T8.setTop (mkF m 87 #[rv o0, lv] [.int 0]))
  refine o_ldcI X8 hx hZ hown hby (w_ hw 123 rfl) d11_87 (q := 89) rfl ?_
  refine o_imul X8 hx hby d11_89 (z := 0) rfl (q := 90) rfl ?_
  refine o_istoreN X8 hx hby d11_90 (l' := #[rv o0, iv 0]) (by rcases hlv with rfl | rfl <;> rfl) (q := 91) rfl ?_
  refine o_aloadN X8 hx hby d11_91 rfl rfl (q := 92) rfl ?_
  refine o_getF X8 hx hZ hown hby (w_ hw 72 rfl) Via.refl hh8 Fhx d11_92 (q := 95) rfl fun T9 X9 e9 => ?_
  refine o_aloadN X9 hx hby d11_95 rfl rfl (q := 96) rfl ?_
  refine o_getF X9 hx hZ hown hby (w_ hw 95 rfl) Via.refl e9 Fix d11_96 (q := 99) rfl fun T10 X10 e10 => ?_
  refine o_iloadN X10 hx hby d11_99 rfl (q := 100) rfl ?_
  refine o_stV X10 hx hby hZ e10 Vhx ⟨by decide, by decide⟩ 14 rfl (Nat.le_of_ble_eq_true rfl) d11_100 (q := 101) rfl fun T11 h11 X11 e11 W11 V11 => ?_
  have Vz11 : Arv Z h11 ha kh .int 16 (zr 16) (.int 0) := by have q := V11; rw [own_zset] at q; exact q
  refine o_aloadN X11 hx hby d11_101 rfl rfl (q := 102) rfl ?_
  have qz13 := (Fix.other W11 (Or.inl D_o0ha))
  refine o_getF X11 hx hZ hown hby (w_ hw 95 rfl) Via.refl e11 qz13 d11_102 (q := 105) rfl fun T12 X12 e12 => ?_
  refine o_iloadN X12 hx hby d11_105 rfl (q := 106) rfl ?_
  refine o_aloadN X12 hx hby d11_106 rfl rfl (q := 107) rfl ?_
  have qz15 := (Ffx.other W11 (Or.inl D_o0ha))
  refine o_getF X12 hx hZ hown hby (w_ hw 68 rfl) Via.refl e12 qz15 d11_107 (q := 110) rfl fun T14 X14 e14 => ?_
  refine o_aloadN X14 hx hby d11_110 rfl rfl (q := 111) rfl ?_
  have qz17 := (Fnx.other W11 (Or.inl D_o0ha))
  refine o_getF X14 hx hZ hown hby (w_ hw 70 rfl) Via.refl e14 qz17 d11_111 (q := 114) rfl fun T16 X16 e16 => ?_
  have qz19 := (Vfx.other W11 D_faha)
  have qz20 := (Vnx.other W11 D_naha)
  have qz21 := (Nat.le_trans Z0 (Keep.of_wr W11).1)
  obtain ⟨_, _, ⟨T18, L18, k18, n18⟩, -, X18, ⟨Lc18, hQ18, l18, y18, z18⟩, st18⟩ := Jvm.LawKit.callS X16 hx (y := mn_17) hown (mvT hZ (w_ hw 157 rfl)) (mvT hZ (w_ hw 158 rfl)) (mvT hZ (w_ hw 63 rfl)) (mvT hZ (w_ hw 159 rfl)) (by decide) (backOf (W := 0) (rm24n16 l Z a0 hw [] (14 : Int32) fa na kf kn (16 : Int32) ((14 : Int32) - (1 : Int32)) (List.replicate 15 (.int (-1))) vs h11 n0 qz21 qz19 qz20 G_fa G_na D_fana ⟨by decide, by decide⟩ (by rw [hlen]; decide)) hZ (w_ hw 159 rfl) (w_ hw 63 rfl) (by decide) (by decide)) (g := (mkF m 114 #[rv o0, iv 0] [.ref na, .ref fa, .int 0, .int 14])) rfl (by rw [hml]; rfl) (argsL := [(.int 14), (.int 0), (.ref fa), (.ref na)]) (rest := []) (lenOf pd_12 rfl) rfl (by show 2 * 0 + _ ≤ _; exact Nat.le_of_eq rfl) (hb hby d11_114) (fun _ _ => ⟨rfl, e16, (by decide : 2 + 0 ≤ _), (by decide : 48 + 0 ≤ _)⟩)
  dsimp only [Pt.U, Pt.locs, Pt.cells, Pt.slots] at X18 l18 y18 z18 st18 hQ18
  subst l18 y18 z18
  obtain ⟨rfl, N18q, K18, Vf18, Vn18⟩ := hQ18
  have N18 := Fr.app (Fr.snoc X11 N8 G_ha) N18q
  refine own_of st18 ?_
  show own_Out p e below _ (T18.setTop (mkF m 117 #[rv o0, iv 0] []))
  refine o_aloadN X18 hx hby d11_117 rfl rfl (q := 118) rfl ?_
  refine o_dup X18 hx hby d11_118 rfl (q := 119) rfl ?_
  have qz23 := (qz13.keep K18 (ninS D_o0fa (ninS D_o0na nin0)))
  refine o_getF X18 hx hZ hown hby (w_ hw 95 rfl) Via.refl rfl qz23 d11_119 (q := 122) rfl fun T22 X22 e22 => ?_
  refine o_iconst X22 hx hby d11_122 (z := 1) rfl (q := 123) rfl ?_
  refine o_iadd X22 hx hby d11_123 (z := 15) rfl (q := 124) rfl ?_
  have qz25 := ((Ex.wr W11).keep K18)
  obtain ⟨T24, h24, X24, e24, W24, st24⟩ := putF X22 hx hZ hown (host := "") (Or.inl (w_ hw 95 rfl)) Via.refl e22 qz23 qz25 (Or.inl (w_ hw 96 rfl)) (w_ hw 62 rfl) (ty := .int) (by decide) rfl rfl (g := (mkF m 124 #[rv o0, iv 0] [.int 15, .ref o0])) rfl rfl (hb hby d11_124)
  have Fw24 := qz23.same W24
  refine own_of st24 ?_
  show own_Out p e below _ (T24.setTop (mkF m 127 #[rv o0, iv 0] []))
  refine o_aloadN X24 hx hby d11_127 rfl rfl (q := 128) rfl ?_
  have qz27 := (((Fgx.other W11 (Or.inl D_o0ha)).keep K18 (ninS D_o0fa (ninS D_o0na nin0))).other W24 (Or.inr (slot_ne (Or.inl (w_ hw 110 rfl)) (Or.inl (w_ hw 96 rfl)) (by decide) (t := (.array .int)) (t' := .int) (by decide) (by decide))))
  refine o_getF X24 hx hZ hown hby (w_ hw 109 rfl) Via.refl e24 qz27 d11_128 (q := 131) rfl fun T26 X26 e26 => ?_
  refine own_of (fun _ k => XS.ifnullNo X26.here hx rfl (hb hby d11_131) rfl k) ?_
  show own_Out p e below _ (T26.setTop (mkF m 134 #[rv o0, iv 0] []))
  refine o_aloadN X26 hx hby d11_134 rfl rfl (q := 135) rfl ?_
  have qz29 := (qz25.wr W24)
  have qz30 := (((Frx.other W11 (Or.inl D_o0ha)).keep K18 (ninS D_o0fa (ninS D_o0na nin0))).other W24 (Or.inr (slot_ne (Or.inr (w_ hw 78 rfl)) (Or.inl (w_ hw 96 rfl)) (by decide) (t := (.object "com/example/headway/headway/engine/RowBuffer")) (t' := .int) (by decide) (by decide))))
  have qz31 := (((Fkx.other W11 (Or.inl D_o0ha)).keep K18 (ninS D_o0fa (ninS D_o0na nin0))).other W24 (Or.inr (slot_ne (Or.inr (w_ hw 81 rfl)) (Or.inl (w_ hw 96 rfl)) (by decide) (t := (.array .int)) (t' := .int) (by decide) (by decide))))
  have qz32 := ((qz15.keep K18 (ninS D_o0fa (ninS D_o0na nin0))).other W24 (Or.inr (slot_ne (Or.inl (w_ hw 69 rfl)) (Or.inl (w_ hw 96 rfl)) (by decide) (t := (.array .int)) (t' := .int) (by decide) (by decide))))
  have qz33 := ((qz17.keep K18 (ninS D_o0fa (ninS D_o0na nin0))).other W24 (Or.inr (slot_ne (Or.inl (w_ hw 71 rfl)) (Or.inl (w_ hw 96 rfl)) (by decide) (t := (.array .int)) (t' := .int) (by decide) (by decide))))
  have qz34 := (((Fhx.other W11 (Or.inl D_o0ha)).keep K18 (ninS D_o0fa (ninS D_o0na nin0))).other W24 (Or.inr (slot_ne (Or.inl (w_ hw 73 rfl)) (Or.inl (w_ hw 96 rfl)) (by decide) (t := (.array .int)) (t' := .int) (by decide) (by decide))))
  have qz35 := (((Flx.other W11 (Or.inl D_o0ha)).keep K18 (ninS D_o0fa (ninS D_o0na nin0))).other W24 (Or.inr (slot_ne (Or.inl (w_ hw 76 rfl)) (Or.inl (w_ hw 96 rfl)) (by decide) (t := .int) (t' := .int) (by decide) (by decide))))
  have qz36 := (((Fmx.other W11 (Or.inl D_o0ha)).keep K18 (ninS D_o0fa (ninS D_o0na nin0))).other W24 (Or.inr (slot_ne (Or.inl (w_ hw 112 rfl)) (Or.inl (w_ hw 96 rfl)) (by decide) (t := (.array .int)) (t' := .int) (by decide) (by decide))))
  have qz37 := (((Fqx.other W11 (Or.inl D_o0ha)).keep K18 (ninS D_o0fa (ninS D_o0na nin0))).other W24 (Or.inr (slot_ne (Or.inl (w_ hw 176 rfl)) (Or.inl (w_ hw 96 rfl)) (by decide) (t := .int) (t' := .int) (by decide) (by decide))))
  have qz38 := (((Vlx.other W11 (Ne.symm L_half)).keep K18 (ninS (Ne.symm L_falf) (ninS (Ne.symm L_nalf) nin0))).other W24 (Ne.symm L_o0lf))
  have qz39 := (((Vmx.other W11 (Ne.symm L_haln)).keep K18 (ninS (Ne.symm L_faln) (ninS (Ne.symm L_naln) nin0))).other W24 (Ne.symm L_o0ln))
  have qz40 := ((Vz11.keep K18 (ninS (Ne.symm D_faha) (ninS (Ne.symm D_naha) nin0))).other W24 (Ne.symm D_o0ha))
  have qz41 := (Nat.le_trans (Nat.le_trans qz21 K18.1) (Keep.of_wr W24).1)
  obtain ⟨cq28, q28, q28'⟩ := Exa.cell qz29
  obtain ⟨_, _, ⟨T28, L28, k28, n28⟩, -, X28, ⟨Lc28, hQ28, l28, y28, z28⟩, st28⟩ := X26.privateBack hx (y := mn_27) hown (mvT hZ (w_ hw 177 rfl)) (mvT hZ (w_ hw 178 rfl)) (mvT hZ (own_selP (y := mn_27) (w_ hw 178 rfl) (w_ hw 179 rfl) (w_ hw 62 rfl) (by decide))) (Cond.privateMethod_at (mvP hZ (w_ hw 179 rfl) (args := #[]))) (mvT hZ (w_ hw 180 rfl)) (by decide) (backOf (W := 0) (rm28b l Z a0 hw [] o0 rb kc fa na ha (12 : Int32) lf ln kl km kh h24 n0 qz41 qz29 qz30 qz31 qz32 qz33 qz34 qz35 Fw24 qz27 qz36 qz37 G_o0 qz38 qz39 qz40 L_glf L_gln L_lfln (Ne.symm L_o0lf) (Ne.symm L_o0ln) L_half L_haln (Ne.symm D_o0ha)) hZ (w_ hw 180 rfl) (w_ hw 63 rfl) (by decide) (by decide)) (g := (mkF m 135 #[rv o0, iv 0] [.ref o0])) rfl (by rw [hml]; rfl) (Steps.refl _) (a := o0) (by rw [e26]; exact q28) q28' (argsL := []) (rest := []) (lenOf pd_0 rfl) rfl (by show 2 * 0 + _ ≤ _; exact Nat.le_of_eq rfl) (hb hby d11_135) (fun _ _ => ⟨rfl, e26, (by decide : 2 + 0 ≤ _), (by decide : 48 + 0 ≤ _)⟩)
  dsimp only [Pt.U, Pt.locs, Pt.cells, Pt.slots] at X28 l28 y28 z28 st28 hQ28
  subst l28 y28 z28
  obtain ⟨rfl, N28q, K28, E28, F28_rows, F28_keyColumns, F28_firstInBucket, F28_nextInBucket, F28_hashes, F28_loadLimit, F28_indexed, F28_largerFirstInBucket, F28_largerNextInBucket, F28_relinked, Vf28, Vn28⟩ := hQ28
  have N28 := Fr.app (Fr.snoc X24 N18 G_o0) N28q
  refine own_of (fun _ k => st28.trans k) ?_
  show own_Out p e below _ (T28.setTop (mkF m 138 #[rv o0, iv 0] []))
  refine o_goto X28 hx hby d11_138 (by decide) (q := 156) (by decide) ?_
  refine o_goto X28 hx hby d11_156 (by decide) (q := 0) (by decide) ?_
  have hs15 : sz = (15 : Int32) := Int32.toInt_inj.mp (by have a := hS.2; have q := hS.1; rw [Int32.lt_iff_toInt_lt] at q; have n14 : (14 : Int32).toInt = 14 := rfl; have n15 : (15 : Int32).toInt = 15 := rfl; omega)
  subst hs15
  have qz42 := ((((K0.wr W11 (hwh)).trans K18 (allS (hwf) (allS (hwn) all0))).wr W24 (hwo)).trans K28 (allS (hwo) (allS ((Or.inr L_slf)) (allS ((Or.inr L_sln)) all0))))
  have qz43 := (Nat.le_trans qz41 K28.1)
  have qz44 := ((((Vkx.other W11 D_kcha).keep K18 (ninS D_kcfa (ninS D_kcna nin0))).other W24 D_kco0).keep K28 (ninS D_kco0 (ninS L_kclf (ninS L_kcln nin0))))
  have qz45 := (qz40.keep K28 (ninS (Ne.symm D_o0ha) (ninS L_half (ninS L_haln nin0))))
  have qz46 := ((((Erx.wr W11).keep K18).wr W24).keep K28)
  have qz47 := ((((Fsx.other W11 (Or.inl D_rbha)).keep K18 (ninS D_rbfa (ninS D_rbna nin0))).other W24 (Or.inl D_rbo0)).keep K28 (ninS D_rbo0 (ninS L_rblf (ninS L_rbln nin0))))
  exact ex11_2_48 hx hZ hw hby hml hown hret hlk o0 rb (15 : Int32) (15 : Int32) n0 T28.heap _ X28 rfl qz43 N28 E28 F28_rows F28_indexed qz46 qz47 (by decide) (fun L NL => hQ _ L NL qz42 ⟨lf, ln, kl, km, (32 : Int32), 31, [(.int (-1 : Int32)), (.int 0), (.int 1), (.int 2), (.int 3), (.int 4), (.int 5), (.int 6), (.int 7), (.int 8), (.int 9), (.int 10), (.int 11), (.int 12), (.int 13), (.int 0)], .null, .null, (24 : Int32), (15 : Int32), ⟨⟨E28, F28_rows, F28_keyColumns, F28_firstInBucket, F28_nextInBucket, F28_hashes, F28_loadLimit, F28_indexed, qz44, Vf28, Vn28, qz45⟩, qz46, qz47, F28_largerFirstInBucket, F28_largerNextInBucket, F28_relinked⟩, ⟨L_o0lf, L_o0ln, D_o0ha, D_rbo0, L_rblf, L_rbln, D_rbha, D_kco0, L_kclf, L_kcln, D_kcha, L_lfln, (Ne.symm L_half), (Ne.symm L_haln), D_rbkc, G_o0, L_glf, L_gln, G_ha⟩, rfl, own_nx15, Or.inr ⟨rfl, rfl⟩⟩)
set_option maxRecDepth 65536 in
set_option maxHeartbeats 40000000 in
theorem t13 {p : Program} {l : Launch} {e : Env} {s : State} {m : MethodId} {args : Array Value} {below : List Frame} {meth : Method} {c : Code} {Z : State} {a0 : Array Value} {T0 : State} {locs : List Loc} {Q : Option Value → Heap → List Loc → Prop} (hx : p.tables.exec = Jvm.exec) (hZ : Z.Warmed39 s.vm) (hw : ∀ d ∈ tables_1, d.before a0 Z = true) (hby : c.code = prog_57_method_2_code) (hml : c.maxLocals = 2) (hown : s.vm.findClass "com/example/headway/headway/engine/HashIndex" = some m.cls) (hret : meth.sig.returnType = none) (hlk : meth.locks = false) (o0 rb kc fa na ha : Addr) (lf ln : Addr) (kk kf kn kh : ClassId) (kl km : ClassId) (sz : Int32) (n0 : Nat) (hB : Heap) (ws : List Addr) (h0 : Heap) (lv : Slot) (vs : List Value) (D0 : NE o0 rb kc fa na ha n0) (hwo : o0 ∈ ws ∨ hB.size ≤ o0) (hwf : fa ∈ ws ∨ hB.size ≤ fa) (hwn : na ∈ ws ∨ hB.size ≤ na) (hwh : ha ∈ ws ∨ hB.size ≤ ha) (LG0 : LG o0 rb kc fa na ha lf ln n0 hB.size) (hS : (13 : Int32) < sz ∧ sz.toInt ≤ 15) (hlv : lv = .unset ∨ lv = .val (.int 0)) (X0 : Stand p l e (⟨4, 2, 64, 64⟩ : Room) s m args below meth c T0 locs 2 48) (e0 : T0.heap = h0) (K0 : Keep hB h0 ws) (Z0 : n0 ≤ h0.size) (N0 : Fr n0 locs) (S0 : SX Z h0 o0 rb kc fa na ha kk kf kn kh 16 16 (13 : Int32) 12 sz 15 16 vs (.ref lf) (.ref ln) (0 : Int32)) (Vlx : Arv Z h0 lf kl .int 32 (fl (0 : Int32) 31) (.int 0)) (Vmx : Arv Z h0 ln km .int 16 [(.int 0), (.int 0), (.int 0), (.int 0), (.int 0), (.int 0), (.int 0), (.int 0), (.int 0), (.int 0), (.int 0), (.int 0), (.int 0), (.int 0), (.int 0), (.int 0)] (.int 0)) (hlen : vs.length = 16) (hN : NX (13 : Int32) vs)
    (hQ : ∀ h L, Fr n0 L → Keep hB h ws → FIN Z h o0 rb kc ha kk kh sz n0 → Q none h L) :
    own_Out p e below (fun o U' => ∃ v L, o = .returned v ∧ Q v U'.heap L ∧ FrameEnd s o U' L (⟨4, 2, 64, 64⟩ : Room).cells (⟨4, 2, 64, 64⟩ : Room).slots) (T0.setTop (mkF m 0 #[rv o0, lv] [])) := by
  obtain ⟨⟨Ex, Frx, Fkx, Ffx, Fnx, Fhx, Flx, Fix, Vkx, Vfx, Vnx, Vhx⟩, Erx, Fsx, Fgx, Fmx, Fqx⟩ := S0
  obtain ⟨D_o0fa, D_o0na, D_o0ha, D_rbo0, D_rbfa, D_rbna, D_rbha, D_kco0, D_kcfa, D_kcna, D_kcha, D_fana, D_faha, D_naha, D_rbkc, G_o0, G_fa, G_na, G_ha⟩ := D0
  have LGk := LG0
  obtain ⟨L_lfln, L_o0lf, L_rblf, L_kclf, L_falf, L_nalf, L_half, L_o0ln, L_rbln, L_kcln, L_faln, L_naln, L_haln, L_glf, L_gln, L_slf, L_sln⟩ := LGk
  show own_Out p e below _ (T0.setTop (mkF m 0 #[rv o0, lv] []))
  refine o_aloadN X0 hx hby d11_0 rfl rfl (q := 1) rfl ?_
  refine o_getF X0 hx hZ hown hby (w_ hw 95 rfl) Via.refl e0 Fix d11_1 (q := 4) rfl fun T1 X1 e1 => ?_
  refine o_aloadN X1 hx hby d11_4 rfl rfl (q := 5) rfl ?_
  refine o_getF X1 hx hZ hown hby (w_ hw 77 rfl) Via.refl e1 Frx d11_5 (q := 8) rfl fun T2 X2 e2 => ?_
  obtain ⟨cq3, kq3, q3a, q3b, q3c⟩ := isOf hZ e2 Erx
  obtain ⟨_, _, ⟨T3, L3, k3, n3⟩, -, X3, ⟨Lc3, hQ3, l3, y3, z3⟩, st3⟩ := X2.virtualBack hx (y := mn_9) (z := mn_9) hown (mvT hZ (w_ hw 97 rfl)) (mvT hZ (w_ hw 98 rfl)) (notFace_of_selects (args := #[]) (mvT hZ (w_ hw 100 rfl))) (mvT hZ (w_ hw 100 rfl)) (mvT hZ (w_ hw 99 rfl)) (by decide) (backOf (W := 1) (rm12 l Z a0 hw [] rb sz h0 n0 Z0 Fsx) hZ (w_ hw 101 rfl) (w_ hw 3 rfl) (by decide) (by decide)) q3a q3c (g := (mkF m 8 #[rv o0, lv] [.ref rb, .int 13])) rfl (by rw [hml]; rfl) (Steps.refl _) (argsL := []) (rest := [(.int 13)]) (lenOf pd_1 rfl) rfl (by show 2 * 0 + _ ≤ _; exact Nat.le_of_eq rfl) (hb hby d11_8) (fun _ _ => ⟨rfl, e2, (by decide : 2 + 0 ≤ _), (by decide : 48 + 0 ≤ _)⟩)
  dsimp only [Pt.U, Pt.locs, Pt.cells, Pt.slots] at X3 l3 y3 z3 st3 hQ3
  subst l3 y3 z3
  obtain ⟨rfl, N3q, hh3⟩ := hQ3
  have N3 := Fr.app N0 N3q
  refine own_of (fun _ k => st3.trans k) ?_
  show own_Out p e below _ (T3.setTop (mkF m 11 #[rv o0, lv] [.int sz, .int 13]))
  refine o_icN X3 hx hby d11_11 (tlt hS.1).2.1 (q := 14) rfl ?_
  refine o_aloadN X3 hx hby d11_14 rfl rfl (q := 15) rfl ?_
  refine o_getF X3 hx hZ hown hby (w_ hw 95 rfl) Via.refl hh3 Fix d11_15 (q := 18) rfl fun T4 X4 e4 => ?_
  refine o_ldcI X4 hx hZ hown hby (w_ hw 113 rfl) d11_18 (q := 20) rfl ?_
  refine o_icY X4 hx hby d11_20 (feq (by decide : ¬ ((13 : Int32) = (805306368 : Int32)))).2 (by decide) (q := 33) (by decide) ?_
  refine o_aloadN X4 hx hby d11_33 rfl rfl (q := 34) rfl ?_
  refine o_getF X4 hx hZ hown hby (w_ hw 95 rfl) Via.refl e4 Fix d11_34 (q := 37) rfl fun T5 X5 e5 => ?_
  refine o_aloadN X5 hx hby d11_37 rfl rfl (q := 38) rfl ?_
  refine o_getF X5 hx hZ hown hby (w_ hw 72 rfl) Via.refl e5 Fhx d11_38 (q := 41) rfl fun T6 X6 e6 => ?_
  refine o_lenV X6 hx hby hZ e6 Vhx d11_41 (q := 42) rfl ?_
  refine o_icY X6 hx hby d11_42 (feq (by decide : ¬ ((13 : Int32) = (16 : Int32)))).2 (by decide) (q := 79) (by decide) ?_
  refine o_aloadN X6 hx hby d11_79 rfl rfl (q := 80) rfl ?_
  refine o_aloadN X6 hx hby d11_80 rfl rfl (q := 81) rfl ?_
  refine o_getF X6 hx hZ hown hby (w_ hw 95 rfl) Via.refl e6 Fix d11_81 (q := 84) rfl fun T7 X7 e7 => ?_
  obtain ⟨cq8, q8, q8'⟩ := Exa.cell Ex
  obtain ⟨_, _, ⟨T8, L8, k8, n8⟩, -, X8, ⟨Lc8, hQ8, l8, y8, z8⟩, st8⟩ := X7.privateBack hx (y := mn_18) hown (mvT hZ (w_ hw 153 rfl)) (mvT hZ (w_ hw 154 rfl)) (mvT hZ (own_selP (y := mn_18) (w_ hw 154 rfl) (w_ hw 155 rfl) (w_ hw 62 rfl) (by decide))) (Cond.privateMethod_at (mvP hZ (w_ hw 155 rfl) (args := #[]))) (mvT hZ (w_ hw 156 rfl)) (by decide) (backOf (W := 0) (rm23 l Z a0 hw [] o0 (13 : Int32) kc kk h0 n0 Z0 Fkx Vkx) hZ (w_ hw 156 rfl) (w_ hw 63 rfl) (by decide) (by decide)) (g := (mkF m 84 #[rv o0, lv] [.int 13, .ref o0])) rfl (by rw [hml]; rfl) (Steps.refl _) (a := o0) (by rw [e7]; exact q8) q8' (argsL := [(.int 13)]) (rest := []) (lenOf pd_7 rfl) rfl (by show 2 * 0 + _ ≤ _; exact Nat.le_of_eq rfl) (hb hby d11_84) (fun _ _ => ⟨rfl, e7, (by decide : 2 + 0 ≤ _), (by decide : 48 + 0 ≤ _)⟩)
  dsimp only [Pt.U, Pt.locs, Pt.cells, Pt.slots] at X8 l8 y8 z8 st8 hQ8
  subst l8 y8 z8
  obtain ⟨rfl, N8q, hh8⟩ := hQ8
  have N8 := Fr.app N3 N8q
  refine own_of (fun _ k => st8.trans k) ?_
  show own_Out p e below _ (T8.setTop (mkF m 87 #[rv o0, lv] [.int 0]))
  refine o_ldcI X8 hx hZ hown hby (w_ hw 123 rfl) d11_87 (q := 89) rfl ?_
  refine o_imul X8 hx hby d11_89 (z := 0) rfl (q := 90) rfl ?_
  refine o_istoreN X8 hx hby d11_90 (l' := #[rv o0, iv 0]) (by rcases hlv with rfl | rfl <;> rfl) (q := 91) rfl ?_
  refine o_aloadN X8 hx hby d11_91 rfl rfl (q := 92) rfl ?_
  refine o_getF X8 hx hZ hown hby (w_ hw 72 rfl) Via.refl hh8 Fhx d11_92 (q := 95) rfl fun T9 X9 e9 => ?_
  refine o_aloadN X9 hx hby d11_95 rfl rfl (q := 96) rfl ?_
  refine o_getF X9 hx hZ hown hby (w_ hw 95 rfl) Via.refl e9 Fix d11_96 (q := 99) rfl fun T10 X10 e10 => ?_
  refine o_iloadN X10 hx hby d11_99 rfl (q := 100) rfl ?_
  refine o_stV X10 hx hby hZ e10 Vhx ⟨by decide, by decide⟩ 13 rfl (Nat.le_of_ble_eq_true rfl) d11_100 (q := 101) rfl fun T11 h11 X11 e11 W11 V11 => ?_
  have Vz11 : Arv Z h11 ha kh .int 16 (zr 16) (.int 0) := by have q := V11; rw [own_zset] at q; exact q
  refine o_aloadN X11 hx hby d11_101 rfl rfl (q := 102) rfl ?_
  have qz13 := (Fix.other W11 (Or.inl D_o0ha))
  refine o_getF X11 hx hZ hown hby (w_ hw 95 rfl) Via.refl e11 qz13 d11_102 (q := 105) rfl fun T12 X12 e12 => ?_
  refine o_iloadN X12 hx hby d11_105 rfl (q := 106) rfl ?_
  refine o_aloadN X12 hx hby d11_106 rfl rfl (q := 107) rfl ?_
  have qz15 := (Ffx.other W11 (Or.inl D_o0ha))
  refine o_getF X12 hx hZ hown hby (w_ hw 68 rfl) Via.refl e12 qz15 d11_107 (q := 110) rfl fun T14 X14 e14 => ?_
  refine o_aloadN X14 hx hby d11_110 rfl rfl (q := 111) rfl ?_
  have qz17 := (Fnx.other W11 (Or.inl D_o0ha))
  refine o_getF X14 hx hZ hown hby (w_ hw 70 rfl) Via.refl e14 qz17 d11_111 (q := 114) rfl fun T16 X16 e16 => ?_
  have qz19 := (Vfx.other W11 D_faha)
  have qz20 := (Vnx.other W11 D_naha)
  have qz21 := (Nat.le_trans Z0 (Keep.of_wr W11).1)
  obtain ⟨_, _, ⟨T18, L18, k18, n18⟩, -, X18, ⟨Lc18, hQ18, l18, y18, z18⟩, st18⟩ := Jvm.LawKit.callS X16 hx (y := mn_17) hown (mvT hZ (w_ hw 157 rfl)) (mvT hZ (w_ hw 158 rfl)) (mvT hZ (w_ hw 63 rfl)) (mvT hZ (w_ hw 159 rfl)) (by decide) (backOf (W := 0) (rm24n16 l Z a0 hw [] (13 : Int32) fa na kf kn (16 : Int32) ((13 : Int32) - (1 : Int32)) (List.replicate 15 (.int (-1))) vs h11 n0 qz21 qz19 qz20 G_fa G_na D_fana ⟨by decide, by decide⟩ (by rw [hlen]; decide)) hZ (w_ hw 159 rfl) (w_ hw 63 rfl) (by decide) (by decide)) (g := (mkF m 114 #[rv o0, iv 0] [.ref na, .ref fa, .int 0, .int 13])) rfl (by rw [hml]; rfl) (argsL := [(.int 13), (.int 0), (.ref fa), (.ref na)]) (rest := []) (lenOf pd_12 rfl) rfl (by show 2 * 0 + _ ≤ _; exact Nat.le_of_eq rfl) (hb hby d11_114) (fun _ _ => ⟨rfl, e16, (by decide : 2 + 0 ≤ _), (by decide : 48 + 0 ≤ _)⟩)
  dsimp only [Pt.U, Pt.locs, Pt.cells, Pt.slots] at X18 l18 y18 z18 st18 hQ18
  subst l18 y18 z18
  obtain ⟨rfl, N18q, K18, Vf18, Vn18⟩ := hQ18
  have N18 := Fr.app (Fr.snoc X11 N8 G_ha) N18q
  refine own_of st18 ?_
  show own_Out p e below _ (T18.setTop (mkF m 117 #[rv o0, iv 0] []))
  refine o_aloadN X18 hx hby d11_117 rfl rfl (q := 118) rfl ?_
  refine o_dup X18 hx hby d11_118 rfl (q := 119) rfl ?_
  have qz23 := (qz13.keep K18 (ninS D_o0fa (ninS D_o0na nin0)))
  refine o_getF X18 hx hZ hown hby (w_ hw 95 rfl) Via.refl rfl qz23 d11_119 (q := 122) rfl fun T22 X22 e22 => ?_
  refine o_iconst X22 hx hby d11_122 (z := 1) rfl (q := 123) rfl ?_
  refine o_iadd X22 hx hby d11_123 (z := 14) rfl (q := 124) rfl ?_
  have qz25 := ((Ex.wr W11).keep K18)
  obtain ⟨T24, h24, X24, e24, W24, st24⟩ := putF X22 hx hZ hown (host := "") (Or.inl (w_ hw 95 rfl)) Via.refl e22 qz23 qz25 (Or.inl (w_ hw 96 rfl)) (w_ hw 62 rfl) (ty := .int) (by decide) rfl rfl (g := (mkF m 124 #[rv o0, iv 0] [.int 14, .ref o0])) rfl rfl (hb hby d11_124)
  have Fw24 := qz23.same W24
  refine own_of st24 ?_
  show own_Out p e below _ (T24.setTop (mkF m 127 #[rv o0, iv 0] []))
  refine o_aloadN X24 hx hby d11_127 rfl rfl (q := 128) rfl ?_
  have qz27 := (((Fgx.other W11 (Or.inl D_o0ha)).keep K18 (ninS D_o0fa (ninS D_o0na nin0))).other W24 (Or.inr (slot_ne (Or.inl (w_ hw 110 rfl)) (Or.inl (w_ hw 96 rfl)) (by decide) (t := (.array .int)) (t' := .int) (by decide) (by decide))))
  refine o_getF X24 hx hZ hown hby (w_ hw 109 rfl) Via.refl e24 qz27 d11_128 (q := 131) rfl fun T26 X26 e26 => ?_
  refine own_of (fun _ k => XS.ifnullNo X26.here hx rfl (hb hby d11_131) rfl k) ?_
  show own_Out p e below _ (T26.setTop (mkF m 134 #[rv o0, iv 0] []))
  refine o_aloadN X26 hx hby d11_134 rfl rfl (q := 135) rfl ?_
  have qz29 := (qz25.wr W24)
  have qz30 := (((Frx.other W11 (Or.inl D_o0ha)).keep K18 (ninS D_o0fa (ninS D_o0na nin0))).other W24 (Or.inr (slot_ne (Or.inr (w_ hw 78 rfl)) (Or.inl (w_ hw 96 rfl)) (by decide) (t := (.object "com/example/headway/headway/engine/RowBuffer")) (t' := .int) (by decide) (by decide))))
  have qz31 := (((Fkx.other W11 (Or.inl D_o0ha)).keep K18 (ninS D_o0fa (ninS D_o0na nin0))).other W24 (Or.inr (slot_ne (Or.inr (w_ hw 81 rfl)) (Or.inl (w_ hw 96 rfl)) (by decide) (t := (.array .int)) (t' := .int) (by decide) (by decide))))
  have qz32 := ((qz15.keep K18 (ninS D_o0fa (ninS D_o0na nin0))).other W24 (Or.inr (slot_ne (Or.inl (w_ hw 69 rfl)) (Or.inl (w_ hw 96 rfl)) (by decide) (t := (.array .int)) (t' := .int) (by decide) (by decide))))
  have qz33 := ((qz17.keep K18 (ninS D_o0fa (ninS D_o0na nin0))).other W24 (Or.inr (slot_ne (Or.inl (w_ hw 71 rfl)) (Or.inl (w_ hw 96 rfl)) (by decide) (t := (.array .int)) (t' := .int) (by decide) (by decide))))
  have qz34 := (((Fhx.other W11 (Or.inl D_o0ha)).keep K18 (ninS D_o0fa (ninS D_o0na nin0))).other W24 (Or.inr (slot_ne (Or.inl (w_ hw 73 rfl)) (Or.inl (w_ hw 96 rfl)) (by decide) (t := (.array .int)) (t' := .int) (by decide) (by decide))))
  have qz35 := (((Flx.other W11 (Or.inl D_o0ha)).keep K18 (ninS D_o0fa (ninS D_o0na nin0))).other W24 (Or.inr (slot_ne (Or.inl (w_ hw 76 rfl)) (Or.inl (w_ hw 96 rfl)) (by decide) (t := .int) (t' := .int) (by decide) (by decide))))
  have qz36 := (((Fmx.other W11 (Or.inl D_o0ha)).keep K18 (ninS D_o0fa (ninS D_o0na nin0))).other W24 (Or.inr (slot_ne (Or.inl (w_ hw 112 rfl)) (Or.inl (w_ hw 96 rfl)) (by decide) (t := (.array .int)) (t' := .int) (by decide) (by decide))))
  have qz37 := (((Fqx.other W11 (Or.inl D_o0ha)).keep K18 (ninS D_o0fa (ninS D_o0na nin0))).other W24 (Or.inr (slot_ne (Or.inl (w_ hw 176 rfl)) (Or.inl (w_ hw 96 rfl)) (by decide) (t := .int) (t' := .int) (by decide) (by decide))))
  have qz38 := (((Vlx.other W11 (Ne.symm L_half)).keep K18 (ninS (Ne.symm L_falf) (ninS (Ne.symm L_nalf) nin0))).other W24 (Ne.symm L_o0lf))
  have qz39 := (((Vmx.other W11 (Ne.symm L_haln)).keep K18 (ninS (Ne.symm L_faln) (ninS (Ne.symm L_naln) nin0))).other W24 (Ne.symm L_o0ln))
  have qz40 := ((Vz11.keep K18 (ninS (Ne.symm D_faha) (ninS (Ne.symm D_naha) nin0))).other W24 (Ne.symm D_o0ha))
  have qz41 := (Nat.le_trans (Nat.le_trans qz21 K18.1) (Keep.of_wr W24).1)
  obtain ⟨cq28, q28, q28'⟩ := Exa.cell qz29
  obtain ⟨_, _, ⟨T28, L28, k28, n28⟩, -, X28, ⟨Lc28, hQ28, l28, y28, z28⟩, st28⟩ := X26.privateBack hx (y := mn_27) hown (mvT hZ (w_ hw 177 rfl)) (mvT hZ (w_ hw 178 rfl)) (mvT hZ (own_selP (y := mn_27) (w_ hw 178 rfl) (w_ hw 179 rfl) (w_ hw 62 rfl) (by decide))) (Cond.privateMethod_at (mvP hZ (w_ hw 179 rfl) (args := #[]))) (mvT hZ (w_ hw 180 rfl)) (by decide) (backOf (W := 0) (rm28a l Z a0 hw [] o0 rb kc fa na ha (12 : Int32) lf ln kl km kh h24 n0 qz41 qz29 qz30 qz31 qz32 qz33 qz34 qz35 Fw24 qz27 qz36 qz37 G_o0 qz38 qz39 qz40 L_glf L_gln L_lfln (Ne.symm L_o0lf) (Ne.symm L_o0ln) L_half L_haln (Ne.symm D_o0ha)) hZ (w_ hw 180 rfl) (w_ hw 63 rfl) (by decide) (by decide)) (g := (mkF m 135 #[rv o0, iv 0] [.ref o0])) rfl (by rw [hml]; rfl) (Steps.refl _) (a := o0) (by rw [e26]; exact q28) q28' (argsL := []) (rest := []) (lenOf pd_0 rfl) rfl (by show 2 * 0 + _ ≤ _; exact Nat.le_of_eq rfl) (hb hby d11_135) (fun _ _ => ⟨rfl, e26, (by decide : 2 + 0 ≤ _), (by decide : 48 + 0 ≤ _)⟩)
  dsimp only [Pt.U, Pt.locs, Pt.cells, Pt.slots] at X28 l28 y28 z28 st28 hQ28
  subst l28 y28 z28
  obtain ⟨rfl, N28q, K28, E28, F28_rows, F28_keyColumns, F28_firstInBucket, F28_nextInBucket, F28_hashes, F28_loadLimit, F28_indexed, F28_largerFirstInBucket, F28_largerNextInBucket, F28_relinked, Vf28, Vn28⟩ := hQ28
  have N28 := Fr.app (Fr.snoc X24 N18 G_o0) N28q
  refine own_of (fun _ k => st28.trans k) ?_
  show own_Out p e below _ (T28.setTop (mkF m 138 #[rv o0, iv 0] []))
  refine o_goto X28 hx hby d11_138 (by decide) (q := 156) (by decide) ?_
  refine o_goto X28 hx hby d11_156 (by decide) (q := 0) (by decide) ?_
  by_cases hs14 : sz = (14 : Int32)
  · subst hs14
    have qz42 := ((((K0.wr W11 (hwh)).trans K18 (allS (hwf) (allS (hwn) all0))).wr W24 (hwo)).trans K28 (allS (hwo) (allS ((Or.inr L_slf)) (allS ((Or.inr L_sln)) all0))))
    have qz43 := (Nat.le_trans qz41 K28.1)
    have qz44 := ((((Vkx.other W11 D_kcha).keep K18 (ninS D_kcfa (ninS D_kcna nin0))).other W24 D_kco0).keep K28 (ninS D_kco0 (ninS L_kclf (ninS L_kcln nin0))))
    have qz45 := ((Vf18.other W24 (Ne.symm D_o0fa)).keep K28 (ninS (Ne.symm D_o0fa) (ninS L_falf (ninS L_faln nin0))))
    have qz46 := ((Vn18.other W24 (Ne.symm D_o0na)).keep K28 (ninS (Ne.symm D_o0na) (ninS L_nalf (ninS L_naln nin0))))
    have qz47 := (qz40.keep K28 (ninS (Ne.symm D_o0ha) (ninS L_half (ninS L_haln nin0))))
    have qz48 := ((((Erx.wr W11).keep K18).wr W24).keep K28)
    have qz49 := ((((Fsx.other W11 (Or.inl D_rbha)).keep K18 (ninS D_rbfa (ninS D_rbna nin0))).other W24 (Or.inl D_rbo0)).keep K28 (ninS D_rbo0 (ninS L_rblf (ninS L_rbln nin0))))
    exact ex11_2_48 hx hZ hw hby hml hown hret hlk o0 rb (14 : Int32) (14 : Int32) n0 T28.heap _ X28 rfl qz43 N28 E28 F28_rows F28_indexed qz48 qz49 (by decide) (fun L NL => hQ _ L NL qz42 ⟨fa, na, kf, kn, (16 : Int32), 15, (vs.set (13 : Int32).toNatClampNeg (.int ((13 : Int32) - (1 : Int32)))), (.ref lf), (.ref ln), (12 : Int32), (8 : Int32), ⟨⟨E28, F28_rows, F28_keyColumns, F28_firstInBucket, F28_nextInBucket, F28_hashes, F28_loadLimit, F28_indexed, qz44, qz45, qz46, qz47⟩, qz48, qz49, F28_largerFirstInBucket, F28_largerNextInBucket, F28_relinked⟩, ⟨D_o0fa, D_o0na, D_o0ha, D_rbo0, D_rbfa, D_rbna, D_rbha, D_kco0, D_kcfa, D_kcna, D_kcha, D_fana, D_faha, D_naha, D_rbkc, G_o0, G_fa, G_na, G_ha⟩, (by rw [List.length_set]; exact hlen), (NX.put (m := (13 : Int32)) hN (by decide) (by decide) (by rw [hlen]; decide)), Or.inl ⟨rfl, rfl⟩⟩)
  · skip
    have qz50 := ((((K0.wr W11 (hwh)).trans K18 (allS (hwf) (allS (hwn) all0))).wr W24 (hwo)).trans K28 (allS (hwo) (allS ((Or.inr L_slf)) (allS ((Or.inr L_sln)) all0))))
    have qz51 := (Nat.le_trans qz41 K28.1)
    have qz52 := ((((Vkx.other W11 D_kcha).keep K18 (ninS D_kcfa (ninS D_kcna nin0))).other W24 D_kco0).keep K28 (ninS D_kco0 (ninS L_kclf (ninS L_kcln nin0))))
    have qz53 := ((Vf18.other W24 (Ne.symm D_o0fa)).keep K28 (ninS (Ne.symm D_o0fa) (ninS L_falf (ninS L_faln nin0))))
    have qz54 := ((Vn18.other W24 (Ne.symm D_o0na)).keep K28 (ninS (Ne.symm D_o0na) (ninS L_nalf (ninS L_naln nin0))))
    have qz55 := (qz40.keep K28 (ninS (Ne.symm D_o0ha) (ninS L_half (ninS L_haln nin0))))
    have qz56 := ((((Erx.wr W11).keep K18).wr W24).keep K28)
    have qz57 := ((((Fsx.other W11 (Or.inl D_rbha)).keep K18 (ninS D_rbfa (ninS D_rbna nin0))).other W24 (Or.inl D_rbo0)).keep K28 (ninS D_rbo0 (ninS L_rblf (ninS L_rbln nin0))))
    exact t14 hx hZ hw hby hml hown hret hlk o0 rb kc fa na ha lf ln kk kf kn kh kl km sz n0 hB ws T28.heap _ (vs.set (13 : Int32).toNatClampNeg (.int ((13 : Int32) - (1 : Int32)))) ⟨D_o0fa, D_o0na, D_o0ha, D_rbo0, D_rbfa, D_rbna, D_rbha, D_kco0, D_kcfa, D_kcna, D_kcha, D_fana, D_faha, D_naha, D_rbkc, G_o0, G_fa, G_na, G_ha⟩ hwo hwf hwn hwh LG0 (own_nxt hS hs14 rfl) (Or.inr rfl) X28 rfl qz50 qz51 N28 ⟨⟨E28, F28_rows, F28_keyColumns, F28_firstInBucket, F28_nextInBucket, F28_hashes, F28_loadLimit, F28_indexed, qz52, qz53, qz54, qz55⟩, qz56, qz57, F28_largerFirstInBucket, F28_largerNextInBucket, F28_relinked⟩ Vf28 Vn28 (by rw [List.length_set]; exact hlen) (NX.put (m := (13 : Int32)) hN (by decide) (by decide) (by rw [hlen]; decide)) hQ
theorem d11_152 : decode prog_57_method_2_code 152 = .ok (.aload_n 0, 1) := by decide +kernel
theorem d11_153 : decode prog_57_method_2_code 153 = .ok (.invokevirtual 86, 3) := by decide +kernel
set_option maxRecDepth 65536 in
set_option maxHeartbeats 40000000 in
theorem t12 {p : Program} {l : Launch} {e : Env} {s : State} {m : MethodId} {args : Array Value} {below : List Frame} {meth : Method} {c : Code} {Z : State} {a0 : Array Value} {T0 : State} {locs : List Loc} {Q : Option Value → Heap → List Loc → Prop} (hx : p.tables.exec = Jvm.exec) (hZ : Z.Warmed39 s.vm) (hw : ∀ d ∈ tables_1, d.before a0 Z = true) (hby : c.code = prog_57_method_2_code) (hml : c.maxLocals = 2) (hown : s.vm.findClass "com/example/headway/headway/engine/HashIndex" = some m.cls) (hret : meth.sig.returnType = none) (hlk : meth.locks = false) (o0 rb kc fa na ha : Addr) (kk kf kn kh : ClassId) (sz rl : Int32) (n0 : Nat) (hB : Heap) (ws : List Addr) (h0 : Heap) (lv : Slot) (vs : List Value) (D0 : NE o0 rb kc fa na ha n0) (hwo : o0 ∈ ws ∨ hB.size ≤ o0) (hwf : fa ∈ ws ∨ hB.size ≤ fa) (hwn : na ∈ ws ∨ hB.size ≤ na) (hwh : ha ∈ ws ∨ hB.size ≤ ha) (hS : (12 : Int32) < sz ∧ sz.toInt ≤ 15) (hlv : lv = .unset ∨ lv = .val (.int 0)) (X0 : Stand p l e (⟨4, 2, 64, 64⟩ : Room) s m args below meth c T0 locs 0 0) (e0 : T0.heap = h0) (K0 : Keep hB h0 ws) (Z0 : n0 ≤ h0.size) (N0 : Fr n0 locs) (S0 : SX Z h0 o0 rb kc fa na ha kk kf kn kh 16 16 (12 : Int32) 12 sz 15 16 vs .null .null rl) (hlen : vs.length = 16) (hN : NX (12 : Int32) vs)
    (hQ : ∀ h L, Fr n0 L → Keep hB h ws → FIN Z h o0 rb kc ha kk kh sz n0 → Q none h L) :
    own_Out p e below (fun o U' => ∃ v L, o = .returned v ∧ Q v U'.heap L ∧ FrameEnd s o U' L (⟨4, 2, 64, 64⟩ : Room).cells (⟨4, 2, 64, 64⟩ : Room).slots) (T0.setTop (mkF m 0 #[rv o0, lv] [])) := by
  obtain ⟨⟨Ex, Frx, Fkx, Ffx, Fnx, Fhx, Flx, Fix, Vkx, Vfx, Vnx, Vhx⟩, Erx, Fsx, Fgx, Fmx, Fqx⟩ := S0
  obtain ⟨D_o0fa, D_o0na, D_o0ha, D_rbo0, D_rbfa, D_rbna, D_rbha, D_kco0, D_kcfa, D_kcna, D_kcha, D_fana, D_faha, D_naha, D_rbkc, G_o0, G_fa, G_na, G_ha⟩ := D0
  show own_Out p e below _ (T0.setTop (mkF m 0 #[rv o0, lv] []))
  refine o_aloadN X0 hx hby d11_0 rfl rfl (q := 1) rfl ?_
  refine o_getF X0 hx hZ hown hby (w_ hw 95 rfl) Via.refl e0 Fix d11_1 (q := 4) rfl fun T1 X1 e1 => ?_
  refine o_aloadN X1 hx hby d11_4 rfl rfl (q := 5) rfl ?_
  refine o_getF X1 hx hZ hown hby (w_ hw 77 rfl) Via.refl e1 Frx d11_5 (q := 8) rfl fun T2 X2 e2 => ?_
  obtain ⟨cq3, kq3, q3a, q3b, q3c⟩ := isOf hZ e2 Erx
  obtain ⟨_, _, ⟨T3, L3, k3, n3⟩, -, X3, ⟨Lc3, hQ3, l3, y3, z3⟩, st3⟩ := X2.virtualBack hx (y := mn_9) (z := mn_9) hown (mvT hZ (w_ hw 97 rfl)) (mvT hZ (w_ hw 98 rfl)) (notFace_of_selects (args := #[]) (mvT hZ (w_ hw 100 rfl))) (mvT hZ (w_ hw 100 rfl)) (mvT hZ (w_ hw 99 rfl)) (by decide) (backOf (W := 1) (rm12 l Z a0 hw [] rb sz h0 n0 Z0 Fsx) hZ (w_ hw 101 rfl) (w_ hw 3 rfl) (by decide) (by decide)) q3a q3c (g := (mkF m 8 #[rv o0, lv] [.ref rb, .int 12])) rfl (by rw [hml]; rfl) (Steps.refl _) (argsL := []) (rest := [(.int 12)]) (lenOf pd_1 rfl) rfl (by show 2 * 0 + _ ≤ _; exact Nat.le_of_eq rfl) (hb hby d11_8) (fun _ _ => ⟨rfl, e2, (by decide : 0 + 0 ≤ _), (by decide : 0 + 0 ≤ _)⟩)
  dsimp only [Pt.U, Pt.locs, Pt.cells, Pt.slots] at X3 l3 y3 z3 st3 hQ3
  subst l3 y3 z3
  obtain ⟨rfl, N3q, hh3⟩ := hQ3
  have N3 := Fr.app N0 N3q
  refine own_of (fun _ k => st3.trans k) ?_
  show own_Out p e below _ (T3.setTop (mkF m 11 #[rv o0, lv] [.int sz, .int 12]))
  refine o_icN X3 hx hby d11_11 (tlt hS.1).2.1 (q := 14) rfl ?_
  refine o_aloadN X3 hx hby d11_14 rfl rfl (q := 15) rfl ?_
  refine o_getF X3 hx hZ hown hby (w_ hw 95 rfl) Via.refl hh3 Fix d11_15 (q := 18) rfl fun T4 X4 e4 => ?_
  refine o_ldcI X4 hx hZ hown hby (w_ hw 113 rfl) d11_18 (q := 20) rfl ?_
  refine o_icY X4 hx hby d11_20 (feq (by decide : ¬ ((12 : Int32) = (805306368 : Int32)))).2 (by decide) (q := 33) (by decide) ?_
  refine o_aloadN X4 hx hby d11_33 rfl rfl (q := 34) rfl ?_
  refine o_getF X4 hx hZ hown hby (w_ hw 95 rfl) Via.refl e4 Fix d11_34 (q := 37) rfl fun T5 X5 e5 => ?_
  refine o_aloadN X5 hx hby d11_37 rfl rfl (q := 38) rfl ?_
  refine o_getF X5 hx hZ hown hby (w_ hw 72 rfl) Via.refl e5 Fhx d11_38 (q := 41) rfl fun T6 X6 e6 => ?_
  refine o_lenV X6 hx hby hZ e6 Vhx d11_41 (q := 42) rfl ?_
  refine o_icY X6 hx hby d11_42 (feq (by decide : ¬ ((12 : Int32) = (16 : Int32)))).2 (by decide) (q := 79) (by decide) ?_
  refine o_aloadN X6 hx hby d11_79 rfl rfl (q := 80) rfl ?_
  refine o_aloadN X6 hx hby d11_80 rfl rfl (q := 81) rfl ?_
  refine o_getF X6 hx hZ hown hby (w_ hw 95 rfl) Via.refl e6 Fix d11_81 (q := 84) rfl fun T7 X7 e7 => ?_
  obtain ⟨cq8, q8, q8'⟩ := Exa.cell Ex
  obtain ⟨_, _, ⟨T8, L8, k8, n8⟩, -, X8, ⟨Lc8, hQ8, l8, y8, z8⟩, st8⟩ := X7.privateBack hx (y := mn_18) hown (mvT hZ (w_ hw 153 rfl)) (mvT hZ (w_ hw 154 rfl)) (mvT hZ (own_selP (y := mn_18) (w_ hw 154 rfl) (w_ hw 155 rfl) (w_ hw 62 rfl) (by decide))) (Cond.privateMethod_at (mvP hZ (w_ hw 155 rfl) (args := #[]))) (mvT hZ (w_ hw 156 rfl)) (by decide) (backOf (W := 0) (rm23 l Z a0 hw [] o0 (12 : Int32) kc kk h0 n0 Z0 Fkx Vkx) hZ (w_ hw 156 rfl) (w_ hw 63 rfl) (by decide) (by decide)) (g := (mkF m 84 #[rv o0, lv] [.int 12, .ref o0])) rfl (by rw [hml]; rfl) (Steps.refl _) (a := o0) (by rw [e7]; exact q8) q8' (argsL := [(.int 12)]) (rest := []) (lenOf pd_7 rfl) rfl (by show 2 * 0 + _ ≤ _; exact Nat.le_of_eq rfl) (hb hby d11_84) (fun _ _ => ⟨rfl, e7, (by decide : 0 + 0 ≤ _), (by decide : 0 + 0 ≤ _)⟩)
  dsimp only [Pt.U, Pt.locs, Pt.cells, Pt.slots] at X8 l8 y8 z8 st8 hQ8
  subst l8 y8 z8
  obtain ⟨rfl, N8q, hh8⟩ := hQ8
  have N8 := Fr.app N3 N8q
  refine own_of (fun _ k => st8.trans k) ?_
  show own_Out p e below _ (T8.setTop (mkF m 87 #[rv o0, lv] [.int 0]))
  refine o_ldcI X8 hx hZ hown hby (w_ hw 123 rfl) d11_87 (q := 89) rfl ?_
  refine o_imul X8 hx hby d11_89 (z := 0) rfl (q := 90) rfl ?_
  refine o_istoreN X8 hx hby d11_90 (l' := #[rv o0, iv 0]) (by rcases hlv with rfl | rfl <;> rfl) (q := 91) rfl ?_
  refine o_aloadN X8 hx hby d11_91 rfl rfl (q := 92) rfl ?_
  refine o_getF X8 hx hZ hown hby (w_ hw 72 rfl) Via.refl hh8 Fhx d11_92 (q := 95) rfl fun T9 X9 e9 => ?_
  refine o_aloadN X9 hx hby d11_95 rfl rfl (q := 96) rfl ?_
  refine o_getF X9 hx hZ hown hby (w_ hw 95 rfl) Via.refl e9 Fix d11_96 (q := 99) rfl fun T10 X10 e10 => ?_
  refine o_iloadN X10 hx hby d11_99 rfl (q := 100) rfl ?_
  refine o_stV X10 hx hby hZ e10 Vhx ⟨by decide, by decide⟩ 12 rfl (Nat.le_of_ble_eq_true rfl) d11_100 (q := 101) rfl fun T11 h11 X11 e11 W11 V11 => ?_
  have Vz11 : Arv Z h11 ha kh .int 16 (zr 16) (.int 0) := by have q := V11; rw [own_zset] at q; exact q
  refine o_aloadN X11 hx hby d11_101 rfl rfl (q := 102) rfl ?_
  have qz13 := (Fix.other W11 (Or.inl D_o0ha))
  refine o_getF X11 hx hZ hown hby (w_ hw 95 rfl) Via.refl e11 qz13 d11_102 (q := 105) rfl fun T12 X12 e12 => ?_
  refine o_iloadN X12 hx hby d11_105 rfl (q := 106) rfl ?_
  refine o_aloadN X12 hx hby d11_106 rfl rfl (q := 107) rfl ?_
  have qz15 := (Ffx.other W11 (Or.inl D_o0ha))
  refine o_getF X12 hx hZ hown hby (w_ hw 68 rfl) Via.refl e12 qz15 d11_107 (q := 110) rfl fun T14 X14 e14 => ?_
  refine o_aloadN X14 hx hby d11_110 rfl rfl (q := 111) rfl ?_
  have qz17 := (Fnx.other W11 (Or.inl D_o0ha))
  refine o_getF X14 hx hZ hown hby (w_ hw 70 rfl) Via.refl e14 qz17 d11_111 (q := 114) rfl fun T16 X16 e16 => ?_
  have qz19 := (Vfx.other W11 D_faha)
  have qz20 := (Vnx.other W11 D_naha)
  have qz21 := (Nat.le_trans Z0 (Keep.of_wr W11).1)
  obtain ⟨_, _, ⟨T18, L18, k18, n18⟩, -, X18, ⟨Lc18, hQ18, l18, y18, z18⟩, st18⟩ := Jvm.LawKit.callS X16 hx (y := mn_17) hown (mvT hZ (w_ hw 157 rfl)) (mvT hZ (w_ hw 158 rfl)) (mvT hZ (w_ hw 63 rfl)) (mvT hZ (w_ hw 159 rfl)) (by decide) (backOf (W := 0) (rm24n16 l Z a0 hw [] (12 : Int32) fa na kf kn (16 : Int32) ((12 : Int32) - (1 : Int32)) (List.replicate 15 (.int (-1))) vs h11 n0 qz21 qz19 qz20 G_fa G_na D_fana ⟨by decide, by decide⟩ (by rw [hlen]; decide)) hZ (w_ hw 159 rfl) (w_ hw 63 rfl) (by decide) (by decide)) (g := (mkF m 114 #[rv o0, iv 0] [.ref na, .ref fa, .int 0, .int 12])) rfl (by rw [hml]; rfl) (argsL := [(.int 12), (.int 0), (.ref fa), (.ref na)]) (rest := []) (lenOf pd_12 rfl) rfl (by show 2 * 0 + _ ≤ _; exact Nat.le_of_eq rfl) (hb hby d11_114) (fun _ _ => ⟨rfl, e16, (by decide : 0 + 0 ≤ _), (by decide : 0 + 0 ≤ _)⟩)
  dsimp only [Pt.U, Pt.locs, Pt.cells, Pt.slots] at X18 l18 y18 z18 st18 hQ18
  subst l18 y18 z18
  obtain ⟨rfl, N18q, K18, Vf18, Vn18⟩ := hQ18
  have N18 := Fr.app (Fr.snoc X11 N8 G_ha) N18q
  refine own_of st18 ?_
  show own_Out p e below _ (T18.setTop (mkF m 117 #[rv o0, iv 0] []))
  refine o_aloadN X18 hx hby d11_117 rfl rfl (q := 118) rfl ?_
  refine o_dup X18 hx hby d11_118 rfl (q := 119) rfl ?_
  have qz23 := (qz13.keep K18 (ninS D_o0fa (ninS D_o0na nin0)))
  refine o_getF X18 hx hZ hown hby (w_ hw 95 rfl) Via.refl rfl qz23 d11_119 (q := 122) rfl fun T22 X22 e22 => ?_
  refine o_iconst X22 hx hby d11_122 (z := 1) rfl (q := 123) rfl ?_
  refine o_iadd X22 hx hby d11_123 (z := 13) rfl (q := 124) rfl ?_
  have qz25 := ((Ex.wr W11).keep K18)
  obtain ⟨T24, h24, X24, e24, W24, st24⟩ := putF X22 hx hZ hown (host := "") (Or.inl (w_ hw 95 rfl)) Via.refl e22 qz23 qz25 (Or.inl (w_ hw 96 rfl)) (w_ hw 62 rfl) (ty := .int) (by decide) rfl rfl (g := (mkF m 124 #[rv o0, iv 0] [.int 13, .ref o0])) rfl rfl (hb hby d11_124)
  have Fw24 := qz23.same W24
  refine own_of st24 ?_
  show own_Out p e below _ (T24.setTop (mkF m 127 #[rv o0, iv 0] []))
  refine o_aloadN X24 hx hby d11_127 rfl rfl (q := 128) rfl ?_
  have qz27 := (((Fgx.other W11 (Or.inl D_o0ha)).keep K18 (ninS D_o0fa (ninS D_o0na nin0))).other W24 (Or.inr (slot_ne (Or.inl (w_ hw 110 rfl)) (Or.inl (w_ hw 96 rfl)) (by decide) (t := (.array .int)) (t' := .int) (by decide) (by decide))))
  refine o_getF X24 hx hZ hown hby (w_ hw 109 rfl) Via.refl e24 qz27 d11_128 (q := 131) rfl fun T26 X26 e26 => ?_
  refine own_of (fun _ k => XS.ifnullYes X26.here hx rfl (pc0 := 131) (pc' := 141) rfl (hb hby d11_131) rfl (by decide) (by decide) k) ?_
  show own_Out p e below _ (T26.setTop (mkF m 141 #[rv o0, iv 0] []))
  refine o_aloadN X26 hx hby d11_141 rfl rfl (q := 142) rfl ?_
  refine o_getF X26 hx hZ hown hby (w_ hw 95 rfl) Via.refl e26 Fw24 d11_142 (q := 145) rfl fun T28 X28 e28 => ?_
  refine o_aloadN X28 hx hby d11_145 rfl rfl (q := 146) rfl ?_
  have qz30 := (((Flx.other W11 (Or.inl D_o0ha)).keep K18 (ninS D_o0fa (ninS D_o0na nin0))).other W24 (Or.inr (slot_ne (Or.inl (w_ hw 76 rfl)) (Or.inl (w_ hw 96 rfl)) (by decide) (t := .int) (t' := .int) (by decide) (by decide))))
  refine o_getF X28 hx hZ hown hby (w_ hw 75 rfl) Via.refl e28 qz30 d11_146 (q := 149) rfl fun T29 X29 e29 => ?_
  refine o_icN X29 hx hby d11_149 (tlt (by decide : (12 : Int32) < (13 : Int32))).2.2.2 (q := 152) rfl ?_
  refine o_aloadN X29 hx hby d11_152 rfl rfl (q := 153) rfl ?_
  have qz32 := (qz25.wr W24)
  have qz33 := (((Frx.other W11 (Or.inl D_o0ha)).keep K18 (ninS D_o0fa (ninS D_o0na nin0))).other W24 (Or.inr (slot_ne (Or.inr (w_ hw 78 rfl)) (Or.inl (w_ hw 96 rfl)) (by decide) (t := (.object "com/example/headway/headway/engine/RowBuffer")) (t' := .int) (by decide) (by decide))))
  have qz34 := (((Fkx.other W11 (Or.inl D_o0ha)).keep K18 (ninS D_o0fa (ninS D_o0na nin0))).other W24 (Or.inr (slot_ne (Or.inr (w_ hw 81 rfl)) (Or.inl (w_ hw 96 rfl)) (by decide) (t := (.array .int)) (t' := .int) (by decide) (by decide))))
  have qz35 := ((qz15.keep K18 (ninS D_o0fa (ninS D_o0na nin0))).other W24 (Or.inr (slot_ne (Or.inl (w_ hw 69 rfl)) (Or.inl (w_ hw 96 rfl)) (by decide) (t := (.array .int)) (t' := .int) (by decide) (by decide))))
  have qz36 := ((qz17.keep K18 (ninS D_o0fa (ninS D_o0na nin0))).other W24 (Or.inr (slot_ne (Or.inl (w_ hw 71 rfl)) (Or.inl (w_ hw 96 rfl)) (by decide) (t := (.array .int)) (t' := .int) (by decide) (by decide))))
  have qz37 := (((Fhx.other W11 (Or.inl D_o0ha)).keep K18 (ninS D_o0fa (ninS D_o0na nin0))).other W24 (Or.inr (slot_ne (Or.inl (w_ hw 73 rfl)) (Or.inl (w_ hw 96 rfl)) (by decide) (t := (.array .int)) (t' := .int) (by decide) (by decide))))
  have qz38 := (((Fmx.other W11 (Or.inl D_o0ha)).keep K18 (ninS D_o0fa (ninS D_o0na nin0))).other W24 (Or.inr (slot_ne (Or.inl (w_ hw 112 rfl)) (Or.inl (w_ hw 96 rfl)) (by decide) (t := (.array .int)) (t' := .int) (by decide) (by decide))))
  have qz39 := (((Fqx.other W11 (Or.inl D_o0ha)).keep K18 (ninS D_o0fa (ninS D_o0na nin0))).other W24 (Or.inr (slot_ne (Or.inl (w_ hw 176 rfl)) (Or.inl (w_ hw 96 rfl)) (by decide) (t := .int) (t' := .int) (by decide) (by decide))))
  have qz40 := (Vf18.other W24 (Ne.symm D_o0fa))
  have qz41 := (Vn18.other W24 (Ne.symm D_o0na))
  have qz42 := (Nat.le_trans (Nat.le_trans qz21 K18.1) (Keep.of_wr W24).1)
  obtain ⟨cq31, q31, q31'⟩ := Exa.cell qz32
  obtain ⟨_, _, ⟨T31, L31, k31, n31⟩, -, X31, ⟨Lc31, hQ31, l31, y31, z31⟩, st31⟩ := X29.privateBack hx (y := mn_25) hown (mvT hZ (w_ hw 171 rfl)) (mvT hZ (w_ hw 172 rfl)) (mvT hZ (own_selP (y := mn_25) (w_ hw 172 rfl) (w_ hw 173 rfl) (w_ hw 62 rfl) (by decide))) (Cond.privateMethod_at (mvP hZ (w_ hw 173 rfl) (args := #[]))) (mvT hZ (w_ hw 174 rfl)) (by decide) (backOf (W := 0) (rm27 l Z a0 hw [] o0 rb kc fa na ha (12 : Int32) (13 : Int32) rl kf kn (.int 12 :: (List.replicate 15 (.int (-1)))) (vs.set (12 : Int32).toNatClampNeg (.int ((12 : Int32) - (1 : Int32)))) h24 n0 qz42 qz32 qz33 qz34 qz35 qz36 qz37 qz30 Fw24 qz27 qz38 qz39 G_o0 qz40 qz41 (Ne.symm D_o0fa) (Ne.symm D_o0na)) hZ (w_ hw 174 rfl) (w_ hw 63 rfl) (by decide) (by decide)) (g := (mkF m 153 #[rv o0, iv 0] [.ref o0])) rfl (by rw [hml]; rfl) (Steps.refl _) (a := o0) (by rw [e29]; exact q31) q31' (argsL := []) (rest := []) (lenOf pd_0 rfl) rfl (by show 2 * 0 + _ ≤ _; exact Nat.le_of_eq rfl) (hb hby d11_153) (fun _ _ => ⟨rfl, e29, (by decide : 0 + 2 ≤ _), (by decide : 0 + 48 ≤ _)⟩)
  dsimp only [Pt.U, Pt.locs, Pt.cells, Pt.slots] at X31 l31 y31 z31 st31 hQ31
  subst l31 y31 z31
  obtain ⟨lf31, ln31, kl31, km31, rfl, N31q, K31, E31, F31_rows, F31_keyColumns, F31_firstInBucket, F31_nextInBucket, F31_hashes, F31_loadLimit, F31_indexed, F31_largerFirstInBucket, F31_largerNextInBucket, F31_relinked, Vf31, Vn31, hg_lf31, hs_lf31, hg_ln31, hs_ln31, hn31⟩ := hQ31
  have N31 := Fr.app (Fr.snoc X24 N18 G_o0) N31q
  have qz43 := (Nat.le_trans (Nat.le_trans (Nat.le_trans K0.1 (Keep.of_wr W11).1) K18.1) (Keep.of_wr W24).1)
  have sz_lf31 : hB.size ≤ lf31 := Nat.le_trans qz43 hs_lf31
  have sz_ln31 : hB.size ≤ ln31 := Nat.le_trans qz43 hs_ln31
  refine own_of (fun _ k => st31.trans k) ?_
  show own_Out p e below _ (T31.setTop (mkF m 156 #[rv o0, iv 0] []))
  refine o_goto X31 hx hby d11_156 (by decide) (q := 0) (by decide) ?_
  by_cases hs13 : sz = (13 : Int32)
  · subst hs13
    have qz44 := ((((K0.wr W11 (hwh)).trans K18 (allS (hwf) (allS (hwn) all0))).wr W24 (hwo)).trans K31 (allS (hwo) all0))
    have qz45 := (Nat.le_trans qz42 K31.1)
    have qz46 := ((((Vkx.other W11 D_kcha).keep K18 (ninS D_kcfa (ninS D_kcna nin0))).other W24 D_kco0).keep K31 (ninS D_kco0 nin0))
    have qz47 := (qz40.keep K31 (ninS (Ne.symm D_o0fa) nin0))
    have qz48 := (qz41.keep K31 (ninS (Ne.symm D_o0na) nin0))
    have qz49 := (((Vz11.keep K18 (ninS (Ne.symm D_faha) (ninS (Ne.symm D_naha) nin0))).other W24 (Ne.symm D_o0ha)).keep K31 (ninS (Ne.symm D_o0ha) nin0))
    have qz50 := ((((Erx.wr W11).keep K18).wr W24).keep K31)
    have qz51 := ((((Fsx.other W11 (Or.inl D_rbha)).keep K18 (ninS D_rbfa (ninS D_rbna nin0))).other W24 (Or.inl D_rbo0)).keep K31 (ninS D_rbo0 nin0))
    exact ex11_2_48 hx hZ hw hby hml hown hret hlk o0 rb (13 : Int32) (13 : Int32) n0 T31.heap _ X31 rfl qz45 N31 E31 F31_rows F31_indexed qz50 qz51 (by decide) (fun L NL => hQ _ L NL qz44 ⟨fa, na, kf, kn, (16 : Int32), 15, (vs.set (12 : Int32).toNatClampNeg (.int ((12 : Int32) - (1 : Int32)))), (.ref lf31), (.ref ln31), (12 : Int32), (0 : Int32), ⟨⟨E31, F31_rows, F31_keyColumns, F31_firstInBucket, F31_nextInBucket, F31_hashes, F31_loadLimit, F31_indexed, qz46, qz47, qz48, qz49⟩, qz50, qz51, F31_largerFirstInBucket, F31_largerNextInBucket, F31_relinked⟩, ⟨D_o0fa, D_o0na, D_o0ha, D_rbo0, D_rbfa, D_rbna, D_rbha, D_kco0, D_kcfa, D_kcna, D_kcha, D_fana, D_faha, D_naha, D_rbkc, G_o0, G_fa, G_na, G_ha⟩, (by rw [List.length_set]; exact hlen), (NX.put (m := (12 : Int32)) hN (by decide) (by decide) (by rw [hlen]; decide)), Or.inl ⟨rfl, rfl⟩⟩)
  · skip
    have qz52 := ((((K0.wr W11 (hwh)).trans K18 (allS (hwf) (allS (hwn) all0))).wr W24 (hwo)).trans K31 (allS (hwo) all0))
    have qz53 := (Nat.le_trans qz42 K31.1)
    have qz54 := ((((Vkx.other W11 D_kcha).keep K18 (ninS D_kcfa (ninS D_kcna nin0))).other W24 D_kco0).keep K31 (ninS D_kco0 nin0))
    have qz55 := (qz40.keep K31 (ninS (Ne.symm D_o0fa) nin0))
    have qz56 := (qz41.keep K31 (ninS (Ne.symm D_o0na) nin0))
    have qz57 := (((Vz11.keep K18 (ninS (Ne.symm D_faha) (ninS (Ne.symm D_naha) nin0))).other W24 (Ne.symm D_o0ha)).keep K31 (ninS (Ne.symm D_o0ha) nin0))
    have qz58 := ((((Erx.wr W11).keep K18).wr W24).keep K31)
    have qz59 := ((((Fsx.other W11 (Or.inl D_rbha)).keep K18 (ninS D_rbfa (ninS D_rbna nin0))).other W24 (Or.inl D_rbo0)).keep K31 (ninS D_rbo0 nin0))
    have ne_o0_lf31 : o0 ≠ lf31 := Nat.ne_of_lt (Nat.lt_of_lt_of_le (Nat.lt_of_lt_of_le (Nat.lt_of_lt_of_le (Nat.lt_of_lt_of_le Ex.lt (Keep.of_wr W11).1) K18.1) (Keep.of_wr W24).1) hs_lf31)
    have ne_rb_lf31 : rb ≠ lf31 := Nat.ne_of_lt (Nat.lt_of_lt_of_le (Nat.lt_of_lt_of_le (Nat.lt_of_lt_of_le (Nat.lt_of_lt_of_le Erx.lt (Keep.of_wr W11).1) K18.1) (Keep.of_wr W24).1) hs_lf31)
    have ne_kc_lf31 : kc ≠ lf31 := Nat.ne_of_lt (Nat.lt_of_lt_of_le (Nat.lt_of_lt_of_le (Nat.lt_of_lt_of_le (Nat.lt_of_lt_of_le Vkx.lt (Keep.of_wr W11).1) K18.1) (Keep.of_wr W24).1) hs_lf31)
    have ne_fa_lf31 : fa ≠ lf31 := Nat.ne_of_lt (Nat.lt_of_lt_of_le (Nat.lt_of_lt_of_le (Nat.lt_of_lt_of_le (Nat.lt_of_lt_of_le Vfx.lt (Keep.of_wr W11).1) K18.1) (Keep.of_wr W24).1) hs_lf31)
    have ne_na_lf31 : na ≠ lf31 := Nat.ne_of_lt (Nat.lt_of_lt_of_le (Nat.lt_of_lt_of_le (Nat.lt_of_lt_of_le (Nat.lt_of_lt_of_le Vnx.lt (Keep.of_wr W11).1) K18.1) (Keep.of_wr W24).1) hs_lf31)
    have ne_ha_lf31 : ha ≠ lf31 := Nat.ne_of_lt (Nat.lt_of_lt_of_le (Nat.lt_of_lt_of_le (Nat.lt_of_lt_of_le (Nat.lt_of_lt_of_le Vhx.lt (Keep.of_wr W11).1) K18.1) (Keep.of_wr W24).1) hs_lf31)
    have ne_o0_ln31 : o0 ≠ ln31 := Nat.ne_of_lt (Nat.lt_of_lt_of_le (Nat.lt_of_lt_of_le (Nat.lt_of_lt_of_le (Nat.lt_of_lt_of_le Ex.lt (Keep.of_wr W11).1) K18.1) (Keep.of_wr W24).1) hs_ln31)
    have ne_rb_ln31 : rb ≠ ln31 := Nat.ne_of_lt (Nat.lt_of_lt_of_le (Nat.lt_of_lt_of_le (Nat.lt_of_lt_of_le (Nat.lt_of_lt_of_le Erx.lt (Keep.of_wr W11).1) K18.1) (Keep.of_wr W24).1) hs_ln31)
    have ne_kc_ln31 : kc ≠ ln31 := Nat.ne_of_lt (Nat.lt_of_lt_of_le (Nat.lt_of_lt_of_le (Nat.lt_of_lt_of_le (Nat.lt_of_lt_of_le Vkx.lt (Keep.of_wr W11).1) K18.1) (Keep.of_wr W24).1) hs_ln31)
    have ne_fa_ln31 : fa ≠ ln31 := Nat.ne_of_lt (Nat.lt_of_lt_of_le (Nat.lt_of_lt_of_le (Nat.lt_of_lt_of_le (Nat.lt_of_lt_of_le Vfx.lt (Keep.of_wr W11).1) K18.1) (Keep.of_wr W24).1) hs_ln31)
    have ne_na_ln31 : na ≠ ln31 := Nat.ne_of_lt (Nat.lt_of_lt_of_le (Nat.lt_of_lt_of_le (Nat.lt_of_lt_of_le (Nat.lt_of_lt_of_le Vnx.lt (Keep.of_wr W11).1) K18.1) (Keep.of_wr W24).1) hs_ln31)
    have ne_ha_ln31 : ha ≠ ln31 := Nat.ne_of_lt (Nat.lt_of_lt_of_le (Nat.lt_of_lt_of_le (Nat.lt_of_lt_of_le (Nat.lt_of_lt_of_le Vhx.lt (Keep.of_wr W11).1) K18.1) (Keep.of_wr W24).1) hs_ln31)
    exact t13 hx hZ hw hby hml hown hret hlk o0 rb kc fa na ha lf31 ln31 kk kf kn kh kl31 km31 sz n0 hB ws T31.heap _ (vs.set (12 : Int32).toNatClampNeg (.int ((12 : Int32) - (1 : Int32)))) ⟨D_o0fa, D_o0na, D_o0ha, D_rbo0, D_rbfa, D_rbna, D_rbha, D_kco0, D_kcfa, D_kcna, D_kcha, D_fana, D_faha, D_naha, D_rbkc, G_o0, G_fa, G_na, G_ha⟩ hwo hwf hwn hwh ⟨hn31, ne_o0_lf31, ne_rb_lf31, ne_kc_lf31, ne_fa_lf31, ne_na_lf31, ne_ha_lf31, ne_o0_ln31, ne_rb_ln31, ne_kc_ln31, ne_fa_ln31, ne_na_ln31, ne_ha_ln31, hg_lf31, hg_ln31, sz_lf31, sz_ln31⟩ (own_nxt hS hs13 rfl) (Or.inr rfl) X31 rfl qz52 qz53 N31 ⟨⟨E31, F31_rows, F31_keyColumns, F31_firstInBucket, F31_nextInBucket, F31_hashes, F31_loadLimit, F31_indexed, qz54, qz55, qz56, qz57⟩, qz58, qz59, F31_largerFirstInBucket, F31_largerNextInBucket, F31_relinked⟩ Vf31 Vn31 (by rw [List.length_set]; exact hlen) (NX.put (m := (12 : Int32)) hN (by decide) (by decide) (by rw [hlen]; decide)) hQ
theorem pd_13 : parseMethodDescriptor "([II)[I" = some ⟨[(.array .int), .int], some (.array .int)⟩ := by decide +kernel
theorem d11_45 : decode prog_57_method_2_code 45 = .ok (.aload_n 0, 1) := by decide +kernel
theorem d11_46 : decode prog_57_method_2_code 46 = .ok (.aload_n 0, 1) := by decide +kernel
theorem d11_47 : decode prog_57_method_2_code 47 = .ok (.getfield 16, 3) := by decide +kernel
theorem d11_50 : decode prog_57_method_2_code 50 = .ok (.iconst 2, 1) := by decide +kernel
theorem d11_51 : decode prog_57_method_2_code 51 = .ok (.aload_n 0, 1) := by decide +kernel
theorem d11_52 : decode prog_57_method_2_code 52 = .ok (.getfield 53, 3) := by decide +kernel
theorem d11_55 : decode prog_57_method_2_code 55 = .ok (.imul, 1) := by decide +kernel
theorem d11_56 : decode prog_57_method_2_code 56 = .ok (.invokestatic 67, 3) := by decide +kernel
theorem d11_59 : decode prog_57_method_2_code 59 = .ok (.putfield 16, 3) := by decide +kernel
theorem d11_62 : decode prog_57_method_2_code 62 = .ok (.aload_n 0, 1) := by decide +kernel
theorem d11_63 : decode prog_57_method_2_code 63 = .ok (.aload_n 0, 1) := by decide +kernel
theorem d11_64 : decode prog_57_method_2_code 64 = .ok (.getfield 13, 3) := by decide +kernel
theorem d11_67 : decode prog_57_method_2_code 67 = .ok (.iconst 2, 1) := by decide +kernel
theorem d11_68 : decode prog_57_method_2_code 68 = .ok (.aload_n 0, 1) := by decide +kernel
theorem d11_69 : decode prog_57_method_2_code 69 = .ok (.getfield 53, 3) := by decide +kernel
theorem d11_72 : decode prog_57_method_2_code 72 = .ok (.imul, 1) := by decide +kernel
theorem d11_73 : decode prog_57_method_2_code 73 = .ok (.invokestatic 67, 3) := by decide +kernel
theorem d11_76 : decode prog_57_method_2_code 76 = .ok (.putfield 13, 3) := by decide +kernel
set_option maxRecDepth 65536 in
set_option maxHeartbeats 40000000 in
theorem c16_16 {p : Program} {l : Launch} {e : Env} {s : State} {m : MethodId} {args : Array Value} {below : List Frame} {meth : Method} {c : Code} {Z : State} {a0 : Array Value} {T0 : State} {locs : List Loc} {P : Outcome → State → Prop} (hx : p.tables.exec = Jvm.exec) (hZ : Z.Warmed39 s.vm) (hw : ∀ d ∈ tables_1, d.before a0 Z = true) (hby : c.code = prog_57_method_2_code) (hml : c.maxLocals = 2) (hown : s.vm.findClass "com/example/headway/headway/engine/HashIndex" = some m.cls) (o0 rb kc fa na ha : Addr) (kk kf kn kh : ClassId) (sz LL rl : Int32) (n0 : Nat) (hB : Heap) (ws : List Addr) (h0 : Heap) (lv : Slot) (vs : List Value) (D0 : NE o0 rb kc fa na ha n0) (hwo : o0 ∈ ws ∨ hB.size ≤ o0) (hwf : fa ∈ ws ∨ hB.size ≤ fa) (hS : (16 : Int32) < sz) (hLL : ¬ (LL < (17 : Int32))) (hlv : lv = .unset ∨ lv = .val (.int 0)) (X0 : Stand p l e (⟨4, 2, 64, 64⟩ : Room) s m args below meth c T0 locs 0 0) (e0 : T0.heap = h0) (K0 : Keep hB h0 ws) (Z0 : n0 ≤ h0.size) (N0 : Fr n0 locs) (S0 : SX Z h0 o0 rb kc fa na ha kk kf kn kh (16 : Int32) 16 16 LL sz 15 16 vs .null .null rl) (hlen : vs.length = 16) (hN : NX 16 vs)
    (hK : ∀ (na ha : Addr) (kn kh : ClassId) (vs : List Value) (T0 : State) (locs : List Loc) (h0 : Heap) (lv : Slot), NE o0 rb kc fa na ha n0 → hB.size ≤ na → hB.size ≤ ha → (lv = .unset ∨ lv = .val (.int 0)) → Stand p l e (⟨4, 2, 64, 64⟩ : Room) s m args below meth c T0 locs 2 64 → T0.heap = h0 → Keep hB h0 ws → n0 ≤ h0.size → Fr n0 locs → SX Z h0 o0 rb kc fa na ha kk kf kn kh (16 : Int32) 32 17 LL sz 15 32 vs .null .null rl → vs.length = 32 → NX 17 vs → own_Out p e below P (T0.setTop (mkF m 0 #[rv o0, lv] []))) :
    own_Out p e below P (T0.setTop (mkF m 0 #[rv o0, lv] [])) := by
  obtain ⟨⟨Ex, Frx, Fkx, Ffx, Fnx, Fhx, Flx, Fix, Vkx, Vfx, Vnx, Vhx⟩, Erx, Fsx, Fgx, Fmx, Fqx⟩ := S0
  obtain ⟨D_o0fa, D_o0na, D_o0ha, D_rbo0, D_rbfa, D_rbna, D_rbha, D_kco0, D_kcfa, D_kcna, D_kcha, D_fana, D_faha, D_naha, D_rbkc, G_o0, G_fa, G_na, G_ha⟩ := D0
  show own_Out p e below _ (T0.setTop (mkF m 0 #[rv o0, lv] []))
  refine o_aloadN X0 hx hby d11_0 rfl rfl (q := 1) rfl ?_
  refine o_getF X0 hx hZ hown hby (w_ hw 95 rfl) Via.refl e0 Fix d11_1 (q := 4) rfl fun T1 X1 e1 => ?_
  refine o_aloadN X1 hx hby d11_4 rfl rfl (q := 5) rfl ?_
  refine o_getF X1 hx hZ hown hby (w_ hw 77 rfl) Via.refl e1 Frx d11_5 (q := 8) rfl fun T2 X2 e2 => ?_
  obtain ⟨cq3, kq3, q3a, q3b, q3c⟩ := isOf hZ e2 Erx
  obtain ⟨_, _, ⟨T3, L3, k3, n3⟩, -, X3, ⟨Lc3, hQ3, l3, y3, z3⟩, st3⟩ := X2.virtualBack hx (y := mn_9) (z := mn_9) hown (mvT hZ (w_ hw 97 rfl)) (mvT hZ (w_ hw 98 rfl)) (notFace_of_selects (args := #[]) (mvT hZ (w_ hw 100 rfl))) (mvT hZ (w_ hw 100 rfl)) (mvT hZ (w_ hw 99 rfl)) (by decide) (backOf (W := 1) (rm12 l Z a0 hw [] rb sz h0 n0 Z0 Fsx) hZ (w_ hw 101 rfl) (w_ hw 3 rfl) (by decide) (by decide)) q3a q3c (g := (mkF m 8 #[rv o0, lv] [.ref rb, .int 16])) rfl (by rw [hml]; rfl) (Steps.refl _) (argsL := []) (rest := [(.int 16)]) (lenOf pd_1 rfl) rfl (by show 2 * 0 + _ ≤ _; exact Nat.le_of_eq rfl) (hb hby d11_8) (fun _ _ => ⟨rfl, e2, (by decide : 0 + 0 ≤ _), (by decide : 0 + 0 ≤ _)⟩)
  dsimp only [Pt.U, Pt.locs, Pt.cells, Pt.slots] at X3 l3 y3 z3 st3 hQ3
  subst l3 y3 z3
  obtain ⟨rfl, N3q, hh3⟩ := hQ3
  have N3 := Fr.app N0 N3q
  refine own_of (fun _ k => st3.trans k) ?_
  show own_Out p e below _ (T3.setTop (mkF m 11 #[rv o0, lv] [.int sz, .int 16]))
  refine o_icN X3 hx hby d11_11 (tlt hS).2.1 (q := 14) rfl ?_
  refine o_aloadN X3 hx hby d11_14 rfl rfl (q := 15) rfl ?_
  refine o_getF X3 hx hZ hown hby (w_ hw 95 rfl) Via.refl hh3 Fix d11_15 (q := 18) rfl fun T4 X4 e4 => ?_
  refine o_ldcI X4 hx hZ hown hby (w_ hw 113 rfl) d11_18 (q := 20) rfl ?_
  refine o_icY X4 hx hby d11_20 (feq (by decide : ¬ ((16 : Int32) = (805306368 : Int32)))).2 (by decide) (q := 33) (by decide) ?_
  refine o_aloadN X4 hx hby d11_33 rfl rfl (q := 34) rfl ?_
  refine o_getF X4 hx hZ hown hby (w_ hw 95 rfl) Via.refl e4 Fix d11_34 (q := 37) rfl fun T5 X5 e5 => ?_
  refine o_aloadN X5 hx hby d11_37 rfl rfl (q := 38) rfl ?_
  refine o_getF X5 hx hZ hown hby (w_ hw 72 rfl) Via.refl e5 Fhx d11_38 (q := 41) rfl fun T6 X6 e6 => ?_
  refine o_lenV X6 hx hby hZ e6 Vhx d11_41 (q := 42) rfl ?_
  refine o_icN X6 hx hby d11_42 (teq (by decide : (16 : Int32) = (16 : Int32))).2 (q := 45) rfl ?_
  refine o_aloadN X6 hx hby d11_45 rfl rfl (q := 46) rfl ?_
  refine o_aloadN X6 hx hby d11_46 rfl rfl (q := 47) rfl ?_
  refine o_getF X6 hx hZ hown hby (w_ hw 72 rfl) Via.refl e6 Fhx d11_47 (q := 50) rfl fun T7 X7 e7 => ?_
  refine o_iconst X7 hx hby d11_50 (z := 2) rfl (q := 51) rfl ?_
  refine o_aloadN X7 hx hby d11_51 rfl rfl (q := 52) rfl ?_
  refine o_getF X7 hx hZ hown hby (w_ hw 95 rfl) Via.refl e7 Fix d11_52 (q := 55) rfl fun T8 X8 e8 => ?_
  refine o_imul X8 hx hby d11_55 (z := 32) rfl (q := 56) rfl ?_
  obtain ⟨_, _, ⟨T9, L9, k9, n9⟩, -, X9, ⟨Lc9, hQ9, l9, y9, z9⟩, st9⟩ := Jvm.LawKit.callS X8 hx (y := mn_28) hown (mvT hZ (w_ hw 184 rfl)) (mvT hZ (w_ hw 185 rfl)) (mvT hZ (w_ hw 84 rfl)) (mvT hZ (w_ hw 186 rfl)) (by decide) (backOf (W := 1) (rm30 l Z a0 hw [] ha kh (zr 16) h0 n0 Z0 Vhx) hZ (w_ hw 186 rfl) (w_ hw 84 rfl) (by decide) (by decide)) (g := (mkF m 56 #[rv o0, lv] [.int 32, .ref ha, .ref o0])) rfl (by rw [hml]; rfl) (argsL := [(.ref ha), (.int 32)]) (rest := [(.ref o0)]) (lenOf pd_13 rfl) rfl (by show 2 * 0 + _ ≤ _; exact Nat.le_of_eq rfl) (hb hby d11_56) (fun _ _ => ⟨rfl, e8, (by decide : 0 + 1 ≤ _), (by decide : 0 + 32 ≤ _)⟩)
  dsimp only [Pt.U, Pt.locs, Pt.cells, Pt.slots] at X9 l9 y9 z9 st9 hQ9
  subst l9 y9 z9
  obtain ⟨b9, k9, rfl, N9q, K9, V9, hg9, hs9⟩ := hQ9
  have N9 := Fr.app N3 N9q
  have sz_b9 : hB.size ≤ b9 := Nat.le_trans K0.1 hs9
  refine own_of st9 ?_
  show own_Out p e below _ (T9.setTop (mkF m 59 #[rv o0, lv] [.ref b9, .ref o0]))
  have qz11 := (Fhx.keep K9 nin0)
  have qz12 := (Ex.keep K9)
  obtain ⟨T10, h10, X10, e10, W10, st10⟩ := putF X9 hx hZ hown (host := "") (Or.inl (w_ hw 72 rfl)) Via.refl rfl qz11 qz12 (Or.inl (w_ hw 73 rfl)) (w_ hw 62 rfl) (ty := (.array .int)) (by decide) rfl rfl (g := (mkF m 59 #[rv o0, lv] [.ref b9, .ref o0])) rfl rfl (hb hby d11_59)
  have qz13 := (Fhx.keep K9 nin0)
  have Fw10 := qz13.same W10
  refine own_of st10 ?_
  show own_Out p e below _ (T10.setTop (mkF m 62 #[rv o0, lv] []))
  refine o_aloadN X10 hx hby d11_62 rfl rfl (q := 63) rfl ?_
  refine o_aloadN X10 hx hby d11_63 rfl rfl (q := 64) rfl ?_
  have qz15 := ((Fnx.keep K9 nin0).other W10 (Or.inr (slot_ne (Or.inl (w_ hw 71 rfl)) (Or.inl (w_ hw 73 rfl)) (by decide) (t := (.array .int)) (t' := (.array .int)) (by decide) (by decide))))
  refine o_getF X10 hx hZ hown hby (w_ hw 70 rfl) Via.refl e10 qz15 d11_64 (q := 67) rfl fun T14 X14 e14 => ?_
  refine o_iconst X14 hx hby d11_67 (z := 2) rfl (q := 68) rfl ?_
  refine o_aloadN X14 hx hby d11_68 rfl rfl (q := 69) rfl ?_
  have qz17 := ((Fix.keep K9 nin0).other W10 (Or.inr (slot_ne (Or.inl (w_ hw 96 rfl)) (Or.inl (w_ hw 73 rfl)) (by decide) (t := .int) (t' := (.array .int)) (by decide) (by decide))))
  refine o_getF X14 hx hZ hown hby (w_ hw 95 rfl) Via.refl e14 qz17 d11_69 (q := 72) rfl fun T16 X16 e16 => ?_
  refine o_imul X16 hx hby d11_72 (z := 32) rfl (q := 73) rfl ?_
  have qz19 := ((Vnx.keep K9 nin0).other W10 (Ne.symm D_o0na))
  have qz20 := (Nat.le_trans (Nat.le_trans Z0 K9.1) (Keep.of_wr W10).1)
  obtain ⟨_, _, ⟨T18, L18, k18, n18⟩, -, X18, ⟨Lc18, hQ18, l18, y18, z18⟩, st18⟩ := Jvm.LawKit.callS X16 hx (y := mn_28) hown (mvT hZ (w_ hw 184 rfl)) (mvT hZ (w_ hw 185 rfl)) (mvT hZ (w_ hw 84 rfl)) (mvT hZ (w_ hw 186 rfl)) (by decide) (backOf (W := 1) (rm30 l Z a0 hw [] na kn vs h10 n0 qz20 qz19) hZ (w_ hw 186 rfl) (w_ hw 84 rfl) (by decide) (by decide)) (g := (mkF m 73 #[rv o0, lv] [.int 32, .ref na, .ref o0])) rfl (by rw [hml]; rfl) (argsL := [(.ref na), (.int 32)]) (rest := [(.ref o0)]) (lenOf pd_13 rfl) rfl (by show 2 * 0 + _ ≤ _; exact Nat.le_of_eq rfl) (hb hby d11_73) (fun _ _ => ⟨rfl, e16, (by decide : 1 + 1 ≤ _), (by decide : 32 + 32 ≤ _)⟩)
  dsimp only [Pt.U, Pt.locs, Pt.cells, Pt.slots] at X18 l18 y18 z18 st18 hQ18
  subst l18 y18 z18
  obtain ⟨b18, k18, rfl, N18q, K18, V18, hg18, hs18⟩ := hQ18
  have N18 := Fr.app (Fr.snoc X10 N9 G_o0) N18q
  have qz21 := (Nat.le_trans (Nat.le_trans K0.1 K9.1) (Keep.of_wr W10).1)
  have sz_b18 : hB.size ≤ b18 := Nat.le_trans qz21 hs18
  refine own_of st18 ?_
  show own_Out p e below _ (T18.setTop (mkF m 76 #[rv o0, lv] [.ref b18, .ref o0]))
  have qz23 := (qz15.keep K18 nin0)
  have qz24 := ((qz12.wr W10).keep K18)
  obtain ⟨T22, h22, X22, e22, W22, st22⟩ := putF X18 hx hZ hown (host := "") (Or.inl (w_ hw 70 rfl)) Via.refl rfl qz23 qz24 (Or.inl (w_ hw 71 rfl)) (w_ hw 62 rfl) (ty := (.array .int)) (by decide) rfl rfl (g := (mkF m 76 #[rv o0, lv] [.ref b18, .ref o0])) rfl rfl (hb hby d11_76)
  have qz25 := (qz15.keep K18 nin0)
  have Fw22 := qz25.same W22
  refine own_of st22 ?_
  show own_Out p e below _ (T22.setTop (mkF m 79 #[rv o0, lv] []))
  refine o_aloadN X22 hx hby d11_79 rfl rfl (q := 80) rfl ?_
  refine o_aloadN X22 hx hby d11_80 rfl rfl (q := 81) rfl ?_
  have qz27 := ((qz17.keep K18 nin0).other W22 (Or.inr (slot_ne (Or.inl (w_ hw 96 rfl)) (Or.inl (w_ hw 71 rfl)) (by decide) (t := .int) (t' := (.array .int)) (by decide) (by decide))))
  refine o_getF X22 hx hZ hown hby (w_ hw 95 rfl) Via.refl e22 qz27 d11_81 (q := 84) rfl fun T26 X26 e26 => ?_
  have qz29 := ((((Fkx.keep K9 nin0).other W10 (Or.inr (slot_ne (Or.inr (w_ hw 81 rfl)) (Or.inl (w_ hw 73 rfl)) (by decide) (t := (.array .int)) (t' := (.array .int)) (by decide) (by decide)))).keep K18 nin0).other W22 (Or.inr (slot_ne (Or.inr (w_ hw 81 rfl)) (Or.inl (w_ hw 71 rfl)) (by decide) (t := (.array .int)) (t' := (.array .int)) (by decide) (by decide))))
  have qz30 := ((((Vkx.keep K9 nin0).other W10 D_kco0).keep K18 nin0).other W22 D_kco0)
  have qz31 := (Nat.le_trans (Nat.le_trans qz20 K18.1) (Keep.of_wr W22).1)
  have qz32 := (qz24.wr W22)
  obtain ⟨cq28, q28, q28'⟩ := Exa.cell qz32
  obtain ⟨_, _, ⟨T28, L28, k28, n28⟩, -, X28, ⟨Lc28, hQ28, l28, y28, z28⟩, st28⟩ := X26.privateBack hx (y := mn_18) hown (mvT hZ (w_ hw 153 rfl)) (mvT hZ (w_ hw 154 rfl)) (mvT hZ (own_selP (y := mn_18) (w_ hw 154 rfl) (w_ hw 155 rfl) (w_ hw 62 rfl) (by decide))) (Cond.privateMethod_at (mvP hZ (w_ hw 155 rfl) (args := #[]))) (mvT hZ (w_ hw 156 rfl)) (by decide) (backOf (W := 0) (rm23 l Z a0 hw [] o0 (16 : Int32) kc kk h22 n0 qz31 qz29 qz30) hZ (w_ hw 156 rfl) (w_ hw 63 rfl) (by decide) (by decide)) (g := (mkF m 84 #[rv o0, lv] [.int 16, .ref o0])) rfl (by rw [hml]; rfl) (Steps.refl _) (a := o0) (by rw [e26]; exact q28) q28' (argsL := [(.int 16)]) (rest := []) (lenOf pd_7 rfl) rfl (by show 2 * 0 + _ ≤ _; exact Nat.le_of_eq rfl) (hb hby d11_84) (fun _ _ => ⟨rfl, e26, (by decide : 2 + 0 ≤ _), (by decide : 64 + 0 ≤ _)⟩)
  dsimp only [Pt.U, Pt.locs, Pt.cells, Pt.slots] at X28 l28 y28 z28 st28 hQ28
  subst l28 y28 z28
  obtain ⟨rfl, N28q, hh28⟩ := hQ28
  have N28 := Fr.app (Fr.snoc X22 N18 G_o0) N28q
  refine own_of (fun _ k => st28.trans k) ?_
  show own_Out p e below _ (T28.setTop (mkF m 87 #[rv o0, lv] [.int 0]))
  refine o_ldcI X28 hx hZ hown hby (w_ hw 123 rfl) d11_87 (q := 89) rfl ?_
  refine o_imul X28 hx hby d11_89 (z := 0) rfl (q := 90) rfl ?_
  refine o_istoreN X28 hx hby d11_90 (l' := #[rv o0, iv 0]) (by rcases hlv with rfl | rfl <;> rfl) (q := 91) rfl ?_
  refine o_aloadN X28 hx hby d11_91 rfl rfl (q := 92) rfl ?_
  have qz34 := ((Fw10.keep K18 nin0).other W22 (Or.inr (slot_ne (Or.inl (w_ hw 73 rfl)) (Or.inl (w_ hw 71 rfl)) (by decide) (t := (.array .int)) (t' := (.array .int)) (by decide) (by decide))))
  refine o_getF X28 hx hZ hown hby (w_ hw 72 rfl) Via.refl hh28 qz34 d11_92 (q := 95) rfl fun T33 X33 e33 => ?_
  refine o_aloadN X33 hx hby d11_95 rfl rfl (q := 96) rfl ?_
  refine o_getF X33 hx hZ hown hby (w_ hw 95 rfl) Via.refl e33 qz27 d11_96 (q := 99) rfl fun T35 X35 e35 => ?_
  refine o_iloadN X35 hx hby d11_99 rfl (q := 100) rfl ?_
  have ne_o0_b9 : o0 ≠ b9 := Nat.ne_of_lt (Nat.lt_of_lt_of_le Ex.lt hs9)
  have qz36 := (((V9.other W10 (Ne.symm ne_o0_b9)).keep K18 nin0).other W22 (Ne.symm ne_o0_b9))
  refine o_stV X35 hx hby hZ e35 qz36 ⟨by decide, by decide⟩ 16 rfl (Nat.le_of_ble_eq_true rfl) d11_100 (q := 101) rfl fun T37 h37 X37 e37 W37 V37 => ?_
  have Vz37 : Arv Z h37 b9 k9 .int 32 (zr 32) (.int 0) := V37
  refine o_aloadN X37 hx hby d11_101 rfl rfl (q := 102) rfl ?_
  have qz39 := (qz27.other W37 (Or.inl ne_o0_b9))
  refine o_getF X37 hx hZ hown hby (w_ hw 95 rfl) Via.refl e37 qz39 d11_102 (q := 105) rfl fun T38 X38 e38 => ?_
  refine o_iloadN X38 hx hby d11_105 rfl (q := 106) rfl ?_
  refine o_aloadN X38 hx hby d11_106 rfl rfl (q := 107) rfl ?_
  have qz41 := (((((Ffx.keep K9 nin0).other W10 (Or.inr (slot_ne (Or.inl (w_ hw 69 rfl)) (Or.inl (w_ hw 73 rfl)) (by decide) (t := (.array .int)) (t' := (.array .int)) (by decide) (by decide)))).keep K18 nin0).other W22 (Or.inr (slot_ne (Or.inl (w_ hw 69 rfl)) (Or.inl (w_ hw 71 rfl)) (by decide) (t := (.array .int)) (t' := (.array .int)) (by decide) (by decide)))).other W37 (Or.inl ne_o0_b9))
  refine o_getF X38 hx hZ hown hby (w_ hw 68 rfl) Via.refl e38 qz41 d11_107 (q := 110) rfl fun T40 X40 e40 => ?_
  refine o_aloadN X40 hx hby d11_110 rfl rfl (q := 111) rfl ?_
  have qz43 := (Fw22.other W37 (Or.inl ne_o0_b9))
  refine o_getF X40 hx hZ hown hby (w_ hw 70 rfl) Via.refl e40 qz43 d11_111 (q := 114) rfl fun T42 X42 e42 => ?_
  have ne_fa_b18 : fa ≠ b18 := Nat.ne_of_lt (Nat.lt_of_lt_of_le (Nat.lt_of_lt_of_le (Nat.lt_of_lt_of_le Vfx.lt K9.1) (Keep.of_wr W10).1) hs18)
  have ne_fa_b9 : fa ≠ b9 := Nat.ne_of_lt (Nat.lt_of_lt_of_le Vfx.lt hs9)
  have qz45 := (((((Vfx.keep K9 nin0).other W10 (Ne.symm D_o0fa)).keep K18 nin0).other W22 (Ne.symm D_o0fa)).other W37 ne_fa_b9)
  have ne_o0_b18 : o0 ≠ b18 := Nat.ne_of_lt (Nat.lt_of_lt_of_le (Nat.lt_of_lt_of_le (Nat.lt_of_lt_of_le Ex.lt K9.1) (Keep.of_wr W10).1) hs18)
  have ne_b9_b18 : b9 ≠ b18 := Nat.ne_of_lt (Nat.lt_of_lt_of_le (Nat.lt_of_lt_of_le V9.lt (Keep.of_wr W10).1) hs18)
  have qz46 := ((V18.other W22 (Ne.symm ne_o0_b18)).other W37 (Ne.symm ne_b9_b18))
  have qz47 := (Nat.le_trans qz31 (Keep.of_wr W37).1)
  obtain ⟨_, _, ⟨T44, L44, k44, n44⟩, -, X44, ⟨Lc44, hQ44, l44, y44, z44⟩, st44⟩ := Jvm.LawKit.callS X42 hx (y := mn_17) hown (mvT hZ (w_ hw 157 rfl)) (mvT hZ (w_ hw 158 rfl)) (mvT hZ (w_ hw 63 rfl)) (mvT hZ (w_ hw 159 rfl)) (by decide) (backOf (W := 0) (rm24n16 l Z a0 hw [] (16 : Int32) fa b18 kf k18 (32 : Int32) ((16 : Int32) - (1 : Int32)) (List.replicate 15 (.int (-1))) (cp16 vs) h37 n0 qz47 qz45 qz46 G_fa hg18 ne_fa_b18 ⟨by decide, by decide⟩ (by rw [own_cplen]; decide)) hZ (w_ hw 159 rfl) (w_ hw 63 rfl) (by decide) (by decide)) (g := (mkF m 114 #[rv o0, iv 0] [.ref b18, .ref fa, .int 0, .int 16])) rfl (by rw [hml]; rfl) (argsL := [(.int 16), (.int 0), (.ref fa), (.ref b18)]) (rest := []) (lenOf pd_12 rfl) rfl (by show 2 * 0 + _ ≤ _; exact Nat.le_of_eq rfl) (hb hby d11_114) (fun _ _ => ⟨rfl, e42, (by decide : 2 + 0 ≤ _), (by decide : 64 + 0 ≤ _)⟩)
  dsimp only [Pt.U, Pt.locs, Pt.cells, Pt.slots] at X44 l44 y44 z44 st44 hQ44
  subst l44 y44 z44
  obtain ⟨rfl, N44q, K44, Vf44, Vn44⟩ := hQ44
  have N44 := Fr.app (Fr.snoc X37 N28 hg9) N44q
  refine own_of st44 ?_
  show own_Out p e below _ (T44.setTop (mkF m 117 #[rv o0, iv 0] []))
  refine o_aloadN X44 hx hby d11_117 rfl rfl (q := 118) rfl ?_
  refine o_dup X44 hx hby d11_118 rfl (q := 119) rfl ?_
  have qz49 := (qz39.keep K44 (ninS D_o0fa (ninS ne_o0_b18 nin0)))
  refine o_getF X44 hx hZ hown hby (w_ hw 95 rfl) Via.refl rfl qz49 d11_119 (q := 122) rfl fun T48 X48 e48 => ?_
  refine o_iconst X48 hx hby d11_122 (z := 1) rfl (q := 123) rfl ?_
  refine o_iadd X48 hx hby d11_123 (z := 17) rfl (q := 124) rfl ?_
  have qz51 := ((qz32.wr W37).keep K44)
  obtain ⟨T50, h50, X50, e50, W50, st50⟩ := putF X48 hx hZ hown (host := "") (Or.inl (w_ hw 95 rfl)) Via.refl e48 qz49 qz51 (Or.inl (w_ hw 96 rfl)) (w_ hw 62 rfl) (ty := .int) (by decide) rfl rfl (g := (mkF m 124 #[rv o0, iv 0] [.int 17, .ref o0])) rfl rfl (hb hby d11_124)
  have Fw50 := qz49.same W50
  refine own_of st50 ?_
  show own_Out p e below _ (T50.setTop (mkF m 127 #[rv o0, iv 0] []))
  refine o_aloadN X50 hx hby d11_127 rfl rfl (q := 128) rfl ?_
  have qz53 := (((((((Fgx.keep K9 nin0).other W10 (Or.inr (slot_ne (Or.inl (w_ hw 110 rfl)) (Or.inl (w_ hw 73 rfl)) (by decide) (t := (.array .int)) (t' := (.array .int)) (by decide) (by decide)))).keep K18 nin0).other W22 (Or.inr (slot_ne (Or.inl (w_ hw 110 rfl)) (Or.inl (w_ hw 71 rfl)) (by decide) (t := (.array .int)) (t' := (.array .int)) (by decide) (by decide)))).other W37 (Or.inl ne_o0_b9)).keep K44 (ninS D_o0fa (ninS ne_o0_b18 nin0))).other W50 (Or.inr (slot_ne (Or.inl (w_ hw 110 rfl)) (Or.inl (w_ hw 96 rfl)) (by decide) (t := (.array .int)) (t' := .int) (by decide) (by decide))))
  refine o_getF X50 hx hZ hown hby (w_ hw 109 rfl) Via.refl e50 qz53 d11_128 (q := 131) rfl fun T52 X52 e52 => ?_
  refine own_of (fun _ k => XS.ifnullYes X52.here hx rfl (pc0 := 131) (pc' := 141) rfl (hb hby d11_131) rfl (by decide) (by decide) k) ?_
  show own_Out p e below _ (T52.setTop (mkF m 141 #[rv o0, iv 0] []))
  refine o_aloadN X52 hx hby d11_141 rfl rfl (q := 142) rfl ?_
  refine o_getF X52 hx hZ hown hby (w_ hw 95 rfl) Via.refl e52 Fw50 d11_142 (q := 145) rfl fun T54 X54 e54 => ?_
  refine o_aloadN X54 hx hby d11_145 rfl rfl (q := 146) rfl ?_
  have qz56 := (((((((Flx.keep K9 nin0).other W10 (Or.inr (slot_ne (Or.inl (w_ hw 76 rfl)) (Or.inl (w_ hw 73 rfl)) (by decide) (t := .int) (t' := (.array .int)) (by decide) (by decide)))).keep K18 nin0).other W22 (Or.inr (slot_ne (Or.inl (w_ hw 76 rfl)) (Or.inl (w_ hw 71 rfl)) (by decide) (t := .int) (t' := (.array .int)) (by decide) (by decide)))).other W37 (Or.inl ne_o0_b9)).keep K44 (ninS D_o0fa (ninS ne_o0_b18 nin0))).other W50 (Or.inr (slot_ne (Or.inl (w_ hw 76 rfl)) (Or.inl (w_ hw 96 rfl)) (by decide) (t := .int) (t' := .int) (by decide) (by decide))))
  refine o_getF X54 hx hZ hown hby (w_ hw 75 rfl) Via.refl e54 qz56 d11_146 (q := 149) rfl fun T55 X55 e55 => ?_
  refine o_icY X55 hx hby d11_149 (flt hLL).2.2.2 (by decide) (q := 156) (by decide) ?_
  refine o_goto X55 hx hby d11_156 (by decide) (q := 0) (by decide) ?_
  have qz57 := (((((((K0.trans K9 all0).wr W10 (hwo)).trans K18 all0).wr W22 (hwo)).wr W37 (Or.inr sz_b9)).trans K44 (allS (hwf) (allS (Or.inr sz_b18) all0))).wr W50 (hwo))
  have qz58 := (Nat.le_trans (Nat.le_trans qz47 K44.1) (Keep.of_wr W50).1)
  have ne_kc_b9 : kc ≠ b9 := Nat.ne_of_lt (Nat.lt_of_lt_of_le Vkx.lt hs9)
  have ne_kc_b18 : kc ≠ b18 := Nat.ne_of_lt (Nat.lt_of_lt_of_le (Nat.lt_of_lt_of_le (Nat.lt_of_lt_of_le Vkx.lt K9.1) (Keep.of_wr W10).1) hs18)
  have qz59 := (((qz30.other W37 ne_kc_b9).keep K44 (ninS D_kcfa (ninS ne_kc_b18 nin0))).other W50 D_kco0)
  have qz60 := (Vf44.other W50 (Ne.symm D_o0fa))
  have qz61 := (Vn44.other W50 (Ne.symm ne_o0_b18))
  have qz62 := ((Vz37.keep K44 (ninS (Ne.symm ne_fa_b9) (ninS ne_b9_b18 nin0))).other W50 (Ne.symm ne_o0_b9))
  have qz63 := (qz51.wr W50)
  have qz64 := (((((((Frx.keep K9 nin0).other W10 (Or.inr (slot_ne (Or.inr (w_ hw 78 rfl)) (Or.inl (w_ hw 73 rfl)) (by decide) (t := (.object "com/example/headway/headway/engine/RowBuffer")) (t' := (.array .int)) (by decide) (by decide)))).keep K18 nin0).other W22 (Or.inr (slot_ne (Or.inr (w_ hw 78 rfl)) (Or.inl (w_ hw 71 rfl)) (by decide) (t := (.object "com/example/headway/headway/engine/RowBuffer")) (t' := (.array .int)) (by decide) (by decide)))).other W37 (Or.inl ne_o0_b9)).keep K44 (ninS D_o0fa (ninS ne_o0_b18 nin0))).other W50 (Or.inr (slot_ne (Or.inr (w_ hw 78 rfl)) (Or.inl (w_ hw 96 rfl)) (by decide) (t := (.object "com/example/headway/headway/engine/RowBuffer")) (t' := .int) (by decide) (by decide))))
  have qz65 := (((qz29.other W37 (Or.inl ne_o0_b9)).keep K44 (ninS D_o0fa (ninS ne_o0_b18 nin0))).other W50 (Or.inr (slot_ne (Or.inr (w_ hw 81 rfl)) (Or.inl (w_ hw 96 rfl)) (by decide) (t := (.array .int)) (t' := .int) (by decide) (by decide))))
  have qz66 := ((qz41.keep K44 (ninS D_o0fa (ninS ne_o0_b18 nin0))).other W50 (Or.inr (slot_ne (Or.inl (w_ hw 69 rfl)) (Or.inl (w_ hw 96 rfl)) (by decide) (t := (.array .int)) (t' := .int) (by decide) (by decide))))
  have qz67 := ((qz43.keep K44 (ninS D_o0fa (ninS ne_o0_b18 nin0))).other W50 (Or.inr (slot_ne (Or.inl (w_ hw 71 rfl)) (Or.inl (w_ hw 96 rfl)) (by decide) (t := (.array .int)) (t' := .int) (by decide) (by decide))))
  have qz68 := (((qz34.other W37 (Or.inl ne_o0_b9)).keep K44 (ninS D_o0fa (ninS ne_o0_b18 nin0))).other W50 (Or.inr (slot_ne (Or.inl (w_ hw 73 rfl)) (Or.inl (w_ hw 96 rfl)) (by decide) (t := (.array .int)) (t' := .int) (by decide) (by decide))))
  have qz69 := (((((((Erx.keep K9).wr W10).keep K18).wr W22).wr W37).keep K44).wr W50)
  have ne_rb_b9 : rb ≠ b9 := Nat.ne_of_lt (Nat.lt_of_lt_of_le Erx.lt hs9)
  have ne_rb_b18 : rb ≠ b18 := Nat.ne_of_lt (Nat.lt_of_lt_of_le (Nat.lt_of_lt_of_le (Nat.lt_of_lt_of_le Erx.lt K9.1) (Keep.of_wr W10).1) hs18)
  have qz70 := (((((((Fsx.keep K9 nin0).other W10 (Or.inl D_rbo0)).keep K18 nin0).other W22 (Or.inl D_rbo0)).other W37 (Or.inl ne_rb_b9)).keep K44 (ninS D_rbfa (ninS ne_rb_b18 nin0))).other W50 (Or.inl D_rbo0))
  have qz71 := (((((((Fmx.keep K9 nin0).other W10 (Or.inr (slot_ne (Or.inl (w_ hw 112 rfl)) (Or.inl (w_ hw 73 rfl)) (by decide) (t := (.array .int)) (t' := (.array .int)) (by decide) (by decide)))).keep K18 nin0).other W22 (Or.inr (slot_ne (Or.inl (w_ hw 112 rfl)) (Or.inl (w_ hw 71 rfl)) (by decide) (t := (.array .int)) (t' := (.array .int)) (by decide) (by decide)))).other W37 (Or.inl ne_o0_b9)).keep K44 (ninS D_o0fa (ninS ne_o0_b18 nin0))).other W50 (Or.inr (slot_ne (Or.inl (w_ hw 112 rfl)) (Or.inl (w_ hw 96 rfl)) (by decide) (t := (.array .int)) (t' := .int) (by decide) (by decide))))
  have qz72 := (((((((Fqx.keep K9 nin0).other W10 (Or.inr (slot_ne (Or.inl (w_ hw 176 rfl)) (Or.inl (w_ hw 73 rfl)) (by decide) (t := .int) (t' := (.array .int)) (by decide) (by decide)))).keep K18 nin0).other W22 (Or.inr (slot_ne (Or.inl (w_ hw 176 rfl)) (Or.inl (w_ hw 71 rfl)) (by decide) (t := .int) (t' := (.array .int)) (by decide) (by decide)))).other W37 (Or.inl ne_o0_b9)).keep K44 (ninS D_o0fa (ninS ne_o0_b18 nin0))).other W50 (Or.inr (slot_ne (Or.inl (w_ hw 176 rfl)) (Or.inl (w_ hw 96 rfl)) (by decide) (t := .int) (t' := .int) (by decide) (by decide))))
  exact hK b18 b9 k18 k9 ((cp16 vs).set (16 : Int32).toNatClampNeg (.int ((16 : Int32) - 1))) _ _ h50 _ ⟨D_o0fa, ne_o0_b18, ne_o0_b9, D_rbo0, D_rbfa, ne_rb_b18, ne_rb_b9, D_kco0, D_kcfa, ne_kc_b18, ne_kc_b9, ne_fa_b18, ne_fa_b9, (Ne.symm ne_b9_b18), D_rbkc, G_o0, G_fa, hg18, hg9⟩ sz_b18 sz_b9 (Or.inr rfl) X55 e55 qz57 qz58 (Fr.snoc X50 N44 G_o0) ⟨⟨qz63, qz64, qz65, qz66, qz67, qz68, qz56, Fw50, qz59, qz60, qz61, qz62⟩, qz69, qz70, qz53, qz71, qz72⟩ (by rw [List.length_set]; exact own_cplen vs) (NX.put (m := 16) (own_nxcp hN) (by decide) (by decide) (by rw [own_cplen]; decide))
set_option maxRecDepth 65536 in
set_option maxHeartbeats 40000000 in
theorem c16_32 {p : Program} {l : Launch} {e : Env} {s : State} {m : MethodId} {args : Array Value} {below : List Frame} {meth : Method} {c : Code} {Z : State} {a0 : Array Value} {T0 : State} {locs : List Loc} {P : Outcome → State → Prop} (hx : p.tables.exec = Jvm.exec) (hZ : Z.Warmed39 s.vm) (hw : ∀ d ∈ tables_1, d.before a0 Z = true) (hby : c.code = prog_57_method_2_code) (hml : c.maxLocals = 2) (hown : s.vm.findClass "com/example/headway/headway/engine/HashIndex" = some m.cls) (o0 rb kc fa na ha : Addr) (kk kf kn kh : ClassId) (sz LL rl : Int32) (n0 : Nat) (hB : Heap) (ws : List Addr) (h0 : Heap) (lv : Slot) (vs : List Value) (D0 : NE o0 rb kc fa na ha n0) (hwo : o0 ∈ ws ∨ hB.size ≤ o0) (hwf : fa ∈ ws ∨ hB.size ≤ fa) (hS : (16 : Int32) < sz) (hLL : ¬ (LL < (17 : Int32))) (hlv : lv = .unset ∨ lv = .val (.int 0)) (X0 : Stand p l e (⟨4, 2, 64, 64⟩ : Room) s m args below meth c T0 locs 0 0) (e0 : T0.heap = h0) (K0 : Keep hB h0 ws) (Z0 : n0 ≤ h0.size) (N0 : Fr n0 locs) (S0 : SX Z h0 o0 rb kc fa na ha kk kf kn kh (32 : Int32) 16 16 LL sz 31 16 vs .null .null rl) (hlen : vs.length = 16) (hN : NX 16 vs)
    (hK : ∀ (na ha : Addr) (kn kh : ClassId) (vs : List Value) (T0 : State) (locs : List Loc) (h0 : Heap) (lv : Slot), NE o0 rb kc fa na ha n0 → hB.size ≤ na → hB.size ≤ ha → (lv = .unset ∨ lv = .val (.int 0)) → Stand p l e (⟨4, 2, 64, 64⟩ : Room) s m args below meth c T0 locs 2 64 → T0.heap = h0 → Keep hB h0 ws → n0 ≤ h0.size → Fr n0 locs → SX Z h0 o0 rb kc fa na ha kk kf kn kh (32 : Int32) 32 17 LL sz 31 32 vs .null .null rl → vs.length = 32 → NX 17 vs → own_Out p e below P (T0.setTop (mkF m 0 #[rv o0, lv] []))) :
    own_Out p e below P (T0.setTop (mkF m 0 #[rv o0, lv] [])) := by
  obtain ⟨⟨Ex, Frx, Fkx, Ffx, Fnx, Fhx, Flx, Fix, Vkx, Vfx, Vnx, Vhx⟩, Erx, Fsx, Fgx, Fmx, Fqx⟩ := S0
  obtain ⟨D_o0fa, D_o0na, D_o0ha, D_rbo0, D_rbfa, D_rbna, D_rbha, D_kco0, D_kcfa, D_kcna, D_kcha, D_fana, D_faha, D_naha, D_rbkc, G_o0, G_fa, G_na, G_ha⟩ := D0
  show own_Out p e below _ (T0.setTop (mkF m 0 #[rv o0, lv] []))
  refine o_aloadN X0 hx hby d11_0 rfl rfl (q := 1) rfl ?_
  refine o_getF X0 hx hZ hown hby (w_ hw 95 rfl) Via.refl e0 Fix d11_1 (q := 4) rfl fun T1 X1 e1 => ?_
  refine o_aloadN X1 hx hby d11_4 rfl rfl (q := 5) rfl ?_
  refine o_getF X1 hx hZ hown hby (w_ hw 77 rfl) Via.refl e1 Frx d11_5 (q := 8) rfl fun T2 X2 e2 => ?_
  obtain ⟨cq3, kq3, q3a, q3b, q3c⟩ := isOf hZ e2 Erx
  obtain ⟨_, _, ⟨T3, L3, k3, n3⟩, -, X3, ⟨Lc3, hQ3, l3, y3, z3⟩, st3⟩ := X2.virtualBack hx (y := mn_9) (z := mn_9) hown (mvT hZ (w_ hw 97 rfl)) (mvT hZ (w_ hw 98 rfl)) (notFace_of_selects (args := #[]) (mvT hZ (w_ hw 100 rfl))) (mvT hZ (w_ hw 100 rfl)) (mvT hZ (w_ hw 99 rfl)) (by decide) (backOf (W := 1) (rm12 l Z a0 hw [] rb sz h0 n0 Z0 Fsx) hZ (w_ hw 101 rfl) (w_ hw 3 rfl) (by decide) (by decide)) q3a q3c (g := (mkF m 8 #[rv o0, lv] [.ref rb, .int 16])) rfl (by rw [hml]; rfl) (Steps.refl _) (argsL := []) (rest := [(.int 16)]) (lenOf pd_1 rfl) rfl (by show 2 * 0 + _ ≤ _; exact Nat.le_of_eq rfl) (hb hby d11_8) (fun _ _ => ⟨rfl, e2, (by decide : 0 + 0 ≤ _), (by decide : 0 + 0 ≤ _)⟩)
  dsimp only [Pt.U, Pt.locs, Pt.cells, Pt.slots] at X3 l3 y3 z3 st3 hQ3
  subst l3 y3 z3
  obtain ⟨rfl, N3q, hh3⟩ := hQ3
  have N3 := Fr.app N0 N3q
  refine own_of (fun _ k => st3.trans k) ?_
  show own_Out p e below _ (T3.setTop (mkF m 11 #[rv o0, lv] [.int sz, .int 16]))
  refine o_icN X3 hx hby d11_11 (tlt hS).2.1 (q := 14) rfl ?_
  refine o_aloadN X3 hx hby d11_14 rfl rfl (q := 15) rfl ?_
  refine o_getF X3 hx hZ hown hby (w_ hw 95 rfl) Via.refl hh3 Fix d11_15 (q := 18) rfl fun T4 X4 e4 => ?_
  refine o_ldcI X4 hx hZ hown hby (w_ hw 113 rfl) d11_18 (q := 20) rfl ?_
  refine o_icY X4 hx hby d11_20 (feq (by decide : ¬ ((16 : Int32) = (805306368 : Int32)))).2 (by decide) (q := 33) (by decide) ?_
  refine o_aloadN X4 hx hby d11_33 rfl rfl (q := 34) rfl ?_
  refine o_getF X4 hx hZ hown hby (w_ hw 95 rfl) Via.refl e4 Fix d11_34 (q := 37) rfl fun T5 X5 e5 => ?_
  refine o_aloadN X5 hx hby d11_37 rfl rfl (q := 38) rfl ?_
  refine o_getF X5 hx hZ hown hby (w_ hw 72 rfl) Via.refl e5 Fhx d11_38 (q := 41) rfl fun T6 X6 e6 => ?_
  refine o_lenV X6 hx hby hZ e6 Vhx d11_41 (q := 42) rfl ?_
  refine o_icN X6 hx hby d11_42 (teq (by decide : (16 : Int32) = (16 : Int32))).2 (q := 45) rfl ?_
  refine o_aloadN X6 hx hby d11_45 rfl rfl (q := 46) rfl ?_
  refine o_aloadN X6 hx hby d11_46 rfl rfl (q := 47) rfl ?_
  refine o_getF X6 hx hZ hown hby (w_ hw 72 rfl) Via.refl e6 Fhx d11_47 (q := 50) rfl fun T7 X7 e7 => ?_
  refine o_iconst X7 hx hby d11_50 (z := 2) rfl (q := 51) rfl ?_
  refine o_aloadN X7 hx hby d11_51 rfl rfl (q := 52) rfl ?_
  refine o_getF X7 hx hZ hown hby (w_ hw 95 rfl) Via.refl e7 Fix d11_52 (q := 55) rfl fun T8 X8 e8 => ?_
  refine o_imul X8 hx hby d11_55 (z := 32) rfl (q := 56) rfl ?_
  obtain ⟨_, _, ⟨T9, L9, k9, n9⟩, -, X9, ⟨Lc9, hQ9, l9, y9, z9⟩, st9⟩ := Jvm.LawKit.callS X8 hx (y := mn_28) hown (mvT hZ (w_ hw 184 rfl)) (mvT hZ (w_ hw 185 rfl)) (mvT hZ (w_ hw 84 rfl)) (mvT hZ (w_ hw 186 rfl)) (by decide) (backOf (W := 1) (rm30 l Z a0 hw [] ha kh (zr 16) h0 n0 Z0 Vhx) hZ (w_ hw 186 rfl) (w_ hw 84 rfl) (by decide) (by decide)) (g := (mkF m 56 #[rv o0, lv] [.int 32, .ref ha, .ref o0])) rfl (by rw [hml]; rfl) (argsL := [(.ref ha), (.int 32)]) (rest := [(.ref o0)]) (lenOf pd_13 rfl) rfl (by show 2 * 0 + _ ≤ _; exact Nat.le_of_eq rfl) (hb hby d11_56) (fun _ _ => ⟨rfl, e8, (by decide : 0 + 1 ≤ _), (by decide : 0 + 32 ≤ _)⟩)
  dsimp only [Pt.U, Pt.locs, Pt.cells, Pt.slots] at X9 l9 y9 z9 st9 hQ9
  subst l9 y9 z9
  obtain ⟨b9, k9, rfl, N9q, K9, V9, hg9, hs9⟩ := hQ9
  have N9 := Fr.app N3 N9q
  have sz_b9 : hB.size ≤ b9 := Nat.le_trans K0.1 hs9
  refine own_of st9 ?_
  show own_Out p e below _ (T9.setTop (mkF m 59 #[rv o0, lv] [.ref b9, .ref o0]))
  have qz11 := (Fhx.keep K9 nin0)
  have qz12 := (Ex.keep K9)
  obtain ⟨T10, h10, X10, e10, W10, st10⟩ := putF X9 hx hZ hown (host := "") (Or.inl (w_ hw 72 rfl)) Via.refl rfl qz11 qz12 (Or.inl (w_ hw 73 rfl)) (w_ hw 62 rfl) (ty := (.array .int)) (by decide) rfl rfl (g := (mkF m 59 #[rv o0, lv] [.ref b9, .ref o0])) rfl rfl (hb hby d11_59)
  have qz13 := (Fhx.keep K9 nin0)
  have Fw10 := qz13.same W10
  refine own_of st10 ?_
  show own_Out p e below _ (T10.setTop (mkF m 62 #[rv o0, lv] []))
  refine o_aloadN X10 hx hby d11_62 rfl rfl (q := 63) rfl ?_
  refine o_aloadN X10 hx hby d11_63 rfl rfl (q := 64) rfl ?_
  have qz15 := ((Fnx.keep K9 nin0).other W10 (Or.inr (slot_ne (Or.inl (w_ hw 71 rfl)) (Or.inl (w_ hw 73 rfl)) (by decide) (t := (.array .int)) (t' := (.array .int)) (by decide) (by decide))))
  refine o_getF X10 hx hZ hown hby (w_ hw 70 rfl) Via.refl e10 qz15 d11_64 (q := 67) rfl fun T14 X14 e14 => ?_
  refine o_iconst X14 hx hby d11_67 (z := 2) rfl (q := 68) rfl ?_
  refine o_aloadN X14 hx hby d11_68 rfl rfl (q := 69) rfl ?_
  have qz17 := ((Fix.keep K9 nin0).other W10 (Or.inr (slot_ne (Or.inl (w_ hw 96 rfl)) (Or.inl (w_ hw 73 rfl)) (by decide) (t := .int) (t' := (.array .int)) (by decide) (by decide))))
  refine o_getF X14 hx hZ hown hby (w_ hw 95 rfl) Via.refl e14 qz17 d11_69 (q := 72) rfl fun T16 X16 e16 => ?_
  refine o_imul X16 hx hby d11_72 (z := 32) rfl (q := 73) rfl ?_
  have qz19 := ((Vnx.keep K9 nin0).other W10 (Ne.symm D_o0na))
  have qz20 := (Nat.le_trans (Nat.le_trans Z0 K9.1) (Keep.of_wr W10).1)
  obtain ⟨_, _, ⟨T18, L18, k18, n18⟩, -, X18, ⟨Lc18, hQ18, l18, y18, z18⟩, st18⟩ := Jvm.LawKit.callS X16 hx (y := mn_28) hown (mvT hZ (w_ hw 184 rfl)) (mvT hZ (w_ hw 185 rfl)) (mvT hZ (w_ hw 84 rfl)) (mvT hZ (w_ hw 186 rfl)) (by decide) (backOf (W := 1) (rm30 l Z a0 hw [] na kn vs h10 n0 qz20 qz19) hZ (w_ hw 186 rfl) (w_ hw 84 rfl) (by decide) (by decide)) (g := (mkF m 73 #[rv o0, lv] [.int 32, .ref na, .ref o0])) rfl (by rw [hml]; rfl) (argsL := [(.ref na), (.int 32)]) (rest := [(.ref o0)]) (lenOf pd_13 rfl) rfl (by show 2 * 0 + _ ≤ _; exact Nat.le_of_eq rfl) (hb hby d11_73) (fun _ _ => ⟨rfl, e16, (by decide : 1 + 1 ≤ _), (by decide : 32 + 32 ≤ _)⟩)
  dsimp only [Pt.U, Pt.locs, Pt.cells, Pt.slots] at X18 l18 y18 z18 st18 hQ18
  subst l18 y18 z18
  obtain ⟨b18, k18, rfl, N18q, K18, V18, hg18, hs18⟩ := hQ18
  have N18 := Fr.app (Fr.snoc X10 N9 G_o0) N18q
  have qz21 := (Nat.le_trans (Nat.le_trans K0.1 K9.1) (Keep.of_wr W10).1)
  have sz_b18 : hB.size ≤ b18 := Nat.le_trans qz21 hs18
  refine own_of st18 ?_
  show own_Out p e below _ (T18.setTop (mkF m 76 #[rv o0, lv] [.ref b18, .ref o0]))
  have qz23 := (qz15.keep K18 nin0)
  have qz24 := ((qz12.wr W10).keep K18)
  obtain ⟨T22, h22, X22, e22, W22, st22⟩ := putF X18 hx hZ hown (host := "") (Or.inl (w_ hw 70 rfl)) Via.refl rfl qz23 qz24 (Or.inl (w_ hw 71 rfl)) (w_ hw 62 rfl) (ty := (.array .int)) (by decide) rfl rfl (g := (mkF m 76 #[rv o0, lv] [.ref b18, .ref o0])) rfl rfl (hb hby d11_76)
  have qz25 := (qz15.keep K18 nin0)
  have Fw22 := qz25.same W22
  refine own_of st22 ?_
  show own_Out p e below _ (T22.setTop (mkF m 79 #[rv o0, lv] []))
  refine o_aloadN X22 hx hby d11_79 rfl rfl (q := 80) rfl ?_
  refine o_aloadN X22 hx hby d11_80 rfl rfl (q := 81) rfl ?_
  have qz27 := ((qz17.keep K18 nin0).other W22 (Or.inr (slot_ne (Or.inl (w_ hw 96 rfl)) (Or.inl (w_ hw 71 rfl)) (by decide) (t := .int) (t' := (.array .int)) (by decide) (by decide))))
  refine o_getF X22 hx hZ hown hby (w_ hw 95 rfl) Via.refl e22 qz27 d11_81 (q := 84) rfl fun T26 X26 e26 => ?_
  have qz29 := ((((Fkx.keep K9 nin0).other W10 (Or.inr (slot_ne (Or.inr (w_ hw 81 rfl)) (Or.inl (w_ hw 73 rfl)) (by decide) (t := (.array .int)) (t' := (.array .int)) (by decide) (by decide)))).keep K18 nin0).other W22 (Or.inr (slot_ne (Or.inr (w_ hw 81 rfl)) (Or.inl (w_ hw 71 rfl)) (by decide) (t := (.array .int)) (t' := (.array .int)) (by decide) (by decide))))
  have qz30 := ((((Vkx.keep K9 nin0).other W10 D_kco0).keep K18 nin0).other W22 D_kco0)
  have qz31 := (Nat.le_trans (Nat.le_trans qz20 K18.1) (Keep.of_wr W22).1)
  have qz32 := (qz24.wr W22)
  obtain ⟨cq28, q28, q28'⟩ := Exa.cell qz32
  obtain ⟨_, _, ⟨T28, L28, k28, n28⟩, -, X28, ⟨Lc28, hQ28, l28, y28, z28⟩, st28⟩ := X26.privateBack hx (y := mn_18) hown (mvT hZ (w_ hw 153 rfl)) (mvT hZ (w_ hw 154 rfl)) (mvT hZ (own_selP (y := mn_18) (w_ hw 154 rfl) (w_ hw 155 rfl) (w_ hw 62 rfl) (by decide))) (Cond.privateMethod_at (mvP hZ (w_ hw 155 rfl) (args := #[]))) (mvT hZ (w_ hw 156 rfl)) (by decide) (backOf (W := 0) (rm23 l Z a0 hw [] o0 (16 : Int32) kc kk h22 n0 qz31 qz29 qz30) hZ (w_ hw 156 rfl) (w_ hw 63 rfl) (by decide) (by decide)) (g := (mkF m 84 #[rv o0, lv] [.int 16, .ref o0])) rfl (by rw [hml]; rfl) (Steps.refl _) (a := o0) (by rw [e26]; exact q28) q28' (argsL := [(.int 16)]) (rest := []) (lenOf pd_7 rfl) rfl (by show 2 * 0 + _ ≤ _; exact Nat.le_of_eq rfl) (hb hby d11_84) (fun _ _ => ⟨rfl, e26, (by decide : 2 + 0 ≤ _), (by decide : 64 + 0 ≤ _)⟩)
  dsimp only [Pt.U, Pt.locs, Pt.cells, Pt.slots] at X28 l28 y28 z28 st28 hQ28
  subst l28 y28 z28
  obtain ⟨rfl, N28q, hh28⟩ := hQ28
  have N28 := Fr.app (Fr.snoc X22 N18 G_o0) N28q
  refine own_of (fun _ k => st28.trans k) ?_
  show own_Out p e below _ (T28.setTop (mkF m 87 #[rv o0, lv] [.int 0]))
  refine o_ldcI X28 hx hZ hown hby (w_ hw 123 rfl) d11_87 (q := 89) rfl ?_
  refine o_imul X28 hx hby d11_89 (z := 0) rfl (q := 90) rfl ?_
  refine o_istoreN X28 hx hby d11_90 (l' := #[rv o0, iv 0]) (by rcases hlv with rfl | rfl <;> rfl) (q := 91) rfl ?_
  refine o_aloadN X28 hx hby d11_91 rfl rfl (q := 92) rfl ?_
  have qz34 := ((Fw10.keep K18 nin0).other W22 (Or.inr (slot_ne (Or.inl (w_ hw 73 rfl)) (Or.inl (w_ hw 71 rfl)) (by decide) (t := (.array .int)) (t' := (.array .int)) (by decide) (by decide))))
  refine o_getF X28 hx hZ hown hby (w_ hw 72 rfl) Via.refl hh28 qz34 d11_92 (q := 95) rfl fun T33 X33 e33 => ?_
  refine o_aloadN X33 hx hby d11_95 rfl rfl (q := 96) rfl ?_
  refine o_getF X33 hx hZ hown hby (w_ hw 95 rfl) Via.refl e33 qz27 d11_96 (q := 99) rfl fun T35 X35 e35 => ?_
  refine o_iloadN X35 hx hby d11_99 rfl (q := 100) rfl ?_
  have ne_o0_b9 : o0 ≠ b9 := Nat.ne_of_lt (Nat.lt_of_lt_of_le Ex.lt hs9)
  have qz36 := (((V9.other W10 (Ne.symm ne_o0_b9)).keep K18 nin0).other W22 (Ne.symm ne_o0_b9))
  refine o_stV X35 hx hby hZ e35 qz36 ⟨by decide, by decide⟩ 16 rfl (Nat.le_of_ble_eq_true rfl) d11_100 (q := 101) rfl fun T37 h37 X37 e37 W37 V37 => ?_
  have Vz37 : Arv Z h37 b9 k9 .int 32 (zr 32) (.int 0) := V37
  refine o_aloadN X37 hx hby d11_101 rfl rfl (q := 102) rfl ?_
  have qz39 := (qz27.other W37 (Or.inl ne_o0_b9))
  refine o_getF X37 hx hZ hown hby (w_ hw 95 rfl) Via.refl e37 qz39 d11_102 (q := 105) rfl fun T38 X38 e38 => ?_
  refine o_iloadN X38 hx hby d11_105 rfl (q := 106) rfl ?_
  refine o_aloadN X38 hx hby d11_106 rfl rfl (q := 107) rfl ?_
  have qz41 := (((((Ffx.keep K9 nin0).other W10 (Or.inr (slot_ne (Or.inl (w_ hw 69 rfl)) (Or.inl (w_ hw 73 rfl)) (by decide) (t := (.array .int)) (t' := (.array .int)) (by decide) (by decide)))).keep K18 nin0).other W22 (Or.inr (slot_ne (Or.inl (w_ hw 69 rfl)) (Or.inl (w_ hw 71 rfl)) (by decide) (t := (.array .int)) (t' := (.array .int)) (by decide) (by decide)))).other W37 (Or.inl ne_o0_b9))
  refine o_getF X38 hx hZ hown hby (w_ hw 68 rfl) Via.refl e38 qz41 d11_107 (q := 110) rfl fun T40 X40 e40 => ?_
  refine o_aloadN X40 hx hby d11_110 rfl rfl (q := 111) rfl ?_
  have qz43 := (Fw22.other W37 (Or.inl ne_o0_b9))
  refine o_getF X40 hx hZ hown hby (w_ hw 70 rfl) Via.refl e40 qz43 d11_111 (q := 114) rfl fun T42 X42 e42 => ?_
  have ne_fa_b18 : fa ≠ b18 := Nat.ne_of_lt (Nat.lt_of_lt_of_le (Nat.lt_of_lt_of_le (Nat.lt_of_lt_of_le Vfx.lt K9.1) (Keep.of_wr W10).1) hs18)
  have ne_fa_b9 : fa ≠ b9 := Nat.ne_of_lt (Nat.lt_of_lt_of_le Vfx.lt hs9)
  have qz45 := (((((Vfx.keep K9 nin0).other W10 (Ne.symm D_o0fa)).keep K18 nin0).other W22 (Ne.symm D_o0fa)).other W37 ne_fa_b9)
  have ne_o0_b18 : o0 ≠ b18 := Nat.ne_of_lt (Nat.lt_of_lt_of_le (Nat.lt_of_lt_of_le (Nat.lt_of_lt_of_le Ex.lt K9.1) (Keep.of_wr W10).1) hs18)
  have ne_b9_b18 : b9 ≠ b18 := Nat.ne_of_lt (Nat.lt_of_lt_of_le (Nat.lt_of_lt_of_le V9.lt (Keep.of_wr W10).1) hs18)
  have qz46 := ((V18.other W22 (Ne.symm ne_o0_b18)).other W37 (Ne.symm ne_b9_b18))
  have qz47 := (Nat.le_trans qz31 (Keep.of_wr W37).1)
  obtain ⟨_, _, ⟨T44, L44, k44, n44⟩, -, X44, ⟨Lc44, hQ44, l44, y44, z44⟩, st44⟩ := Jvm.LawKit.callS X42 hx (y := mn_17) hown (mvT hZ (w_ hw 157 rfl)) (mvT hZ (w_ hw 158 rfl)) (mvT hZ (w_ hw 63 rfl)) (mvT hZ (w_ hw 159 rfl)) (by decide) (backOf (W := 0) (rm24n32 l Z a0 hw [] (16 : Int32) fa b18 kf k18 (32 : Int32) ((16 : Int32) - (1 : Int32)) (List.replicate 31 (.int (-1))) (cp16 vs) h37 n0 qz47 qz45 qz46 G_fa hg18 ne_fa_b18 ⟨by decide, by decide⟩ (by rw [own_cplen]; decide)) hZ (w_ hw 159 rfl) (w_ hw 63 rfl) (by decide) (by decide)) (g := (mkF m 114 #[rv o0, iv 0] [.ref b18, .ref fa, .int 0, .int 16])) rfl (by rw [hml]; rfl) (argsL := [(.int 16), (.int 0), (.ref fa), (.ref b18)]) (rest := []) (lenOf pd_12 rfl) rfl (by show 2 * 0 + _ ≤ _; exact Nat.le_of_eq rfl) (hb hby d11_114) (fun _ _ => ⟨rfl, e42, (by decide : 2 + 0 ≤ _), (by decide : 64 + 0 ≤ _)⟩)
  dsimp only [Pt.U, Pt.locs, Pt.cells, Pt.slots] at X44 l44 y44 z44 st44 hQ44
  subst l44 y44 z44
  obtain ⟨rfl, N44q, K44, Vf44, Vn44⟩ := hQ44
  have N44 := Fr.app (Fr.snoc X37 N28 hg9) N44q
  refine own_of st44 ?_
  show own_Out p e below _ (T44.setTop (mkF m 117 #[rv o0, iv 0] []))
  refine o_aloadN X44 hx hby d11_117 rfl rfl (q := 118) rfl ?_
  refine o_dup X44 hx hby d11_118 rfl (q := 119) rfl ?_
  have qz49 := (qz39.keep K44 (ninS D_o0fa (ninS ne_o0_b18 nin0)))
  refine o_getF X44 hx hZ hown hby (w_ hw 95 rfl) Via.refl rfl qz49 d11_119 (q := 122) rfl fun T48 X48 e48 => ?_
  refine o_iconst X48 hx hby d11_122 (z := 1) rfl (q := 123) rfl ?_
  refine o_iadd X48 hx hby d11_123 (z := 17) rfl (q := 124) rfl ?_
  have qz51 := ((qz32.wr W37).keep K44)
  obtain ⟨T50, h50, X50, e50, W50, st50⟩ := putF X48 hx hZ hown (host := "") (Or.inl (w_ hw 95 rfl)) Via.refl e48 qz49 qz51 (Or.inl (w_ hw 96 rfl)) (w_ hw 62 rfl) (ty := .int) (by decide) rfl rfl (g := (mkF m 124 #[rv o0, iv 0] [.int 17, .ref o0])) rfl rfl (hb hby d11_124)
  have Fw50 := qz49.same W50
  refine own_of st50 ?_
  show own_Out p e below _ (T50.setTop (mkF m 127 #[rv o0, iv 0] []))
  refine o_aloadN X50 hx hby d11_127 rfl rfl (q := 128) rfl ?_
  have qz53 := (((((((Fgx.keep K9 nin0).other W10 (Or.inr (slot_ne (Or.inl (w_ hw 110 rfl)) (Or.inl (w_ hw 73 rfl)) (by decide) (t := (.array .int)) (t' := (.array .int)) (by decide) (by decide)))).keep K18 nin0).other W22 (Or.inr (slot_ne (Or.inl (w_ hw 110 rfl)) (Or.inl (w_ hw 71 rfl)) (by decide) (t := (.array .int)) (t' := (.array .int)) (by decide) (by decide)))).other W37 (Or.inl ne_o0_b9)).keep K44 (ninS D_o0fa (ninS ne_o0_b18 nin0))).other W50 (Or.inr (slot_ne (Or.inl (w_ hw 110 rfl)) (Or.inl (w_ hw 96 rfl)) (by decide) (t := (.array .int)) (t' := .int) (by decide) (by decide))))
  refine o_getF X50 hx hZ hown hby (w_ hw 109 rfl) Via.refl e50 qz53 d11_128 (q := 131) rfl fun T52 X52 e52 => ?_
  refine own_of (fun _ k => XS.ifnullYes X52.here hx rfl (pc0 := 131) (pc' := 141) rfl (hb hby d11_131) rfl (by decide) (by decide) k) ?_
  show own_Out p e below _ (T52.setTop (mkF m 141 #[rv o0, iv 0] []))
  refine o_aloadN X52 hx hby d11_141 rfl rfl (q := 142) rfl ?_
  refine o_getF X52 hx hZ hown hby (w_ hw 95 rfl) Via.refl e52 Fw50 d11_142 (q := 145) rfl fun T54 X54 e54 => ?_
  refine o_aloadN X54 hx hby d11_145 rfl rfl (q := 146) rfl ?_
  have qz56 := (((((((Flx.keep K9 nin0).other W10 (Or.inr (slot_ne (Or.inl (w_ hw 76 rfl)) (Or.inl (w_ hw 73 rfl)) (by decide) (t := .int) (t' := (.array .int)) (by decide) (by decide)))).keep K18 nin0).other W22 (Or.inr (slot_ne (Or.inl (w_ hw 76 rfl)) (Or.inl (w_ hw 71 rfl)) (by decide) (t := .int) (t' := (.array .int)) (by decide) (by decide)))).other W37 (Or.inl ne_o0_b9)).keep K44 (ninS D_o0fa (ninS ne_o0_b18 nin0))).other W50 (Or.inr (slot_ne (Or.inl (w_ hw 76 rfl)) (Or.inl (w_ hw 96 rfl)) (by decide) (t := .int) (t' := .int) (by decide) (by decide))))
  refine o_getF X54 hx hZ hown hby (w_ hw 75 rfl) Via.refl e54 qz56 d11_146 (q := 149) rfl fun T55 X55 e55 => ?_
  refine o_icY X55 hx hby d11_149 (flt hLL).2.2.2 (by decide) (q := 156) (by decide) ?_
  refine o_goto X55 hx hby d11_156 (by decide) (q := 0) (by decide) ?_
  have qz57 := (((((((K0.trans K9 all0).wr W10 (hwo)).trans K18 all0).wr W22 (hwo)).wr W37 (Or.inr sz_b9)).trans K44 (allS (hwf) (allS (Or.inr sz_b18) all0))).wr W50 (hwo))
  have qz58 := (Nat.le_trans (Nat.le_trans qz47 K44.1) (Keep.of_wr W50).1)
  have ne_kc_b9 : kc ≠ b9 := Nat.ne_of_lt (Nat.lt_of_lt_of_le Vkx.lt hs9)
  have ne_kc_b18 : kc ≠ b18 := Nat.ne_of_lt (Nat.lt_of_lt_of_le (Nat.lt_of_lt_of_le (Nat.lt_of_lt_of_le Vkx.lt K9.1) (Keep.of_wr W10).1) hs18)
  have qz59 := (((qz30.other W37 ne_kc_b9).keep K44 (ninS D_kcfa (ninS ne_kc_b18 nin0))).other W50 D_kco0)
  have qz60 := (Vf44.other W50 (Ne.symm D_o0fa))
  have qz61 := (Vn44.other W50 (Ne.symm ne_o0_b18))
  have qz62 := ((Vz37.keep K44 (ninS (Ne.symm ne_fa_b9) (ninS ne_b9_b18 nin0))).other W50 (Ne.symm ne_o0_b9))
  have qz63 := (qz51.wr W50)
  have qz64 := (((((((Frx.keep K9 nin0).other W10 (Or.inr (slot_ne (Or.inr (w_ hw 78 rfl)) (Or.inl (w_ hw 73 rfl)) (by decide) (t := (.object "com/example/headway/headway/engine/RowBuffer")) (t' := (.array .int)) (by decide) (by decide)))).keep K18 nin0).other W22 (Or.inr (slot_ne (Or.inr (w_ hw 78 rfl)) (Or.inl (w_ hw 71 rfl)) (by decide) (t := (.object "com/example/headway/headway/engine/RowBuffer")) (t' := (.array .int)) (by decide) (by decide)))).other W37 (Or.inl ne_o0_b9)).keep K44 (ninS D_o0fa (ninS ne_o0_b18 nin0))).other W50 (Or.inr (slot_ne (Or.inr (w_ hw 78 rfl)) (Or.inl (w_ hw 96 rfl)) (by decide) (t := (.object "com/example/headway/headway/engine/RowBuffer")) (t' := .int) (by decide) (by decide))))
  have qz65 := (((qz29.other W37 (Or.inl ne_o0_b9)).keep K44 (ninS D_o0fa (ninS ne_o0_b18 nin0))).other W50 (Or.inr (slot_ne (Or.inr (w_ hw 81 rfl)) (Or.inl (w_ hw 96 rfl)) (by decide) (t := (.array .int)) (t' := .int) (by decide) (by decide))))
  have qz66 := ((qz41.keep K44 (ninS D_o0fa (ninS ne_o0_b18 nin0))).other W50 (Or.inr (slot_ne (Or.inl (w_ hw 69 rfl)) (Or.inl (w_ hw 96 rfl)) (by decide) (t := (.array .int)) (t' := .int) (by decide) (by decide))))
  have qz67 := ((qz43.keep K44 (ninS D_o0fa (ninS ne_o0_b18 nin0))).other W50 (Or.inr (slot_ne (Or.inl (w_ hw 71 rfl)) (Or.inl (w_ hw 96 rfl)) (by decide) (t := (.array .int)) (t' := .int) (by decide) (by decide))))
  have qz68 := (((qz34.other W37 (Or.inl ne_o0_b9)).keep K44 (ninS D_o0fa (ninS ne_o0_b18 nin0))).other W50 (Or.inr (slot_ne (Or.inl (w_ hw 73 rfl)) (Or.inl (w_ hw 96 rfl)) (by decide) (t := (.array .int)) (t' := .int) (by decide) (by decide))))
  have qz69 := (((((((Erx.keep K9).wr W10).keep K18).wr W22).wr W37).keep K44).wr W50)
  have ne_rb_b9 : rb ≠ b9 := Nat.ne_of_lt (Nat.lt_of_lt_of_le Erx.lt hs9)
  have ne_rb_b18 : rb ≠ b18 := Nat.ne_of_lt (Nat.lt_of_lt_of_le (Nat.lt_of_lt_of_le (Nat.lt_of_lt_of_le Erx.lt K9.1) (Keep.of_wr W10).1) hs18)
  have qz70 := (((((((Fsx.keep K9 nin0).other W10 (Or.inl D_rbo0)).keep K18 nin0).other W22 (Or.inl D_rbo0)).other W37 (Or.inl ne_rb_b9)).keep K44 (ninS D_rbfa (ninS ne_rb_b18 nin0))).other W50 (Or.inl D_rbo0))
  have qz71 := (((((((Fmx.keep K9 nin0).other W10 (Or.inr (slot_ne (Or.inl (w_ hw 112 rfl)) (Or.inl (w_ hw 73 rfl)) (by decide) (t := (.array .int)) (t' := (.array .int)) (by decide) (by decide)))).keep K18 nin0).other W22 (Or.inr (slot_ne (Or.inl (w_ hw 112 rfl)) (Or.inl (w_ hw 71 rfl)) (by decide) (t := (.array .int)) (t' := (.array .int)) (by decide) (by decide)))).other W37 (Or.inl ne_o0_b9)).keep K44 (ninS D_o0fa (ninS ne_o0_b18 nin0))).other W50 (Or.inr (slot_ne (Or.inl (w_ hw 112 rfl)) (Or.inl (w_ hw 96 rfl)) (by decide) (t := (.array .int)) (t' := .int) (by decide) (by decide))))
  have qz72 := (((((((Fqx.keep K9 nin0).other W10 (Or.inr (slot_ne (Or.inl (w_ hw 176 rfl)) (Or.inl (w_ hw 73 rfl)) (by decide) (t := .int) (t' := (.array .int)) (by decide) (by decide)))).keep K18 nin0).other W22 (Or.inr (slot_ne (Or.inl (w_ hw 176 rfl)) (Or.inl (w_ hw 71 rfl)) (by decide) (t := .int) (t' := (.array .int)) (by decide) (by decide)))).other W37 (Or.inl ne_o0_b9)).keep K44 (ninS D_o0fa (ninS ne_o0_b18 nin0))).other W50 (Or.inr (slot_ne (Or.inl (w_ hw 176 rfl)) (Or.inl (w_ hw 96 rfl)) (by decide) (t := .int) (t' := .int) (by decide) (by decide))))
  exact hK b18 b9 k18 k9 ((cp16 vs).set (16 : Int32).toNatClampNeg (.int ((16 : Int32) - 1))) _ _ h50 _ ⟨D_o0fa, ne_o0_b18, ne_o0_b9, D_rbo0, D_rbfa, ne_rb_b18, ne_rb_b9, D_kco0, D_kcfa, ne_kc_b18, ne_kc_b9, ne_fa_b18, ne_fa_b9, (Ne.symm ne_b9_b18), D_rbkc, G_o0, G_fa, hg18, hg9⟩ sz_b18 sz_b9 (Or.inr rfl) X55 e55 qz57 qz58 (Fr.snoc X50 N44 G_o0) ⟨⟨qz63, qz64, qz65, qz66, qz67, qz68, qz56, Fw50, qz59, qz60, qz61, qz62⟩, qz69, qz70, qz53, qz71, qz72⟩ (by rw [List.length_set]; exact own_cplen vs) (NX.put (m := 16) (own_nxcp hN) (by decide) (by decide) (by rw [own_cplen]; decide))
theorem own_nlt (a : Int32) : ¬ (a < a) := by rw [Int32.lt_iff_toInt_lt]; omega
theorem ef_11a (m : MethodId) (x0 : Addr) : entryFrame m #[(.ref x0)] 2 = mkF m 0 #[.val (.ref x0), .unset] [] := by first | (simp [entryFrame, mkF, argsToLocals, Value.category]; done) | rfl
def Q11a (Z : State) (o0 rb kc fa na ha : Addr) (kk kf kn kh : ClassId) (sz : Int32) (h0 : Heap) (n0 : Nat) (v : Option Value) (h : Heap) (L : List Loc) : Prop := v = none ∧ Fr n0 L ∧ Keep h0 h [o0, fa, na, ha] ∧ FIN Z h o0 rb kc ha kk kh sz n0
set_option maxRecDepth 65536 in
set_option maxHeartbeats 40000000 in
theorem rm11a (l : Launch) (Z : State) (a0 : Array Value) (hw : ∀ d ∈ tables_1, d.before a0 Z = true) (ws : List Jvm.Cond) (o0 rb kc fa na ha : Addr) (kk kf kn kh : ClassId) (sz : Int32) (h0 : Heap) (n0 : Nat) (Z0 : n0 ≤ h0.size) (S0 : SX Z h0 o0 rb kc fa na ha kk kf kn kh 16 16 0 12 sz 15 16 (zr 16) .null .null 0) (D0 : NE o0 rb kc fa na ha n0) (hsz : 0 ≤ sz.toInt ∧ sz.toInt ≤ 15) :
    MetFree l mn_29 (head1 (Jvm.Cond.code mn_29 prog_57_method_2_code 2 none :: ws) (⟨4, 2, 64, 64⟩ : Room)) (fun a U => a = #[(.ref o0)] ∧ Z.Warmed39 U.vm ∧ U.heap = h0) (fun _ _ _ _ _ => True) (fun _ U o U' => ∃ v L, o = .returned v ∧ Q11a Z o0 rb kc fa na ha kk kf kn kh sz h0 n0 v U'.heap L ∧ FrameEnd U o U' L (⟨4, 2, 64, 64⟩ : Room).cells (⟨4, 2, 64, 64⟩ : Room).slots) := by
  refine MetFree.of_bodySF (plainFor_of_name pn_5) hisR ?_
  intro p e s m args below meth c s₁ Bd hml0 hP hK
  obtain ⟨rfl, hZ, hh⟩ := hP
  have hx := Bd.exec
  have hby := Bd.bytes
  have hml : c.maxLocals = 2 := hml0
  have hown : s.vm.findClass "com/example/headway/headway/engine/HashIndex" = some m.cls := findClass_of_methodNamed Bd.named
  have hnm := (name_of_methodNamed Bd.named Bd.method).1
  have X0 : Stand p l e (⟨4, 2, 64, 64⟩ : Room) s m #[(.ref o0)] below meth c s₁ [] 0 0 := Stand.of_body Bd
  have e0 : s₁.heap = h0 := by rw [← hh, Bd.state]; rfl
  have N0 := Fr.nil n0
  have hret := Bd.returns
  have hlk := BodyLoose.notSynchronized Bd
  show own_Out p e below (fun o U' => ∃ v L, o = .returned v ∧ Q11a Z o0 rb kc fa na ha kk kf kn kh sz h0 n0 v U'.heap L ∧ FrameEnd s o U' L (⟨4, 2, 64, 64⟩ : Room).cells (⟨4, 2, 64, 64⟩ : Room).slots) (s₁.setTop (entryFrame m #[(.ref o0)] 2))
  refine own_of (fun t k => castTop (ef_11a m o0) k) ?_
  show own_Out p e below _ (s₁.setTop (mkF m 0 #[rv o0, .unset] []))
  by_cases h12 : sz.toInt ≤ 12
  · exact lp16_16 hx hZ hw hby hml hown o0 rb kc fa na ha kk kf kn kh sz sz 12 0 n0 h0 [o0, fa, na, ha] D0 (Or.inl (List.mem_of_getElem? (i := 0) rfl)) (Or.inl (List.mem_of_getElem? (i := 1) rfl)) (Or.inl (List.mem_of_getElem? (i := 2) rfl)) (Or.inl (List.mem_of_getElem? (i := 3) rfl)) (Int.le_refl _) h12 (by omega) (fun vs1 T1 locs1 h1 lv1 hlv1 X1 e1 K1 Z1 N1 S1 hlen1 hN1 => ex11_0_0 hx hZ hw hby hml hown hret hlk o0 rb sz sz n0 h1 lv1 X1 e1 Z1 N1 S1.1.1 S1.1.2.1 S1.1.2.2.2.2.2.2.2.1 S1.2.1 S1.2.2.1 (own_nlt _) (fun L NL => ⟨rfl, NL, K1, fa, na, kf, kn, 16, 15, vs1, .null, .null, 12, 0, S1, D0, hlen1, hN1, Or.inl ⟨rfl, rfl⟩⟩)) sz.toInt.toNat 0 (zr 16) s₁ [] h0 .unset (by have n00 : (0 : Int32).toInt = 0 := rfl; omega) (by decide) (Or.inl rfl) X0 e0 (Keep.refl h0 _) Z0 N0 S0 rfl (own_nx0 _)
  · have n12 : (12 : Int32).toInt = 12 := rfl
    exact lp16_16 hx hZ hw hby hml hown o0 rb kc fa na ha kk kf kn kh 12 sz 12 0 n0 h0 [o0, fa, na, ha] D0 (Or.inl (List.mem_of_getElem? (i := 0) rfl)) (Or.inl (List.mem_of_getElem? (i := 1) rfl)) (Or.inl (List.mem_of_getElem? (i := 2) rfl)) (Or.inl (List.mem_of_getElem? (i := 3) rfl)) (by omega) (Int.le_refl _) (by decide) (fun vs1 T1 locs1 h1 lv1 hlv1 X1 e1 K1 Z1 N1 S1 hlen1 hN1 => t12 hx hZ hw hby hml hown hret hlk o0 rb kc fa na ha kk kf kn kh sz 0 n0 h0 [o0, fa, na, ha] h1 lv1 vs1 D0 (Or.inl (List.mem_of_getElem? (i := 0) rfl)) (Or.inl (List.mem_of_getElem? (i := 1) rfl)) (Or.inl (List.mem_of_getElem? (i := 2) rfl)) (Or.inl (List.mem_of_getElem? (i := 3) rfl)) ⟨Int32.lt_iff_toInt_lt.mpr (by omega), hsz.2⟩ hlv1 X1 e1 K1 Z1 N1 S1 hlen1 hN1 (fun h L NL K FN => ⟨rfl, NL, K, FN⟩)) 12 0 (zr 16) s₁ [] h0 .unset (by decide) (by decide) (Or.inl rfl) X0 e0 (Keep.refl h0 _) Z0 N0 S0 rfl (own_nx0 _)
theorem ef_11b16 (m : MethodId) (x0 : Addr) : entryFrame m #[(.ref x0)] 2 = mkF m 0 #[.val (.ref x0), .unset] [] := by first | (simp [entryFrame, mkF, argsToLocals, Value.category]; done) | rfl
def Q11b16 (Z : State) (o0 rb kc fa na ha : Addr) (kk kf kn kh : ClassId) (sz mm rl : Int32) (vs : List Value) (h0 : Heap) (n0 : Nat) (v : Option Value) (h : Heap) (L : List Loc) : Prop := ∃ (na2 ha2 : Addr) (kn2 kh2 : ClassId) (L2 : Int32) (nl : Nat) (vs2 : List Value), v = none ∧ Fr n0 L ∧ Keep h0 h [o0, fa, na, ha] ∧ SX Z h o0 rb kc fa na2 ha2 kk kf kn2 kh2 (16 : Int32) L2 sz 805306368 sz 15 nl vs2 .null .null rl ∧ NX sz vs2 ∧ sz.toInt ≤ L2.toInt
set_option maxRecDepth 65536 in
set_option maxHeartbeats 40000000 in
theorem rm11b16 (l : Launch) (Z : State) (a0 : Array Value) (hw : ∀ d ∈ tables_1, d.before a0 Z = true) (ws : List Jvm.Cond) (o0 rb kc fa na ha : Addr) (kk kf kn kh : ClassId) (sz mm rl : Int32) (vs : List Value) (h0 : Heap) (n0 : Nat) (Z0 : n0 ≤ h0.size) (S0 : SX Z h0 o0 rb kc fa na ha kk kf kn kh (16 : Int32) 16 mm 805306368 sz 15 16 vs .null .null rl) (D0 : NE o0 rb kc fa na ha n0) (hm : 0 ≤ mm.toInt ∧ mm.toInt ≤ 15 ∧ mm.toInt ≤ sz.toInt ∧ sz.toInt ≤ 22) (hlen : vs.length = 16) (hN : NX mm vs) :
    MetFree l mn_29 (head1 (Jvm.Cond.code mn_29 prog_57_method_2_code 2 none :: ws) (⟨4, 2, 64, 64⟩ : Room)) (fun a U => a = #[(.ref o0)] ∧ Z.Warmed39 U.vm ∧ U.heap = h0) (fun _ _ _ _ _ => True) (fun _ U o U' => ∃ v L, o = .returned v ∧ Q11b16 Z o0 rb kc fa na ha kk kf kn kh sz mm rl vs h0 n0 v U'.heap L ∧ FrameEnd U o U' L (⟨4, 2, 64, 64⟩ : Room).cells (⟨4, 2, 64, 64⟩ : Room).slots) := by
  refine MetFree.of_bodySF (plainFor_of_name pn_5) hisR ?_
  intro p e s m args below meth c s₁ Bd hml0 hP hK
  obtain ⟨rfl, hZ, hh⟩ := hP
  have hx := Bd.exec
  have hby := Bd.bytes
  have hml : c.maxLocals = 2 := hml0
  have hown : s.vm.findClass "com/example/headway/headway/engine/HashIndex" = some m.cls := findClass_of_methodNamed Bd.named
  have hnm := (name_of_methodNamed Bd.named Bd.method).1
  have X0 : Stand p l e (⟨4, 2, 64, 64⟩ : Room) s m #[(.ref o0)] below meth c s₁ [] 0 0 := Stand.of_body Bd
  have e0 : s₁.heap = h0 := by rw [← hh, Bd.state]; rfl
  have N0 := Fr.nil n0
  have hret := Bd.returns
  have hlk := BodyLoose.notSynchronized Bd
  show own_Out p e below (fun o U' => ∃ v L, o = .returned v ∧ Q11b16 Z o0 rb kc fa na ha kk kf kn kh sz mm rl vs h0 n0 v U'.heap L ∧ FrameEnd s o U' L (⟨4, 2, 64, 64⟩ : Room).cells (⟨4, 2, 64, 64⟩ : Room).slots) (s₁.setTop (entryFrame m #[(.ref o0)] 2))
  refine own_of (fun t k => castTop (ef_11b16 m o0) k) ?_
  show own_Out p e below _ (s₁.setTop (mkF m 0 #[rv o0, .unset] []))
  have n16 : (16 : Int32).toInt = 16 := rfl
  have n32 : (32 : Int32).toInt = 32 := rfl
  have nM : (805306368 : Int32).toInt = 805306368 := rfl
  by_cases h16 : sz.toInt ≤ 16
  · exact lp16_16 hx hZ hw hby hml hown o0 rb kc fa na ha kk kf kn kh sz sz 805306368 rl n0 h0 [o0, fa, na, ha] D0 (Or.inl (List.mem_of_getElem? (i := 0) rfl)) (Or.inl (List.mem_of_getElem? (i := 1) rfl)) (Or.inl (List.mem_of_getElem? (i := 2) rfl)) (Or.inl (List.mem_of_getElem? (i := 3) rfl)) (Int.le_refl _) (by omega) h16 (fun vs1 T1 locs1 h1 lv1 hlv1 X1 e1 K1 Z1 N1 S1 hlen1 hN1 => ex11_0_0 hx hZ hw hby hml hown hret hlk o0 rb sz sz n0 h1 lv1 X1 e1 Z1 N1 S1.1.1 S1.1.2.1 S1.1.2.2.2.2.2.2.2.1 S1.2.1 S1.2.2.1 (own_nlt _) (fun L NL => ⟨na, ha, kn, kh, 16, 16, vs1, rfl, NL, K1, S1, hN1, (by omega)⟩)) (sz.toInt - mm.toInt).toNat mm vs s₁ [] h0 .unset (by omega) hm.1 (Or.inl rfl) X0 e0 (Keep.refl h0 _) Z0 N0 S0 hlen hN
  · exact lp16_16 hx hZ hw hby hml hown o0 rb kc fa na ha kk kf kn kh 16 sz 805306368 rl n0 h0 [o0, fa, na, ha] D0 (Or.inl (List.mem_of_getElem? (i := 0) rfl)) (Or.inl (List.mem_of_getElem? (i := 1) rfl)) (Or.inl (List.mem_of_getElem? (i := 2) rfl)) (Or.inl (List.mem_of_getElem? (i := 3) rfl)) (by omega) (by omega) (by omega) (fun vs1 T1 locs1 h1 lv1 hlv1 X1 e1 K1 Z1 N1 S1 hlen1 hN1 => c16_16 hx hZ hw hby hml hown o0 rb kc fa na ha kk kf kn kh sz 805306368 rl n0 h0 [o0, fa, na, ha] h1 lv1 vs1 D0 (Or.inl (List.mem_of_getElem? (i := 0) rfl)) (Or.inl (List.mem_of_getElem? (i := 1) rfl)) (Int32.lt_iff_toInt_lt.mpr (by omega)) (by decide) hlv1 X1 e1 K1 Z1 N1 S1 hlen1 hN1 (fun na2 ha2 kn2 kh2 vs2 T2 locs2 h2 lv2 D2 hn2 hh2 hlv2 X2 e2 K2 Z2 N2 S2 hlen2 hN2 => lp16_32 hx hZ hw hby hml hown o0 rb kc fa na2 ha2 kk kf kn2 kh2 sz sz 805306368 rl n0 h0 [o0, fa, na, ha] D2 (Or.inl (List.mem_of_getElem? (i := 0) rfl)) (Or.inl (List.mem_of_getElem? (i := 1) rfl)) (Or.inr hn2) (Or.inr hh2) (Int.le_refl _) (by omega) (by omega) (fun vs1 T1 locs1 h1 lv1 hlv1 X1 e1 K1 Z1 N1 S1 hlen1 hN1 => ex11_2_64 hx hZ hw hby hml hown hret hlk o0 rb sz sz n0 h1 lv1 X1 e1 Z1 N1 S1.1.1 S1.1.2.1 S1.1.2.2.2.2.2.2.2.1 S1.2.1 S1.2.2.1 (own_nlt _) (fun L NL => ⟨na2, ha2, kn2, kh2, 32, 32, vs1, rfl, NL, K1, S1, hN1, (by omega)⟩)) (sz.toInt - 17).toNat 17 vs2 T2 locs2 h2 lv2 (by have n17 : (17 : Int32).toInt = 17 := rfl; omega) (by decide) hlv2 X2 e2 K2 Z2 N2 S2 hlen2 hN2)) (16 - mm.toInt).toNat mm vs s₁ [] h0 .unset (by omega) hm.1 (Or.inl rfl) X0 e0 (Keep.refl h0 _) Z0 N0 S0 hlen hN
theorem ef_11b32 (m : MethodId) (x0 : Addr) : entryFrame m #[(.ref x0)] 2 = mkF m 0 #[.val (.ref x0), .unset] [] := by first | (simp [entryFrame, mkF, argsToLocals, Value.category]; done) | rfl
def Q11b32 (Z : State) (o0 rb kc fa na ha : Addr) (kk kf kn kh : ClassId) (sz mm rl : Int32) (vs : List Value) (h0 : Heap) (n0 : Nat) (v : Option Value) (h : Heap) (L : List Loc) : Prop := ∃ (na2 ha2 : Addr) (kn2 kh2 : ClassId) (L2 : Int32) (nl : Nat) (vs2 : List Value), v = none ∧ Fr n0 L ∧ Keep h0 h [o0, fa, na, ha] ∧ SX Z h o0 rb kc fa na2 ha2 kk kf kn2 kh2 (32 : Int32) L2 sz 805306368 sz 31 nl vs2 .null .null rl ∧ NX sz vs2 ∧ sz.toInt ≤ L2.toInt
set_option maxRecDepth 65536 in
set_option maxHeartbeats 40000000 in
theorem rm11b32 (l : Launch) (Z : State) (a0 : Array Value) (hw : ∀ d ∈ tables_1, d.before a0 Z = true) (ws : List Jvm.Cond) (o0 rb kc fa na ha : Addr) (kk kf kn kh : ClassId) (sz mm rl : Int32) (vs : List Value) (h0 : Heap) (n0 : Nat) (Z0 : n0 ≤ h0.size) (S0 : SX Z h0 o0 rb kc fa na ha kk kf kn kh (32 : Int32) 16 mm 805306368 sz 31 16 vs .null .null rl) (D0 : NE o0 rb kc fa na ha n0) (hm : 0 ≤ mm.toInt ∧ mm.toInt ≤ 15 ∧ mm.toInt ≤ sz.toInt ∧ sz.toInt ≤ 22) (hlen : vs.length = 16) (hN : NX mm vs) :
    MetFree l mn_29 (head1 (Jvm.Cond.code mn_29 prog_57_method_2_code 2 none :: ws) (⟨4, 2, 64, 64⟩ : Room)) (fun a U => a = #[(.ref o0)] ∧ Z.Warmed39 U.vm ∧ U.heap = h0) (fun _ _ _ _ _ => True) (fun _ U o U' => ∃ v L, o = .returned v ∧ Q11b32 Z o0 rb kc fa na ha kk kf kn kh sz mm rl vs h0 n0 v U'.heap L ∧ FrameEnd U o U' L (⟨4, 2, 64, 64⟩ : Room).cells (⟨4, 2, 64, 64⟩ : Room).slots) := by
  refine MetFree.of_bodySF (plainFor_of_name pn_5) hisR ?_
  intro p e s m args below meth c s₁ Bd hml0 hP hK
  obtain ⟨rfl, hZ, hh⟩ := hP
  have hx := Bd.exec
  have hby := Bd.bytes
  have hml : c.maxLocals = 2 := hml0
  have hown : s.vm.findClass "com/example/headway/headway/engine/HashIndex" = some m.cls := findClass_of_methodNamed Bd.named
  have hnm := (name_of_methodNamed Bd.named Bd.method).1
  have X0 : Stand p l e (⟨4, 2, 64, 64⟩ : Room) s m #[(.ref o0)] below meth c s₁ [] 0 0 := Stand.of_body Bd
  have e0 : s₁.heap = h0 := by rw [← hh, Bd.state]; rfl
  have N0 := Fr.nil n0
  have hret := Bd.returns
  have hlk := BodyLoose.notSynchronized Bd
  show own_Out p e below (fun o U' => ∃ v L, o = .returned v ∧ Q11b32 Z o0 rb kc fa na ha kk kf kn kh sz mm rl vs h0 n0 v U'.heap L ∧ FrameEnd s o U' L (⟨4, 2, 64, 64⟩ : Room).cells (⟨4, 2, 64, 64⟩ : Room).slots) (s₁.setTop (entryFrame m #[(.ref o0)] 2))
  refine own_of (fun t k => castTop (ef_11b32 m o0) k) ?_
  show own_Out p e below _ (s₁.setTop (mkF m 0 #[rv o0, .unset] []))
  have n16 : (16 : Int32).toInt = 16 := rfl
  have n32 : (32 : Int32).toInt = 32 := rfl
  have nM : (805306368 : Int32).toInt = 805306368 := rfl
  by_cases h16 : sz.toInt ≤ 16
  · exact lp32_16 hx hZ hw hby hml hown o0 rb kc fa na ha kk kf kn kh sz sz 805306368 rl n0 h0 [o0, fa, na, ha] D0 (Or.inl (List.mem_of_getElem? (i := 0) rfl)) (Or.inl (List.mem_of_getElem? (i := 1) rfl)) (Or.inl (List.mem_of_getElem? (i := 2) rfl)) (Or.inl (List.mem_of_getElem? (i := 3) rfl)) (Int.le_refl _) (by omega) h16 (fun vs1 T1 locs1 h1 lv1 hlv1 X1 e1 K1 Z1 N1 S1 hlen1 hN1 => ex11_0_0 hx hZ hw hby hml hown hret hlk o0 rb sz sz n0 h1 lv1 X1 e1 Z1 N1 S1.1.1 S1.1.2.1 S1.1.2.2.2.2.2.2.2.1 S1.2.1 S1.2.2.1 (own_nlt _) (fun L NL => ⟨na, ha, kn, kh, 16, 16, vs1, rfl, NL, K1, S1, hN1, (by omega)⟩)) (sz.toInt - mm.toInt).toNat mm vs s₁ [] h0 .unset (by omega) hm.1 (Or.inl rfl) X0 e0 (Keep.refl h0 _) Z0 N0 S0 hlen hN
  · exact lp32_16 hx hZ hw hby hml hown o0 rb kc fa na ha kk kf kn kh 16 sz 805306368 rl n0 h0 [o0, fa, na, ha] D0 (Or.inl (List.mem_of_getElem? (i := 0) rfl)) (Or.inl (List.mem_of_getElem? (i := 1) rfl)) (Or.inl (List.mem_of_getElem? (i := 2) rfl)) (Or.inl (List.mem_of_getElem? (i := 3) rfl)) (by omega) (by omega) (by omega) (fun vs1 T1 locs1 h1 lv1 hlv1 X1 e1 K1 Z1 N1 S1 hlen1 hN1 => c16_32 hx hZ hw hby hml hown o0 rb kc fa na ha kk kf kn kh sz 805306368 rl n0 h0 [o0, fa, na, ha] h1 lv1 vs1 D0 (Or.inl (List.mem_of_getElem? (i := 0) rfl)) (Or.inl (List.mem_of_getElem? (i := 1) rfl)) (Int32.lt_iff_toInt_lt.mpr (by omega)) (by decide) hlv1 X1 e1 K1 Z1 N1 S1 hlen1 hN1 (fun na2 ha2 kn2 kh2 vs2 T2 locs2 h2 lv2 D2 hn2 hh2 hlv2 X2 e2 K2 Z2 N2 S2 hlen2 hN2 => lp32_32 hx hZ hw hby hml hown o0 rb kc fa na2 ha2 kk kf kn2 kh2 sz sz 805306368 rl n0 h0 [o0, fa, na, ha] D2 (Or.inl (List.mem_of_getElem? (i := 0) rfl)) (Or.inl (List.mem_of_getElem? (i := 1) rfl)) (Or.inr hn2) (Or.inr hh2) (Int.le_refl _) (by omega) (by omega) (fun vs1 T1 locs1 h1 lv1 hlv1 X1 e1 K1 Z1 N1 S1 hlen1 hN1 => ex11_2_64 hx hZ hw hby hml hown hret hlk o0 rb sz sz n0 h1 lv1 X1 e1 Z1 N1 S1.1.1 S1.1.2.1 S1.1.2.2.2.2.2.2.2.1 S1.2.1 S1.2.2.1 (own_nlt _) (fun L NL => ⟨na2, ha2, kn2, kh2, 32, 32, vs1, rfl, NL, K1, S1, hN1, (by omega)⟩)) (sz.toInt - 17).toNat 17 vs2 T2 locs2 h2 lv2 (by have n17 : (17 : Int32).toInt = 17 := rfl; omega) (by decide) hlv2 X2 e2 K2 Z2 N2 S2 hlen2 hN2)) (16 - mm.toInt).toNat mm vs s₁ [] h0 .unset (by omega) hm.1 (Or.inl rfl) X0 e0 (Keep.refl h0 _) Z0 N0 S0 hlen hN
theorem own_m15 (x : Int32) : 0 ≤ (x &&& (15 : Int32)).toInt ∧ (x &&& (15 : Int32)).toInt ≤ 15 := by have h := c_mask x 15 4 (by decide) (by decide); omega
theorem own_m7 (x : Int32) : 0 ≤ (x &&& (7 : Int32)).toInt ∧ (x &&& (7 : Int32)).toInt ≤ 7 := by have h := c_mask x 7 3 (by decide) (by decide); omega
theorem own_g15 {n : Int32} (h : n.toInt ≤ 15) : ¬ ((15 : Int32) < n) := by rw [Int32.lt_iff_toInt_lt]; have e : (15 : Int32).toInt = 15 := rfl; omega
theorem own_g7 {n : Int32} (h : n.toInt ≤ 7) : ¬ ((7 : Int32) < n) := by rw [Int32.lt_iff_toInt_lt]; have e : (7 : Int32).toInt = 7 := rfl; omega
theorem own_ps {n : Int32} (h : 0 ≤ n.toInt) (g : ¬ (n = (0 : Int32))) : (0 : Int32) < n := by
  have e : (0 : Int32).toInt = 0 := rfl
  have g' : ¬ n.toInt = 0 := fun q => g (Int32.toInt_inj.mp q)
  rw [Int32.lt_iff_toInt_lt]; omega
theorem own_tt {n t : Int32} (h : 0 ≤ n.toInt ∧ n.toInt ≤ 15) (g : 0 ≤ t.toInt ∧ t.toInt ≤ 7) : 0 ≤ n.toInt ∧ n.toInt ≤ 15 ∧ n.toInt ≤ (n + t).toInt ∧ (n + t).toInt ≤ 22 := by
  have e := c_iadd n t; have r := rng32 (n + t); omega
theorem own_t0 {n t : Int32} (h : 0 ≤ n.toInt ∧ n.toInt ≤ 15) (g : 0 ≤ t.toInt ∧ t.toInt ≤ 7) : 0 ≤ (n + t).toInt := by have q := own_tt h g; omega
theorem own_16 {n : Int32} (h : 0 ≤ n.toInt ∧ n.toInt ≤ 15) : n.toInt ≤ (16 : Int32).toInt := by have e : (16 : Int32).toInt = 16 := rfl; omega
theorem own_nz {t : Int32} (h : (0 : Int32) < t) : t ≠ 0 := fun q => by rw [q] at h; revert h; decide
theorem own_kk {x t : Int32} (h : (0 : Int32) < t) : ¬ ((x &&& (2147483647 : Int32)) % t) < 0 ∧ ((x &&& (2147483647 : Int32)) % t) < t := by
  have m := c_mask x 2147483647 31 (by decide) (by decide)
  have e : (0 : Int32).toInt = 0 := rfl
  rw [Int32.lt_iff_toInt_lt, e] at h
  have r := (c_irem (x &&& (2147483647 : Int32)) t t.toInt rfl).1 (by omega)
  have a := Int.emod_nonneg (x &&& (2147483647 : Int32)).toInt (show t.toInt ≠ 0 by omega)
  have b := Int.emod_lt_of_pos (x &&& (2147483647 : Int32)).toInt h
  simp only [Int32.lt_iff_toInt_lt, r, e]; omega
theorem own_kj {x t L : Int32} (h : (0 : Int32) < t) (g : t.toInt ≤ L.toInt) : ¬ ((x &&& (2147483647 : Int32)) % t) < 0 ∧ ((x &&& (2147483647 : Int32)) % t) < L := by
  have q := own_kk (x := x) h
  refine ⟨q.1, ?_⟩
  have q2 := q.2
  rw [Int32.lt_iff_toInt_lt] at q2 ⊢; omega
theorem pd_14 : parseMethodDescriptor "(Lcom/example/headway/headway/engine/RowBuffer;I)V" = some ⟨[(.object "com/example/headway/headway/engine/RowBuffer"), .int], none⟩ := by decide +kernel
theorem pd_15 : parseMethodDescriptor "(ILcom/example/headway/headway/engine/Row;[I)I" = some ⟨[.int, (.object "com/example/headway/headway/engine/Row"), (.array .int)], some .int⟩ := by decide +kernel
set_option maxRecDepth 65536 in
set_option maxHeartbeats 40000000 in
theorem sg61_16z {p : Program} {l : Launch} {e : Env} {s : State} {m : MethodId} {args : Array Value} {below : List Frame} {meth : Method} {c : Code} {T0 : State} {locs : List Loc} {Z : State} {a0 : Array Value} {Q : Option Value → Heap → List Loc → Prop} (p0 p1 p2 nn nt : Int32) (ky rb ix kc fa na ha nb : Addr) (kk kf kn kh kb : ClassId) (LL rl : Int32) (v1 : Value) (v2 : Value) (vs : List Value) (h0 : Heap) (n0 : Nat)
    (X0 : Stand p l e room_1 s m args below meth c T0 locs 13 133) (hx : p.tables.exec = Jvm.exec) (hZ : Z.Warmed39 s.vm) (hw : ∀ d ∈ tables_1, d.before a0 Z = true) (hby : c.code = code) (hml : c.maxLocals = 13) (hown : s.vm.findClass "com/example/headway/headway/engine/HashIndexStopGrowingPinLaw" = some m.cls) (hret : meth.sig.returnType = ret) (hlk : meth.locks = false)
    (hQ : ∀ h L, Fr n0 L → Q (some (.int 1)) h L) (e0 : T0.heap = h0) (Z0 : n0 ≤ h0.size) (N0 : Fr n0 locs) (S0 : SX Z h0 ix rb kc fa na ha kk kf kn kh (16 : Int32) 16 nn LL nn 15 16 vs v1 v2 rl) (D0 : NE ix rb kc fa na ha n0) (hlen : vs.length = 16) (hN : NX nn vs) (hnn : 0 ≤ nn.toInt ∧ nn.toInt ≤ 15) (hnt : 0 ≤ nt.toInt ∧ nt.toInt ≤ 7) (Fnb : Fld Z h0 rb "com/example/headway/headway/engine/RowBuffer" "numbers" "[[J" (.ref nb)) (Fcp : Fld Z h0 rb "com/example/headway/headway/engine/RowBuffer" "capacity" "I" (.int 0)) (Vnb : Arv Z h0 nb kb (.array .long) (0 : Int32) [] .null) (g_rb : n0 ≤ rb) (nnb : nb ≠ rb) (nbx : nb ≠ ix) (Fdb : Fld Z h0 rb "com/example/headway/headway/engine/RowBuffer" "doubles" "Z" (.int 1)) (hz : nn = (0 : Int32)) :
    own_Out p e below (fun o U' => ∃ v L, o = .returned v ∧ Q v U'.heap L ∧ FrameEnd s o U' L 40 448) (T0.setTop (mkF m 61 #[.val (.int p0), .val (.int p1), .val (.int p2), .val (.int nn), .val (.int nt), .val (.ref ky), .val (.ref rb), .val (.ref ix), .unset, .unset, .unset, .unset, .unset] [])) := by
  obtain ⟨⟨Ex, Frx, Fkx, Ffx, Fnx, Fhx, Flx, Fix, Vkx, Vfx, Vnx, Vhx⟩, Erx, Fsx, Fgx, Fmx, Fqx⟩ := S0
  obtain ⟨D_o0fa, D_o0na, D_o0ha, D_rbo0, D_rbfa, D_rbna, D_rbha, D_kco0, D_kcfa, D_kcna, D_kcha, D_fana, D_faha, D_naha, D_rbkc, G_o0, G_fa, G_na, G_ha⟩ := D0
  show own_Out p e below _ (T0.setTop (mkF m 61 #[iv p0, iv p1, iv p2, iv nn, iv nt, rv ky, rv rb, rv ix, .unset, .unset, .unset, .unset, .unset] []))
  refine o_aload X0 hx hby at_61 rfl rfl (q := 63) rfl ?_
  obtain ⟨cq1, kq1, q1a, q1b, q1c⟩ := isOf hZ e0 Ex
  obtain ⟨_, _, ⟨T1, L1, k1, n1⟩, -, X1, ⟨Lc1, hQ1, l1, y1, z1⟩, st1⟩ := X0.virtualBack hx (y := mn_24) (z := mn_24) hown (mvT hZ (w_ hw 104 rfl)) (mvT hZ (w_ hw 105 rfl)) (notFace_of_selects (args := #[]) (mvT hZ (w_ hw 107 rfl))) (mvT hZ (w_ hw 107 rfl)) (mvT hZ (w_ hw 106 rfl)) (by decide) (backOf (W := 0) (rm13 l Z a0 hw [] ix rb kc fa na ha LL nn v1 v2 rl h0 n0 Z0 Ex Frx Fkx Ffx Fnx Fhx Flx Fix Fgx Fmx Fqx G_o0) hZ (w_ hw 108 rfl) (w_ hw 63 rfl) (by decide) (by decide)) q1a q1c (g := (mkF m 63 #[iv p0, iv p1, iv p2, iv nn, iv nt, rv ky, rv rb, rv ix, .unset, .unset, .unset, .unset, .unset] [.ref ix])) rfl (by rw [hml]; rfl) (Steps.refl _) (argsL := []) (rest := []) (lenOf pd_0 rfl) rfl (by show 2 * 0 + _ ≤ _; exact Nat.le_of_eq rfl) (hb hby at_63) (fun _ _ => ⟨rfl, e0, (by decide : 13 + 0 ≤ _), (by decide : 133 + 0 ≤ _)⟩)
  dsimp only [Pt.U, Pt.locs, Pt.cells, Pt.slots] at X1 l1 y1 z1 st1 hQ1
  subst l1 y1 z1
  obtain ⟨rfl, N1q, K1, E1, F1_rows, F1_keyColumns, F1_firstInBucket, F1_nextInBucket, F1_hashes, F1_loadLimit, F1_indexed, F1_largerFirstInBucket, F1_largerNextInBucket, F1_relinked⟩ := hQ1
  have N1 := Fr.app N0 N1q
  refine own_of (fun _ k => st1.trans k) ?_
  show own_Out p e below _ (T1.setTop (mkF m 66 #[iv p0, iv p1, iv p2, iv nn, iv nt, rv ky, rv rb, rv ix, .unset, .unset, .unset, .unset, .unset] []))
  refine o_aload X1 hx hby at_66 rfl rfl (q := 68) rfl ?_
  refine o_aconst_null X1 hx hby at_68 (q := 69) rfl ?_
  refine o_aload X1 hx hby at_69 rfl rfl (q := 71) rfl ?_
  have qz3 := (Vfx.keep K1 (ninS (Ne.symm D_o0fa) nin0))
  have qz4 := (Vhx.keep K1 (ninS (Ne.symm D_o0ha) nin0))
  have qz5 := (Vkx.keep K1 (ninS D_kco0 nin0))
  have qz6 := (Nat.le_trans Z0 K1.1)
  obtain ⟨cq2, kq2, q2a, q2b, q2c⟩ := isOf hZ rfl E1
  obtain ⟨_, _, ⟨T2, L2, k2, n2⟩, -, X2, ⟨Lc2, hQ2, l2, y2, z2⟩, st2⟩ := X1.virtualBack hx (y := mn_22) (z := mn_22) hown (mvT hZ (w_ hw 114 rfl)) (mvT hZ (w_ hw 115 rfl)) (notFace_of_selects (args := #[]) (mvT hZ (w_ hw 117 rfl))) (mvT hZ (w_ hw 117 rfl)) (mvT hZ (w_ hw 116 rfl)) (by decide) (backOf (W := 0) (rm14n16 l Z a0 hw [] ix ky fa kf (nn - (1 : Int32)) (List.replicate 15 (.int (-1))) ha kh (16 : Int32) 16 kc kk T1.heap n0 qz6 F1_firstInBucket qz3 E1 F1_hashes qz4 F1_keyColumns qz5 (own_hc hnn.1 (own_16 hnn))) hZ (w_ hw 118 rfl) (w_ hw 63 rfl) (by decide) (by decide)) q2a q2c (g := (mkF m 71 #[iv p0, iv p1, iv p2, iv nn, iv nt, rv ky, rv rb, rv ix, .unset, .unset, .unset, .unset, .unset] [.ref ky, .null, .ref ix])) rfl (by rw [hml]; rfl) (Steps.refl _) (argsL := [.null, (.ref ky)]) (rest := []) (lenOf pd_10 rfl) rfl (by show 2 * 0 + _ ≤ _; exact Nat.le_of_eq rfl) (hb hby at_71) (fun _ _ => ⟨rfl, rfl, (by decide : 13 + 0 ≤ _), (by decide : 133 + 0 ≤ _)⟩)
  dsimp only [Pt.U, Pt.locs, Pt.cells, Pt.slots] at X2 l2 y2 z2 st2 hQ2
  subst l2 y2 z2
  obtain ⟨rfl, N2q, hh2⟩ := hQ2
  have N2 := Fr.app N1 N2q
  refine own_of (fun _ k => st2.trans k) ?_
  show own_Out p e below _ (T2.setTop (mkF m 74 #[iv p0, iv p1, iv p2, iv nn, iv nt, rv ky, rv rb, rv ix, .unset, .unset, .unset, .unset, .unset] [.int (nn - (1 : Int32))]))
  refine o_iloadN X2 hx hby at_74 rfl (q := 75) rfl ?_
  refine o_iconst X2 hx hby at_75 (z := 1) rfl (q := 76) rfl ?_
  refine o_isub X2 hx hby at_76 rfl (q := 77) rfl ?_
  refine o_icN X2 hx hby at_77 (teq (rfl : (nn - (1 : Int32)) = (nn - (1 : Int32)))).2 (q := 80) rfl ?_
  refine o_iconst X2 hx hby at_80 (z := 1) rfl (q := 81) rfl ?_
  refine o_goto X2 hx hby at_81 (by decide) (q := 85) (by decide) ?_
  refine o_istore X2 hx hby at_85 (l' := #[iv p0, iv p1, iv p2, iv nn, iv nt, rv ky, rv rb, rv ix, iv 1, .unset, .unset, .unset, .unset]) rfl (q := 87) rfl ?_
  refine o_aload X2 hx hby at_87 rfl rfl (q := 89) rfl ?_
  refine o_iload X2 hx hby at_89 rfl (q := 91) rfl ?_
  have qz7 := (Fsx.keep K1 (ninS D_rbo0 nin0))
  have Fz8 : Fld Z T1.heap rb "com/example/headway/headway/engine/RowBuffer" "size" "I" (.int 0) := by have q := qz7; rw [hz] at q; exact q
  by_cases hc91_9 : nt = (0 : Int32)
  · skip
    obtain ⟨_, _, ⟨T10, L10, k10, n10⟩, -, X10, ⟨Lc10, hQ10, l10, y10, z10⟩, st10⟩ := Jvm.LawKit.callS X2 hx (y := mn_14) hown (mvT hZ (w_ hw 86 rfl)) (mvT hZ (w_ hw 87 rfl)) (mvT hZ (w_ hw 88 rfl)) (mvT hZ (w_ hw 89 rfl)) (by decide) (backOf (W := 0) (rm10n l Z a0 hw [] rb nt T1.heap n0 qz6 hc91_9) hZ (w_ hw 89 rfl) (w_ hw 88 rfl) (by decide) (by decide)) (g := (mkF m 91 #[iv p0, iv p1, iv p2, iv nn, iv nt, rv ky, rv rb, rv ix, iv 1, .unset, .unset, .unset, .unset] [.int nt, .ref rb])) rfl (by rw [hml]; rfl) (argsL := [(.ref rb), (.int nt)]) (rest := []) (lenOf pd_14 rfl) rfl (by show 2 * 0 + _ ≤ _; exact Nat.le_of_eq rfl) (hb hby at_91) (fun _ _ => ⟨rfl, hh2, (by decide : 13 + 0 ≤ _), (by decide : 133 + 0 ≤ _)⟩)
    dsimp only [Pt.U, Pt.locs, Pt.cells, Pt.slots] at X10 l10 y10 z10 st10 hQ10
    subst l10 y10 z10
    obtain ⟨rfl, N10q, hh10⟩ := hQ10
    have N10 := Fr.app N2 N10q
    refine own_of st10 ?_
    show own_Out p e below _ (T10.setTop (mkF m 94 #[iv p0, iv p1, iv p2, iv nn, iv nt, rv ky, rv rb, rv ix, iv 1, .unset, .unset, .unset, .unset] []))
    have Fy11 : Fld Z T1.heap rb "com/example/headway/headway/engine/RowBuffer" "size" "I" (.int (nn + nt)) := by rw [hz, hc91_9]; exact Fz8
    refine o_aload X10 hx hby at_94 rfl rfl (q := 96) rfl ?_
    have qz13 := (Vnx.keep K1 (ninS (Ne.symm D_o0na) nin0))
    have qz14 := (Erx.keep K1)
    obtain ⟨cq12, kq12, q12a, q12b, q12c⟩ := isOf hZ hh10 E1
    obtain ⟨_, _, ⟨T12, L12, k12, n12⟩, -, X12, ⟨Lc12, hQ12, l12, y12, z12⟩, st12⟩ := X10.virtualBack hx (y := mn_29) (z := mn_29) hown (mvT hZ (w_ hw 90 rfl)) (mvT hZ (w_ hw 91 rfl)) (notFace_of_selects (args := #[]) (mvT hZ (w_ hw 93 rfl))) (mvT hZ (w_ hw 93 rfl)) (mvT hZ (w_ hw 92 rfl)) (by decide) (backOf (W := 0) (rm11b16 l Z a0 hw [] ix rb kc fa na ha kk kf kn kh (nn + nt) nn rl vs T1.heap n0 qz6 ⟨⟨E1, F1_rows, F1_keyColumns, F1_firstInBucket, F1_nextInBucket, F1_hashes, F1_loadLimit, F1_indexed, qz5, qz3, qz13, qz4⟩, qz14, Fy11, F1_largerFirstInBucket, F1_largerNextInBucket, F1_relinked⟩ ⟨D_o0fa, D_o0na, D_o0ha, D_rbo0, D_rbfa, D_rbna, D_rbha, D_kco0, D_kcfa, D_kcna, D_kcha, D_fana, D_faha, D_naha, D_rbkc, G_o0, G_fa, G_na, G_ha⟩ (own_tt hnn hnt) hlen hN) hZ (w_ hw 94 rfl) (w_ hw 63 rfl) (by decide) (by decide)) q12a q12c (g := (mkF m 96 #[iv p0, iv p1, iv p2, iv nn, iv nt, rv ky, rv rb, rv ix, iv 1, .unset, .unset, .unset, .unset] [.ref ix])) rfl (by rw [hml]; rfl) (Steps.refl _) (argsL := []) (rest := []) (lenOf pd_0 rfl) rfl (by show 2 * 0 + _ ≤ _; exact Nat.le_of_eq rfl) (hb hby at_96) (fun _ _ => ⟨rfl, hh10, (by decide : 13 + 2 ≤ _), (by decide : 133 + 64 ≤ _)⟩)
    dsimp only [Pt.U, Pt.locs, Pt.cells, Pt.slots] at X12 l12 y12 z12 st12 hQ12
    subst l12 y12 z12
    obtain ⟨na12, ha12, kn12, kh12, L_12, nl12, vs12, rfl, N12q, K12, ⟨⟨E12, Fr12, Fk12, Ff12, Fn12, Fh12, Fl12, Fi12, Vk12, Vf12, Vn12, Vh12⟩, Er12, Fs12, -, -, -⟩, hN12, hL12⟩ := hQ12
    have N12 := Fr.app N10 N12q
    refine own_of (fun _ k => st12.trans k) ?_
    show own_Out p e below _ (T12.setTop (mkF m 99 #[iv p0, iv p1, iv p2, iv nn, iv nt, rv ky, rv rb, rv ix, iv 1, .unset, .unset, .unset, .unset] []))
    refine o_iloadN X12 hx hby at_99 rfl (q := 100) rfl ?_
    refine o_iload X12 hx hby at_100 rfl (q := 102) rfl ?_
    refine o_iadd X12 hx hby at_102 rfl (q := 103) rfl ?_
    refine o_istore X12 hx hby at_103 (l' := #[iv p0, iv p1, iv p2, iv nn, iv nt, rv ky, rv rb, rv ix, iv 1, iv (nn + nt), .unset, .unset, .unset]) rfl (q := 105) rfl ?_
    refine o_aload X12 hx hby at_105 rfl rfl (q := 107) rfl ?_
    refine o_aconst_null X12 hx hby at_107 (q := 108) rfl ?_
    refine o_aload X12 hx hby at_108 rfl rfl (q := 110) rfl ?_
    have qz16 := (Nat.le_trans qz6 K12.1)
    obtain ⟨cq15, kq15, q15a, q15b, q15c⟩ := isOf hZ rfl E12
    obtain ⟨_, _, ⟨T15, L15, k15, n15⟩, -, X15, ⟨Lc15, hQ15, l15, y15, z15⟩, st15⟩ := X12.virtualBack hx (y := mn_22) (z := mn_22) hown (mvT hZ (w_ hw 114 rfl)) (mvT hZ (w_ hw 115 rfl)) (notFace_of_selects (args := #[]) (mvT hZ (w_ hw 117 rfl))) (mvT hZ (w_ hw 117 rfl)) (mvT hZ (w_ hw 116 rfl)) (by decide) (backOf (W := 0) (rm14n16 l Z a0 hw [] ix ky fa kf ((nn + nt) - (1 : Int32)) (List.replicate 15 (.int (-1))) ha12 kh12 L_12 nl12 kc kk T12.heap n0 qz16 Ff12 Vf12 E12 Fh12 Vh12 Fk12 Vk12 (own_hc (own_t0 hnn hnt) hL12)) hZ (w_ hw 118 rfl) (w_ hw 63 rfl) (by decide) (by decide)) q15a q15c (g := (mkF m 110 #[iv p0, iv p1, iv p2, iv nn, iv nt, rv ky, rv rb, rv ix, iv 1, iv (nn + nt), .unset, .unset, .unset] [.ref ky, .null, .ref ix])) rfl (by rw [hml]; rfl) (Steps.refl _) (argsL := [.null, (.ref ky)]) (rest := []) (lenOf pd_10 rfl) rfl (by show 2 * 0 + _ ≤ _; exact Nat.le_of_eq rfl) (hb hby at_110) (fun _ _ => ⟨rfl, rfl, (by decide : 15 + 0 ≤ _), (by decide : 197 + 0 ≤ _)⟩)
    dsimp only [Pt.U, Pt.locs, Pt.cells, Pt.slots] at X15 l15 y15 z15 st15 hQ15
    subst l15 y15 z15
    obtain ⟨rfl, N15q, hh15⟩ := hQ15
    have N15 := Fr.app N12 N15q
    refine own_of (fun _ k => st15.trans k) ?_
    show own_Out p e below _ (T15.setTop (mkF m 113 #[iv p0, iv p1, iv p2, iv nn, iv nt, rv ky, rv rb, rv ix, iv 1, iv (nn + nt), .unset, .unset, .unset] [.int ((nn + nt) - (1 : Int32))]))
    refine o_iload X15 hx hby at_113 rfl (q := 115) rfl ?_
    refine o_iconst X15 hx hby at_115 (z := 1) rfl (q := 116) rfl ?_
    refine o_isub X15 hx hby at_116 rfl (q := 117) rfl ?_
    refine o_icN X15 hx hby at_117 (teq (rfl : ((nn + nt) - (1 : Int32)) = ((nn + nt) - (1 : Int32)))).2 (q := 120) rfl ?_
    refine o_iconst X15 hx hby at_120 (z := 1) rfl (q := 121) rfl ?_
    refine o_goto X15 hx hby at_121 (by decide) (q := 125) (by decide) ?_
    refine o_istore X15 hx hby at_125 (l' := #[iv p0, iv p1, iv p2, iv nn, iv nt, rv ky, rv rb, rv ix, iv 1, iv (nn + nt), iv 1, .unset, .unset]) rfl (q := 127) rfl ?_
    refine o_iconst X15 hx hby at_127 (z := 1) rfl (q := 128) rfl ?_
    refine o_istore X15 hx hby at_128 (l' := #[iv p0, iv p1, iv p2, iv nn, iv nt, rv ky, rv rb, rv ix, iv 1, iv (nn + nt), iv 1, iv 1, .unset]) rfl (q := 130) rfl ?_
    refine o_iload X15 hx hby at_130 rfl (q := 132) rfl ?_
    by_cases hc132_17 : (0 : Int32) < (nn + nt)
    · skip
      refine o_ifN X15 hx hby at_132 ((if0 _ _).trans (tlt hc132_17).2.2.2) (q := 135) rfl ?_
      refine o_iloadN X15 hx hby at_135 rfl (q := 136) rfl ?_
      refine o_ldcI X15 hx hZ hown hby (w_ hw 164 rfl) at_136 (q := 138) rfl ?_
      refine o_iand X15 hx hby at_138 rfl (q := 139) rfl ?_
      refine o_iload X15 hx hby at_139 rfl (q := 141) rfl ?_
      refine o_irem X15 hx hby at_141 (own_nz hc132_17) (q := 142) rfl ?_
      refine o_istore X15 hx hby at_142 (l' := #[iv p0, iv p1, iv p2, iv nn, iv nt, rv ky, rv rb, rv ix, iv 1, iv (nn + nt), iv 1, iv 1, iv ((p2 &&& (2147483647 : Int32)) % (nn + nt))]) rfl (q := 144) rfl ?_
      refine o_aload X15 hx hby at_144 rfl rfl (q := 146) rfl ?_
      refine o_iload X15 hx hby at_146 rfl (q := 148) rfl ?_
      refine o_aconst_null X15 hx hby at_148 (q := 149) rfl ?_
      refine o_aload X15 hx hby at_149 rfl rfl (q := 151) rfl ?_
      obtain ⟨cq18, kq18, q18a, q18b, q18c⟩ := isOf hZ hh15 E12
      obtain ⟨_, _, ⟨T18, L18, k18, n18⟩, -, X18, ⟨Lc18, hQ18, l18, y18, z18⟩, st18⟩ := X15.virtualBack hx (y := mn_23) (z := mn_23) hown (mvT hZ (w_ hw 165 rfl)) (mvT hZ (w_ hw 166 rfl)) (notFace_of_selects (args := #[]) (mvT hZ (w_ hw 168 rfl))) (mvT hZ (w_ hw 168 rfl)) (mvT hZ (w_ hw 167 rfl)) (by decide) (backOf (W := 0) (rm26 l Z a0 hw [] ix ((p2 &&& (2147483647 : Int32)) % (nn + nt)) ky na12 kn12 vs12 ha12 kh12 L_12 nl12 kc kk T12.heap n0 qz16 Fn12 Vn12 E12 Fh12 Vh12 Fk12 Vk12 (own_kj hc132_17 hL12) (hN12 _ (own_kk hc132_17).1 (own_kk hc132_17).2)) hZ (w_ hw 169 rfl) (w_ hw 63 rfl) (by decide) (by decide)) q18a q18c (g := (mkF m 151 #[iv p0, iv p1, iv p2, iv nn, iv nt, rv ky, rv rb, rv ix, iv 1, iv (nn + nt), iv 1, iv 1, iv ((p2 &&& (2147483647 : Int32)) % (nn + nt))] [.ref ky, .null, .int ((p2 &&& (2147483647 : Int32)) % (nn + nt)), .ref ix])) rfl (by rw [hml]; rfl) (Steps.refl _) (argsL := [(.int ((p2 &&& (2147483647 : Int32)) % (nn + nt))), .null, (.ref ky)]) (rest := []) (lenOf pd_15 rfl) rfl (by show 2 * 0 + _ ≤ _; exact Nat.le_of_eq rfl) (hb hby at_151) (fun _ _ => ⟨rfl, hh15, (by decide : 15 + 0 ≤ _), (by decide : 197 + 0 ≤ _)⟩)
      dsimp only [Pt.U, Pt.locs, Pt.cells, Pt.slots] at X18 l18 y18 z18 st18 hQ18
      subst l18 y18 z18
      obtain ⟨rfl, N18q, hh18⟩ := hQ18
      have N18 := Fr.app N15 N18q
      refine own_of (fun _ k => st18.trans k) ?_
      show own_Out p e below _ (T18.setTop (mkF m 154 #[iv p0, iv p1, iv p2, iv nn, iv nt, rv ky, rv rb, rv ix, iv 1, iv (nn + nt), iv 1, iv 1, iv ((p2 &&& (2147483647 : Int32)) % (nn + nt))] [.int (((p2 &&& (2147483647 : Int32)) % (nn + nt)) - (1 : Int32))]))
      refine o_iload X18 hx hby at_154 rfl (q := 156) rfl ?_
      refine o_iconst X18 hx hby at_156 (z := 1) rfl (q := 157) rfl ?_
      refine o_isub X18 hx hby at_157 rfl (q := 158) rfl ?_
      refine o_icN X18 hx hby at_158 (teq (rfl : (((p2 &&& (2147483647 : Int32)) % (nn + nt)) - (1 : Int32)) = (((p2 &&& (2147483647 : Int32)) % (nn + nt)) - (1 : Int32)))).2 (q := 161) rfl ?_
      refine o_iconst X18 hx hby at_161 (z := 1) rfl (q := 162) rfl ?_
      refine o_goto X18 hx hby at_162 (by decide) (q := 166) (by decide) ?_
      refine o_istore X18 hx hby at_166 (l' := #[iv p0, iv p1, iv p2, iv nn, iv nt, rv ky, rv rb, rv ix, iv 1, iv (nn + nt), iv 1, iv 1, iv ((p2 &&& (2147483647 : Int32)) % (nn + nt))]) rfl (q := 168) rfl ?_
      refine o_iload X18 hx hby at_168 rfl (q := 170) rfl ?_
      refine o_ifN X18 hx hby at_170 ((if0 _ _).trans (feq (by decide : ¬ ((1 : Int32) = (0 : Int32)))).1) (q := 173) rfl ?_
      refine o_iload X18 hx hby at_173 rfl (q := 175) rfl ?_
      refine o_ifN X18 hx hby at_175 ((if0 _ _).trans (feq (by decide : ¬ ((1 : Int32) = (0 : Int32)))).1) (q := 178) rfl ?_
      refine o_iload X18 hx hby at_178 rfl (q := 180) rfl ?_
      refine o_ifN X18 hx hby at_180 ((if0 _ _).trans (feq (by decide : ¬ ((1 : Int32) = (0 : Int32)))).1) (q := 183) rfl ?_
      refine o_aload X18 hx hby at_183 rfl rfl (q := 185) rfl ?_
      obtain ⟨cq19, kq19, q19a, q19b, q19c⟩ := isOf hZ hh18 Er12
      obtain ⟨_, _, ⟨T19, L19, k19, n19⟩, -, X19, ⟨Lc19, hQ19, l19, y19, z19⟩, st19⟩ := X18.virtualBack hx (y := mn_9) (z := mn_9) hown (mvT hZ (w_ hw 170 rfl)) (mvT hZ (w_ hw 98 rfl)) (notFace_of_selects (args := #[]) (mvT hZ (w_ hw 100 rfl))) (mvT hZ (w_ hw 100 rfl)) (mvT hZ (w_ hw 99 rfl)) (by decide) (backOf (W := 0) (rm12 l Z a0 hw [] rb (nn + nt) T12.heap n0 qz16 Fs12) hZ (w_ hw 101 rfl) (w_ hw 3 rfl) (by decide) (by decide)) q19a q19c (g := (mkF m 185 #[iv p0, iv p1, iv p2, iv nn, iv nt, rv ky, rv rb, rv ix, iv 1, iv (nn + nt), iv 1, iv 1, iv ((p2 &&& (2147483647 : Int32)) % (nn + nt))] [.ref rb])) rfl (by rw [hml]; rfl) (Steps.refl _) (argsL := []) (rest := []) (lenOf pd_1 rfl) rfl (by show 2 * 0 + _ ≤ _; exact Nat.le_of_eq rfl) (hb hby at_185) (fun _ _ => ⟨rfl, hh18, (by decide : 15 + 0 ≤ _), (by decide : 197 + 0 ≤ _)⟩)
      dsimp only [Pt.U, Pt.locs, Pt.cells, Pt.slots] at X19 l19 y19 z19 st19 hQ19
      subst l19 y19 z19
      obtain ⟨rfl, N19q, hh19⟩ := hQ19
      have N19 := Fr.app N18 N19q
      refine own_of (fun _ k => st19.trans k) ?_
      show own_Out p e below _ (T19.setTop (mkF m 188 #[iv p0, iv p1, iv p2, iv nn, iv nt, rv ky, rv rb, rv ix, iv 1, iv (nn + nt), iv 1, iv 1, iv ((p2 &&& (2147483647 : Int32)) % (nn + nt))] [.int (nn + nt)]))
      refine o_iload X19 hx hby at_188 rfl (q := 190) rfl ?_
      refine o_icN X19 hx hby at_190 (teq (rfl : (nn + nt) = (nn + nt))).2 (q := 193) rfl ?_
      refine o_iconst X19 hx hby at_193 (z := 1) rfl (q := 194) rfl ?_
      refine o_goto X19 hx hby at_194 (by decide) (q := 198) (by decide) ?_
      exact own_outN X19 hx hlk (t := .boolean) hret (by simp) (hb hby at_198) (z' := (1 : Int32)) rfl (Q := Q) (hQ _ _ N19) (by decide) (by decide)
    · skip
      refine o_ifY X15 hx hby at_132 ((if0 _ _).trans (flt hc132_17).2.2.2) (by decide) (q := 168) (by decide) ?_
      refine o_iload X15 hx hby at_168 rfl (q := 170) rfl ?_
      refine o_ifN X15 hx hby at_170 ((if0 _ _).trans (feq (by decide : ¬ ((1 : Int32) = (0 : Int32)))).1) (q := 173) rfl ?_
      refine o_iload X15 hx hby at_173 rfl (q := 175) rfl ?_
      refine o_ifN X15 hx hby at_175 ((if0 _ _).trans (feq (by decide : ¬ ((1 : Int32) = (0 : Int32)))).1) (q := 178) rfl ?_
      refine o_iload X15 hx hby at_178 rfl (q := 180) rfl ?_
      refine o_ifN X15 hx hby at_180 ((if0 _ _).trans (feq (by decide : ¬ ((1 : Int32) = (0 : Int32)))).1) (q := 183) rfl ?_
      refine o_aload X15 hx hby at_183 rfl rfl (q := 185) rfl ?_
      obtain ⟨cq20, kq20, q20a, q20b, q20c⟩ := isOf hZ hh15 Er12
      obtain ⟨_, _, ⟨T20, L20, k20, n20⟩, -, X20, ⟨Lc20, hQ20, l20, y20, z20⟩, st20⟩ := X15.virtualBack hx (y := mn_9) (z := mn_9) hown (mvT hZ (w_ hw 170 rfl)) (mvT hZ (w_ hw 98 rfl)) (notFace_of_selects (args := #[]) (mvT hZ (w_ hw 100 rfl))) (mvT hZ (w_ hw 100 rfl)) (mvT hZ (w_ hw 99 rfl)) (by decide) (backOf (W := 0) (rm12 l Z a0 hw [] rb (nn + nt) T12.heap n0 qz16 Fs12) hZ (w_ hw 101 rfl) (w_ hw 3 rfl) (by decide) (by decide)) q20a q20c (g := (mkF m 185 #[iv p0, iv p1, iv p2, iv nn, iv nt, rv ky, rv rb, rv ix, iv 1, iv (nn + nt), iv 1, iv 1, .unset] [.ref rb])) rfl (by rw [hml]; rfl) (Steps.refl _) (argsL := []) (rest := []) (lenOf pd_1 rfl) rfl (by show 2 * 0 + _ ≤ _; exact Nat.le_of_eq rfl) (hb hby at_185) (fun _ _ => ⟨rfl, hh15, (by decide : 15 + 0 ≤ _), (by decide : 197 + 0 ≤ _)⟩)
      dsimp only [Pt.U, Pt.locs, Pt.cells, Pt.slots] at X20 l20 y20 z20 st20 hQ20
      subst l20 y20 z20
      obtain ⟨rfl, N20q, hh20⟩ := hQ20
      have N20 := Fr.app N15 N20q
      refine own_of (fun _ k => st20.trans k) ?_
      show own_Out p e below _ (T20.setTop (mkF m 188 #[iv p0, iv p1, iv p2, iv nn, iv nt, rv ky, rv rb, rv ix, iv 1, iv (nn + nt), iv 1, iv 1, .unset] [.int (nn + nt)]))
      refine o_iload X20 hx hby at_188 rfl (q := 190) rfl ?_
      refine o_icN X20 hx hby at_190 (teq (rfl : (nn + nt) = (nn + nt))).2 (q := 193) rfl ?_
      refine o_iconst X20 hx hby at_193 (z := 1) rfl (q := 194) rfl ?_
      refine o_goto X20 hx hby at_194 (by decide) (q := 198) (by decide) ?_
      exact own_outN X20 hx hlk (t := .boolean) hret (by simp) (hb hby at_198) (z' := (1 : Int32)) rfl (Q := Q) (hQ _ _ N20) (by decide) (by decide)
  · skip
    have qz22 := (Erx.keep K1)
    have qz23 := (Fnb.keep K1 (ninS D_rbo0 nin0))
    have qz24 := (Fcp.keep K1 (ninS D_rbo0 nin0))
    have qz25 := (Fdb.keep K1 (ninS D_rbo0 nin0))
    have qz26 := (Vnb.keep K1 (ninS nbx nin0))
    obtain ⟨_, _, ⟨T21, L21, k21, n21⟩, -, X21, ⟨Lc21, hQ21, l21, y21, z21⟩, st21⟩ := Jvm.LawKit.callS X2 hx (y := mn_14) hown (mvT hZ (w_ hw 86 rfl)) (mvT hZ (w_ hw 87 rfl)) (mvT hZ (w_ hw 88 rfl)) (mvT hZ (w_ hw 89 rfl)) (by decide) (backOf (W := 0) (rm10z l Z a0 hw [] rb nt nb kb T1.heap n0 qz6 qz22 qz23 qz24 Fz8 qz25 qz26 g_rb nnb (own_g15 (Int.le_trans hnt.2 (by decide))) (own_ps hnt.1 hc91_9)) hZ (w_ hw 89 rfl) (w_ hw 88 rfl) (by decide) (by decide)) (g := (mkF m 91 #[iv p0, iv p1, iv p2, iv nn, iv nt, rv ky, rv rb, rv ix, iv 1, .unset, .unset, .unset, .unset] [.int nt, .ref rb])) rfl (by rw [hml]; rfl) (argsL := [(.ref rb), (.int nt)]) (rest := []) (lenOf pd_14 rfl) rfl (by show 2 * 0 + _ ≤ _; exact Nat.le_of_eq rfl) (hb hby at_91) (fun _ _ => ⟨rfl, hh2, (by decide : 13 + 0 ≤ _), (by decide : 133 + 0 ≤ _)⟩)
    dsimp only [Pt.U, Pt.locs, Pt.cells, Pt.slots] at X21 l21 y21 z21 st21 hQ21
    subst l21 y21 z21
    obtain ⟨rfl, N21q, K21, E21, Fn21, Fk21, Fs21⟩ := hQ21
    have N21 := Fr.app N2 N21q
    refine own_of st21 ?_
    show own_Out p e below _ (T21.setTop (mkF m 94 #[iv p0, iv p1, iv p2, iv nn, iv nt, rv ky, rv rb, rv ix, iv 1, .unset, .unset, .unset, .unset] []))
    have Fy27 : Fld Z T21.heap rb "com/example/headway/headway/engine/RowBuffer" "size" "I" (.int (nn + nt)) := by rw [hz, Int32.zero_add]; exact Fs21
    refine o_aload X21 hx hby at_94 rfl rfl (q := 96) rfl ?_
    have qz29 := (E1.keep K21)
    have qz30 := (F1_rows.keep K21 (ninS (Ne.symm D_rbo0) nin0))
    have qz31 := (F1_keyColumns.keep K21 (ninS (Ne.symm D_rbo0) nin0))
    have qz32 := (F1_firstInBucket.keep K21 (ninS (Ne.symm D_rbo0) nin0))
    have qz33 := (F1_nextInBucket.keep K21 (ninS (Ne.symm D_rbo0) nin0))
    have qz34 := (F1_hashes.keep K21 (ninS (Ne.symm D_rbo0) nin0))
    have qz35 := (F1_loadLimit.keep K21 (ninS (Ne.symm D_rbo0) nin0))
    have qz36 := (F1_indexed.keep K21 (ninS (Ne.symm D_rbo0) nin0))
    have qz37 := (qz5.keep K21 (ninS (Ne.symm D_rbkc) nin0))
    have qz38 := (qz3.keep K21 (ninS (Ne.symm D_rbfa) nin0))
    have qz39 := ((Vnx.keep K1 (ninS (Ne.symm D_o0na) nin0)).keep K21 (ninS (Ne.symm D_rbna) nin0))
    have qz40 := (qz4.keep K21 (ninS (Ne.symm D_rbha) nin0))
    have qz41 := (F1_largerFirstInBucket.keep K21 (ninS (Ne.symm D_rbo0) nin0))
    have qz42 := (F1_largerNextInBucket.keep K21 (ninS (Ne.symm D_rbo0) nin0))
    have qz43 := (F1_relinked.keep K21 (ninS (Ne.symm D_rbo0) nin0))
    have qz44 := (Nat.le_trans qz6 K21.1)
    obtain ⟨cq28, kq28, q28a, q28b, q28c⟩ := isOf hZ rfl qz29
    obtain ⟨_, _, ⟨T28, L28, k28, n28⟩, -, X28, ⟨Lc28, hQ28, l28, y28, z28⟩, st28⟩ := X21.virtualBack hx (y := mn_29) (z := mn_29) hown (mvT hZ (w_ hw 90 rfl)) (mvT hZ (w_ hw 91 rfl)) (notFace_of_selects (args := #[]) (mvT hZ (w_ hw 93 rfl))) (mvT hZ (w_ hw 93 rfl)) (mvT hZ (w_ hw 92 rfl)) (by decide) (backOf (W := 0) (rm11b16 l Z a0 hw [] ix rb kc fa na ha kk kf kn kh (nn + nt) nn rl vs T21.heap n0 qz44 ⟨⟨qz29, qz30, qz31, qz32, qz33, qz34, qz35, qz36, qz37, qz38, qz39, qz40⟩, E21, Fy27, qz41, qz42, qz43⟩ ⟨D_o0fa, D_o0na, D_o0ha, D_rbo0, D_rbfa, D_rbna, D_rbha, D_kco0, D_kcfa, D_kcna, D_kcha, D_fana, D_faha, D_naha, D_rbkc, G_o0, G_fa, G_na, G_ha⟩ (own_tt hnn hnt) hlen hN) hZ (w_ hw 94 rfl) (w_ hw 63 rfl) (by decide) (by decide)) q28a q28c (g := (mkF m 96 #[iv p0, iv p1, iv p2, iv nn, iv nt, rv ky, rv rb, rv ix, iv 1, .unset, .unset, .unset, .unset] [.ref ix])) rfl (by rw [hml]; rfl) (Steps.refl _) (argsL := []) (rest := []) (lenOf pd_0 rfl) rfl (by show 2 * 0 + _ ≤ _; exact Nat.le_of_eq rfl) (hb hby at_96) (fun _ _ => ⟨rfl, rfl, (by decide : 13 + 2 ≤ _), (by decide : 133 + 64 ≤ _)⟩)
    dsimp only [Pt.U, Pt.locs, Pt.cells, Pt.slots] at X28 l28 y28 z28 st28 hQ28
    subst l28 y28 z28
    obtain ⟨na28, ha28, kn28, kh28, L_28, nl28, vs28, rfl, N28q, K28, ⟨⟨E28, Fr28, Fk28, Ff28, Fn28, Fh28, Fl28, Fi28, Vk28, Vf28, Vn28, Vh28⟩, Er28, Fs28, -, -, -⟩, hN28, hL28⟩ := hQ28
    have N28 := Fr.app N21 N28q
    refine own_of (fun _ k => st28.trans k) ?_
    show own_Out p e below _ (T28.setTop (mkF m 99 #[iv p0, iv p1, iv p2, iv nn, iv nt, rv ky, rv rb, rv ix, iv 1, .unset, .unset, .unset, .unset] []))
    refine o_iloadN X28 hx hby at_99 rfl (q := 100) rfl ?_
    refine o_iload X28 hx hby at_100 rfl (q := 102) rfl ?_
    refine o_iadd X28 hx hby at_102 rfl (q := 103) rfl ?_
    refine o_istore X28 hx hby at_103 (l' := #[iv p0, iv p1, iv p2, iv nn, iv nt, rv ky, rv rb, rv ix, iv 1, iv (nn + nt), .unset, .unset, .unset]) rfl (q := 105) rfl ?_
    refine o_aload X28 hx hby at_105 rfl rfl (q := 107) rfl ?_
    refine o_aconst_null X28 hx hby at_107 (q := 108) rfl ?_
    refine o_aload X28 hx hby at_108 rfl rfl (q := 110) rfl ?_
    have qz46 := (Nat.le_trans qz44 K28.1)
    obtain ⟨cq45, kq45, q45a, q45b, q45c⟩ := isOf hZ rfl E28
    obtain ⟨_, _, ⟨T45, L45, k45, n45⟩, -, X45, ⟨Lc45, hQ45, l45, y45, z45⟩, st45⟩ := X28.virtualBack hx (y := mn_22) (z := mn_22) hown (mvT hZ (w_ hw 114 rfl)) (mvT hZ (w_ hw 115 rfl)) (notFace_of_selects (args := #[]) (mvT hZ (w_ hw 117 rfl))) (mvT hZ (w_ hw 117 rfl)) (mvT hZ (w_ hw 116 rfl)) (by decide) (backOf (W := 0) (rm14n16 l Z a0 hw [] ix ky fa kf ((nn + nt) - (1 : Int32)) (List.replicate 15 (.int (-1))) ha28 kh28 L_28 nl28 kc kk T28.heap n0 qz46 Ff28 Vf28 E28 Fh28 Vh28 Fk28 Vk28 (own_hc (own_t0 hnn hnt) hL28)) hZ (w_ hw 118 rfl) (w_ hw 63 rfl) (by decide) (by decide)) q45a q45c (g := (mkF m 110 #[iv p0, iv p1, iv p2, iv nn, iv nt, rv ky, rv rb, rv ix, iv 1, iv (nn + nt), .unset, .unset, .unset] [.ref ky, .null, .ref ix])) rfl (by rw [hml]; rfl) (Steps.refl _) (argsL := [.null, (.ref ky)]) (rest := []) (lenOf pd_10 rfl) rfl (by show 2 * 0 + _ ≤ _; exact Nat.le_of_eq rfl) (hb hby at_110) (fun _ _ => ⟨rfl, rfl, (by decide : 15 + 0 ≤ _), (by decide : 197 + 0 ≤ _)⟩)
    dsimp only [Pt.U, Pt.locs, Pt.cells, Pt.slots] at X45 l45 y45 z45 st45 hQ45
    subst l45 y45 z45
    obtain ⟨rfl, N45q, hh45⟩ := hQ45
    have N45 := Fr.app N28 N45q
    refine own_of (fun _ k => st45.trans k) ?_
    show own_Out p e below _ (T45.setTop (mkF m 113 #[iv p0, iv p1, iv p2, iv nn, iv nt, rv ky, rv rb, rv ix, iv 1, iv (nn + nt), .unset, .unset, .unset] [.int ((nn + nt) - (1 : Int32))]))
    refine o_iload X45 hx hby at_113 rfl (q := 115) rfl ?_
    refine o_iconst X45 hx hby at_115 (z := 1) rfl (q := 116) rfl ?_
    refine o_isub X45 hx hby at_116 rfl (q := 117) rfl ?_
    refine o_icN X45 hx hby at_117 (teq (rfl : ((nn + nt) - (1 : Int32)) = ((nn + nt) - (1 : Int32)))).2 (q := 120) rfl ?_
    refine o_iconst X45 hx hby at_120 (z := 1) rfl (q := 121) rfl ?_
    refine o_goto X45 hx hby at_121 (by decide) (q := 125) (by decide) ?_
    refine o_istore X45 hx hby at_125 (l' := #[iv p0, iv p1, iv p2, iv nn, iv nt, rv ky, rv rb, rv ix, iv 1, iv (nn + nt), iv 1, .unset, .unset]) rfl (q := 127) rfl ?_
    refine o_iconst X45 hx hby at_127 (z := 1) rfl (q := 128) rfl ?_
    refine o_istore X45 hx hby at_128 (l' := #[iv p0, iv p1, iv p2, iv nn, iv nt, rv ky, rv rb, rv ix, iv 1, iv (nn + nt), iv 1, iv 1, .unset]) rfl (q := 130) rfl ?_
    refine o_iload X45 hx hby at_130 rfl (q := 132) rfl ?_
    by_cases hc132_47 : (0 : Int32) < (nn + nt)
    · skip
      refine o_ifN X45 hx hby at_132 ((if0 _ _).trans (tlt hc132_47).2.2.2) (q := 135) rfl ?_
      refine o_iloadN X45 hx hby at_135 rfl (q := 136) rfl ?_
      refine o_ldcI X45 hx hZ hown hby (w_ hw 164 rfl) at_136 (q := 138) rfl ?_
      refine o_iand X45 hx hby at_138 rfl (q := 139) rfl ?_
      refine o_iload X45 hx hby at_139 rfl (q := 141) rfl ?_
      refine o_irem X45 hx hby at_141 (own_nz hc132_47) (q := 142) rfl ?_
      refine o_istore X45 hx hby at_142 (l' := #[iv p0, iv p1, iv p2, iv nn, iv nt, rv ky, rv rb, rv ix, iv 1, iv (nn + nt), iv 1, iv 1, iv ((p2 &&& (2147483647 : Int32)) % (nn + nt))]) rfl (q := 144) rfl ?_
      refine o_aload X45 hx hby at_144 rfl rfl (q := 146) rfl ?_
      refine o_iload X45 hx hby at_146 rfl (q := 148) rfl ?_
      refine o_aconst_null X45 hx hby at_148 (q := 149) rfl ?_
      refine o_aload X45 hx hby at_149 rfl rfl (q := 151) rfl ?_
      obtain ⟨cq48, kq48, q48a, q48b, q48c⟩ := isOf hZ hh45 E28
      obtain ⟨_, _, ⟨T48, L48, k48, n48⟩, -, X48, ⟨Lc48, hQ48, l48, y48, z48⟩, st48⟩ := X45.virtualBack hx (y := mn_23) (z := mn_23) hown (mvT hZ (w_ hw 165 rfl)) (mvT hZ (w_ hw 166 rfl)) (notFace_of_selects (args := #[]) (mvT hZ (w_ hw 168 rfl))) (mvT hZ (w_ hw 168 rfl)) (mvT hZ (w_ hw 167 rfl)) (by decide) (backOf (W := 0) (rm26 l Z a0 hw [] ix ((p2 &&& (2147483647 : Int32)) % (nn + nt)) ky na28 kn28 vs28 ha28 kh28 L_28 nl28 kc kk T28.heap n0 qz46 Fn28 Vn28 E28 Fh28 Vh28 Fk28 Vk28 (own_kj hc132_47 hL28) (hN28 _ (own_kk hc132_47).1 (own_kk hc132_47).2)) hZ (w_ hw 169 rfl) (w_ hw 63 rfl) (by decide) (by decide)) q48a q48c (g := (mkF m 151 #[iv p0, iv p1, iv p2, iv nn, iv nt, rv ky, rv rb, rv ix, iv 1, iv (nn + nt), iv 1, iv 1, iv ((p2 &&& (2147483647 : Int32)) % (nn + nt))] [.ref ky, .null, .int ((p2 &&& (2147483647 : Int32)) % (nn + nt)), .ref ix])) rfl (by rw [hml]; rfl) (Steps.refl _) (argsL := [(.int ((p2 &&& (2147483647 : Int32)) % (nn + nt))), .null, (.ref ky)]) (rest := []) (lenOf pd_15 rfl) rfl (by show 2 * 0 + _ ≤ _; exact Nat.le_of_eq rfl) (hb hby at_151) (fun _ _ => ⟨rfl, hh45, (by decide : 15 + 0 ≤ _), (by decide : 197 + 0 ≤ _)⟩)
      dsimp only [Pt.U, Pt.locs, Pt.cells, Pt.slots] at X48 l48 y48 z48 st48 hQ48
      subst l48 y48 z48
      obtain ⟨rfl, N48q, hh48⟩ := hQ48
      have N48 := Fr.app N45 N48q
      refine own_of (fun _ k => st48.trans k) ?_
      show own_Out p e below _ (T48.setTop (mkF m 154 #[iv p0, iv p1, iv p2, iv nn, iv nt, rv ky, rv rb, rv ix, iv 1, iv (nn + nt), iv 1, iv 1, iv ((p2 &&& (2147483647 : Int32)) % (nn + nt))] [.int (((p2 &&& (2147483647 : Int32)) % (nn + nt)) - (1 : Int32))]))
      refine o_iload X48 hx hby at_154 rfl (q := 156) rfl ?_
      refine o_iconst X48 hx hby at_156 (z := 1) rfl (q := 157) rfl ?_
      refine o_isub X48 hx hby at_157 rfl (q := 158) rfl ?_
      refine o_icN X48 hx hby at_158 (teq (rfl : (((p2 &&& (2147483647 : Int32)) % (nn + nt)) - (1 : Int32)) = (((p2 &&& (2147483647 : Int32)) % (nn + nt)) - (1 : Int32)))).2 (q := 161) rfl ?_
      refine o_iconst X48 hx hby at_161 (z := 1) rfl (q := 162) rfl ?_
      refine o_goto X48 hx hby at_162 (by decide) (q := 166) (by decide) ?_
      refine o_istore X48 hx hby at_166 (l' := #[iv p0, iv p1, iv p2, iv nn, iv nt, rv ky, rv rb, rv ix, iv 1, iv (nn + nt), iv 1, iv 1, iv ((p2 &&& (2147483647 : Int32)) % (nn + nt))]) rfl (q := 168) rfl ?_
      refine o_iload X48 hx hby at_168 rfl (q := 170) rfl ?_
      refine o_ifN X48 hx hby at_170 ((if0 _ _).trans (feq (by decide : ¬ ((1 : Int32) = (0 : Int32)))).1) (q := 173) rfl ?_
      refine o_iload X48 hx hby at_173 rfl (q := 175) rfl ?_
      refine o_ifN X48 hx hby at_175 ((if0 _ _).trans (feq (by decide : ¬ ((1 : Int32) = (0 : Int32)))).1) (q := 178) rfl ?_
      refine o_iload X48 hx hby at_178 rfl (q := 180) rfl ?_
      refine o_ifN X48 hx hby at_180 ((if0 _ _).trans (feq (by decide : ¬ ((1 : Int32) = (0 : Int32)))).1) (q := 183) rfl ?_
      refine o_aload X48 hx hby at_183 rfl rfl (q := 185) rfl ?_
      obtain ⟨cq49, kq49, q49a, q49b, q49c⟩ := isOf hZ hh48 Er28
      obtain ⟨_, _, ⟨T49, L49, k49, n49⟩, -, X49, ⟨Lc49, hQ49, l49, y49, z49⟩, st49⟩ := X48.virtualBack hx (y := mn_9) (z := mn_9) hown (mvT hZ (w_ hw 170 rfl)) (mvT hZ (w_ hw 98 rfl)) (notFace_of_selects (args := #[]) (mvT hZ (w_ hw 100 rfl))) (mvT hZ (w_ hw 100 rfl)) (mvT hZ (w_ hw 99 rfl)) (by decide) (backOf (W := 0) (rm12 l Z a0 hw [] rb (nn + nt) T28.heap n0 qz46 Fs28) hZ (w_ hw 101 rfl) (w_ hw 3 rfl) (by decide) (by decide)) q49a q49c (g := (mkF m 185 #[iv p0, iv p1, iv p2, iv nn, iv nt, rv ky, rv rb, rv ix, iv 1, iv (nn + nt), iv 1, iv 1, iv ((p2 &&& (2147483647 : Int32)) % (nn + nt))] [.ref rb])) rfl (by rw [hml]; rfl) (Steps.refl _) (argsL := []) (rest := []) (lenOf pd_1 rfl) rfl (by show 2 * 0 + _ ≤ _; exact Nat.le_of_eq rfl) (hb hby at_185) (fun _ _ => ⟨rfl, hh48, (by decide : 15 + 0 ≤ _), (by decide : 197 + 0 ≤ _)⟩)
      dsimp only [Pt.U, Pt.locs, Pt.cells, Pt.slots] at X49 l49 y49 z49 st49 hQ49
      subst l49 y49 z49
      obtain ⟨rfl, N49q, hh49⟩ := hQ49
      have N49 := Fr.app N48 N49q
      refine own_of (fun _ k => st49.trans k) ?_
      show own_Out p e below _ (T49.setTop (mkF m 188 #[iv p0, iv p1, iv p2, iv nn, iv nt, rv ky, rv rb, rv ix, iv 1, iv (nn + nt), iv 1, iv 1, iv ((p2 &&& (2147483647 : Int32)) % (nn + nt))] [.int (nn + nt)]))
      refine o_iload X49 hx hby at_188 rfl (q := 190) rfl ?_
      refine o_icN X49 hx hby at_190 (teq (rfl : (nn + nt) = (nn + nt))).2 (q := 193) rfl ?_
      refine o_iconst X49 hx hby at_193 (z := 1) rfl (q := 194) rfl ?_
      refine o_goto X49 hx hby at_194 (by decide) (q := 198) (by decide) ?_
      exact own_outN X49 hx hlk (t := .boolean) hret (by simp) (hb hby at_198) (z' := (1 : Int32)) rfl (Q := Q) (hQ _ _ N49) (by decide) (by decide)
    · skip
      refine o_ifY X45 hx hby at_132 ((if0 _ _).trans (flt hc132_47).2.2.2) (by decide) (q := 168) (by decide) ?_
      refine o_iload X45 hx hby at_168 rfl (q := 170) rfl ?_
      refine o_ifN X45 hx hby at_170 ((if0 _ _).trans (feq (by decide : ¬ ((1 : Int32) = (0 : Int32)))).1) (q := 173) rfl ?_
      refine o_iload X45 hx hby at_173 rfl (q := 175) rfl ?_
      refine o_ifN X45 hx hby at_175 ((if0 _ _).trans (feq (by decide : ¬ ((1 : Int32) = (0 : Int32)))).1) (q := 178) rfl ?_
      refine o_iload X45 hx hby at_178 rfl (q := 180) rfl ?_
      refine o_ifN X45 hx hby at_180 ((if0 _ _).trans (feq (by decide : ¬ ((1 : Int32) = (0 : Int32)))).1) (q := 183) rfl ?_
      refine o_aload X45 hx hby at_183 rfl rfl (q := 185) rfl ?_
      obtain ⟨cq50, kq50, q50a, q50b, q50c⟩ := isOf hZ hh45 Er28
      obtain ⟨_, _, ⟨T50, L50, k50, n50⟩, -, X50, ⟨Lc50, hQ50, l50, y50, z50⟩, st50⟩ := X45.virtualBack hx (y := mn_9) (z := mn_9) hown (mvT hZ (w_ hw 170 rfl)) (mvT hZ (w_ hw 98 rfl)) (notFace_of_selects (args := #[]) (mvT hZ (w_ hw 100 rfl))) (mvT hZ (w_ hw 100 rfl)) (mvT hZ (w_ hw 99 rfl)) (by decide) (backOf (W := 0) (rm12 l Z a0 hw [] rb (nn + nt) T28.heap n0 qz46 Fs28) hZ (w_ hw 101 rfl) (w_ hw 3 rfl) (by decide) (by decide)) q50a q50c (g := (mkF m 185 #[iv p0, iv p1, iv p2, iv nn, iv nt, rv ky, rv rb, rv ix, iv 1, iv (nn + nt), iv 1, iv 1, .unset] [.ref rb])) rfl (by rw [hml]; rfl) (Steps.refl _) (argsL := []) (rest := []) (lenOf pd_1 rfl) rfl (by show 2 * 0 + _ ≤ _; exact Nat.le_of_eq rfl) (hb hby at_185) (fun _ _ => ⟨rfl, hh45, (by decide : 15 + 0 ≤ _), (by decide : 197 + 0 ≤ _)⟩)
      dsimp only [Pt.U, Pt.locs, Pt.cells, Pt.slots] at X50 l50 y50 z50 st50 hQ50
      subst l50 y50 z50
      obtain ⟨rfl, N50q, hh50⟩ := hQ50
      have N50 := Fr.app N45 N50q
      refine own_of (fun _ k => st50.trans k) ?_
      show own_Out p e below _ (T50.setTop (mkF m 188 #[iv p0, iv p1, iv p2, iv nn, iv nt, rv ky, rv rb, rv ix, iv 1, iv (nn + nt), iv 1, iv 1, .unset] [.int (nn + nt)]))
      refine o_iload X50 hx hby at_188 rfl (q := 190) rfl ?_
      refine o_icN X50 hx hby at_190 (teq (rfl : (nn + nt) = (nn + nt))).2 (q := 193) rfl ?_
      refine o_iconst X50 hx hby at_193 (z := 1) rfl (q := 194) rfl ?_
      refine o_goto X50 hx hby at_194 (by decide) (q := 198) (by decide) ?_
      exact own_outN X50 hx hlk (t := .boolean) hret (by simp) (hb hby at_198) (z' := (1 : Int32)) rfl (Q := Q) (hQ _ _ N50) (by decide) (by decide)
set_option maxRecDepth 65536 in
set_option maxHeartbeats 40000000 in
theorem sg61_16p {p : Program} {l : Launch} {e : Env} {s : State} {m : MethodId} {args : Array Value} {below : List Frame} {meth : Method} {c : Code} {T0 : State} {locs : List Loc} {Z : State} {a0 : Array Value} {Q : Option Value → Heap → List Loc → Prop} (p0 p1 p2 nn nt : Int32) (ky rb ix kc fa na ha nb : Addr) (kk kf kn kh kb : ClassId) (LL rl : Int32) (v1 : Value) (v2 : Value) (vs : List Value) (h0 : Heap) (n0 : Nat)
    (X0 : Stand p l e room_1 s m args below meth c T0 locs 13 133) (hx : p.tables.exec = Jvm.exec) (hZ : Z.Warmed39 s.vm) (hw : ∀ d ∈ tables_1, d.before a0 Z = true) (hby : c.code = code) (hml : c.maxLocals = 13) (hown : s.vm.findClass "com/example/headway/headway/engine/HashIndexStopGrowingPinLaw" = some m.cls) (hret : meth.sig.returnType = ret) (hlk : meth.locks = false)
    (hQ : ∀ h L, Fr n0 L → Q (some (.int 1)) h L) (e0 : T0.heap = h0) (Z0 : n0 ≤ h0.size) (N0 : Fr n0 locs) (S0 : SX Z h0 ix rb kc fa na ha kk kf kn kh (16 : Int32) 16 nn LL nn 15 16 vs v1 v2 rl) (D0 : NE ix rb kc fa na ha n0) (hlen : vs.length = 16) (hN : NX nn vs) (hnn : 0 ≤ nn.toInt ∧ nn.toInt ≤ 15) (hnt : 0 ≤ nt.toInt ∧ nt.toInt ≤ 7) (Fnb : Fld Z h0 rb "com/example/headway/headway/engine/RowBuffer" "numbers" "[[J" (.ref nb)) (Fcp : Fld Z h0 rb "com/example/headway/headway/engine/RowBuffer" "capacity" "I" (.int 1024)) (Vnb : Arv Z h0 nb kb (.array .long) (0 : Int32) [] .null) (g_rb : n0 ≤ rb) (nnb : nb ≠ rb) (nbx : nb ≠ ix) :
    own_Out p e below (fun o U' => ∃ v L, o = .returned v ∧ Q v U'.heap L ∧ FrameEnd s o U' L 40 448) (T0.setTop (mkF m 61 #[.val (.int p0), .val (.int p1), .val (.int p2), .val (.int nn), .val (.int nt), .val (.ref ky), .val (.ref rb), .val (.ref ix), .unset, .unset, .unset, .unset, .unset] [])) := by
  obtain ⟨⟨Ex, Frx, Fkx, Ffx, Fnx, Fhx, Flx, Fix, Vkx, Vfx, Vnx, Vhx⟩, Erx, Fsx, Fgx, Fmx, Fqx⟩ := S0
  obtain ⟨D_o0fa, D_o0na, D_o0ha, D_rbo0, D_rbfa, D_rbna, D_rbha, D_kco0, D_kcfa, D_kcna, D_kcha, D_fana, D_faha, D_naha, D_rbkc, G_o0, G_fa, G_na, G_ha⟩ := D0
  show own_Out p e below _ (T0.setTop (mkF m 61 #[iv p0, iv p1, iv p2, iv nn, iv nt, rv ky, rv rb, rv ix, .unset, .unset, .unset, .unset, .unset] []))
  refine o_aload X0 hx hby at_61 rfl rfl (q := 63) rfl ?_
  obtain ⟨cq1, kq1, q1a, q1b, q1c⟩ := isOf hZ e0 Ex
  obtain ⟨_, _, ⟨T1, L1, k1, n1⟩, -, X1, ⟨Lc1, hQ1, l1, y1, z1⟩, st1⟩ := X0.virtualBack hx (y := mn_24) (z := mn_24) hown (mvT hZ (w_ hw 104 rfl)) (mvT hZ (w_ hw 105 rfl)) (notFace_of_selects (args := #[]) (mvT hZ (w_ hw 107 rfl))) (mvT hZ (w_ hw 107 rfl)) (mvT hZ (w_ hw 106 rfl)) (by decide) (backOf (W := 0) (rm13 l Z a0 hw [] ix rb kc fa na ha LL nn v1 v2 rl h0 n0 Z0 Ex Frx Fkx Ffx Fnx Fhx Flx Fix Fgx Fmx Fqx G_o0) hZ (w_ hw 108 rfl) (w_ hw 63 rfl) (by decide) (by decide)) q1a q1c (g := (mkF m 63 #[iv p0, iv p1, iv p2, iv nn, iv nt, rv ky, rv rb, rv ix, .unset, .unset, .unset, .unset, .unset] [.ref ix])) rfl (by rw [hml]; rfl) (Steps.refl _) (argsL := []) (rest := []) (lenOf pd_0 rfl) rfl (by show 2 * 0 + _ ≤ _; exact Nat.le_of_eq rfl) (hb hby at_63) (fun _ _ => ⟨rfl, e0, (by decide : 13 + 0 ≤ _), (by decide : 133 + 0 ≤ _)⟩)
  dsimp only [Pt.U, Pt.locs, Pt.cells, Pt.slots] at X1 l1 y1 z1 st1 hQ1
  subst l1 y1 z1
  obtain ⟨rfl, N1q, K1, E1, F1_rows, F1_keyColumns, F1_firstInBucket, F1_nextInBucket, F1_hashes, F1_loadLimit, F1_indexed, F1_largerFirstInBucket, F1_largerNextInBucket, F1_relinked⟩ := hQ1
  have N1 := Fr.app N0 N1q
  refine own_of (fun _ k => st1.trans k) ?_
  show own_Out p e below _ (T1.setTop (mkF m 66 #[iv p0, iv p1, iv p2, iv nn, iv nt, rv ky, rv rb, rv ix, .unset, .unset, .unset, .unset, .unset] []))
  refine o_aload X1 hx hby at_66 rfl rfl (q := 68) rfl ?_
  refine o_aconst_null X1 hx hby at_68 (q := 69) rfl ?_
  refine o_aload X1 hx hby at_69 rfl rfl (q := 71) rfl ?_
  have qz3 := (Vfx.keep K1 (ninS (Ne.symm D_o0fa) nin0))
  have qz4 := (Vhx.keep K1 (ninS (Ne.symm D_o0ha) nin0))
  have qz5 := (Vkx.keep K1 (ninS D_kco0 nin0))
  have qz6 := (Nat.le_trans Z0 K1.1)
  obtain ⟨cq2, kq2, q2a, q2b, q2c⟩ := isOf hZ rfl E1
  obtain ⟨_, _, ⟨T2, L2, k2, n2⟩, -, X2, ⟨Lc2, hQ2, l2, y2, z2⟩, st2⟩ := X1.virtualBack hx (y := mn_22) (z := mn_22) hown (mvT hZ (w_ hw 114 rfl)) (mvT hZ (w_ hw 115 rfl)) (notFace_of_selects (args := #[]) (mvT hZ (w_ hw 117 rfl))) (mvT hZ (w_ hw 117 rfl)) (mvT hZ (w_ hw 116 rfl)) (by decide) (backOf (W := 0) (rm14n16 l Z a0 hw [] ix ky fa kf (nn - (1 : Int32)) (List.replicate 15 (.int (-1))) ha kh (16 : Int32) 16 kc kk T1.heap n0 qz6 F1_firstInBucket qz3 E1 F1_hashes qz4 F1_keyColumns qz5 (own_hc hnn.1 (own_16 hnn))) hZ (w_ hw 118 rfl) (w_ hw 63 rfl) (by decide) (by decide)) q2a q2c (g := (mkF m 71 #[iv p0, iv p1, iv p2, iv nn, iv nt, rv ky, rv rb, rv ix, .unset, .unset, .unset, .unset, .unset] [.ref ky, .null, .ref ix])) rfl (by rw [hml]; rfl) (Steps.refl _) (argsL := [.null, (.ref ky)]) (rest := []) (lenOf pd_10 rfl) rfl (by show 2 * 0 + _ ≤ _; exact Nat.le_of_eq rfl) (hb hby at_71) (fun _ _ => ⟨rfl, rfl, (by decide : 13 + 0 ≤ _), (by decide : 133 + 0 ≤ _)⟩)
  dsimp only [Pt.U, Pt.locs, Pt.cells, Pt.slots] at X2 l2 y2 z2 st2 hQ2
  subst l2 y2 z2
  obtain ⟨rfl, N2q, hh2⟩ := hQ2
  have N2 := Fr.app N1 N2q
  refine own_of (fun _ k => st2.trans k) ?_
  show own_Out p e below _ (T2.setTop (mkF m 74 #[iv p0, iv p1, iv p2, iv nn, iv nt, rv ky, rv rb, rv ix, .unset, .unset, .unset, .unset, .unset] [.int (nn - (1 : Int32))]))
  refine o_iloadN X2 hx hby at_74 rfl (q := 75) rfl ?_
  refine o_iconst X2 hx hby at_75 (z := 1) rfl (q := 76) rfl ?_
  refine o_isub X2 hx hby at_76 rfl (q := 77) rfl ?_
  refine o_icN X2 hx hby at_77 (teq (rfl : (nn - (1 : Int32)) = (nn - (1 : Int32)))).2 (q := 80) rfl ?_
  refine o_iconst X2 hx hby at_80 (z := 1) rfl (q := 81) rfl ?_
  refine o_goto X2 hx hby at_81 (by decide) (q := 85) (by decide) ?_
  refine o_istore X2 hx hby at_85 (l' := #[iv p0, iv p1, iv p2, iv nn, iv nt, rv ky, rv rb, rv ix, iv 1, .unset, .unset, .unset, .unset]) rfl (q := 87) rfl ?_
  refine o_aload X2 hx hby at_87 rfl rfl (q := 89) rfl ?_
  refine o_iload X2 hx hby at_89 rfl (q := 91) rfl ?_
  have qz8 := (Erx.keep K1)
  have qz9 := (Fnb.keep K1 (ninS D_rbo0 nin0))
  have qz10 := (Fcp.keep K1 (ninS D_rbo0 nin0))
  have qz11 := (Fsx.keep K1 (ninS D_rbo0 nin0))
  have qz12 := (Vnb.keep K1 (ninS nbx nin0))
  obtain ⟨_, _, ⟨T7, L7, k7, n7⟩, -, X7, ⟨Lc7, hQ7, l7, y7, z7⟩, st7⟩ := Jvm.LawKit.callS X2 hx (y := mn_14) hown (mvT hZ (w_ hw 86 rfl)) (mvT hZ (w_ hw 87 rfl)) (mvT hZ (w_ hw 88 rfl)) (mvT hZ (w_ hw 89 rfl)) (by decide) (backOf (W := 0) (rm10s l Z a0 hw [] rb nt nb kb nn T1.heap n0 qz6 qz8 qz9 qz10 qz11 qz12 g_rb nnb hnn hnt (own_g7 hnt.2)) hZ (w_ hw 89 rfl) (w_ hw 88 rfl) (by decide) (by decide)) (g := (mkF m 91 #[iv p0, iv p1, iv p2, iv nn, iv nt, rv ky, rv rb, rv ix, iv 1, .unset, .unset, .unset, .unset] [.int nt, .ref rb])) rfl (by rw [hml]; rfl) (argsL := [(.ref rb), (.int nt)]) (rest := []) (lenOf pd_14 rfl) rfl (by show 2 * 0 + _ ≤ _; exact Nat.le_of_eq rfl) (hb hby at_91) (fun _ _ => ⟨rfl, hh2, (by decide : 13 + 0 ≤ _), (by decide : 133 + 0 ≤ _)⟩)
  dsimp only [Pt.U, Pt.locs, Pt.cells, Pt.slots] at X7 l7 y7 z7 st7 hQ7
  subst l7 y7 z7
  obtain ⟨rfl, N7q, K7, E7, Fn7, Fk7, Fs7⟩ := hQ7
  have N7 := Fr.app N2 N7q
  refine own_of st7 ?_
  show own_Out p e below _ (T7.setTop (mkF m 94 #[iv p0, iv p1, iv p2, iv nn, iv nt, rv ky, rv rb, rv ix, iv 1, .unset, .unset, .unset, .unset] []))
  refine o_aload X7 hx hby at_94 rfl rfl (q := 96) rfl ?_
  have qz14 := (E1.keep K7)
  have qz15 := (F1_rows.keep K7 (ninS (Ne.symm D_rbo0) nin0))
  have qz16 := (F1_keyColumns.keep K7 (ninS (Ne.symm D_rbo0) nin0))
  have qz17 := (F1_firstInBucket.keep K7 (ninS (Ne.symm D_rbo0) nin0))
  have qz18 := (F1_nextInBucket.keep K7 (ninS (Ne.symm D_rbo0) nin0))
  have qz19 := (F1_hashes.keep K7 (ninS (Ne.symm D_rbo0) nin0))
  have qz20 := (F1_loadLimit.keep K7 (ninS (Ne.symm D_rbo0) nin0))
  have qz21 := (F1_indexed.keep K7 (ninS (Ne.symm D_rbo0) nin0))
  have qz22 := (qz5.keep K7 (ninS (Ne.symm D_rbkc) nin0))
  have qz23 := (qz3.keep K7 (ninS (Ne.symm D_rbfa) nin0))
  have qz24 := ((Vnx.keep K1 (ninS (Ne.symm D_o0na) nin0)).keep K7 (ninS (Ne.symm D_rbna) nin0))
  have qz25 := (qz4.keep K7 (ninS (Ne.symm D_rbha) nin0))
  have qz26 := (F1_largerFirstInBucket.keep K7 (ninS (Ne.symm D_rbo0) nin0))
  have qz27 := (F1_largerNextInBucket.keep K7 (ninS (Ne.symm D_rbo0) nin0))
  have qz28 := (F1_relinked.keep K7 (ninS (Ne.symm D_rbo0) nin0))
  have qz29 := (Nat.le_trans qz6 K7.1)
  obtain ⟨cq13, kq13, q13a, q13b, q13c⟩ := isOf hZ rfl qz14
  obtain ⟨_, _, ⟨T13, L13, k13, n13⟩, -, X13, ⟨Lc13, hQ13, l13, y13, z13⟩, st13⟩ := X7.virtualBack hx (y := mn_29) (z := mn_29) hown (mvT hZ (w_ hw 90 rfl)) (mvT hZ (w_ hw 91 rfl)) (notFace_of_selects (args := #[]) (mvT hZ (w_ hw 93 rfl))) (mvT hZ (w_ hw 93 rfl)) (mvT hZ (w_ hw 92 rfl)) (by decide) (backOf (W := 0) (rm11b16 l Z a0 hw [] ix rb kc fa na ha kk kf kn kh (nn + nt) nn rl vs T7.heap n0 qz29 ⟨⟨qz14, qz15, qz16, qz17, qz18, qz19, qz20, qz21, qz22, qz23, qz24, qz25⟩, E7, Fs7, qz26, qz27, qz28⟩ ⟨D_o0fa, D_o0na, D_o0ha, D_rbo0, D_rbfa, D_rbna, D_rbha, D_kco0, D_kcfa, D_kcna, D_kcha, D_fana, D_faha, D_naha, D_rbkc, G_o0, G_fa, G_na, G_ha⟩ (own_tt hnn hnt) hlen hN) hZ (w_ hw 94 rfl) (w_ hw 63 rfl) (by decide) (by decide)) q13a q13c (g := (mkF m 96 #[iv p0, iv p1, iv p2, iv nn, iv nt, rv ky, rv rb, rv ix, iv 1, .unset, .unset, .unset, .unset] [.ref ix])) rfl (by rw [hml]; rfl) (Steps.refl _) (argsL := []) (rest := []) (lenOf pd_0 rfl) rfl (by show 2 * 0 + _ ≤ _; exact Nat.le_of_eq rfl) (hb hby at_96) (fun _ _ => ⟨rfl, rfl, (by decide : 13 + 2 ≤ _), (by decide : 133 + 64 ≤ _)⟩)
  dsimp only [Pt.U, Pt.locs, Pt.cells, Pt.slots] at X13 l13 y13 z13 st13 hQ13
  subst l13 y13 z13
  obtain ⟨na13, ha13, kn13, kh13, L_13, nl13, vs13, rfl, N13q, K13, ⟨⟨E13, Fr13, Fk13, Ff13, Fn13, Fh13, Fl13, Fi13, Vk13, Vf13, Vn13, Vh13⟩, Er13, Fs13, -, -, -⟩, hN13, hL13⟩ := hQ13
  have N13 := Fr.app N7 N13q
  refine own_of (fun _ k => st13.trans k) ?_
  show own_Out p e below _ (T13.setTop (mkF m 99 #[iv p0, iv p1, iv p2, iv nn, iv nt, rv ky, rv rb, rv ix, iv 1, .unset, .unset, .unset, .unset] []))
  refine o_iloadN X13 hx hby at_99 rfl (q := 100) rfl ?_
  refine o_iload X13 hx hby at_100 rfl (q := 102) rfl ?_
  refine o_iadd X13 hx hby at_102 rfl (q := 103) rfl ?_
  refine o_istore X13 hx hby at_103 (l' := #[iv p0, iv p1, iv p2, iv nn, iv nt, rv ky, rv rb, rv ix, iv 1, iv (nn + nt), .unset, .unset, .unset]) rfl (q := 105) rfl ?_
  refine o_aload X13 hx hby at_105 rfl rfl (q := 107) rfl ?_
  refine o_aconst_null X13 hx hby at_107 (q := 108) rfl ?_
  refine o_aload X13 hx hby at_108 rfl rfl (q := 110) rfl ?_
  have qz31 := (Nat.le_trans qz29 K13.1)
  obtain ⟨cq30, kq30, q30a, q30b, q30c⟩ := isOf hZ rfl E13
  obtain ⟨_, _, ⟨T30, L30, k30, n30⟩, -, X30, ⟨Lc30, hQ30, l30, y30, z30⟩, st30⟩ := X13.virtualBack hx (y := mn_22) (z := mn_22) hown (mvT hZ (w_ hw 114 rfl)) (mvT hZ (w_ hw 115 rfl)) (notFace_of_selects (args := #[]) (mvT hZ (w_ hw 117 rfl))) (mvT hZ (w_ hw 117 rfl)) (mvT hZ (w_ hw 116 rfl)) (by decide) (backOf (W := 0) (rm14n16 l Z a0 hw [] ix ky fa kf ((nn + nt) - (1 : Int32)) (List.replicate 15 (.int (-1))) ha13 kh13 L_13 nl13 kc kk T13.heap n0 qz31 Ff13 Vf13 E13 Fh13 Vh13 Fk13 Vk13 (own_hc (own_t0 hnn hnt) hL13)) hZ (w_ hw 118 rfl) (w_ hw 63 rfl) (by decide) (by decide)) q30a q30c (g := (mkF m 110 #[iv p0, iv p1, iv p2, iv nn, iv nt, rv ky, rv rb, rv ix, iv 1, iv (nn + nt), .unset, .unset, .unset] [.ref ky, .null, .ref ix])) rfl (by rw [hml]; rfl) (Steps.refl _) (argsL := [.null, (.ref ky)]) (rest := []) (lenOf pd_10 rfl) rfl (by show 2 * 0 + _ ≤ _; exact Nat.le_of_eq rfl) (hb hby at_110) (fun _ _ => ⟨rfl, rfl, (by decide : 15 + 0 ≤ _), (by decide : 197 + 0 ≤ _)⟩)
  dsimp only [Pt.U, Pt.locs, Pt.cells, Pt.slots] at X30 l30 y30 z30 st30 hQ30
  subst l30 y30 z30
  obtain ⟨rfl, N30q, hh30⟩ := hQ30
  have N30 := Fr.app N13 N30q
  refine own_of (fun _ k => st30.trans k) ?_
  show own_Out p e below _ (T30.setTop (mkF m 113 #[iv p0, iv p1, iv p2, iv nn, iv nt, rv ky, rv rb, rv ix, iv 1, iv (nn + nt), .unset, .unset, .unset] [.int ((nn + nt) - (1 : Int32))]))
  refine o_iload X30 hx hby at_113 rfl (q := 115) rfl ?_
  refine o_iconst X30 hx hby at_115 (z := 1) rfl (q := 116) rfl ?_
  refine o_isub X30 hx hby at_116 rfl (q := 117) rfl ?_
  refine o_icN X30 hx hby at_117 (teq (rfl : ((nn + nt) - (1 : Int32)) = ((nn + nt) - (1 : Int32)))).2 (q := 120) rfl ?_
  refine o_iconst X30 hx hby at_120 (z := 1) rfl (q := 121) rfl ?_
  refine o_goto X30 hx hby at_121 (by decide) (q := 125) (by decide) ?_
  refine o_istore X30 hx hby at_125 (l' := #[iv p0, iv p1, iv p2, iv nn, iv nt, rv ky, rv rb, rv ix, iv 1, iv (nn + nt), iv 1, .unset, .unset]) rfl (q := 127) rfl ?_
  refine o_iconst X30 hx hby at_127 (z := 1) rfl (q := 128) rfl ?_
  refine o_istore X30 hx hby at_128 (l' := #[iv p0, iv p1, iv p2, iv nn, iv nt, rv ky, rv rb, rv ix, iv 1, iv (nn + nt), iv 1, iv 1, .unset]) rfl (q := 130) rfl ?_
  refine o_iload X30 hx hby at_130 rfl (q := 132) rfl ?_
  by_cases hc132_32 : (0 : Int32) < (nn + nt)
  · skip
    refine o_ifN X30 hx hby at_132 ((if0 _ _).trans (tlt hc132_32).2.2.2) (q := 135) rfl ?_
    refine o_iloadN X30 hx hby at_135 rfl (q := 136) rfl ?_
    refine o_ldcI X30 hx hZ hown hby (w_ hw 164 rfl) at_136 (q := 138) rfl ?_
    refine o_iand X30 hx hby at_138 rfl (q := 139) rfl ?_
    refine o_iload X30 hx hby at_139 rfl (q := 141) rfl ?_
    refine o_irem X30 hx hby at_141 (own_nz hc132_32) (q := 142) rfl ?_
    refine o_istore X30 hx hby at_142 (l' := #[iv p0, iv p1, iv p2, iv nn, iv nt, rv ky, rv rb, rv ix, iv 1, iv (nn + nt), iv 1, iv 1, iv ((p2 &&& (2147483647 : Int32)) % (nn + nt))]) rfl (q := 144) rfl ?_
    refine o_aload X30 hx hby at_144 rfl rfl (q := 146) rfl ?_
    refine o_iload X30 hx hby at_146 rfl (q := 148) rfl ?_
    refine o_aconst_null X30 hx hby at_148 (q := 149) rfl ?_
    refine o_aload X30 hx hby at_149 rfl rfl (q := 151) rfl ?_
    obtain ⟨cq33, kq33, q33a, q33b, q33c⟩ := isOf hZ hh30 E13
    obtain ⟨_, _, ⟨T33, L33, k33, n33⟩, -, X33, ⟨Lc33, hQ33, l33, y33, z33⟩, st33⟩ := X30.virtualBack hx (y := mn_23) (z := mn_23) hown (mvT hZ (w_ hw 165 rfl)) (mvT hZ (w_ hw 166 rfl)) (notFace_of_selects (args := #[]) (mvT hZ (w_ hw 168 rfl))) (mvT hZ (w_ hw 168 rfl)) (mvT hZ (w_ hw 167 rfl)) (by decide) (backOf (W := 0) (rm26 l Z a0 hw [] ix ((p2 &&& (2147483647 : Int32)) % (nn + nt)) ky na13 kn13 vs13 ha13 kh13 L_13 nl13 kc kk T13.heap n0 qz31 Fn13 Vn13 E13 Fh13 Vh13 Fk13 Vk13 (own_kj hc132_32 hL13) (hN13 _ (own_kk hc132_32).1 (own_kk hc132_32).2)) hZ (w_ hw 169 rfl) (w_ hw 63 rfl) (by decide) (by decide)) q33a q33c (g := (mkF m 151 #[iv p0, iv p1, iv p2, iv nn, iv nt, rv ky, rv rb, rv ix, iv 1, iv (nn + nt), iv 1, iv 1, iv ((p2 &&& (2147483647 : Int32)) % (nn + nt))] [.ref ky, .null, .int ((p2 &&& (2147483647 : Int32)) % (nn + nt)), .ref ix])) rfl (by rw [hml]; rfl) (Steps.refl _) (argsL := [(.int ((p2 &&& (2147483647 : Int32)) % (nn + nt))), .null, (.ref ky)]) (rest := []) (lenOf pd_15 rfl) rfl (by show 2 * 0 + _ ≤ _; exact Nat.le_of_eq rfl) (hb hby at_151) (fun _ _ => ⟨rfl, hh30, (by decide : 15 + 0 ≤ _), (by decide : 197 + 0 ≤ _)⟩)
    dsimp only [Pt.U, Pt.locs, Pt.cells, Pt.slots] at X33 l33 y33 z33 st33 hQ33
    subst l33 y33 z33
    obtain ⟨rfl, N33q, hh33⟩ := hQ33
    have N33 := Fr.app N30 N33q
    refine own_of (fun _ k => st33.trans k) ?_
    show own_Out p e below _ (T33.setTop (mkF m 154 #[iv p0, iv p1, iv p2, iv nn, iv nt, rv ky, rv rb, rv ix, iv 1, iv (nn + nt), iv 1, iv 1, iv ((p2 &&& (2147483647 : Int32)) % (nn + nt))] [.int (((p2 &&& (2147483647 : Int32)) % (nn + nt)) - (1 : Int32))]))
    refine o_iload X33 hx hby at_154 rfl (q := 156) rfl ?_
    refine o_iconst X33 hx hby at_156 (z := 1) rfl (q := 157) rfl ?_
    refine o_isub X33 hx hby at_157 rfl (q := 158) rfl ?_
    refine o_icN X33 hx hby at_158 (teq (rfl : (((p2 &&& (2147483647 : Int32)) % (nn + nt)) - (1 : Int32)) = (((p2 &&& (2147483647 : Int32)) % (nn + nt)) - (1 : Int32)))).2 (q := 161) rfl ?_
    refine o_iconst X33 hx hby at_161 (z := 1) rfl (q := 162) rfl ?_
    refine o_goto X33 hx hby at_162 (by decide) (q := 166) (by decide) ?_
    refine o_istore X33 hx hby at_166 (l' := #[iv p0, iv p1, iv p2, iv nn, iv nt, rv ky, rv rb, rv ix, iv 1, iv (nn + nt), iv 1, iv 1, iv ((p2 &&& (2147483647 : Int32)) % (nn + nt))]) rfl (q := 168) rfl ?_
    refine o_iload X33 hx hby at_168 rfl (q := 170) rfl ?_
    refine o_ifN X33 hx hby at_170 ((if0 _ _).trans (feq (by decide : ¬ ((1 : Int32) = (0 : Int32)))).1) (q := 173) rfl ?_
    refine o_iload X33 hx hby at_173 rfl (q := 175) rfl ?_
    refine o_ifN X33 hx hby at_175 ((if0 _ _).trans (feq (by decide : ¬ ((1 : Int32) = (0 : Int32)))).1) (q := 178) rfl ?_
    refine o_iload X33 hx hby at_178 rfl (q := 180) rfl ?_
    refine o_ifN X33 hx hby at_180 ((if0 _ _).trans (feq (by decide : ¬ ((1 : Int32) = (0 : Int32)))).1) (q := 183) rfl ?_
    refine o_aload X33 hx hby at_183 rfl rfl (q := 185) rfl ?_
    obtain ⟨cq34, kq34, q34a, q34b, q34c⟩ := isOf hZ hh33 Er13
    obtain ⟨_, _, ⟨T34, L34, k34, n34⟩, -, X34, ⟨Lc34, hQ34, l34, y34, z34⟩, st34⟩ := X33.virtualBack hx (y := mn_9) (z := mn_9) hown (mvT hZ (w_ hw 170 rfl)) (mvT hZ (w_ hw 98 rfl)) (notFace_of_selects (args := #[]) (mvT hZ (w_ hw 100 rfl))) (mvT hZ (w_ hw 100 rfl)) (mvT hZ (w_ hw 99 rfl)) (by decide) (backOf (W := 0) (rm12 l Z a0 hw [] rb (nn + nt) T13.heap n0 qz31 Fs13) hZ (w_ hw 101 rfl) (w_ hw 3 rfl) (by decide) (by decide)) q34a q34c (g := (mkF m 185 #[iv p0, iv p1, iv p2, iv nn, iv nt, rv ky, rv rb, rv ix, iv 1, iv (nn + nt), iv 1, iv 1, iv ((p2 &&& (2147483647 : Int32)) % (nn + nt))] [.ref rb])) rfl (by rw [hml]; rfl) (Steps.refl _) (argsL := []) (rest := []) (lenOf pd_1 rfl) rfl (by show 2 * 0 + _ ≤ _; exact Nat.le_of_eq rfl) (hb hby at_185) (fun _ _ => ⟨rfl, hh33, (by decide : 15 + 0 ≤ _), (by decide : 197 + 0 ≤ _)⟩)
    dsimp only [Pt.U, Pt.locs, Pt.cells, Pt.slots] at X34 l34 y34 z34 st34 hQ34
    subst l34 y34 z34
    obtain ⟨rfl, N34q, hh34⟩ := hQ34
    have N34 := Fr.app N33 N34q
    refine own_of (fun _ k => st34.trans k) ?_
    show own_Out p e below _ (T34.setTop (mkF m 188 #[iv p0, iv p1, iv p2, iv nn, iv nt, rv ky, rv rb, rv ix, iv 1, iv (nn + nt), iv 1, iv 1, iv ((p2 &&& (2147483647 : Int32)) % (nn + nt))] [.int (nn + nt)]))
    refine o_iload X34 hx hby at_188 rfl (q := 190) rfl ?_
    refine o_icN X34 hx hby at_190 (teq (rfl : (nn + nt) = (nn + nt))).2 (q := 193) rfl ?_
    refine o_iconst X34 hx hby at_193 (z := 1) rfl (q := 194) rfl ?_
    refine o_goto X34 hx hby at_194 (by decide) (q := 198) (by decide) ?_
    exact own_outN X34 hx hlk (t := .boolean) hret (by simp) (hb hby at_198) (z' := (1 : Int32)) rfl (Q := Q) (hQ _ _ N34) (by decide) (by decide)
  · skip
    refine o_ifY X30 hx hby at_132 ((if0 _ _).trans (flt hc132_32).2.2.2) (by decide) (q := 168) (by decide) ?_
    refine o_iload X30 hx hby at_168 rfl (q := 170) rfl ?_
    refine o_ifN X30 hx hby at_170 ((if0 _ _).trans (feq (by decide : ¬ ((1 : Int32) = (0 : Int32)))).1) (q := 173) rfl ?_
    refine o_iload X30 hx hby at_173 rfl (q := 175) rfl ?_
    refine o_ifN X30 hx hby at_175 ((if0 _ _).trans (feq (by decide : ¬ ((1 : Int32) = (0 : Int32)))).1) (q := 178) rfl ?_
    refine o_iload X30 hx hby at_178 rfl (q := 180) rfl ?_
    refine o_ifN X30 hx hby at_180 ((if0 _ _).trans (feq (by decide : ¬ ((1 : Int32) = (0 : Int32)))).1) (q := 183) rfl ?_
    refine o_aload X30 hx hby at_183 rfl rfl (q := 185) rfl ?_
    obtain ⟨cq35, kq35, q35a, q35b, q35c⟩ := isOf hZ hh30 Er13
    obtain ⟨_, _, ⟨T35, L35, k35, n35⟩, -, X35, ⟨Lc35, hQ35, l35, y35, z35⟩, st35⟩ := X30.virtualBack hx (y := mn_9) (z := mn_9) hown (mvT hZ (w_ hw 170 rfl)) (mvT hZ (w_ hw 98 rfl)) (notFace_of_selects (args := #[]) (mvT hZ (w_ hw 100 rfl))) (mvT hZ (w_ hw 100 rfl)) (mvT hZ (w_ hw 99 rfl)) (by decide) (backOf (W := 0) (rm12 l Z a0 hw [] rb (nn + nt) T13.heap n0 qz31 Fs13) hZ (w_ hw 101 rfl) (w_ hw 3 rfl) (by decide) (by decide)) q35a q35c (g := (mkF m 185 #[iv p0, iv p1, iv p2, iv nn, iv nt, rv ky, rv rb, rv ix, iv 1, iv (nn + nt), iv 1, iv 1, .unset] [.ref rb])) rfl (by rw [hml]; rfl) (Steps.refl _) (argsL := []) (rest := []) (lenOf pd_1 rfl) rfl (by show 2 * 0 + _ ≤ _; exact Nat.le_of_eq rfl) (hb hby at_185) (fun _ _ => ⟨rfl, hh30, (by decide : 15 + 0 ≤ _), (by decide : 197 + 0 ≤ _)⟩)
    dsimp only [Pt.U, Pt.locs, Pt.cells, Pt.slots] at X35 l35 y35 z35 st35 hQ35
    subst l35 y35 z35
    obtain ⟨rfl, N35q, hh35⟩ := hQ35
    have N35 := Fr.app N30 N35q
    refine own_of (fun _ k => st35.trans k) ?_
    show own_Out p e below _ (T35.setTop (mkF m 188 #[iv p0, iv p1, iv p2, iv nn, iv nt, rv ky, rv rb, rv ix, iv 1, iv (nn + nt), iv 1, iv 1, .unset] [.int (nn + nt)]))
    refine o_iload X35 hx hby at_188 rfl (q := 190) rfl ?_
    refine o_icN X35 hx hby at_190 (teq (rfl : (nn + nt) = (nn + nt))).2 (q := 193) rfl ?_
    refine o_iconst X35 hx hby at_193 (z := 1) rfl (q := 194) rfl ?_
    refine o_goto X35 hx hby at_194 (by decide) (q := 198) (by decide) ?_
    exact own_outN X35 hx hlk (t := .boolean) hret (by simp) (hb hby at_198) (z' := (1 : Int32)) rfl (Q := Q) (hQ _ _ N35) (by decide) (by decide)
set_option maxRecDepth 65536 in
set_option maxHeartbeats 40000000 in
theorem sg61_32z {p : Program} {l : Launch} {e : Env} {s : State} {m : MethodId} {args : Array Value} {below : List Frame} {meth : Method} {c : Code} {T0 : State} {locs : List Loc} {Z : State} {a0 : Array Value} {Q : Option Value → Heap → List Loc → Prop} (p0 p1 p2 nn nt : Int32) (ky rb ix kc fa na ha nb : Addr) (kk kf kn kh kb : ClassId) (LL rl : Int32) (v1 : Value) (v2 : Value) (vs : List Value) (h0 : Heap) (n0 : Nat)
    (X0 : Stand p l e room_1 s m args below meth c T0 locs 13 133) (hx : p.tables.exec = Jvm.exec) (hZ : Z.Warmed39 s.vm) (hw : ∀ d ∈ tables_1, d.before a0 Z = true) (hby : c.code = code) (hml : c.maxLocals = 13) (hown : s.vm.findClass "com/example/headway/headway/engine/HashIndexStopGrowingPinLaw" = some m.cls) (hret : meth.sig.returnType = ret) (hlk : meth.locks = false)
    (hQ : ∀ h L, Fr n0 L → Q (some (.int 1)) h L) (e0 : T0.heap = h0) (Z0 : n0 ≤ h0.size) (N0 : Fr n0 locs) (S0 : SX Z h0 ix rb kc fa na ha kk kf kn kh (32 : Int32) 16 nn LL nn 31 16 vs v1 v2 rl) (D0 : NE ix rb kc fa na ha n0) (hlen : vs.length = 16) (hN : NX nn vs) (hnn : 0 ≤ nn.toInt ∧ nn.toInt ≤ 15) (hnt : 0 ≤ nt.toInt ∧ nt.toInt ≤ 7) (Fnb : Fld Z h0 rb "com/example/headway/headway/engine/RowBuffer" "numbers" "[[J" (.ref nb)) (Fcp : Fld Z h0 rb "com/example/headway/headway/engine/RowBuffer" "capacity" "I" (.int 0)) (Vnb : Arv Z h0 nb kb (.array .long) (0 : Int32) [] .null) (g_rb : n0 ≤ rb) (nnb : nb ≠ rb) (nbx : nb ≠ ix) (Fdb : Fld Z h0 rb "com/example/headway/headway/engine/RowBuffer" "doubles" "Z" (.int 1)) (hz : nn = (0 : Int32)) :
    own_Out p e below (fun o U' => ∃ v L, o = .returned v ∧ Q v U'.heap L ∧ FrameEnd s o U' L 40 448) (T0.setTop (mkF m 61 #[.val (.int p0), .val (.int p1), .val (.int p2), .val (.int nn), .val (.int nt), .val (.ref ky), .val (.ref rb), .val (.ref ix), .unset, .unset, .unset, .unset, .unset] [])) := by
  obtain ⟨⟨Ex, Frx, Fkx, Ffx, Fnx, Fhx, Flx, Fix, Vkx, Vfx, Vnx, Vhx⟩, Erx, Fsx, Fgx, Fmx, Fqx⟩ := S0
  obtain ⟨D_o0fa, D_o0na, D_o0ha, D_rbo0, D_rbfa, D_rbna, D_rbha, D_kco0, D_kcfa, D_kcna, D_kcha, D_fana, D_faha, D_naha, D_rbkc, G_o0, G_fa, G_na, G_ha⟩ := D0
  show own_Out p e below _ (T0.setTop (mkF m 61 #[iv p0, iv p1, iv p2, iv nn, iv nt, rv ky, rv rb, rv ix, .unset, .unset, .unset, .unset, .unset] []))
  refine o_aload X0 hx hby at_61 rfl rfl (q := 63) rfl ?_
  obtain ⟨cq1, kq1, q1a, q1b, q1c⟩ := isOf hZ e0 Ex
  obtain ⟨_, _, ⟨T1, L1, k1, n1⟩, -, X1, ⟨Lc1, hQ1, l1, y1, z1⟩, st1⟩ := X0.virtualBack hx (y := mn_24) (z := mn_24) hown (mvT hZ (w_ hw 104 rfl)) (mvT hZ (w_ hw 105 rfl)) (notFace_of_selects (args := #[]) (mvT hZ (w_ hw 107 rfl))) (mvT hZ (w_ hw 107 rfl)) (mvT hZ (w_ hw 106 rfl)) (by decide) (backOf (W := 0) (rm13 l Z a0 hw [] ix rb kc fa na ha LL nn v1 v2 rl h0 n0 Z0 Ex Frx Fkx Ffx Fnx Fhx Flx Fix Fgx Fmx Fqx G_o0) hZ (w_ hw 108 rfl) (w_ hw 63 rfl) (by decide) (by decide)) q1a q1c (g := (mkF m 63 #[iv p0, iv p1, iv p2, iv nn, iv nt, rv ky, rv rb, rv ix, .unset, .unset, .unset, .unset, .unset] [.ref ix])) rfl (by rw [hml]; rfl) (Steps.refl _) (argsL := []) (rest := []) (lenOf pd_0 rfl) rfl (by show 2 * 0 + _ ≤ _; exact Nat.le_of_eq rfl) (hb hby at_63) (fun _ _ => ⟨rfl, e0, (by decide : 13 + 0 ≤ _), (by decide : 133 + 0 ≤ _)⟩)
  dsimp only [Pt.U, Pt.locs, Pt.cells, Pt.slots] at X1 l1 y1 z1 st1 hQ1
  subst l1 y1 z1
  obtain ⟨rfl, N1q, K1, E1, F1_rows, F1_keyColumns, F1_firstInBucket, F1_nextInBucket, F1_hashes, F1_loadLimit, F1_indexed, F1_largerFirstInBucket, F1_largerNextInBucket, F1_relinked⟩ := hQ1
  have N1 := Fr.app N0 N1q
  refine own_of (fun _ k => st1.trans k) ?_
  show own_Out p e below _ (T1.setTop (mkF m 66 #[iv p0, iv p1, iv p2, iv nn, iv nt, rv ky, rv rb, rv ix, .unset, .unset, .unset, .unset, .unset] []))
  refine o_aload X1 hx hby at_66 rfl rfl (q := 68) rfl ?_
  refine o_aconst_null X1 hx hby at_68 (q := 69) rfl ?_
  refine o_aload X1 hx hby at_69 rfl rfl (q := 71) rfl ?_
  have qz3 := (Vfx.keep K1 (ninS (Ne.symm D_o0fa) nin0))
  have qz4 := (Vhx.keep K1 (ninS (Ne.symm D_o0ha) nin0))
  have qz5 := (Vkx.keep K1 (ninS D_kco0 nin0))
  have qz6 := (Nat.le_trans Z0 K1.1)
  obtain ⟨cq2, kq2, q2a, q2b, q2c⟩ := isOf hZ rfl E1
  obtain ⟨_, _, ⟨T2, L2, k2, n2⟩, -, X2, ⟨Lc2, hQ2, l2, y2, z2⟩, st2⟩ := X1.virtualBack hx (y := mn_22) (z := mn_22) hown (mvT hZ (w_ hw 114 rfl)) (mvT hZ (w_ hw 115 rfl)) (notFace_of_selects (args := #[]) (mvT hZ (w_ hw 117 rfl))) (mvT hZ (w_ hw 117 rfl)) (mvT hZ (w_ hw 116 rfl)) (by decide) (backOf (W := 0) (rm14n32 l Z a0 hw [] ix ky fa kf (nn - (1 : Int32)) (List.replicate 31 (.int (-1))) ha kh (16 : Int32) 16 kc kk T1.heap n0 qz6 F1_firstInBucket qz3 E1 F1_hashes qz4 F1_keyColumns qz5 (own_hc hnn.1 (own_16 hnn))) hZ (w_ hw 118 rfl) (w_ hw 63 rfl) (by decide) (by decide)) q2a q2c (g := (mkF m 71 #[iv p0, iv p1, iv p2, iv nn, iv nt, rv ky, rv rb, rv ix, .unset, .unset, .unset, .unset, .unset] [.ref ky, .null, .ref ix])) rfl (by rw [hml]; rfl) (Steps.refl _) (argsL := [.null, (.ref ky)]) (rest := []) (lenOf pd_10 rfl) rfl (by show 2 * 0 + _ ≤ _; exact Nat.le_of_eq rfl) (hb hby at_71) (fun _ _ => ⟨rfl, rfl, (by decide : 13 + 0 ≤ _), (by decide : 133 + 0 ≤ _)⟩)
  dsimp only [Pt.U, Pt.locs, Pt.cells, Pt.slots] at X2 l2 y2 z2 st2 hQ2
  subst l2 y2 z2
  obtain ⟨rfl, N2q, hh2⟩ := hQ2
  have N2 := Fr.app N1 N2q
  refine own_of (fun _ k => st2.trans k) ?_
  show own_Out p e below _ (T2.setTop (mkF m 74 #[iv p0, iv p1, iv p2, iv nn, iv nt, rv ky, rv rb, rv ix, .unset, .unset, .unset, .unset, .unset] [.int (nn - (1 : Int32))]))
  refine o_iloadN X2 hx hby at_74 rfl (q := 75) rfl ?_
  refine o_iconst X2 hx hby at_75 (z := 1) rfl (q := 76) rfl ?_
  refine o_isub X2 hx hby at_76 rfl (q := 77) rfl ?_
  refine o_icN X2 hx hby at_77 (teq (rfl : (nn - (1 : Int32)) = (nn - (1 : Int32)))).2 (q := 80) rfl ?_
  refine o_iconst X2 hx hby at_80 (z := 1) rfl (q := 81) rfl ?_
  refine o_goto X2 hx hby at_81 (by decide) (q := 85) (by decide) ?_
  refine o_istore X2 hx hby at_85 (l' := #[iv p0, iv p1, iv p2, iv nn, iv nt, rv ky, rv rb, rv ix, iv 1, .unset, .unset, .unset, .unset]) rfl (q := 87) rfl ?_
  refine o_aload X2 hx hby at_87 rfl rfl (q := 89) rfl ?_
  refine o_iload X2 hx hby at_89 rfl (q := 91) rfl ?_
  have qz7 := (Fsx.keep K1 (ninS D_rbo0 nin0))
  have Fz8 : Fld Z T1.heap rb "com/example/headway/headway/engine/RowBuffer" "size" "I" (.int 0) := by have q := qz7; rw [hz] at q; exact q
  by_cases hc91_9 : nt = (0 : Int32)
  · skip
    obtain ⟨_, _, ⟨T10, L10, k10, n10⟩, -, X10, ⟨Lc10, hQ10, l10, y10, z10⟩, st10⟩ := Jvm.LawKit.callS X2 hx (y := mn_14) hown (mvT hZ (w_ hw 86 rfl)) (mvT hZ (w_ hw 87 rfl)) (mvT hZ (w_ hw 88 rfl)) (mvT hZ (w_ hw 89 rfl)) (by decide) (backOf (W := 0) (rm10n l Z a0 hw [] rb nt T1.heap n0 qz6 hc91_9) hZ (w_ hw 89 rfl) (w_ hw 88 rfl) (by decide) (by decide)) (g := (mkF m 91 #[iv p0, iv p1, iv p2, iv nn, iv nt, rv ky, rv rb, rv ix, iv 1, .unset, .unset, .unset, .unset] [.int nt, .ref rb])) rfl (by rw [hml]; rfl) (argsL := [(.ref rb), (.int nt)]) (rest := []) (lenOf pd_14 rfl) rfl (by show 2 * 0 + _ ≤ _; exact Nat.le_of_eq rfl) (hb hby at_91) (fun _ _ => ⟨rfl, hh2, (by decide : 13 + 0 ≤ _), (by decide : 133 + 0 ≤ _)⟩)
    dsimp only [Pt.U, Pt.locs, Pt.cells, Pt.slots] at X10 l10 y10 z10 st10 hQ10
    subst l10 y10 z10
    obtain ⟨rfl, N10q, hh10⟩ := hQ10
    have N10 := Fr.app N2 N10q
    refine own_of st10 ?_
    show own_Out p e below _ (T10.setTop (mkF m 94 #[iv p0, iv p1, iv p2, iv nn, iv nt, rv ky, rv rb, rv ix, iv 1, .unset, .unset, .unset, .unset] []))
    have Fy11 : Fld Z T1.heap rb "com/example/headway/headway/engine/RowBuffer" "size" "I" (.int (nn + nt)) := by rw [hz, hc91_9]; exact Fz8
    refine o_aload X10 hx hby at_94 rfl rfl (q := 96) rfl ?_
    have qz13 := (Vnx.keep K1 (ninS (Ne.symm D_o0na) nin0))
    have qz14 := (Erx.keep K1)
    obtain ⟨cq12, kq12, q12a, q12b, q12c⟩ := isOf hZ hh10 E1
    obtain ⟨_, _, ⟨T12, L12, k12, n12⟩, -, X12, ⟨Lc12, hQ12, l12, y12, z12⟩, st12⟩ := X10.virtualBack hx (y := mn_29) (z := mn_29) hown (mvT hZ (w_ hw 90 rfl)) (mvT hZ (w_ hw 91 rfl)) (notFace_of_selects (args := #[]) (mvT hZ (w_ hw 93 rfl))) (mvT hZ (w_ hw 93 rfl)) (mvT hZ (w_ hw 92 rfl)) (by decide) (backOf (W := 0) (rm11b32 l Z a0 hw [] ix rb kc fa na ha kk kf kn kh (nn + nt) nn rl vs T1.heap n0 qz6 ⟨⟨E1, F1_rows, F1_keyColumns, F1_firstInBucket, F1_nextInBucket, F1_hashes, F1_loadLimit, F1_indexed, qz5, qz3, qz13, qz4⟩, qz14, Fy11, F1_largerFirstInBucket, F1_largerNextInBucket, F1_relinked⟩ ⟨D_o0fa, D_o0na, D_o0ha, D_rbo0, D_rbfa, D_rbna, D_rbha, D_kco0, D_kcfa, D_kcna, D_kcha, D_fana, D_faha, D_naha, D_rbkc, G_o0, G_fa, G_na, G_ha⟩ (own_tt hnn hnt) hlen hN) hZ (w_ hw 94 rfl) (w_ hw 63 rfl) (by decide) (by decide)) q12a q12c (g := (mkF m 96 #[iv p0, iv p1, iv p2, iv nn, iv nt, rv ky, rv rb, rv ix, iv 1, .unset, .unset, .unset, .unset] [.ref ix])) rfl (by rw [hml]; rfl) (Steps.refl _) (argsL := []) (rest := []) (lenOf pd_0 rfl) rfl (by show 2 * 0 + _ ≤ _; exact Nat.le_of_eq rfl) (hb hby at_96) (fun _ _ => ⟨rfl, hh10, (by decide : 13 + 2 ≤ _), (by decide : 133 + 64 ≤ _)⟩)
    dsimp only [Pt.U, Pt.locs, Pt.cells, Pt.slots] at X12 l12 y12 z12 st12 hQ12
    subst l12 y12 z12
    obtain ⟨na12, ha12, kn12, kh12, L_12, nl12, vs12, rfl, N12q, K12, ⟨⟨E12, Fr12, Fk12, Ff12, Fn12, Fh12, Fl12, Fi12, Vk12, Vf12, Vn12, Vh12⟩, Er12, Fs12, -, -, -⟩, hN12, hL12⟩ := hQ12
    have N12 := Fr.app N10 N12q
    refine own_of (fun _ k => st12.trans k) ?_
    show own_Out p e below _ (T12.setTop (mkF m 99 #[iv p0, iv p1, iv p2, iv nn, iv nt, rv ky, rv rb, rv ix, iv 1, .unset, .unset, .unset, .unset] []))
    refine o_iloadN X12 hx hby at_99 rfl (q := 100) rfl ?_
    refine o_iload X12 hx hby at_100 rfl (q := 102) rfl ?_
    refine o_iadd X12 hx hby at_102 rfl (q := 103) rfl ?_
    refine o_istore X12 hx hby at_103 (l' := #[iv p0, iv p1, iv p2, iv nn, iv nt, rv ky, rv rb, rv ix, iv 1, iv (nn + nt), .unset, .unset, .unset]) rfl (q := 105) rfl ?_
    refine o_aload X12 hx hby at_105 rfl rfl (q := 107) rfl ?_
    refine o_aconst_null X12 hx hby at_107 (q := 108) rfl ?_
    refine o_aload X12 hx hby at_108 rfl rfl (q := 110) rfl ?_
    have qz16 := (Nat.le_trans qz6 K12.1)
    obtain ⟨cq15, kq15, q15a, q15b, q15c⟩ := isOf hZ rfl E12
    obtain ⟨_, _, ⟨T15, L15, k15, n15⟩, -, X15, ⟨Lc15, hQ15, l15, y15, z15⟩, st15⟩ := X12.virtualBack hx (y := mn_22) (z := mn_22) hown (mvT hZ (w_ hw 114 rfl)) (mvT hZ (w_ hw 115 rfl)) (notFace_of_selects (args := #[]) (mvT hZ (w_ hw 117 rfl))) (mvT hZ (w_ hw 117 rfl)) (mvT hZ (w_ hw 116 rfl)) (by decide) (backOf (W := 0) (rm14n32 l Z a0 hw [] ix ky fa kf ((nn + nt) - (1 : Int32)) (List.replicate 31 (.int (-1))) ha12 kh12 L_12 nl12 kc kk T12.heap n0 qz16 Ff12 Vf12 E12 Fh12 Vh12 Fk12 Vk12 (own_hc (own_t0 hnn hnt) hL12)) hZ (w_ hw 118 rfl) (w_ hw 63 rfl) (by decide) (by decide)) q15a q15c (g := (mkF m 110 #[iv p0, iv p1, iv p2, iv nn, iv nt, rv ky, rv rb, rv ix, iv 1, iv (nn + nt), .unset, .unset, .unset] [.ref ky, .null, .ref ix])) rfl (by rw [hml]; rfl) (Steps.refl _) (argsL := [.null, (.ref ky)]) (rest := []) (lenOf pd_10 rfl) rfl (by show 2 * 0 + _ ≤ _; exact Nat.le_of_eq rfl) (hb hby at_110) (fun _ _ => ⟨rfl, rfl, (by decide : 15 + 0 ≤ _), (by decide : 197 + 0 ≤ _)⟩)
    dsimp only [Pt.U, Pt.locs, Pt.cells, Pt.slots] at X15 l15 y15 z15 st15 hQ15
    subst l15 y15 z15
    obtain ⟨rfl, N15q, hh15⟩ := hQ15
    have N15 := Fr.app N12 N15q
    refine own_of (fun _ k => st15.trans k) ?_
    show own_Out p e below _ (T15.setTop (mkF m 113 #[iv p0, iv p1, iv p2, iv nn, iv nt, rv ky, rv rb, rv ix, iv 1, iv (nn + nt), .unset, .unset, .unset] [.int ((nn + nt) - (1 : Int32))]))
    refine o_iload X15 hx hby at_113 rfl (q := 115) rfl ?_
    refine o_iconst X15 hx hby at_115 (z := 1) rfl (q := 116) rfl ?_
    refine o_isub X15 hx hby at_116 rfl (q := 117) rfl ?_
    refine o_icN X15 hx hby at_117 (teq (rfl : ((nn + nt) - (1 : Int32)) = ((nn + nt) - (1 : Int32)))).2 (q := 120) rfl ?_
    refine o_iconst X15 hx hby at_120 (z := 1) rfl (q := 121) rfl ?_
    refine o_goto X15 hx hby at_121 (by decide) (q := 125) (by decide) ?_
    refine o_istore X15 hx hby at_125 (l' := #[iv p0, iv p1, iv p2, iv nn, iv nt, rv ky, rv rb, rv ix, iv 1, iv (nn + nt), iv 1, .unset, .unset]) rfl (q := 127) rfl ?_
    refine o_iconst X15 hx hby at_127 (z := 1) rfl (q := 128) rfl ?_
    refine o_istore X15 hx hby at_128 (l' := #[iv p0, iv p1, iv p2, iv nn, iv nt, rv ky, rv rb, rv ix, iv 1, iv (nn + nt), iv 1, iv 1, .unset]) rfl (q := 130) rfl ?_
    refine o_iload X15 hx hby at_130 rfl (q := 132) rfl ?_
    by_cases hc132_17 : (0 : Int32) < (nn + nt)
    · skip
      refine o_ifN X15 hx hby at_132 ((if0 _ _).trans (tlt hc132_17).2.2.2) (q := 135) rfl ?_
      refine o_iloadN X15 hx hby at_135 rfl (q := 136) rfl ?_
      refine o_ldcI X15 hx hZ hown hby (w_ hw 164 rfl) at_136 (q := 138) rfl ?_
      refine o_iand X15 hx hby at_138 rfl (q := 139) rfl ?_
      refine o_iload X15 hx hby at_139 rfl (q := 141) rfl ?_
      refine o_irem X15 hx hby at_141 (own_nz hc132_17) (q := 142) rfl ?_
      refine o_istore X15 hx hby at_142 (l' := #[iv p0, iv p1, iv p2, iv nn, iv nt, rv ky, rv rb, rv ix, iv 1, iv (nn + nt), iv 1, iv 1, iv ((p2 &&& (2147483647 : Int32)) % (nn + nt))]) rfl (q := 144) rfl ?_
      refine o_aload X15 hx hby at_144 rfl rfl (q := 146) rfl ?_
      refine o_iload X15 hx hby at_146 rfl (q := 148) rfl ?_
      refine o_aconst_null X15 hx hby at_148 (q := 149) rfl ?_
      refine o_aload X15 hx hby at_149 rfl rfl (q := 151) rfl ?_
      obtain ⟨cq18, kq18, q18a, q18b, q18c⟩ := isOf hZ hh15 E12
      obtain ⟨_, _, ⟨T18, L18, k18, n18⟩, -, X18, ⟨Lc18, hQ18, l18, y18, z18⟩, st18⟩ := X15.virtualBack hx (y := mn_23) (z := mn_23) hown (mvT hZ (w_ hw 165 rfl)) (mvT hZ (w_ hw 166 rfl)) (notFace_of_selects (args := #[]) (mvT hZ (w_ hw 168 rfl))) (mvT hZ (w_ hw 168 rfl)) (mvT hZ (w_ hw 167 rfl)) (by decide) (backOf (W := 0) (rm26 l Z a0 hw [] ix ((p2 &&& (2147483647 : Int32)) % (nn + nt)) ky na12 kn12 vs12 ha12 kh12 L_12 nl12 kc kk T12.heap n0 qz16 Fn12 Vn12 E12 Fh12 Vh12 Fk12 Vk12 (own_kj hc132_17 hL12) (hN12 _ (own_kk hc132_17).1 (own_kk hc132_17).2)) hZ (w_ hw 169 rfl) (w_ hw 63 rfl) (by decide) (by decide)) q18a q18c (g := (mkF m 151 #[iv p0, iv p1, iv p2, iv nn, iv nt, rv ky, rv rb, rv ix, iv 1, iv (nn + nt), iv 1, iv 1, iv ((p2 &&& (2147483647 : Int32)) % (nn + nt))] [.ref ky, .null, .int ((p2 &&& (2147483647 : Int32)) % (nn + nt)), .ref ix])) rfl (by rw [hml]; rfl) (Steps.refl _) (argsL := [(.int ((p2 &&& (2147483647 : Int32)) % (nn + nt))), .null, (.ref ky)]) (rest := []) (lenOf pd_15 rfl) rfl (by show 2 * 0 + _ ≤ _; exact Nat.le_of_eq rfl) (hb hby at_151) (fun _ _ => ⟨rfl, hh15, (by decide : 15 + 0 ≤ _), (by decide : 197 + 0 ≤ _)⟩)
      dsimp only [Pt.U, Pt.locs, Pt.cells, Pt.slots] at X18 l18 y18 z18 st18 hQ18
      subst l18 y18 z18
      obtain ⟨rfl, N18q, hh18⟩ := hQ18
      have N18 := Fr.app N15 N18q
      refine own_of (fun _ k => st18.trans k) ?_
      show own_Out p e below _ (T18.setTop (mkF m 154 #[iv p0, iv p1, iv p2, iv nn, iv nt, rv ky, rv rb, rv ix, iv 1, iv (nn + nt), iv 1, iv 1, iv ((p2 &&& (2147483647 : Int32)) % (nn + nt))] [.int (((p2 &&& (2147483647 : Int32)) % (nn + nt)) - (1 : Int32))]))
      refine o_iload X18 hx hby at_154 rfl (q := 156) rfl ?_
      refine o_iconst X18 hx hby at_156 (z := 1) rfl (q := 157) rfl ?_
      refine o_isub X18 hx hby at_157 rfl (q := 158) rfl ?_
      refine o_icN X18 hx hby at_158 (teq (rfl : (((p2 &&& (2147483647 : Int32)) % (nn + nt)) - (1 : Int32)) = (((p2 &&& (2147483647 : Int32)) % (nn + nt)) - (1 : Int32)))).2 (q := 161) rfl ?_
      refine o_iconst X18 hx hby at_161 (z := 1) rfl (q := 162) rfl ?_
      refine o_goto X18 hx hby at_162 (by decide) (q := 166) (by decide) ?_
      refine o_istore X18 hx hby at_166 (l' := #[iv p0, iv p1, iv p2, iv nn, iv nt, rv ky, rv rb, rv ix, iv 1, iv (nn + nt), iv 1, iv 1, iv ((p2 &&& (2147483647 : Int32)) % (nn + nt))]) rfl (q := 168) rfl ?_
      refine o_iload X18 hx hby at_168 rfl (q := 170) rfl ?_
      refine o_ifN X18 hx hby at_170 ((if0 _ _).trans (feq (by decide : ¬ ((1 : Int32) = (0 : Int32)))).1) (q := 173) rfl ?_
      refine o_iload X18 hx hby at_173 rfl (q := 175) rfl ?_
      refine o_ifN X18 hx hby at_175 ((if0 _ _).trans (feq (by decide : ¬ ((1 : Int32) = (0 : Int32)))).1) (q := 178) rfl ?_
      refine o_iload X18 hx hby at_178 rfl (q := 180) rfl ?_
      refine o_ifN X18 hx hby at_180 ((if0 _ _).trans (feq (by decide : ¬ ((1 : Int32) = (0 : Int32)))).1) (q := 183) rfl ?_
      refine o_aload X18 hx hby at_183 rfl rfl (q := 185) rfl ?_
      obtain ⟨cq19, kq19, q19a, q19b, q19c⟩ := isOf hZ hh18 Er12
      obtain ⟨_, _, ⟨T19, L19, k19, n19⟩, -, X19, ⟨Lc19, hQ19, l19, y19, z19⟩, st19⟩ := X18.virtualBack hx (y := mn_9) (z := mn_9) hown (mvT hZ (w_ hw 170 rfl)) (mvT hZ (w_ hw 98 rfl)) (notFace_of_selects (args := #[]) (mvT hZ (w_ hw 100 rfl))) (mvT hZ (w_ hw 100 rfl)) (mvT hZ (w_ hw 99 rfl)) (by decide) (backOf (W := 0) (rm12 l Z a0 hw [] rb (nn + nt) T12.heap n0 qz16 Fs12) hZ (w_ hw 101 rfl) (w_ hw 3 rfl) (by decide) (by decide)) q19a q19c (g := (mkF m 185 #[iv p0, iv p1, iv p2, iv nn, iv nt, rv ky, rv rb, rv ix, iv 1, iv (nn + nt), iv 1, iv 1, iv ((p2 &&& (2147483647 : Int32)) % (nn + nt))] [.ref rb])) rfl (by rw [hml]; rfl) (Steps.refl _) (argsL := []) (rest := []) (lenOf pd_1 rfl) rfl (by show 2 * 0 + _ ≤ _; exact Nat.le_of_eq rfl) (hb hby at_185) (fun _ _ => ⟨rfl, hh18, (by decide : 15 + 0 ≤ _), (by decide : 197 + 0 ≤ _)⟩)
      dsimp only [Pt.U, Pt.locs, Pt.cells, Pt.slots] at X19 l19 y19 z19 st19 hQ19
      subst l19 y19 z19
      obtain ⟨rfl, N19q, hh19⟩ := hQ19
      have N19 := Fr.app N18 N19q
      refine own_of (fun _ k => st19.trans k) ?_
      show own_Out p e below _ (T19.setTop (mkF m 188 #[iv p0, iv p1, iv p2, iv nn, iv nt, rv ky, rv rb, rv ix, iv 1, iv (nn + nt), iv 1, iv 1, iv ((p2 &&& (2147483647 : Int32)) % (nn + nt))] [.int (nn + nt)]))
      refine o_iload X19 hx hby at_188 rfl (q := 190) rfl ?_
      refine o_icN X19 hx hby at_190 (teq (rfl : (nn + nt) = (nn + nt))).2 (q := 193) rfl ?_
      refine o_iconst X19 hx hby at_193 (z := 1) rfl (q := 194) rfl ?_
      refine o_goto X19 hx hby at_194 (by decide) (q := 198) (by decide) ?_
      exact own_outN X19 hx hlk (t := .boolean) hret (by simp) (hb hby at_198) (z' := (1 : Int32)) rfl (Q := Q) (hQ _ _ N19) (by decide) (by decide)
    · skip
      refine o_ifY X15 hx hby at_132 ((if0 _ _).trans (flt hc132_17).2.2.2) (by decide) (q := 168) (by decide) ?_
      refine o_iload X15 hx hby at_168 rfl (q := 170) rfl ?_
      refine o_ifN X15 hx hby at_170 ((if0 _ _).trans (feq (by decide : ¬ ((1 : Int32) = (0 : Int32)))).1) (q := 173) rfl ?_
      refine o_iload X15 hx hby at_173 rfl (q := 175) rfl ?_
      refine o_ifN X15 hx hby at_175 ((if0 _ _).trans (feq (by decide : ¬ ((1 : Int32) = (0 : Int32)))).1) (q := 178) rfl ?_
      refine o_iload X15 hx hby at_178 rfl (q := 180) rfl ?_
      refine o_ifN X15 hx hby at_180 ((if0 _ _).trans (feq (by decide : ¬ ((1 : Int32) = (0 : Int32)))).1) (q := 183) rfl ?_
      refine o_aload X15 hx hby at_183 rfl rfl (q := 185) rfl ?_
      obtain ⟨cq20, kq20, q20a, q20b, q20c⟩ := isOf hZ hh15 Er12
      obtain ⟨_, _, ⟨T20, L20, k20, n20⟩, -, X20, ⟨Lc20, hQ20, l20, y20, z20⟩, st20⟩ := X15.virtualBack hx (y := mn_9) (z := mn_9) hown (mvT hZ (w_ hw 170 rfl)) (mvT hZ (w_ hw 98 rfl)) (notFace_of_selects (args := #[]) (mvT hZ (w_ hw 100 rfl))) (mvT hZ (w_ hw 100 rfl)) (mvT hZ (w_ hw 99 rfl)) (by decide) (backOf (W := 0) (rm12 l Z a0 hw [] rb (nn + nt) T12.heap n0 qz16 Fs12) hZ (w_ hw 101 rfl) (w_ hw 3 rfl) (by decide) (by decide)) q20a q20c (g := (mkF m 185 #[iv p0, iv p1, iv p2, iv nn, iv nt, rv ky, rv rb, rv ix, iv 1, iv (nn + nt), iv 1, iv 1, .unset] [.ref rb])) rfl (by rw [hml]; rfl) (Steps.refl _) (argsL := []) (rest := []) (lenOf pd_1 rfl) rfl (by show 2 * 0 + _ ≤ _; exact Nat.le_of_eq rfl) (hb hby at_185) (fun _ _ => ⟨rfl, hh15, (by decide : 15 + 0 ≤ _), (by decide : 197 + 0 ≤ _)⟩)
      dsimp only [Pt.U, Pt.locs, Pt.cells, Pt.slots] at X20 l20 y20 z20 st20 hQ20
      subst l20 y20 z20
      obtain ⟨rfl, N20q, hh20⟩ := hQ20
      have N20 := Fr.app N15 N20q
      refine own_of (fun _ k => st20.trans k) ?_
      show own_Out p e below _ (T20.setTop (mkF m 188 #[iv p0, iv p1, iv p2, iv nn, iv nt, rv ky, rv rb, rv ix, iv 1, iv (nn + nt), iv 1, iv 1, .unset] [.int (nn + nt)]))
      refine o_iload X20 hx hby at_188 rfl (q := 190) rfl ?_
      refine o_icN X20 hx hby at_190 (teq (rfl : (nn + nt) = (nn + nt))).2 (q := 193) rfl ?_
      refine o_iconst X20 hx hby at_193 (z := 1) rfl (q := 194) rfl ?_
      refine o_goto X20 hx hby at_194 (by decide) (q := 198) (by decide) ?_
      exact own_outN X20 hx hlk (t := .boolean) hret (by simp) (hb hby at_198) (z' := (1 : Int32)) rfl (Q := Q) (hQ _ _ N20) (by decide) (by decide)
  · skip
    have qz22 := (Erx.keep K1)
    have qz23 := (Fnb.keep K1 (ninS D_rbo0 nin0))
    have qz24 := (Fcp.keep K1 (ninS D_rbo0 nin0))
    have qz25 := (Fdb.keep K1 (ninS D_rbo0 nin0))
    have qz26 := (Vnb.keep K1 (ninS nbx nin0))
    obtain ⟨_, _, ⟨T21, L21, k21, n21⟩, -, X21, ⟨Lc21, hQ21, l21, y21, z21⟩, st21⟩ := Jvm.LawKit.callS X2 hx (y := mn_14) hown (mvT hZ (w_ hw 86 rfl)) (mvT hZ (w_ hw 87 rfl)) (mvT hZ (w_ hw 88 rfl)) (mvT hZ (w_ hw 89 rfl)) (by decide) (backOf (W := 0) (rm10z l Z a0 hw [] rb nt nb kb T1.heap n0 qz6 qz22 qz23 qz24 Fz8 qz25 qz26 g_rb nnb (own_g15 (Int.le_trans hnt.2 (by decide))) (own_ps hnt.1 hc91_9)) hZ (w_ hw 89 rfl) (w_ hw 88 rfl) (by decide) (by decide)) (g := (mkF m 91 #[iv p0, iv p1, iv p2, iv nn, iv nt, rv ky, rv rb, rv ix, iv 1, .unset, .unset, .unset, .unset] [.int nt, .ref rb])) rfl (by rw [hml]; rfl) (argsL := [(.ref rb), (.int nt)]) (rest := []) (lenOf pd_14 rfl) rfl (by show 2 * 0 + _ ≤ _; exact Nat.le_of_eq rfl) (hb hby at_91) (fun _ _ => ⟨rfl, hh2, (by decide : 13 + 0 ≤ _), (by decide : 133 + 0 ≤ _)⟩)
    dsimp only [Pt.U, Pt.locs, Pt.cells, Pt.slots] at X21 l21 y21 z21 st21 hQ21
    subst l21 y21 z21
    obtain ⟨rfl, N21q, K21, E21, Fn21, Fk21, Fs21⟩ := hQ21
    have N21 := Fr.app N2 N21q
    refine own_of st21 ?_
    show own_Out p e below _ (T21.setTop (mkF m 94 #[iv p0, iv p1, iv p2, iv nn, iv nt, rv ky, rv rb, rv ix, iv 1, .unset, .unset, .unset, .unset] []))
    have Fy27 : Fld Z T21.heap rb "com/example/headway/headway/engine/RowBuffer" "size" "I" (.int (nn + nt)) := by rw [hz, Int32.zero_add]; exact Fs21
    refine o_aload X21 hx hby at_94 rfl rfl (q := 96) rfl ?_
    have qz29 := (E1.keep K21)
    have qz30 := (F1_rows.keep K21 (ninS (Ne.symm D_rbo0) nin0))
    have qz31 := (F1_keyColumns.keep K21 (ninS (Ne.symm D_rbo0) nin0))
    have qz32 := (F1_firstInBucket.keep K21 (ninS (Ne.symm D_rbo0) nin0))
    have qz33 := (F1_nextInBucket.keep K21 (ninS (Ne.symm D_rbo0) nin0))
    have qz34 := (F1_hashes.keep K21 (ninS (Ne.symm D_rbo0) nin0))
    have qz35 := (F1_loadLimit.keep K21 (ninS (Ne.symm D_rbo0) nin0))
    have qz36 := (F1_indexed.keep K21 (ninS (Ne.symm D_rbo0) nin0))
    have qz37 := (qz5.keep K21 (ninS (Ne.symm D_rbkc) nin0))
    have qz38 := (qz3.keep K21 (ninS (Ne.symm D_rbfa) nin0))
    have qz39 := ((Vnx.keep K1 (ninS (Ne.symm D_o0na) nin0)).keep K21 (ninS (Ne.symm D_rbna) nin0))
    have qz40 := (qz4.keep K21 (ninS (Ne.symm D_rbha) nin0))
    have qz41 := (F1_largerFirstInBucket.keep K21 (ninS (Ne.symm D_rbo0) nin0))
    have qz42 := (F1_largerNextInBucket.keep K21 (ninS (Ne.symm D_rbo0) nin0))
    have qz43 := (F1_relinked.keep K21 (ninS (Ne.symm D_rbo0) nin0))
    have qz44 := (Nat.le_trans qz6 K21.1)
    obtain ⟨cq28, kq28, q28a, q28b, q28c⟩ := isOf hZ rfl qz29
    obtain ⟨_, _, ⟨T28, L28, k28, n28⟩, -, X28, ⟨Lc28, hQ28, l28, y28, z28⟩, st28⟩ := X21.virtualBack hx (y := mn_29) (z := mn_29) hown (mvT hZ (w_ hw 90 rfl)) (mvT hZ (w_ hw 91 rfl)) (notFace_of_selects (args := #[]) (mvT hZ (w_ hw 93 rfl))) (mvT hZ (w_ hw 93 rfl)) (mvT hZ (w_ hw 92 rfl)) (by decide) (backOf (W := 0) (rm11b32 l Z a0 hw [] ix rb kc fa na ha kk kf kn kh (nn + nt) nn rl vs T21.heap n0 qz44 ⟨⟨qz29, qz30, qz31, qz32, qz33, qz34, qz35, qz36, qz37, qz38, qz39, qz40⟩, E21, Fy27, qz41, qz42, qz43⟩ ⟨D_o0fa, D_o0na, D_o0ha, D_rbo0, D_rbfa, D_rbna, D_rbha, D_kco0, D_kcfa, D_kcna, D_kcha, D_fana, D_faha, D_naha, D_rbkc, G_o0, G_fa, G_na, G_ha⟩ (own_tt hnn hnt) hlen hN) hZ (w_ hw 94 rfl) (w_ hw 63 rfl) (by decide) (by decide)) q28a q28c (g := (mkF m 96 #[iv p0, iv p1, iv p2, iv nn, iv nt, rv ky, rv rb, rv ix, iv 1, .unset, .unset, .unset, .unset] [.ref ix])) rfl (by rw [hml]; rfl) (Steps.refl _) (argsL := []) (rest := []) (lenOf pd_0 rfl) rfl (by show 2 * 0 + _ ≤ _; exact Nat.le_of_eq rfl) (hb hby at_96) (fun _ _ => ⟨rfl, rfl, (by decide : 13 + 2 ≤ _), (by decide : 133 + 64 ≤ _)⟩)
    dsimp only [Pt.U, Pt.locs, Pt.cells, Pt.slots] at X28 l28 y28 z28 st28 hQ28
    subst l28 y28 z28
    obtain ⟨na28, ha28, kn28, kh28, L_28, nl28, vs28, rfl, N28q, K28, ⟨⟨E28, Fr28, Fk28, Ff28, Fn28, Fh28, Fl28, Fi28, Vk28, Vf28, Vn28, Vh28⟩, Er28, Fs28, -, -, -⟩, hN28, hL28⟩ := hQ28
    have N28 := Fr.app N21 N28q
    refine own_of (fun _ k => st28.trans k) ?_
    show own_Out p e below _ (T28.setTop (mkF m 99 #[iv p0, iv p1, iv p2, iv nn, iv nt, rv ky, rv rb, rv ix, iv 1, .unset, .unset, .unset, .unset] []))
    refine o_iloadN X28 hx hby at_99 rfl (q := 100) rfl ?_
    refine o_iload X28 hx hby at_100 rfl (q := 102) rfl ?_
    refine o_iadd X28 hx hby at_102 rfl (q := 103) rfl ?_
    refine o_istore X28 hx hby at_103 (l' := #[iv p0, iv p1, iv p2, iv nn, iv nt, rv ky, rv rb, rv ix, iv 1, iv (nn + nt), .unset, .unset, .unset]) rfl (q := 105) rfl ?_
    refine o_aload X28 hx hby at_105 rfl rfl (q := 107) rfl ?_
    refine o_aconst_null X28 hx hby at_107 (q := 108) rfl ?_
    refine o_aload X28 hx hby at_108 rfl rfl (q := 110) rfl ?_
    have qz46 := (Nat.le_trans qz44 K28.1)
    obtain ⟨cq45, kq45, q45a, q45b, q45c⟩ := isOf hZ rfl E28
    obtain ⟨_, _, ⟨T45, L45, k45, n45⟩, -, X45, ⟨Lc45, hQ45, l45, y45, z45⟩, st45⟩ := X28.virtualBack hx (y := mn_22) (z := mn_22) hown (mvT hZ (w_ hw 114 rfl)) (mvT hZ (w_ hw 115 rfl)) (notFace_of_selects (args := #[]) (mvT hZ (w_ hw 117 rfl))) (mvT hZ (w_ hw 117 rfl)) (mvT hZ (w_ hw 116 rfl)) (by decide) (backOf (W := 0) (rm14n32 l Z a0 hw [] ix ky fa kf ((nn + nt) - (1 : Int32)) (List.replicate 31 (.int (-1))) ha28 kh28 L_28 nl28 kc kk T28.heap n0 qz46 Ff28 Vf28 E28 Fh28 Vh28 Fk28 Vk28 (own_hc (own_t0 hnn hnt) hL28)) hZ (w_ hw 118 rfl) (w_ hw 63 rfl) (by decide) (by decide)) q45a q45c (g := (mkF m 110 #[iv p0, iv p1, iv p2, iv nn, iv nt, rv ky, rv rb, rv ix, iv 1, iv (nn + nt), .unset, .unset, .unset] [.ref ky, .null, .ref ix])) rfl (by rw [hml]; rfl) (Steps.refl _) (argsL := [.null, (.ref ky)]) (rest := []) (lenOf pd_10 rfl) rfl (by show 2 * 0 + _ ≤ _; exact Nat.le_of_eq rfl) (hb hby at_110) (fun _ _ => ⟨rfl, rfl, (by decide : 15 + 0 ≤ _), (by decide : 197 + 0 ≤ _)⟩)
    dsimp only [Pt.U, Pt.locs, Pt.cells, Pt.slots] at X45 l45 y45 z45 st45 hQ45
    subst l45 y45 z45
    obtain ⟨rfl, N45q, hh45⟩ := hQ45
    have N45 := Fr.app N28 N45q
    refine own_of (fun _ k => st45.trans k) ?_
    show own_Out p e below _ (T45.setTop (mkF m 113 #[iv p0, iv p1, iv p2, iv nn, iv nt, rv ky, rv rb, rv ix, iv 1, iv (nn + nt), .unset, .unset, .unset] [.int ((nn + nt) - (1 : Int32))]))
    refine o_iload X45 hx hby at_113 rfl (q := 115) rfl ?_
    refine o_iconst X45 hx hby at_115 (z := 1) rfl (q := 116) rfl ?_
    refine o_isub X45 hx hby at_116 rfl (q := 117) rfl ?_
    refine o_icN X45 hx hby at_117 (teq (rfl : ((nn + nt) - (1 : Int32)) = ((nn + nt) - (1 : Int32)))).2 (q := 120) rfl ?_
    refine o_iconst X45 hx hby at_120 (z := 1) rfl (q := 121) rfl ?_
    refine o_goto X45 hx hby at_121 (by decide) (q := 125) (by decide) ?_
    refine o_istore X45 hx hby at_125 (l' := #[iv p0, iv p1, iv p2, iv nn, iv nt, rv ky, rv rb, rv ix, iv 1, iv (nn + nt), iv 1, .unset, .unset]) rfl (q := 127) rfl ?_
    refine o_iconst X45 hx hby at_127 (z := 1) rfl (q := 128) rfl ?_
    refine o_istore X45 hx hby at_128 (l' := #[iv p0, iv p1, iv p2, iv nn, iv nt, rv ky, rv rb, rv ix, iv 1, iv (nn + nt), iv 1, iv 1, .unset]) rfl (q := 130) rfl ?_
    refine o_iload X45 hx hby at_130 rfl (q := 132) rfl ?_
    by_cases hc132_47 : (0 : Int32) < (nn + nt)
    · skip
      refine o_ifN X45 hx hby at_132 ((if0 _ _).trans (tlt hc132_47).2.2.2) (q := 135) rfl ?_
      refine o_iloadN X45 hx hby at_135 rfl (q := 136) rfl ?_
      refine o_ldcI X45 hx hZ hown hby (w_ hw 164 rfl) at_136 (q := 138) rfl ?_
      refine o_iand X45 hx hby at_138 rfl (q := 139) rfl ?_
      refine o_iload X45 hx hby at_139 rfl (q := 141) rfl ?_
      refine o_irem X45 hx hby at_141 (own_nz hc132_47) (q := 142) rfl ?_
      refine o_istore X45 hx hby at_142 (l' := #[iv p0, iv p1, iv p2, iv nn, iv nt, rv ky, rv rb, rv ix, iv 1, iv (nn + nt), iv 1, iv 1, iv ((p2 &&& (2147483647 : Int32)) % (nn + nt))]) rfl (q := 144) rfl ?_
      refine o_aload X45 hx hby at_144 rfl rfl (q := 146) rfl ?_
      refine o_iload X45 hx hby at_146 rfl (q := 148) rfl ?_
      refine o_aconst_null X45 hx hby at_148 (q := 149) rfl ?_
      refine o_aload X45 hx hby at_149 rfl rfl (q := 151) rfl ?_
      obtain ⟨cq48, kq48, q48a, q48b, q48c⟩ := isOf hZ hh45 E28
      obtain ⟨_, _, ⟨T48, L48, k48, n48⟩, -, X48, ⟨Lc48, hQ48, l48, y48, z48⟩, st48⟩ := X45.virtualBack hx (y := mn_23) (z := mn_23) hown (mvT hZ (w_ hw 165 rfl)) (mvT hZ (w_ hw 166 rfl)) (notFace_of_selects (args := #[]) (mvT hZ (w_ hw 168 rfl))) (mvT hZ (w_ hw 168 rfl)) (mvT hZ (w_ hw 167 rfl)) (by decide) (backOf (W := 0) (rm26 l Z a0 hw [] ix ((p2 &&& (2147483647 : Int32)) % (nn + nt)) ky na28 kn28 vs28 ha28 kh28 L_28 nl28 kc kk T28.heap n0 qz46 Fn28 Vn28 E28 Fh28 Vh28 Fk28 Vk28 (own_kj hc132_47 hL28) (hN28 _ (own_kk hc132_47).1 (own_kk hc132_47).2)) hZ (w_ hw 169 rfl) (w_ hw 63 rfl) (by decide) (by decide)) q48a q48c (g := (mkF m 151 #[iv p0, iv p1, iv p2, iv nn, iv nt, rv ky, rv rb, rv ix, iv 1, iv (nn + nt), iv 1, iv 1, iv ((p2 &&& (2147483647 : Int32)) % (nn + nt))] [.ref ky, .null, .int ((p2 &&& (2147483647 : Int32)) % (nn + nt)), .ref ix])) rfl (by rw [hml]; rfl) (Steps.refl _) (argsL := [(.int ((p2 &&& (2147483647 : Int32)) % (nn + nt))), .null, (.ref ky)]) (rest := []) (lenOf pd_15 rfl) rfl (by show 2 * 0 + _ ≤ _; exact Nat.le_of_eq rfl) (hb hby at_151) (fun _ _ => ⟨rfl, hh45, (by decide : 15 + 0 ≤ _), (by decide : 197 + 0 ≤ _)⟩)
      dsimp only [Pt.U, Pt.locs, Pt.cells, Pt.slots] at X48 l48 y48 z48 st48 hQ48
      subst l48 y48 z48
      obtain ⟨rfl, N48q, hh48⟩ := hQ48
      have N48 := Fr.app N45 N48q
      refine own_of (fun _ k => st48.trans k) ?_
      show own_Out p e below _ (T48.setTop (mkF m 154 #[iv p0, iv p1, iv p2, iv nn, iv nt, rv ky, rv rb, rv ix, iv 1, iv (nn + nt), iv 1, iv 1, iv ((p2 &&& (2147483647 : Int32)) % (nn + nt))] [.int (((p2 &&& (2147483647 : Int32)) % (nn + nt)) - (1 : Int32))]))
      refine o_iload X48 hx hby at_154 rfl (q := 156) rfl ?_
      refine o_iconst X48 hx hby at_156 (z := 1) rfl (q := 157) rfl ?_
      refine o_isub X48 hx hby at_157 rfl (q := 158) rfl ?_
      refine o_icN X48 hx hby at_158 (teq (rfl : (((p2 &&& (2147483647 : Int32)) % (nn + nt)) - (1 : Int32)) = (((p2 &&& (2147483647 : Int32)) % (nn + nt)) - (1 : Int32)))).2 (q := 161) rfl ?_
      refine o_iconst X48 hx hby at_161 (z := 1) rfl (q := 162) rfl ?_
      refine o_goto X48 hx hby at_162 (by decide) (q := 166) (by decide) ?_
      refine o_istore X48 hx hby at_166 (l' := #[iv p0, iv p1, iv p2, iv nn, iv nt, rv ky, rv rb, rv ix, iv 1, iv (nn + nt), iv 1, iv 1, iv ((p2 &&& (2147483647 : Int32)) % (nn + nt))]) rfl (q := 168) rfl ?_
      refine o_iload X48 hx hby at_168 rfl (q := 170) rfl ?_
      refine o_ifN X48 hx hby at_170 ((if0 _ _).trans (feq (by decide : ¬ ((1 : Int32) = (0 : Int32)))).1) (q := 173) rfl ?_
      refine o_iload X48 hx hby at_173 rfl (q := 175) rfl ?_
      refine o_ifN X48 hx hby at_175 ((if0 _ _).trans (feq (by decide : ¬ ((1 : Int32) = (0 : Int32)))).1) (q := 178) rfl ?_
      refine o_iload X48 hx hby at_178 rfl (q := 180) rfl ?_
      refine o_ifN X48 hx hby at_180 ((if0 _ _).trans (feq (by decide : ¬ ((1 : Int32) = (0 : Int32)))).1) (q := 183) rfl ?_
      refine o_aload X48 hx hby at_183 rfl rfl (q := 185) rfl ?_
      obtain ⟨cq49, kq49, q49a, q49b, q49c⟩ := isOf hZ hh48 Er28
      obtain ⟨_, _, ⟨T49, L49, k49, n49⟩, -, X49, ⟨Lc49, hQ49, l49, y49, z49⟩, st49⟩ := X48.virtualBack hx (y := mn_9) (z := mn_9) hown (mvT hZ (w_ hw 170 rfl)) (mvT hZ (w_ hw 98 rfl)) (notFace_of_selects (args := #[]) (mvT hZ (w_ hw 100 rfl))) (mvT hZ (w_ hw 100 rfl)) (mvT hZ (w_ hw 99 rfl)) (by decide) (backOf (W := 0) (rm12 l Z a0 hw [] rb (nn + nt) T28.heap n0 qz46 Fs28) hZ (w_ hw 101 rfl) (w_ hw 3 rfl) (by decide) (by decide)) q49a q49c (g := (mkF m 185 #[iv p0, iv p1, iv p2, iv nn, iv nt, rv ky, rv rb, rv ix, iv 1, iv (nn + nt), iv 1, iv 1, iv ((p2 &&& (2147483647 : Int32)) % (nn + nt))] [.ref rb])) rfl (by rw [hml]; rfl) (Steps.refl _) (argsL := []) (rest := []) (lenOf pd_1 rfl) rfl (by show 2 * 0 + _ ≤ _; exact Nat.le_of_eq rfl) (hb hby at_185) (fun _ _ => ⟨rfl, hh48, (by decide : 15 + 0 ≤ _), (by decide : 197 + 0 ≤ _)⟩)
      dsimp only [Pt.U, Pt.locs, Pt.cells, Pt.slots] at X49 l49 y49 z49 st49 hQ49
      subst l49 y49 z49
      obtain ⟨rfl, N49q, hh49⟩ := hQ49
      have N49 := Fr.app N48 N49q
      refine own_of (fun _ k => st49.trans k) ?_
      show own_Out p e below _ (T49.setTop (mkF m 188 #[iv p0, iv p1, iv p2, iv nn, iv nt, rv ky, rv rb, rv ix, iv 1, iv (nn + nt), iv 1, iv 1, iv ((p2 &&& (2147483647 : Int32)) % (nn + nt))] [.int (nn + nt)]))
      refine o_iload X49 hx hby at_188 rfl (q := 190) rfl ?_
      refine o_icN X49 hx hby at_190 (teq (rfl : (nn + nt) = (nn + nt))).2 (q := 193) rfl ?_
      refine o_iconst X49 hx hby at_193 (z := 1) rfl (q := 194) rfl ?_
      refine o_goto X49 hx hby at_194 (by decide) (q := 198) (by decide) ?_
      exact own_outN X49 hx hlk (t := .boolean) hret (by simp) (hb hby at_198) (z' := (1 : Int32)) rfl (Q := Q) (hQ _ _ N49) (by decide) (by decide)
    · skip
      refine o_ifY X45 hx hby at_132 ((if0 _ _).trans (flt hc132_47).2.2.2) (by decide) (q := 168) (by decide) ?_
      refine o_iload X45 hx hby at_168 rfl (q := 170) rfl ?_
      refine o_ifN X45 hx hby at_170 ((if0 _ _).trans (feq (by decide : ¬ ((1 : Int32) = (0 : Int32)))).1) (q := 173) rfl ?_
      refine o_iload X45 hx hby at_173 rfl (q := 175) rfl ?_
      refine o_ifN X45 hx hby at_175 ((if0 _ _).trans (feq (by decide : ¬ ((1 : Int32) = (0 : Int32)))).1) (q := 178) rfl ?_
      refine o_iload X45 hx hby at_178 rfl (q := 180) rfl ?_
      refine o_ifN X45 hx hby at_180 ((if0 _ _).trans (feq (by decide : ¬ ((1 : Int32) = (0 : Int32)))).1) (q := 183) rfl ?_
      refine o_aload X45 hx hby at_183 rfl rfl (q := 185) rfl ?_
      obtain ⟨cq50, kq50, q50a, q50b, q50c⟩ := isOf hZ hh45 Er28
      obtain ⟨_, _, ⟨T50, L50, k50, n50⟩, -, X50, ⟨Lc50, hQ50, l50, y50, z50⟩, st50⟩ := X45.virtualBack hx (y := mn_9) (z := mn_9) hown (mvT hZ (w_ hw 170 rfl)) (mvT hZ (w_ hw 98 rfl)) (notFace_of_selects (args := #[]) (mvT hZ (w_ hw 100 rfl))) (mvT hZ (w_ hw 100 rfl)) (mvT hZ (w_ hw 99 rfl)) (by decide) (backOf (W := 0) (rm12 l Z a0 hw [] rb (nn + nt) T28.heap n0 qz46 Fs28) hZ (w_ hw 101 rfl) (w_ hw 3 rfl) (by decide) (by decide)) q50a q50c (g := (mkF m 185 #[iv p0, iv p1, iv p2, iv nn, iv nt, rv ky, rv rb, rv ix, iv 1, iv (nn + nt), iv 1, iv 1, .unset] [.ref rb])) rfl (by rw [hml]; rfl) (Steps.refl _) (argsL := []) (rest := []) (lenOf pd_1 rfl) rfl (by show 2 * 0 + _ ≤ _; exact Nat.le_of_eq rfl) (hb hby at_185) (fun _ _ => ⟨rfl, hh45, (by decide : 15 + 0 ≤ _), (by decide : 197 + 0 ≤ _)⟩)
      dsimp only [Pt.U, Pt.locs, Pt.cells, Pt.slots] at X50 l50 y50 z50 st50 hQ50
      subst l50 y50 z50
      obtain ⟨rfl, N50q, hh50⟩ := hQ50
      have N50 := Fr.app N45 N50q
      refine own_of (fun _ k => st50.trans k) ?_
      show own_Out p e below _ (T50.setTop (mkF m 188 #[iv p0, iv p1, iv p2, iv nn, iv nt, rv ky, rv rb, rv ix, iv 1, iv (nn + nt), iv 1, iv 1, .unset] [.int (nn + nt)]))
      refine o_iload X50 hx hby at_188 rfl (q := 190) rfl ?_
      refine o_icN X50 hx hby at_190 (teq (rfl : (nn + nt) = (nn + nt))).2 (q := 193) rfl ?_
      refine o_iconst X50 hx hby at_193 (z := 1) rfl (q := 194) rfl ?_
      refine o_goto X50 hx hby at_194 (by decide) (q := 198) (by decide) ?_
      exact own_outN X50 hx hlk (t := .boolean) hret (by simp) (hb hby at_198) (z' := (1 : Int32)) rfl (Q := Q) (hQ _ _ N50) (by decide) (by decide)
set_option maxRecDepth 65536 in
set_option maxHeartbeats 40000000 in
theorem sg61_32p {p : Program} {l : Launch} {e : Env} {s : State} {m : MethodId} {args : Array Value} {below : List Frame} {meth : Method} {c : Code} {T0 : State} {locs : List Loc} {Z : State} {a0 : Array Value} {Q : Option Value → Heap → List Loc → Prop} (p0 p1 p2 nn nt : Int32) (ky rb ix kc fa na ha nb : Addr) (kk kf kn kh kb : ClassId) (LL rl : Int32) (v1 : Value) (v2 : Value) (vs : List Value) (h0 : Heap) (n0 : Nat)
    (X0 : Stand p l e room_1 s m args below meth c T0 locs 13 133) (hx : p.tables.exec = Jvm.exec) (hZ : Z.Warmed39 s.vm) (hw : ∀ d ∈ tables_1, d.before a0 Z = true) (hby : c.code = code) (hml : c.maxLocals = 13) (hown : s.vm.findClass "com/example/headway/headway/engine/HashIndexStopGrowingPinLaw" = some m.cls) (hret : meth.sig.returnType = ret) (hlk : meth.locks = false)
    (hQ : ∀ h L, Fr n0 L → Q (some (.int 1)) h L) (e0 : T0.heap = h0) (Z0 : n0 ≤ h0.size) (N0 : Fr n0 locs) (S0 : SX Z h0 ix rb kc fa na ha kk kf kn kh (32 : Int32) 16 nn LL nn 31 16 vs v1 v2 rl) (D0 : NE ix rb kc fa na ha n0) (hlen : vs.length = 16) (hN : NX nn vs) (hnn : 0 ≤ nn.toInt ∧ nn.toInt ≤ 15) (hnt : 0 ≤ nt.toInt ∧ nt.toInt ≤ 7) (Fnb : Fld Z h0 rb "com/example/headway/headway/engine/RowBuffer" "numbers" "[[J" (.ref nb)) (Fcp : Fld Z h0 rb "com/example/headway/headway/engine/RowBuffer" "capacity" "I" (.int 1024)) (Vnb : Arv Z h0 nb kb (.array .long) (0 : Int32) [] .null) (g_rb : n0 ≤ rb) (nnb : nb ≠ rb) (nbx : nb ≠ ix) :
    own_Out p e below (fun o U' => ∃ v L, o = .returned v ∧ Q v U'.heap L ∧ FrameEnd s o U' L 40 448) (T0.setTop (mkF m 61 #[.val (.int p0), .val (.int p1), .val (.int p2), .val (.int nn), .val (.int nt), .val (.ref ky), .val (.ref rb), .val (.ref ix), .unset, .unset, .unset, .unset, .unset] [])) := by
  obtain ⟨⟨Ex, Frx, Fkx, Ffx, Fnx, Fhx, Flx, Fix, Vkx, Vfx, Vnx, Vhx⟩, Erx, Fsx, Fgx, Fmx, Fqx⟩ := S0
  obtain ⟨D_o0fa, D_o0na, D_o0ha, D_rbo0, D_rbfa, D_rbna, D_rbha, D_kco0, D_kcfa, D_kcna, D_kcha, D_fana, D_faha, D_naha, D_rbkc, G_o0, G_fa, G_na, G_ha⟩ := D0
  show own_Out p e below _ (T0.setTop (mkF m 61 #[iv p0, iv p1, iv p2, iv nn, iv nt, rv ky, rv rb, rv ix, .unset, .unset, .unset, .unset, .unset] []))
  refine o_aload X0 hx hby at_61 rfl rfl (q := 63) rfl ?_
  obtain ⟨cq1, kq1, q1a, q1b, q1c⟩ := isOf hZ e0 Ex
  obtain ⟨_, _, ⟨T1, L1, k1, n1⟩, -, X1, ⟨Lc1, hQ1, l1, y1, z1⟩, st1⟩ := X0.virtualBack hx (y := mn_24) (z := mn_24) hown (mvT hZ (w_ hw 104 rfl)) (mvT hZ (w_ hw 105 rfl)) (notFace_of_selects (args := #[]) (mvT hZ (w_ hw 107 rfl))) (mvT hZ (w_ hw 107 rfl)) (mvT hZ (w_ hw 106 rfl)) (by decide) (backOf (W := 0) (rm13 l Z a0 hw [] ix rb kc fa na ha LL nn v1 v2 rl h0 n0 Z0 Ex Frx Fkx Ffx Fnx Fhx Flx Fix Fgx Fmx Fqx G_o0) hZ (w_ hw 108 rfl) (w_ hw 63 rfl) (by decide) (by decide)) q1a q1c (g := (mkF m 63 #[iv p0, iv p1, iv p2, iv nn, iv nt, rv ky, rv rb, rv ix, .unset, .unset, .unset, .unset, .unset] [.ref ix])) rfl (by rw [hml]; rfl) (Steps.refl _) (argsL := []) (rest := []) (lenOf pd_0 rfl) rfl (by show 2 * 0 + _ ≤ _; exact Nat.le_of_eq rfl) (hb hby at_63) (fun _ _ => ⟨rfl, e0, (by decide : 13 + 0 ≤ _), (by decide : 133 + 0 ≤ _)⟩)
  dsimp only [Pt.U, Pt.locs, Pt.cells, Pt.slots] at X1 l1 y1 z1 st1 hQ1
  subst l1 y1 z1
  obtain ⟨rfl, N1q, K1, E1, F1_rows, F1_keyColumns, F1_firstInBucket, F1_nextInBucket, F1_hashes, F1_loadLimit, F1_indexed, F1_largerFirstInBucket, F1_largerNextInBucket, F1_relinked⟩ := hQ1
  have N1 := Fr.app N0 N1q
  refine own_of (fun _ k => st1.trans k) ?_
  show own_Out p e below _ (T1.setTop (mkF m 66 #[iv p0, iv p1, iv p2, iv nn, iv nt, rv ky, rv rb, rv ix, .unset, .unset, .unset, .unset, .unset] []))
  refine o_aload X1 hx hby at_66 rfl rfl (q := 68) rfl ?_
  refine o_aconst_null X1 hx hby at_68 (q := 69) rfl ?_
  refine o_aload X1 hx hby at_69 rfl rfl (q := 71) rfl ?_
  have qz3 := (Vfx.keep K1 (ninS (Ne.symm D_o0fa) nin0))
  have qz4 := (Vhx.keep K1 (ninS (Ne.symm D_o0ha) nin0))
  have qz5 := (Vkx.keep K1 (ninS D_kco0 nin0))
  have qz6 := (Nat.le_trans Z0 K1.1)
  obtain ⟨cq2, kq2, q2a, q2b, q2c⟩ := isOf hZ rfl E1
  obtain ⟨_, _, ⟨T2, L2, k2, n2⟩, -, X2, ⟨Lc2, hQ2, l2, y2, z2⟩, st2⟩ := X1.virtualBack hx (y := mn_22) (z := mn_22) hown (mvT hZ (w_ hw 114 rfl)) (mvT hZ (w_ hw 115 rfl)) (notFace_of_selects (args := #[]) (mvT hZ (w_ hw 117 rfl))) (mvT hZ (w_ hw 117 rfl)) (mvT hZ (w_ hw 116 rfl)) (by decide) (backOf (W := 0) (rm14n32 l Z a0 hw [] ix ky fa kf (nn - (1 : Int32)) (List.replicate 31 (.int (-1))) ha kh (16 : Int32) 16 kc kk T1.heap n0 qz6 F1_firstInBucket qz3 E1 F1_hashes qz4 F1_keyColumns qz5 (own_hc hnn.1 (own_16 hnn))) hZ (w_ hw 118 rfl) (w_ hw 63 rfl) (by decide) (by decide)) q2a q2c (g := (mkF m 71 #[iv p0, iv p1, iv p2, iv nn, iv nt, rv ky, rv rb, rv ix, .unset, .unset, .unset, .unset, .unset] [.ref ky, .null, .ref ix])) rfl (by rw [hml]; rfl) (Steps.refl _) (argsL := [.null, (.ref ky)]) (rest := []) (lenOf pd_10 rfl) rfl (by show 2 * 0 + _ ≤ _; exact Nat.le_of_eq rfl) (hb hby at_71) (fun _ _ => ⟨rfl, rfl, (by decide : 13 + 0 ≤ _), (by decide : 133 + 0 ≤ _)⟩)
  dsimp only [Pt.U, Pt.locs, Pt.cells, Pt.slots] at X2 l2 y2 z2 st2 hQ2
  subst l2 y2 z2
  obtain ⟨rfl, N2q, hh2⟩ := hQ2
  have N2 := Fr.app N1 N2q
  refine own_of (fun _ k => st2.trans k) ?_
  show own_Out p e below _ (T2.setTop (mkF m 74 #[iv p0, iv p1, iv p2, iv nn, iv nt, rv ky, rv rb, rv ix, .unset, .unset, .unset, .unset, .unset] [.int (nn - (1 : Int32))]))
  refine o_iloadN X2 hx hby at_74 rfl (q := 75) rfl ?_
  refine o_iconst X2 hx hby at_75 (z := 1) rfl (q := 76) rfl ?_
  refine o_isub X2 hx hby at_76 rfl (q := 77) rfl ?_
  refine o_icN X2 hx hby at_77 (teq (rfl : (nn - (1 : Int32)) = (nn - (1 : Int32)))).2 (q := 80) rfl ?_
  refine o_iconst X2 hx hby at_80 (z := 1) rfl (q := 81) rfl ?_
  refine o_goto X2 hx hby at_81 (by decide) (q := 85) (by decide) ?_
  refine o_istore X2 hx hby at_85 (l' := #[iv p0, iv p1, iv p2, iv nn, iv nt, rv ky, rv rb, rv ix, iv 1, .unset, .unset, .unset, .unset]) rfl (q := 87) rfl ?_
  refine o_aload X2 hx hby at_87 rfl rfl (q := 89) rfl ?_
  refine o_iload X2 hx hby at_89 rfl (q := 91) rfl ?_
  have qz8 := (Erx.keep K1)
  have qz9 := (Fnb.keep K1 (ninS D_rbo0 nin0))
  have qz10 := (Fcp.keep K1 (ninS D_rbo0 nin0))
  have qz11 := (Fsx.keep K1 (ninS D_rbo0 nin0))
  have qz12 := (Vnb.keep K1 (ninS nbx nin0))
  obtain ⟨_, _, ⟨T7, L7, k7, n7⟩, -, X7, ⟨Lc7, hQ7, l7, y7, z7⟩, st7⟩ := Jvm.LawKit.callS X2 hx (y := mn_14) hown (mvT hZ (w_ hw 86 rfl)) (mvT hZ (w_ hw 87 rfl)) (mvT hZ (w_ hw 88 rfl)) (mvT hZ (w_ hw 89 rfl)) (by decide) (backOf (W := 0) (rm10s l Z a0 hw [] rb nt nb kb nn T1.heap n0 qz6 qz8 qz9 qz10 qz11 qz12 g_rb nnb hnn hnt (own_g7 hnt.2)) hZ (w_ hw 89 rfl) (w_ hw 88 rfl) (by decide) (by decide)) (g := (mkF m 91 #[iv p0, iv p1, iv p2, iv nn, iv nt, rv ky, rv rb, rv ix, iv 1, .unset, .unset, .unset, .unset] [.int nt, .ref rb])) rfl (by rw [hml]; rfl) (argsL := [(.ref rb), (.int nt)]) (rest := []) (lenOf pd_14 rfl) rfl (by show 2 * 0 + _ ≤ _; exact Nat.le_of_eq rfl) (hb hby at_91) (fun _ _ => ⟨rfl, hh2, (by decide : 13 + 0 ≤ _), (by decide : 133 + 0 ≤ _)⟩)
  dsimp only [Pt.U, Pt.locs, Pt.cells, Pt.slots] at X7 l7 y7 z7 st7 hQ7
  subst l7 y7 z7
  obtain ⟨rfl, N7q, K7, E7, Fn7, Fk7, Fs7⟩ := hQ7
  have N7 := Fr.app N2 N7q
  refine own_of st7 ?_
  show own_Out p e below _ (T7.setTop (mkF m 94 #[iv p0, iv p1, iv p2, iv nn, iv nt, rv ky, rv rb, rv ix, iv 1, .unset, .unset, .unset, .unset] []))
  refine o_aload X7 hx hby at_94 rfl rfl (q := 96) rfl ?_
  have qz14 := (E1.keep K7)
  have qz15 := (F1_rows.keep K7 (ninS (Ne.symm D_rbo0) nin0))
  have qz16 := (F1_keyColumns.keep K7 (ninS (Ne.symm D_rbo0) nin0))
  have qz17 := (F1_firstInBucket.keep K7 (ninS (Ne.symm D_rbo0) nin0))
  have qz18 := (F1_nextInBucket.keep K7 (ninS (Ne.symm D_rbo0) nin0))
  have qz19 := (F1_hashes.keep K7 (ninS (Ne.symm D_rbo0) nin0))
  have qz20 := (F1_loadLimit.keep K7 (ninS (Ne.symm D_rbo0) nin0))
  have qz21 := (F1_indexed.keep K7 (ninS (Ne.symm D_rbo0) nin0))
  have qz22 := (qz5.keep K7 (ninS (Ne.symm D_rbkc) nin0))
  have qz23 := (qz3.keep K7 (ninS (Ne.symm D_rbfa) nin0))
  have qz24 := ((Vnx.keep K1 (ninS (Ne.symm D_o0na) nin0)).keep K7 (ninS (Ne.symm D_rbna) nin0))
  have qz25 := (qz4.keep K7 (ninS (Ne.symm D_rbha) nin0))
  have qz26 := (F1_largerFirstInBucket.keep K7 (ninS (Ne.symm D_rbo0) nin0))
  have qz27 := (F1_largerNextInBucket.keep K7 (ninS (Ne.symm D_rbo0) nin0))
  have qz28 := (F1_relinked.keep K7 (ninS (Ne.symm D_rbo0) nin0))
  have qz29 := (Nat.le_trans qz6 K7.1)
  obtain ⟨cq13, kq13, q13a, q13b, q13c⟩ := isOf hZ rfl qz14
  obtain ⟨_, _, ⟨T13, L13, k13, n13⟩, -, X13, ⟨Lc13, hQ13, l13, y13, z13⟩, st13⟩ := X7.virtualBack hx (y := mn_29) (z := mn_29) hown (mvT hZ (w_ hw 90 rfl)) (mvT hZ (w_ hw 91 rfl)) (notFace_of_selects (args := #[]) (mvT hZ (w_ hw 93 rfl))) (mvT hZ (w_ hw 93 rfl)) (mvT hZ (w_ hw 92 rfl)) (by decide) (backOf (W := 0) (rm11b32 l Z a0 hw [] ix rb kc fa na ha kk kf kn kh (nn + nt) nn rl vs T7.heap n0 qz29 ⟨⟨qz14, qz15, qz16, qz17, qz18, qz19, qz20, qz21, qz22, qz23, qz24, qz25⟩, E7, Fs7, qz26, qz27, qz28⟩ ⟨D_o0fa, D_o0na, D_o0ha, D_rbo0, D_rbfa, D_rbna, D_rbha, D_kco0, D_kcfa, D_kcna, D_kcha, D_fana, D_faha, D_naha, D_rbkc, G_o0, G_fa, G_na, G_ha⟩ (own_tt hnn hnt) hlen hN) hZ (w_ hw 94 rfl) (w_ hw 63 rfl) (by decide) (by decide)) q13a q13c (g := (mkF m 96 #[iv p0, iv p1, iv p2, iv nn, iv nt, rv ky, rv rb, rv ix, iv 1, .unset, .unset, .unset, .unset] [.ref ix])) rfl (by rw [hml]; rfl) (Steps.refl _) (argsL := []) (rest := []) (lenOf pd_0 rfl) rfl (by show 2 * 0 + _ ≤ _; exact Nat.le_of_eq rfl) (hb hby at_96) (fun _ _ => ⟨rfl, rfl, (by decide : 13 + 2 ≤ _), (by decide : 133 + 64 ≤ _)⟩)
  dsimp only [Pt.U, Pt.locs, Pt.cells, Pt.slots] at X13 l13 y13 z13 st13 hQ13
  subst l13 y13 z13
  obtain ⟨na13, ha13, kn13, kh13, L_13, nl13, vs13, rfl, N13q, K13, ⟨⟨E13, Fr13, Fk13, Ff13, Fn13, Fh13, Fl13, Fi13, Vk13, Vf13, Vn13, Vh13⟩, Er13, Fs13, -, -, -⟩, hN13, hL13⟩ := hQ13
  have N13 := Fr.app N7 N13q
  refine own_of (fun _ k => st13.trans k) ?_
  show own_Out p e below _ (T13.setTop (mkF m 99 #[iv p0, iv p1, iv p2, iv nn, iv nt, rv ky, rv rb, rv ix, iv 1, .unset, .unset, .unset, .unset] []))
  refine o_iloadN X13 hx hby at_99 rfl (q := 100) rfl ?_
  refine o_iload X13 hx hby at_100 rfl (q := 102) rfl ?_
  refine o_iadd X13 hx hby at_102 rfl (q := 103) rfl ?_
  refine o_istore X13 hx hby at_103 (l' := #[iv p0, iv p1, iv p2, iv nn, iv nt, rv ky, rv rb, rv ix, iv 1, iv (nn + nt), .unset, .unset, .unset]) rfl (q := 105) rfl ?_
  refine o_aload X13 hx hby at_105 rfl rfl (q := 107) rfl ?_
  refine o_aconst_null X13 hx hby at_107 (q := 108) rfl ?_
  refine o_aload X13 hx hby at_108 rfl rfl (q := 110) rfl ?_
  have qz31 := (Nat.le_trans qz29 K13.1)
  obtain ⟨cq30, kq30, q30a, q30b, q30c⟩ := isOf hZ rfl E13
  obtain ⟨_, _, ⟨T30, L30, k30, n30⟩, -, X30, ⟨Lc30, hQ30, l30, y30, z30⟩, st30⟩ := X13.virtualBack hx (y := mn_22) (z := mn_22) hown (mvT hZ (w_ hw 114 rfl)) (mvT hZ (w_ hw 115 rfl)) (notFace_of_selects (args := #[]) (mvT hZ (w_ hw 117 rfl))) (mvT hZ (w_ hw 117 rfl)) (mvT hZ (w_ hw 116 rfl)) (by decide) (backOf (W := 0) (rm14n32 l Z a0 hw [] ix ky fa kf ((nn + nt) - (1 : Int32)) (List.replicate 31 (.int (-1))) ha13 kh13 L_13 nl13 kc kk T13.heap n0 qz31 Ff13 Vf13 E13 Fh13 Vh13 Fk13 Vk13 (own_hc (own_t0 hnn hnt) hL13)) hZ (w_ hw 118 rfl) (w_ hw 63 rfl) (by decide) (by decide)) q30a q30c (g := (mkF m 110 #[iv p0, iv p1, iv p2, iv nn, iv nt, rv ky, rv rb, rv ix, iv 1, iv (nn + nt), .unset, .unset, .unset] [.ref ky, .null, .ref ix])) rfl (by rw [hml]; rfl) (Steps.refl _) (argsL := [.null, (.ref ky)]) (rest := []) (lenOf pd_10 rfl) rfl (by show 2 * 0 + _ ≤ _; exact Nat.le_of_eq rfl) (hb hby at_110) (fun _ _ => ⟨rfl, rfl, (by decide : 15 + 0 ≤ _), (by decide : 197 + 0 ≤ _)⟩)
  dsimp only [Pt.U, Pt.locs, Pt.cells, Pt.slots] at X30 l30 y30 z30 st30 hQ30
  subst l30 y30 z30
  obtain ⟨rfl, N30q, hh30⟩ := hQ30
  have N30 := Fr.app N13 N30q
  refine own_of (fun _ k => st30.trans k) ?_
  show own_Out p e below _ (T30.setTop (mkF m 113 #[iv p0, iv p1, iv p2, iv nn, iv nt, rv ky, rv rb, rv ix, iv 1, iv (nn + nt), .unset, .unset, .unset] [.int ((nn + nt) - (1 : Int32))]))
  refine o_iload X30 hx hby at_113 rfl (q := 115) rfl ?_
  refine o_iconst X30 hx hby at_115 (z := 1) rfl (q := 116) rfl ?_
  refine o_isub X30 hx hby at_116 rfl (q := 117) rfl ?_
  refine o_icN X30 hx hby at_117 (teq (rfl : ((nn + nt) - (1 : Int32)) = ((nn + nt) - (1 : Int32)))).2 (q := 120) rfl ?_
  refine o_iconst X30 hx hby at_120 (z := 1) rfl (q := 121) rfl ?_
  refine o_goto X30 hx hby at_121 (by decide) (q := 125) (by decide) ?_
  refine o_istore X30 hx hby at_125 (l' := #[iv p0, iv p1, iv p2, iv nn, iv nt, rv ky, rv rb, rv ix, iv 1, iv (nn + nt), iv 1, .unset, .unset]) rfl (q := 127) rfl ?_
  refine o_iconst X30 hx hby at_127 (z := 1) rfl (q := 128) rfl ?_
  refine o_istore X30 hx hby at_128 (l' := #[iv p0, iv p1, iv p2, iv nn, iv nt, rv ky, rv rb, rv ix, iv 1, iv (nn + nt), iv 1, iv 1, .unset]) rfl (q := 130) rfl ?_
  refine o_iload X30 hx hby at_130 rfl (q := 132) rfl ?_
  by_cases hc132_32 : (0 : Int32) < (nn + nt)
  · skip
    refine o_ifN X30 hx hby at_132 ((if0 _ _).trans (tlt hc132_32).2.2.2) (q := 135) rfl ?_
    refine o_iloadN X30 hx hby at_135 rfl (q := 136) rfl ?_
    refine o_ldcI X30 hx hZ hown hby (w_ hw 164 rfl) at_136 (q := 138) rfl ?_
    refine o_iand X30 hx hby at_138 rfl (q := 139) rfl ?_
    refine o_iload X30 hx hby at_139 rfl (q := 141) rfl ?_
    refine o_irem X30 hx hby at_141 (own_nz hc132_32) (q := 142) rfl ?_
    refine o_istore X30 hx hby at_142 (l' := #[iv p0, iv p1, iv p2, iv nn, iv nt, rv ky, rv rb, rv ix, iv 1, iv (nn + nt), iv 1, iv 1, iv ((p2 &&& (2147483647 : Int32)) % (nn + nt))]) rfl (q := 144) rfl ?_
    refine o_aload X30 hx hby at_144 rfl rfl (q := 146) rfl ?_
    refine o_iload X30 hx hby at_146 rfl (q := 148) rfl ?_
    refine o_aconst_null X30 hx hby at_148 (q := 149) rfl ?_
    refine o_aload X30 hx hby at_149 rfl rfl (q := 151) rfl ?_
    obtain ⟨cq33, kq33, q33a, q33b, q33c⟩ := isOf hZ hh30 E13
    obtain ⟨_, _, ⟨T33, L33, k33, n33⟩, -, X33, ⟨Lc33, hQ33, l33, y33, z33⟩, st33⟩ := X30.virtualBack hx (y := mn_23) (z := mn_23) hown (mvT hZ (w_ hw 165 rfl)) (mvT hZ (w_ hw 166 rfl)) (notFace_of_selects (args := #[]) (mvT hZ (w_ hw 168 rfl))) (mvT hZ (w_ hw 168 rfl)) (mvT hZ (w_ hw 167 rfl)) (by decide) (backOf (W := 0) (rm26 l Z a0 hw [] ix ((p2 &&& (2147483647 : Int32)) % (nn + nt)) ky na13 kn13 vs13 ha13 kh13 L_13 nl13 kc kk T13.heap n0 qz31 Fn13 Vn13 E13 Fh13 Vh13 Fk13 Vk13 (own_kj hc132_32 hL13) (hN13 _ (own_kk hc132_32).1 (own_kk hc132_32).2)) hZ (w_ hw 169 rfl) (w_ hw 63 rfl) (by decide) (by decide)) q33a q33c (g := (mkF m 151 #[iv p0, iv p1, iv p2, iv nn, iv nt, rv ky, rv rb, rv ix, iv 1, iv (nn + nt), iv 1, iv 1, iv ((p2 &&& (2147483647 : Int32)) % (nn + nt))] [.ref ky, .null, .int ((p2 &&& (2147483647 : Int32)) % (nn + nt)), .ref ix])) rfl (by rw [hml]; rfl) (Steps.refl _) (argsL := [(.int ((p2 &&& (2147483647 : Int32)) % (nn + nt))), .null, (.ref ky)]) (rest := []) (lenOf pd_15 rfl) rfl (by show 2 * 0 + _ ≤ _; exact Nat.le_of_eq rfl) (hb hby at_151) (fun _ _ => ⟨rfl, hh30, (by decide : 15 + 0 ≤ _), (by decide : 197 + 0 ≤ _)⟩)
    dsimp only [Pt.U, Pt.locs, Pt.cells, Pt.slots] at X33 l33 y33 z33 st33 hQ33
    subst l33 y33 z33
    obtain ⟨rfl, N33q, hh33⟩ := hQ33
    have N33 := Fr.app N30 N33q
    refine own_of (fun _ k => st33.trans k) ?_
    show own_Out p e below _ (T33.setTop (mkF m 154 #[iv p0, iv p1, iv p2, iv nn, iv nt, rv ky, rv rb, rv ix, iv 1, iv (nn + nt), iv 1, iv 1, iv ((p2 &&& (2147483647 : Int32)) % (nn + nt))] [.int (((p2 &&& (2147483647 : Int32)) % (nn + nt)) - (1 : Int32))]))
    refine o_iload X33 hx hby at_154 rfl (q := 156) rfl ?_
    refine o_iconst X33 hx hby at_156 (z := 1) rfl (q := 157) rfl ?_
    refine o_isub X33 hx hby at_157 rfl (q := 158) rfl ?_
    refine o_icN X33 hx hby at_158 (teq (rfl : (((p2 &&& (2147483647 : Int32)) % (nn + nt)) - (1 : Int32)) = (((p2 &&& (2147483647 : Int32)) % (nn + nt)) - (1 : Int32)))).2 (q := 161) rfl ?_
    refine o_iconst X33 hx hby at_161 (z := 1) rfl (q := 162) rfl ?_
    refine o_goto X33 hx hby at_162 (by decide) (q := 166) (by decide) ?_
    refine o_istore X33 hx hby at_166 (l' := #[iv p0, iv p1, iv p2, iv nn, iv nt, rv ky, rv rb, rv ix, iv 1, iv (nn + nt), iv 1, iv 1, iv ((p2 &&& (2147483647 : Int32)) % (nn + nt))]) rfl (q := 168) rfl ?_
    refine o_iload X33 hx hby at_168 rfl (q := 170) rfl ?_
    refine o_ifN X33 hx hby at_170 ((if0 _ _).trans (feq (by decide : ¬ ((1 : Int32) = (0 : Int32)))).1) (q := 173) rfl ?_
    refine o_iload X33 hx hby at_173 rfl (q := 175) rfl ?_
    refine o_ifN X33 hx hby at_175 ((if0 _ _).trans (feq (by decide : ¬ ((1 : Int32) = (0 : Int32)))).1) (q := 178) rfl ?_
    refine o_iload X33 hx hby at_178 rfl (q := 180) rfl ?_
    refine o_ifN X33 hx hby at_180 ((if0 _ _).trans (feq (by decide : ¬ ((1 : Int32) = (0 : Int32)))).1) (q := 183) rfl ?_
    refine o_aload X33 hx hby at_183 rfl rfl (q := 185) rfl ?_
    obtain ⟨cq34, kq34, q34a, q34b, q34c⟩ := isOf hZ hh33 Er13
    obtain ⟨_, _, ⟨T34, L34, k34, n34⟩, -, X34, ⟨Lc34, hQ34, l34, y34, z34⟩, st34⟩ := X33.virtualBack hx (y := mn_9) (z := mn_9) hown (mvT hZ (w_ hw 170 rfl)) (mvT hZ (w_ hw 98 rfl)) (notFace_of_selects (args := #[]) (mvT hZ (w_ hw 100 rfl))) (mvT hZ (w_ hw 100 rfl)) (mvT hZ (w_ hw 99 rfl)) (by decide) (backOf (W := 0) (rm12 l Z a0 hw [] rb (nn + nt) T13.heap n0 qz31 Fs13) hZ (w_ hw 101 rfl) (w_ hw 3 rfl) (by decide) (by decide)) q34a q34c (g := (mkF m 185 #[iv p0, iv p1, iv p2, iv nn, iv nt, rv ky, rv rb, rv ix, iv 1, iv (nn + nt), iv 1, iv 1, iv ((p2 &&& (2147483647 : Int32)) % (nn + nt))] [.ref rb])) rfl (by rw [hml]; rfl) (Steps.refl _) (argsL := []) (rest := []) (lenOf pd_1 rfl) rfl (by show 2 * 0 + _ ≤ _; exact Nat.le_of_eq rfl) (hb hby at_185) (fun _ _ => ⟨rfl, hh33, (by decide : 15 + 0 ≤ _), (by decide : 197 + 0 ≤ _)⟩)
    dsimp only [Pt.U, Pt.locs, Pt.cells, Pt.slots] at X34 l34 y34 z34 st34 hQ34
    subst l34 y34 z34
    obtain ⟨rfl, N34q, hh34⟩ := hQ34
    have N34 := Fr.app N33 N34q
    refine own_of (fun _ k => st34.trans k) ?_
    show own_Out p e below _ (T34.setTop (mkF m 188 #[iv p0, iv p1, iv p2, iv nn, iv nt, rv ky, rv rb, rv ix, iv 1, iv (nn + nt), iv 1, iv 1, iv ((p2 &&& (2147483647 : Int32)) % (nn + nt))] [.int (nn + nt)]))
    refine o_iload X34 hx hby at_188 rfl (q := 190) rfl ?_
    refine o_icN X34 hx hby at_190 (teq (rfl : (nn + nt) = (nn + nt))).2 (q := 193) rfl ?_
    refine o_iconst X34 hx hby at_193 (z := 1) rfl (q := 194) rfl ?_
    refine o_goto X34 hx hby at_194 (by decide) (q := 198) (by decide) ?_
    exact own_outN X34 hx hlk (t := .boolean) hret (by simp) (hb hby at_198) (z' := (1 : Int32)) rfl (Q := Q) (hQ _ _ N34) (by decide) (by decide)
  · skip
    refine o_ifY X30 hx hby at_132 ((if0 _ _).trans (flt hc132_32).2.2.2) (by decide) (q := 168) (by decide) ?_
    refine o_iload X30 hx hby at_168 rfl (q := 170) rfl ?_
    refine o_ifN X30 hx hby at_170 ((if0 _ _).trans (feq (by decide : ¬ ((1 : Int32) = (0 : Int32)))).1) (q := 173) rfl ?_
    refine o_iload X30 hx hby at_173 rfl (q := 175) rfl ?_
    refine o_ifN X30 hx hby at_175 ((if0 _ _).trans (feq (by decide : ¬ ((1 : Int32) = (0 : Int32)))).1) (q := 178) rfl ?_
    refine o_iload X30 hx hby at_178 rfl (q := 180) rfl ?_
    refine o_ifN X30 hx hby at_180 ((if0 _ _).trans (feq (by decide : ¬ ((1 : Int32) = (0 : Int32)))).1) (q := 183) rfl ?_
    refine o_aload X30 hx hby at_183 rfl rfl (q := 185) rfl ?_
    obtain ⟨cq35, kq35, q35a, q35b, q35c⟩ := isOf hZ hh30 Er13
    obtain ⟨_, _, ⟨T35, L35, k35, n35⟩, -, X35, ⟨Lc35, hQ35, l35, y35, z35⟩, st35⟩ := X30.virtualBack hx (y := mn_9) (z := mn_9) hown (mvT hZ (w_ hw 170 rfl)) (mvT hZ (w_ hw 98 rfl)) (notFace_of_selects (args := #[]) (mvT hZ (w_ hw 100 rfl))) (mvT hZ (w_ hw 100 rfl)) (mvT hZ (w_ hw 99 rfl)) (by decide) (backOf (W := 0) (rm12 l Z a0 hw [] rb (nn + nt) T13.heap n0 qz31 Fs13) hZ (w_ hw 101 rfl) (w_ hw 3 rfl) (by decide) (by decide)) q35a q35c (g := (mkF m 185 #[iv p0, iv p1, iv p2, iv nn, iv nt, rv ky, rv rb, rv ix, iv 1, iv (nn + nt), iv 1, iv 1, .unset] [.ref rb])) rfl (by rw [hml]; rfl) (Steps.refl _) (argsL := []) (rest := []) (lenOf pd_1 rfl) rfl (by show 2 * 0 + _ ≤ _; exact Nat.le_of_eq rfl) (hb hby at_185) (fun _ _ => ⟨rfl, hh30, (by decide : 15 + 0 ≤ _), (by decide : 197 + 0 ≤ _)⟩)
    dsimp only [Pt.U, Pt.locs, Pt.cells, Pt.slots] at X35 l35 y35 z35 st35 hQ35
    subst l35 y35 z35
    obtain ⟨rfl, N35q, hh35⟩ := hQ35
    have N35 := Fr.app N30 N35q
    refine own_of (fun _ k => st35.trans k) ?_
    show own_Out p e below _ (T35.setTop (mkF m 188 #[iv p0, iv p1, iv p2, iv nn, iv nt, rv ky, rv rb, rv ix, iv 1, iv (nn + nt), iv 1, iv 1, .unset] [.int (nn + nt)]))
    refine o_iload X35 hx hby at_188 rfl (q := 190) rfl ?_
    refine o_icN X35 hx hby at_190 (teq (rfl : (nn + nt) = (nn + nt))).2 (q := 193) rfl ?_
    refine o_iconst X35 hx hby at_193 (z := 1) rfl (q := 194) rfl ?_
    refine o_goto X35 hx hby at_194 (by decide) (q := 198) (by decide) ?_
    exact own_outN X35 hx hlk (t := .boolean) hret (by simp) (hb hby at_198) (z' := (1 : Int32)) rfl (Q := Q) (hQ _ _ N35) (by decide) (by decide)
theorem pd_16 : parseMethodDescriptor "(Ljava/util/List;)V" = some ⟨[(.object "java/util/List")], none⟩ := by decide +kernel
theorem pd_17 : parseMethodDescriptor "(Lcom/example/headway/headway/engine/RowBuffer;Ljava/util/List;)V" = some ⟨[(.object "com/example/headway/headway/engine/RowBuffer"), (.object "java/util/List")], none⟩ := by decide +kernel
theorem ef_0 (m : MethodId) (x0 x1 x2 : Int32) : entryFrame m #[(.int x0), (.int x1), (.int x2)] maxLocals = mkF m 0 #[.val (.int x0), .val (.int x1), .val (.int x2), .unset, .unset, .unset, .unset, .unset, .unset, .unset, .unset, .unset, .unset] [] := by first | (simp [entryFrame, mkF, argsToLocals, Value.category, maxLocals]; done) | rfl
def Q0 (Z : State) (p0 p1 p2 : Int32) (wE : Addr) (h0 : Heap) (n0 : Nat) (v : Option Value) (h : Heap) (L : List Loc) : Prop := v = some (.int 1) ∧ Fr n0 L
set_option maxRecDepth 65536 in
set_option maxHeartbeats 40000000 in
theorem rm0 (l : Launch) (Z : State) (a0 : Array Value) (hw : ∀ d ∈ tables_1, d.before a0 Z = true) (ws : List Jvm.Cond) (p0 p1 p2 : Int32) (wE : Addr) (h0 : Heap) (n0 : Nat) (Z0 : n0 ≤ h0.size) (S_e : Sta Z h0 "java/util/ArrayList" "DEFAULTCAPACITY_EMPTY_ELEMENTDATA" "[Ljava/lang/Object;" (.ref wE)) :
    MetFree l x (head1 (Jvm.Cond.code x code maxLocals ret :: ws) room_1) (fun a U => a = #[(.int p0), (.int p1), (.int p2)] ∧ Z.Warmed39 U.vm ∧ U.heap = h0) (fun _ _ _ _ _ => True) (fun _ U o U' => ∃ v L, o = .returned v ∧ Q0 Z p0 p1 p2 wE h0 n0 v U'.heap L ∧ FrameEnd U o U' L 40 448) := by
  refine MetFree.of_bodySF (plainFor_of_name pn_6) hisR ?_
  intro p e s m args below meth c s₁ Bd hml0 hP hK
  obtain ⟨rfl, hZ, hh⟩ := hP
  have hx := Bd.exec
  have hby := Bd.bytes
  have hml : c.maxLocals = 13 := hml0
  have hown : s.vm.findClass "com/example/headway/headway/engine/HashIndexStopGrowingPinLaw" = some m.cls := findClass_of_methodNamed Bd.named
  have hnm := (name_of_methodNamed Bd.named Bd.method).1
  have X0 : Stand p l e room_1 s m #[(.int p0), (.int p1), (.int p2)] below meth c s₁ [] 0 0 := Stand.of_body Bd
  have e0 : s₁.heap = h0 := by rw [← hh, Bd.state]; rfl
  have N0 := Fr.nil n0
  have hret := Bd.returns
  have hlk := BodyLoose.notSynchronized Bd
  show own_Out p e below (fun o U' => ∃ v L, o = .returned v ∧ Q0 Z p0 p1 p2 wE h0 n0 v U'.heap L ∧ FrameEnd s o U' L 40 448) (s₁.setTop (entryFrame m #[(.int p0), (.int p1), (.int p2)] maxLocals))
  refine own_of (fun t k => castTop (ef_0 m p0 p1 p2) k) ?_
  show own_Out p e below _ (s₁.setTop (mkF m 0 #[iv p0, iv p1, iv p2, .unset, .unset, .unset, .unset, .unset, .unset, .unset, .unset, .unset, .unset] []))
  refine o_iloadN X0 hx hby at_0 rfl (q := 1) rfl ?_
  refine o_bipush X0 hx hby at_1 (z := 15) rfl (q := 3) rfl ?_
  refine o_iand X0 hx hby at_3 rfl (q := 4) rfl ?_
  refine o_istoreN X0 hx hby at_4 (l' := #[iv p0, iv p1, iv p2, iv (p0 &&& (15 : Int32)), .unset, .unset, .unset, .unset, .unset, .unset, .unset, .unset, .unset]) rfl (q := 5) rfl ?_
  refine o_iloadN X0 hx hby at_5 rfl (q := 6) rfl ?_
  refine o_bipush X0 hx hby at_6 (z := 7) rfl (q := 8) rfl ?_
  refine o_iand X0 hx hby at_8 rfl (q := 9) rfl ?_
  refine o_istore X0 hx hby at_9 (l' := #[iv p0, iv p1, iv p2, iv (p0 &&& (15 : Int32)), iv (p1 &&& (7 : Int32)), .unset, .unset, .unset, .unset, .unset, .unset, .unset, .unset]) rfl (q := 11) rfl ?_
  refine o_iconst X0 hx hby at_11 (z := 0) rfl (q := 12) rfl ?_
  obtain ⟨T1, h1, k1, X1, e1, E1, A1, st1⟩ := newP X0 hx hZ (w_ hw 0 rfl) e0 (g := (mkF m 12 #[iv p0, iv p1, iv p2, iv (p0 &&& (15 : Int32)), iv (p1 &&& (7 : Int32)), .unset, .unset, .unset, .unset, .unset, .unset, .unset, .unset] [.int 0])) rfl (hb hby at_12) rfl (by decide) (cap := 0) (by decide) (by decide) (by decide) (by decide)
  obtain ⟨b1, g1⟩ : ∃ z, z = h0.size := ⟨_, rfl⟩
  rw [← g1] at A1 st1
  have g_b1 : n0 ≤ b1 := Nat.le_trans Z0 (Nat.le_of_eq g1.symm)
  have V_b1 : Arv Z h1 b1 k1 .int 0 [] (.int 0) := (Arv.new A1 (by decide)).pad (pad_rep [] (.int 0) 0)
  refine own_of st1 ?_
  show own_Out p e below _ (T1.setTop (mkF m 14 #[iv p0, iv p1, iv p2, iv (p0 &&& (15 : Int32)), iv (p1 &&& (7 : Int32)), .unset, .unset, .unset, .unset, .unset, .unset, .unset, .unset] [.ref b1]))
  refine o_astore X1 hx hby at_14 rfl (l' := #[iv p0, iv p1, iv p2, iv (p0 &&& (15 : Int32)), iv (p1 &&& (7 : Int32)), rv b1, .unset, .unset, .unset, .unset, .unset, .unset, .unset]) rfl (q := 16) rfl ?_
  obtain ⟨T2, h2, X2, e2, E2, A2, D2, -, st2⟩ := newO X1 hx hZ hown (w_ hw 1 rfl) (w_ hw 2 rfl) (w_ hw 3 rfl) e1 (g := (mkF m 16 #[iv p0, iv p1, iv p2, iv (p0 &&& (15 : Int32)), iv (p1 &&& (7 : Int32)), rv b1, .unset, .unset, .unset, .unset, .unset, .unset, .unset] [])) rfl (hb hby at_16) (by decide) (by decide)
  obtain ⟨b2, g2⟩ : ∃ z, z = h1.size := ⟨_, rfl⟩
  rw [← g2] at A2 D2 st2
  have qz3 := (Nat.le_trans Z0 E1.1)
  have g_b2 : n0 ≤ b2 := Nat.le_trans qz3 (Nat.le_of_eq g2.symm)
  have F_b2_numbers : Fld Z h2 b2 "com/example/headway/headway/engine/RowBuffer" "numbers" "[[J" .null := D2 (Or.inr (w_ hw 52 rfl)) (ty := (.array (.array .long))) (by decide)
  have F_b2_strings : Fld Z h2 b2 "com/example/headway/headway/engine/RowBuffer" "strings" "[[Ljava/lang/String;" .null := D2 (Or.inr (w_ hw 56 rfl)) (ty := (.array (.array (.object "java/lang/String")))) (by decide)
  have F_b2_capacity : Fld Z h2 b2 "com/example/headway/headway/engine/RowBuffer" "capacity" "I" (.int 0) := D2 (Or.inl (w_ hw 58 rfl)) (ty := .int) (by decide)
  have F_b2_doubles : Fld Z h2 b2 "com/example/headway/headway/engine/RowBuffer" "doubles" "Z" (.int 0) := D2 (Or.inr (w_ hw 60 rfl)) (ty := .boolean) (by decide)
  have F_b2_size : Fld Z h2 b2 "com/example/headway/headway/engine/RowBuffer" "size" "I" (.int 0) := D2 (Or.inl (w_ hw 103 rfl)) (ty := .int) (by decide)
  refine own_of st2 ?_
  show own_Out p e below _ (T2.setTop (mkF m 19 #[iv p0, iv p1, iv p2, iv (p0 &&& (15 : Int32)), iv (p1 &&& (7 : Int32)), rv b1, .unset, .unset, .unset, .unset, .unset, .unset, .unset] [.ref b2]))
  refine o_dup X2 hx hby at_19 rfl (q := 20) rfl ?_
  obtain ⟨T4, h4, X4, e4, E4, A4, D4, -, st4⟩ := newO X2 hx hZ hown (w_ hw 4 rfl) (w_ hw 5 rfl) (w_ hw 6 rfl) e2 (g := (mkF m 20 #[iv p0, iv p1, iv p2, iv (p0 &&& (15 : Int32)), iv (p1 &&& (7 : Int32)), rv b1, .unset, .unset, .unset, .unset, .unset, .unset, .unset] [.ref b2, .ref b2])) rfl (hb hby at_20) (by decide) (by decide)
  obtain ⟨b4, g4⟩ : ∃ z, z = h2.size := ⟨_, rfl⟩
  rw [← g4] at A4 D4 st4
  have qz5 := (Nat.le_trans qz3 E2.1)
  have g_b4 : n0 ≤ b4 := Nat.le_trans qz5 (Nat.le_of_eq g4.symm)
  have F_b4_modCount : Fld Z h4 b4 "java/util/AbstractList" "modCount" "I" (.int 0) := D4 (Or.inl (w_ hw 26 rfl)) (ty := .int) (by decide)
  have F_b4_elementData : Fld Z h4 b4 "java/util/ArrayList" "elementData" "[Ljava/lang/Object;" .null := D4 (Or.inl (w_ hw 29 rfl)) (ty := (.array (.object "java/lang/Object"))) (by decide)
  have F_b4_size : Fld Z h4 b4 "java/util/ArrayList" "size" "I" (.int 0) := D4 (Or.inl (w_ hw 48 rfl)) (ty := .int) (by decide)
  refine own_of st4 ?_
  show own_Out p e below _ (T4.setTop (mkF m 23 #[iv p0, iv p1, iv p2, iv (p0 &&& (15 : Int32)), iv (p1 &&& (7 : Int32)), rv b1, .unset, .unset, .unset, .unset, .unset, .unset, .unset] [.ref b4, .ref b2, .ref b2]))
  refine o_dup X4 hx hby at_23 rfl (q := 24) rfl ?_
  have qz7 := (((S_e.ext E1).ext E2).ext E4)
  have qz8 := (Nat.le_trans qz5 E4.1)
  obtain ⟨_, _, ⟨T6, L6, k6, n6⟩, -, X6, ⟨Lc6, hQ6, l6, y6, z6⟩, st6⟩ := X4.specialBack hx (y := mn_2) rfl hown (mvT hZ (w_ hw 7 rfl)) (mvT hZ (w_ hw 8 rfl)) (mvT hZ (w_ hw 9 rfl)) (by decide) (backOf (W := 3) (rm1 l Z a0 hw [] b4 wE h4 n0 qz8 A4 F_b4_modCount F_b4_elementData F_b4_size g_b4 qz7) hZ (w_ hw 9 rfl) (w_ hw 6 rfl) (by decide) (by decide)) (g := (mkF m 24 #[iv p0, iv p1, iv p2, iv (p0 &&& (15 : Int32)), iv (p1 &&& (7 : Int32)), rv b1, .unset, .unset, .unset, .unset, .unset, .unset, .unset] [.ref b4, .ref b4, .ref b2, .ref b2])) rfl (by rw [hml]; rfl) (Steps.refl _) (a := b4) (argsL := []) (rest := [(.ref b4), (.ref b2), (.ref b2)]) (lenOf pd_0 rfl) rfl (by show 2 * 0 + _ ≤ _; exact Nat.le_of_eq rfl) (hb hby at_24) (fun _ _ => ⟨rfl, e4, (by decide : 3 + 0 ≤ _), (by decide : 8 + 0 ≤ _)⟩)
  dsimp only [Pt.U, Pt.locs, Pt.cells, Pt.slots] at X6 l6 y6 z6 st6 hQ6
  subst l6 y6 z6
  obtain ⟨rfl, N6q, K6, E6, F6_modCount, F6_elementData, F6_size⟩ := hQ6
  have N6 := Fr.app N0 N6q
  refine own_of (fun _ k => st6.trans k) ?_
  show own_Out p e below _ (T6.setTop (mkF m 27 #[iv p0, iv p1, iv p2, iv (p0 &&& (15 : Int32)), iv (p1 &&& (7 : Int32)), rv b1, .unset, .unset, .unset, .unset, .unset, .unset, .unset] [.ref b4, .ref b2, .ref b2]))
  have ne_b2_b4 : b2 ≠ b4 := Nat.ne_of_lt (Nat.lt_of_lt_of_le A2.lt (Nat.le_of_eq g4.symm))
  have qz10 := ((A2.ext E4).keep K6)
  have qz11 := ((F_b2_numbers.ext E4).keep K6 (ninS ne_b2_b4 nin0))
  have qz12 := ((F_b2_strings.ext E4).keep K6 (ninS ne_b2_b4 nin0))
  have qz13 := ((F_b2_doubles.ext E4).keep K6 (ninS ne_b2_b4 nin0))
  have qz14 := ((F_b2_capacity.ext E4).keep K6 (ninS ne_b2_b4 nin0))
  have qz15 := ((F_b2_size.ext E4).keep K6 (ninS ne_b2_b4 nin0))
  have qz16 := (Nat.le_trans qz8 K6.1)
  obtain ⟨_, _, ⟨T9, L9, k9, n9⟩, -, X9, ⟨Lc9, hQ9, l9, y9, z9⟩, st9⟩ := X6.specialBack hx (y := mn_6) rfl hown (mvT hZ (w_ hw 30 rfl)) (mvT hZ (w_ hw 31 rfl)) (mvT hZ (w_ hw 32 rfl)) (by decide) (backOf (W := 1) (rm5 l Z a0 hw [] b2 b4 T6.heap n0 qz16 qz10 qz11 qz12 qz13 qz14 qz15 g_b2 E6 F6_size (Ne.symm ne_b2_b4)) hZ (w_ hw 32 rfl) (w_ hw 3 rfl) (by decide) (by decide)) (g := (mkF m 27 #[iv p0, iv p1, iv p2, iv (p0 &&& (15 : Int32)), iv (p1 &&& (7 : Int32)), rv b1, .unset, .unset, .unset, .unset, .unset, .unset, .unset] [.ref b4, .ref b2, .ref b2])) rfl (by rw [hml]; rfl) (Steps.refl _) (a := b2) (argsL := [(.ref b4)]) (rest := [(.ref b2)]) (lenOf pd_16 rfl) rfl (by show 2 * 0 + _ ≤ _; exact Nat.le_of_eq rfl) (hb hby at_27) (fun _ _ => ⟨rfl, rfl, (by decide : 3 + 2 ≤ _), (by decide : 8 + 0 ≤ _)⟩)
  dsimp only [Pt.U, Pt.locs, Pt.cells, Pt.slots] at X9 l9 y9 z9 st9 hQ9
  subst l9 y9 z9
  obtain ⟨b9, k9, rfl, N9q, K9, E9, Fn9, Fk9, Fs9, Fd9, V9, hg9, hs9⟩ := hQ9
  have N9 := Fr.app N6 N9q
  refine own_of (fun _ k => st9.trans k) ?_
  show own_Out p e below _ (T9.setTop (mkF m 30 #[iv p0, iv p1, iv p2, iv (p0 &&& (15 : Int32)), iv (p1 &&& (7 : Int32)), rv b1, .unset, .unset, .unset, .unset, .unset, .unset, .unset] [.ref b2]))
  refine o_astore X9 hx hby at_30 rfl (l' := #[iv p0, iv p1, iv p2, iv (p0 &&& (15 : Int32)), iv (p1 &&& (7 : Int32)), rv b1, rv b2, .unset, .unset, .unset, .unset, .unset, .unset]) rfl (q := 32) rfl ?_
  obtain ⟨T17, h17, X17, e17, E17, A17, D17, -, st17⟩ := newO X9 hx hZ hown (w_ hw 61 rfl) (w_ hw 62 rfl) (w_ hw 63 rfl) rfl (g := (mkF m 32 #[iv p0, iv p1, iv p2, iv (p0 &&& (15 : Int32)), iv (p1 &&& (7 : Int32)), rv b1, rv b2, .unset, .unset, .unset, .unset, .unset, .unset] [])) rfl (hb hby at_32) (by decide) (by decide)
  obtain ⟨b17, g17⟩ : ∃ z, z = T9.heap.size := ⟨_, rfl⟩
  rw [← g17] at A17 D17 st17
  have qz18 := (Nat.le_trans qz16 K9.1)
  have g_b17 : n0 ≤ b17 := Nat.le_trans qz18 (Nat.le_of_eq g17.symm)
  have F_b17_firstInBucket : Fld Z h17 b17 "com/example/headway/headway/engine/HashIndex" "firstInBucket" "[I" .null := D17 (Or.inl (w_ hw 69 rfl)) (ty := (.array .int)) (by decide)
  have F_b17_nextInBucket : Fld Z h17 b17 "com/example/headway/headway/engine/HashIndex" "nextInBucket" "[I" .null := D17 (Or.inl (w_ hw 71 rfl)) (ty := (.array .int)) (by decide)
  have F_b17_hashes : Fld Z h17 b17 "com/example/headway/headway/engine/HashIndex" "hashes" "[I" .null := D17 (Or.inl (w_ hw 73 rfl)) (ty := (.array .int)) (by decide)
  have F_b17_loadLimit : Fld Z h17 b17 "com/example/headway/headway/engine/HashIndex" "loadLimit" "I" (.int 0) := D17 (Or.inl (w_ hw 76 rfl)) (ty := .int) (by decide)
  have F_b17_rows : Fld Z h17 b17 "com/example/headway/headway/engine/HashIndex" "rows" "Lcom/example/headway/headway/engine/RowBuffer;" .null := D17 (Or.inr (w_ hw 78 rfl)) (ty := (.object "com/example/headway/headway/engine/RowBuffer")) (by decide)
  have F_b17_keyColumns : Fld Z h17 b17 "com/example/headway/headway/engine/HashIndex" "keyColumns" "[I" .null := D17 (Or.inr (w_ hw 81 rfl)) (ty := (.array .int)) (by decide)
  have F_b17_indexed : Fld Z h17 b17 "com/example/headway/headway/engine/HashIndex" "indexed" "I" (.int 0) := D17 (Or.inl (w_ hw 96 rfl)) (ty := .int) (by decide)
  have F_b17_largerFirstInBucket : Fld Z h17 b17 "com/example/headway/headway/engine/HashIndex" "largerFirstInBucket" "[I" .null := D17 (Or.inl (w_ hw 110 rfl)) (ty := (.array .int)) (by decide)
  have F_b17_largerNextInBucket : Fld Z h17 b17 "com/example/headway/headway/engine/HashIndex" "largerNextInBucket" "[I" .null := D17 (Or.inl (w_ hw 112 rfl)) (ty := (.array .int)) (by decide)
  have F_b17_relinked : Fld Z h17 b17 "com/example/headway/headway/engine/HashIndex" "relinked" "I" (.int 0) := D17 (Or.inl (w_ hw 176 rfl)) (ty := .int) (by decide)
  refine own_of st17 ?_
  show own_Out p e below _ (T17.setTop (mkF m 35 #[iv p0, iv p1, iv p2, iv (p0 &&& (15 : Int32)), iv (p1 &&& (7 : Int32)), rv b1, rv b2, .unset, .unset, .unset, .unset, .unset, .unset] [.ref b17]))
  refine o_dup X17 hx hby at_35 rfl (q := 36) rfl ?_
  refine o_aload X17 hx hby at_36 rfl rfl (q := 38) rfl ?_
  obtain ⟨T19, h19, X19, e19, E19, A19, D19, -, st19⟩ := newO X17 hx hZ hown (w_ hw 4 rfl) (w_ hw 5 rfl) (w_ hw 6 rfl) e17 (g := (mkF m 38 #[iv p0, iv p1, iv p2, iv (p0 &&& (15 : Int32)), iv (p1 &&& (7 : Int32)), rv b1, rv b2, .unset, .unset, .unset, .unset, .unset, .unset] [.ref b2, .ref b17, .ref b17])) rfl (hb hby at_38) (by decide) (by decide)
  obtain ⟨b19, g19⟩ : ∃ z, z = h17.size := ⟨_, rfl⟩
  rw [← g19] at A19 D19 st19
  have qz20 := (Nat.le_trans qz18 E17.1)
  have g_b19 : n0 ≤ b19 := Nat.le_trans qz20 (Nat.le_of_eq g19.symm)
  have F_b19_modCount : Fld Z h19 b19 "java/util/AbstractList" "modCount" "I" (.int 0) := D19 (Or.inl (w_ hw 26 rfl)) (ty := .int) (by decide)
  have F_b19_elementData : Fld Z h19 b19 "java/util/ArrayList" "elementData" "[Ljava/lang/Object;" .null := D19 (Or.inl (w_ hw 29 rfl)) (ty := (.array (.object "java/lang/Object"))) (by decide)
  have F_b19_size : Fld Z h19 b19 "java/util/ArrayList" "size" "I" (.int 0) := D19 (Or.inl (w_ hw 48 rfl)) (ty := .int) (by decide)
  refine own_of st19 ?_
  show own_Out p e below _ (T19.setTop (mkF m 41 #[iv p0, iv p1, iv p2, iv (p0 &&& (15 : Int32)), iv (p1 &&& (7 : Int32)), rv b1, rv b2, .unset, .unset, .unset, .unset, .unset, .unset] [.ref b19, .ref b2, .ref b17, .ref b17]))
  refine o_dup X19 hx hby at_41 rfl (q := 42) rfl ?_
  have qz22 := (((own_staK1 (own_staK1 qz7 K6 (own_plainE A4)) K9 (own_plainE qz10)).ext E17).ext E19)
  have qz23 := (Nat.le_trans qz20 E19.1)
  obtain ⟨_, _, ⟨T21, L21, k21, n21⟩, -, X21, ⟨Lc21, hQ21, l21, y21, z21⟩, st21⟩ := X19.specialBack hx (y := mn_2) rfl hown (mvT hZ (w_ hw 7 rfl)) (mvT hZ (w_ hw 8 rfl)) (mvT hZ (w_ hw 9 rfl)) (by decide) (backOf (W := 4) (rm1 l Z a0 hw [] b19 wE h19 n0 qz23 A19 F_b19_modCount F_b19_elementData F_b19_size g_b19 qz22) hZ (w_ hw 9 rfl) (w_ hw 6 rfl) (by decide) (by decide)) (g := (mkF m 42 #[iv p0, iv p1, iv p2, iv (p0 &&& (15 : Int32)), iv (p1 &&& (7 : Int32)), rv b1, rv b2, .unset, .unset, .unset, .unset, .unset, .unset] [.ref b19, .ref b19, .ref b2, .ref b17, .ref b17])) rfl (by rw [hml]; rfl) (Steps.refl _) (a := b19) (argsL := []) (rest := [(.ref b19), (.ref b2), (.ref b17), (.ref b17)]) (lenOf pd_0 rfl) rfl (by show 2 * 0 + _ ≤ _; exact Nat.le_of_eq rfl) (hb hby at_42) (fun _ _ => ⟨rfl, e19, (by decide : 7 + 0 ≤ _), (by decide : 21 + 0 ≤ _)⟩)
  dsimp only [Pt.U, Pt.locs, Pt.cells, Pt.slots] at X21 l21 y21 z21 st21 hQ21
  subst l21 y21 z21
  obtain ⟨rfl, N21q, K21, E21, F21_modCount, F21_elementData, F21_size⟩ := hQ21
  have N21 := Fr.app N9 N21q
  refine own_of (fun _ k => st21.trans k) ?_
  show own_Out p e below _ (T21.setTop (mkF m 45 #[iv p0, iv p1, iv p2, iv (p0 &&& (15 : Int32)), iv (p1 &&& (7 : Int32)), rv b1, rv b2, .unset, .unset, .unset, .unset, .unset, .unset] [.ref b19, .ref b2, .ref b17, .ref b17]))
  have ne_b17_b19 : b17 ≠ b19 := Nat.ne_of_lt (Nat.lt_of_lt_of_le A17.lt (Nat.le_of_eq g19.symm))
  have qz25 := ((A17.ext E19).keep K21)
  have qz26 := ((F_b17_firstInBucket.ext E19).keep K21 (ninS ne_b17_b19 nin0))
  have qz27 := ((F_b17_nextInBucket.ext E19).keep K21 (ninS ne_b17_b19 nin0))
  have qz28 := ((F_b17_hashes.ext E19).keep K21 (ninS ne_b17_b19 nin0))
  have qz29 := ((F_b17_loadLimit.ext E19).keep K21 (ninS ne_b17_b19 nin0))
  have qz30 := ((F_b17_rows.ext E19).keep K21 (ninS ne_b17_b19 nin0))
  have qz31 := ((F_b17_keyColumns.ext E19).keep K21 (ninS ne_b17_b19 nin0))
  have qz32 := ((F_b17_indexed.ext E19).keep K21 (ninS ne_b17_b19 nin0))
  have qz33 := ((F_b17_largerFirstInBucket.ext E19).keep K21 (ninS ne_b17_b19 nin0))
  have qz34 := ((F_b17_largerNextInBucket.ext E19).keep K21 (ninS ne_b17_b19 nin0))
  have qz35 := ((F_b17_relinked.ext E19).keep K21 (ninS ne_b17_b19 nin0))
  have qz36 := (Nat.le_trans qz23 K21.1)
  obtain ⟨_, _, ⟨T24, L24, k24, n24⟩, -, X24, ⟨Lc24, hQ24, l24, y24, z24⟩, st24⟩ := X21.specialBack hx (y := mn_8) rfl hown (mvT hZ (w_ hw 64 rfl)) (mvT hZ (w_ hw 65 rfl)) (mvT hZ (w_ hw 66 rfl)) (by decide) (backOf (W := 1) (rm8 l Z a0 hw [] b17 b2 b19 T21.heap n0 qz36 qz25 qz26 qz27 qz28 qz29 qz30 qz31 qz32 qz33 qz34 qz35 g_b17 E21 F21_size (Ne.symm ne_b17_b19)) hZ (w_ hw 66 rfl) (w_ hw 63 rfl) (by decide) (by decide)) (g := (mkF m 45 #[iv p0, iv p1, iv p2, iv (p0 &&& (15 : Int32)), iv (p1 &&& (7 : Int32)), rv b1, rv b2, .unset, .unset, .unset, .unset, .unset, .unset] [.ref b19, .ref b2, .ref b17, .ref b17])) rfl (by rw [hml]; rfl) (Steps.refl _) (a := b17) (argsL := [(.ref b2), (.ref b19)]) (rest := [(.ref b17)]) (lenOf pd_17 rfl) rfl (by show 2 * 0 + _ ≤ _; exact Nat.le_of_eq rfl) (hb hby at_45) (fun _ _ => ⟨rfl, rfl, (by decide : 7 + 4 ≤ _), (by decide : 21 + 48 ≤ _)⟩)
  dsimp only [Pt.U, Pt.locs, Pt.cells, Pt.slots] at X24 l24 y24 z24 st24 hQ24
  subst l24 y24 z24
  obtain ⟨kc24, fa24, na24, ha24, kk24, kf24, kn24, kh24, rfl, N24q, K24, ⟨E24, Fr24, Fk24, Ff24, Fn24, Fh24, Fl24, Fi24, Vk24, Vf24, Vn24, Vh24⟩, Fg24, Fm24, Fq24, hg_kc24, hs_kc24, hg_fa24, hs_fa24, hg_na24, hs_na24, hg_ha24, hs_ha24, hn_kcfa24, hn_kcna24, hn_kcha24, hn_fana24, hn_faha24, hn_naha24⟩ := hQ24
  have N24 := Fr.app N21 N24q
  refine own_of (fun _ k => st24.trans k) ?_
  show own_Out p e below _ (T24.setTop (mkF m 48 #[iv p0, iv p1, iv p2, iv (p0 &&& (15 : Int32)), iv (p1 &&& (7 : Int32)), rv b1, rv b2, .unset, .unset, .unset, .unset, .unset, .unset] [.ref b17]))
  refine o_astore X24 hx hby at_48 rfl (l' := #[iv p0, iv p1, iv p2, iv (p0 &&& (15 : Int32)), iv (p1 &&& (7 : Int32)), rv b1, rv b2, rv b17, .unset, .unset, .unset, .unset, .unset]) rfl (q := 50) rfl ?_
  refine o_aload X24 hx hby at_50 rfl rfl (q := 52) rfl ?_
  refine o_iloadN X24 hx hby at_52 rfl (q := 53) rfl ?_
  by_cases hc53_37 : (p0 &&& (15 : Int32)) = (0 : Int32)
  · skip
    have qz39 := (Nat.le_trans qz36 K24.1)
    obtain ⟨_, _, ⟨T38, L38, k38, n38⟩, -, X38, ⟨Lc38, hQ38, l38, y38, z38⟩, st38⟩ := Jvm.LawKit.callS X24 hx (y := mn_14) hown (mvT hZ (w_ hw 86 rfl)) (mvT hZ (w_ hw 87 rfl)) (mvT hZ (w_ hw 88 rfl)) (mvT hZ (w_ hw 89 rfl)) (by decide) (backOf (W := 0) (rm10n l Z a0 hw [] b2 (p0 &&& (15 : Int32)) T24.heap n0 qz39 hc53_37) hZ (w_ hw 89 rfl) (w_ hw 88 rfl) (by decide) (by decide)) (g := (mkF m 53 #[iv p0, iv p1, iv p2, iv (p0 &&& (15 : Int32)), iv (p1 &&& (7 : Int32)), rv b1, rv b2, rv b17, .unset, .unset, .unset, .unset, .unset] [.int (p0 &&& (15 : Int32)), .ref b2])) rfl (by rw [hml]; rfl) (argsL := [(.ref b2), (.int (p0 &&& (15 : Int32)))]) (rest := []) (lenOf pd_14 rfl) rfl (by show 2 * 0 + _ ≤ _; exact Nat.le_of_eq rfl) (hb hby at_53) (fun _ _ => ⟨rfl, rfl, (by decide : 11 + 0 ≤ _), (by decide : 69 + 0 ≤ _)⟩)
    dsimp only [Pt.U, Pt.locs, Pt.cells, Pt.slots] at X38 l38 y38 z38 st38 hQ38
    subst l38 y38 z38
    obtain ⟨rfl, N38q, hh38⟩ := hQ38
    have N38 := Fr.app N24 N38q
    refine own_of st38 ?_
    show own_Out p e below _ (T38.setTop (mkF m 56 #[iv p0, iv p1, iv p2, iv (p0 &&& (15 : Int32)), iv (p1 &&& (7 : Int32)), rv b1, rv b2, rv b17, .unset, .unset, .unset, .unset, .unset] []))
    have ne_b2_b19 : b2 ≠ b19 := Nat.ne_of_lt (Nat.lt_of_lt_of_le (Nat.lt_of_lt_of_le (Nat.lt_of_lt_of_le (Nat.lt_of_lt_of_le (Nat.lt_of_lt_of_le A2.lt E4.1) K6.1) K9.1) E17.1) (Nat.le_of_eq g19.symm))
    have ne_b2_b17 : b2 ≠ b17 := Nat.ne_of_lt (Nat.lt_of_lt_of_le (Nat.lt_of_lt_of_le (Nat.lt_of_lt_of_le (Nat.lt_of_lt_of_le A2.lt E4.1) K6.1) K9.1) (Nat.le_of_eq g17.symm))
    have qz40 := ((((Fs9.ext E17).ext E19).keep K21 (ninS ne_b2_b19 nin0)).keep K24 (ninS ne_b2_b17 nin0))
    have Fy41 : Fld Z T24.heap b2 "com/example/headway/headway/engine/RowBuffer" "size" "I" (.int (p0 &&& (15 : Int32))) := by rw [hc53_37]; exact qz40
    refine o_aload X38 hx hby at_56 rfl rfl (q := 58) rfl ?_
    have qz43 := ((((E9.ext E17).ext E19).keep K21).keep K24)
    have ne_b17_fa24 : b17 ≠ fa24 := Nat.ne_of_lt (Nat.lt_of_lt_of_le (Nat.lt_of_lt_of_le (Nat.lt_of_lt_of_le A17.lt E19.1) K21.1) hs_fa24)
    have ne_b17_na24 : b17 ≠ na24 := Nat.ne_of_lt (Nat.lt_of_lt_of_le (Nat.lt_of_lt_of_le (Nat.lt_of_lt_of_le A17.lt E19.1) K21.1) hs_na24)
    have ne_b17_ha24 : b17 ≠ ha24 := Nat.ne_of_lt (Nat.lt_of_lt_of_le (Nat.lt_of_lt_of_le (Nat.lt_of_lt_of_le A17.lt E19.1) K21.1) hs_ha24)
    have ne_b2_fa24 : b2 ≠ fa24 := Nat.ne_of_lt (Nat.lt_of_lt_of_le (Nat.lt_of_lt_of_le (Nat.lt_of_lt_of_le (Nat.lt_of_lt_of_le (Nat.lt_of_lt_of_le (Nat.lt_of_lt_of_le (Nat.lt_of_lt_of_le A2.lt E4.1) K6.1) K9.1) E17.1) E19.1) K21.1) hs_fa24)
    have ne_b2_na24 : b2 ≠ na24 := Nat.ne_of_lt (Nat.lt_of_lt_of_le (Nat.lt_of_lt_of_le (Nat.lt_of_lt_of_le (Nat.lt_of_lt_of_le (Nat.lt_of_lt_of_le (Nat.lt_of_lt_of_le (Nat.lt_of_lt_of_le A2.lt E4.1) K6.1) K9.1) E17.1) E19.1) K21.1) hs_na24)
    have ne_b2_ha24 : b2 ≠ ha24 := Nat.ne_of_lt (Nat.lt_of_lt_of_le (Nat.lt_of_lt_of_le (Nat.lt_of_lt_of_le (Nat.lt_of_lt_of_le (Nat.lt_of_lt_of_le (Nat.lt_of_lt_of_le (Nat.lt_of_lt_of_le A2.lt E4.1) K6.1) K9.1) E17.1) E19.1) K21.1) hs_ha24)
    have ne_b17_kc24 : b17 ≠ kc24 := Nat.ne_of_lt (Nat.lt_of_lt_of_le (Nat.lt_of_lt_of_le (Nat.lt_of_lt_of_le A17.lt E19.1) K21.1) hs_kc24)
    have ne_b2_kc24 : b2 ≠ kc24 := Nat.ne_of_lt (Nat.lt_of_lt_of_le (Nat.lt_of_lt_of_le (Nat.lt_of_lt_of_le (Nat.lt_of_lt_of_le (Nat.lt_of_lt_of_le (Nat.lt_of_lt_of_le (Nat.lt_of_lt_of_le A2.lt E4.1) K6.1) K9.1) E17.1) E19.1) K21.1) hs_kc24)
    obtain ⟨cq42, kq42, q42a, q42b, q42c⟩ := isOf hZ hh38 E24
    obtain ⟨_, _, ⟨T42, L42, k42, n42⟩, -, X42, ⟨Lc42, hQ42, l42, y42, z42⟩, st42⟩ := X38.virtualBack hx (y := mn_29) (z := mn_29) hown (mvT hZ (w_ hw 90 rfl)) (mvT hZ (w_ hw 91 rfl)) (notFace_of_selects (args := #[]) (mvT hZ (w_ hw 93 rfl))) (mvT hZ (w_ hw 93 rfl)) (mvT hZ (w_ hw 92 rfl)) (by decide) (backOf (W := 0) (rm11a l Z a0 hw [] b17 b2 kc24 fa24 na24 ha24 kk24 kf24 kn24 kh24 (p0 &&& (15 : Int32)) T24.heap n0 qz39 ⟨⟨E24, Fr24, Fk24, Ff24, Fn24, Fh24, Fl24, Fi24, Vk24, Vf24, Vn24, Vh24⟩, qz43, Fy41, Fg24, Fm24, Fq24⟩ ⟨ne_b17_fa24, ne_b17_na24, ne_b17_ha24, ne_b2_b17, ne_b2_fa24, ne_b2_na24, ne_b2_ha24, (Ne.symm ne_b17_kc24), hn_kcfa24, hn_kcna24, hn_kcha24, hn_fana24, hn_faha24, hn_naha24, ne_b2_kc24, g_b17, hg_fa24, hg_na24, hg_ha24⟩ (own_m15 p0)) hZ (w_ hw 94 rfl) (w_ hw 63 rfl) (by decide) (by decide)) q42a q42c (g := (mkF m 58 #[iv p0, iv p1, iv p2, iv (p0 &&& (15 : Int32)), iv (p1 &&& (7 : Int32)), rv b1, rv b2, rv b17, .unset, .unset, .unset, .unset, .unset] [.ref b17])) rfl (by rw [hml]; rfl) (Steps.refl _) (argsL := []) (rest := []) (lenOf pd_0 rfl) rfl (by show 2 * 0 + _ ≤ _; exact Nat.le_of_eq rfl) (hb hby at_58) (fun _ _ => ⟨rfl, hh38, (by decide : 11 + 2 ≤ _), (by decide : 69 + 64 ≤ _)⟩)
    dsimp only [Pt.U, Pt.locs, Pt.cells, Pt.slots] at X42 l42 y42 z42 st42 hQ42
    subst l42 y42 z42
    obtain ⟨rfl, N42q, K42, FN42⟩ := hQ42
    have N42 := Fr.app N38 N42q
    refine own_of (fun _ k => st42.trans k) ?_
    show own_Out p e below _ (T42.setTop (mkF m 61 #[iv p0, iv p1, iv p2, iv (p0 &&& (15 : Int32)), iv (p1 &&& (7 : Int32)), rv b1, rv b2, rv b17, .unset, .unset, .unset, .unset, .unset] []))
    have qz44 := (((((Fn9.ext E17).ext E19).keep K21 (ninS ne_b2_b19 nin0)).keep K24 (ninS ne_b2_b17 nin0)).keep K42 (ninS ne_b2_b17 (ninS ne_b2_fa24 (ninS ne_b2_na24 (ninS ne_b2_ha24 nin0)))))
    have qz45 := (((((Fk9.ext E17).ext E19).keep K21 (ninS ne_b2_b19 nin0)).keep K24 (ninS ne_b2_b17 nin0)).keep K42 (ninS ne_b2_b17 (ninS ne_b2_fa24 (ninS ne_b2_na24 (ninS ne_b2_ha24 nin0)))))
    have ne_b9_b19 : b9 ≠ b19 := Nat.ne_of_lt (Nat.lt_of_lt_of_le (Nat.lt_of_lt_of_le V9.lt E17.1) (Nat.le_of_eq g19.symm))
    have ne_b9_b17 : b9 ≠ b17 := Nat.ne_of_lt (Nat.lt_of_lt_of_le V9.lt (Nat.le_of_eq g17.symm))
    have ne_b9_ha24 : b9 ≠ ha24 := Nat.ne_of_lt (Nat.lt_of_lt_of_le (Nat.lt_of_lt_of_le (Nat.lt_of_lt_of_le (Nat.lt_of_lt_of_le V9.lt E17.1) E19.1) K21.1) hs_ha24)
    have ne_b9_na24 : b9 ≠ na24 := Nat.ne_of_lt (Nat.lt_of_lt_of_le (Nat.lt_of_lt_of_le (Nat.lt_of_lt_of_le (Nat.lt_of_lt_of_le V9.lt E17.1) E19.1) K21.1) hs_na24)
    have ne_b9_fa24 : b9 ≠ fa24 := Nat.ne_of_lt (Nat.lt_of_lt_of_le (Nat.lt_of_lt_of_le (Nat.lt_of_lt_of_le (Nat.lt_of_lt_of_le V9.lt E17.1) E19.1) K21.1) hs_fa24)
    have qz46 := (((((V9.ext E17).ext E19).keep K21 (ninS ne_b9_b19 nin0)).keep K24 (ninS ne_b9_b17 nin0)).keep K42 (ninS ne_b9_b17 (ninS ne_b9_fa24 (ninS ne_b9_na24 (ninS ne_b9_ha24 nin0)))))
    have ne_b2_b9 : b2 ≠ b9 := Nat.ne_of_lt (Nat.lt_of_lt_of_le (Nat.lt_of_lt_of_le (Nat.lt_of_lt_of_le A2.lt E4.1) K6.1) hs9)
    have qz47 := (((((Fd9.ext E17).ext E19).keep K21 (ninS ne_b2_b19 nin0)).keep K24 (ninS ne_b2_b17 nin0)).keep K42 (ninS ne_b2_b17 (ninS ne_b2_fa24 (ninS ne_b2_na24 (ninS ne_b2_ha24 nin0)))))
    have qz48 := (Nat.le_trans qz39 K42.1)
    obtain ⟨fa1, na1, kf1, kn1, F1, nf1, vs1, v1, v2, LL1, rl1, S1, D1, hlen1, hN1, hF1⟩ := FN42
    rcases hF1 with ⟨rfl, rfl⟩ | ⟨rfl, rfl⟩
    · skip
      exact sg61_16z (Q := Q0 Z p0 p1 p2 wE h0 n0) p0 p1 p2 (p0 &&& (15 : Int32)) (p1 &&& (7 : Int32)) b1 b2 b17 kc24 fa1 na1 ha24 b9 kk24 kf1 kn1 kh24 k9 LL1 rl1 v1 v2 vs1 T42.heap n0 X42 hx hZ hw hby hml hown hret hlk (fun _ _ N => ⟨rfl, N⟩) rfl qz48 N42 S1 D1 hlen1 hN1 (own_m15 p0) (own_m7 p1) qz44 qz45 qz46 g_b2 (Ne.symm ne_b2_b9) ne_b9_b17 qz47 hc53_37
    · skip
      exact sg61_32z (Q := Q0 Z p0 p1 p2 wE h0 n0) p0 p1 p2 (p0 &&& (15 : Int32)) (p1 &&& (7 : Int32)) b1 b2 b17 kc24 fa1 na1 ha24 b9 kk24 kf1 kn1 kh24 k9 LL1 rl1 v1 v2 vs1 T42.heap n0 X42 hx hZ hw hby hml hown hret hlk (fun _ _ N => ⟨rfl, N⟩) rfl qz48 N42 S1 D1 hlen1 hN1 (own_m15 p0) (own_m7 p1) qz44 qz45 qz46 g_b2 (Ne.symm ne_b2_b9) ne_b9_b17 qz47 hc53_37
  · skip
    have ne_b2_b9 : b2 ≠ b9 := Nat.ne_of_lt (Nat.lt_of_lt_of_le (Nat.lt_of_lt_of_le (Nat.lt_of_lt_of_le A2.lt E4.1) K6.1) hs9)
    have qz50 := ((((E9.ext E17).ext E19).keep K21).keep K24)
    have ne_b2_b19 : b2 ≠ b19 := Nat.ne_of_lt (Nat.lt_of_lt_of_le (Nat.lt_of_lt_of_le (Nat.lt_of_lt_of_le (Nat.lt_of_lt_of_le (Nat.lt_of_lt_of_le A2.lt E4.1) K6.1) K9.1) E17.1) (Nat.le_of_eq g19.symm))
    have ne_b2_b17 : b2 ≠ b17 := Nat.ne_of_lt (Nat.lt_of_lt_of_le (Nat.lt_of_lt_of_le (Nat.lt_of_lt_of_le (Nat.lt_of_lt_of_le A2.lt E4.1) K6.1) K9.1) (Nat.le_of_eq g17.symm))
    have qz51 := ((((Fn9.ext E17).ext E19).keep K21 (ninS ne_b2_b19 nin0)).keep K24 (ninS ne_b2_b17 nin0))
    have qz52 := ((((Fk9.ext E17).ext E19).keep K21 (ninS ne_b2_b19 nin0)).keep K24 (ninS ne_b2_b17 nin0))
    have qz53 := ((((Fs9.ext E17).ext E19).keep K21 (ninS ne_b2_b19 nin0)).keep K24 (ninS ne_b2_b17 nin0))
    have qz54 := ((((Fd9.ext E17).ext E19).keep K21 (ninS ne_b2_b19 nin0)).keep K24 (ninS ne_b2_b17 nin0))
    have ne_b9_b19 : b9 ≠ b19 := Nat.ne_of_lt (Nat.lt_of_lt_of_le (Nat.lt_of_lt_of_le V9.lt E17.1) (Nat.le_of_eq g19.symm))
    have ne_b9_b17 : b9 ≠ b17 := Nat.ne_of_lt (Nat.lt_of_lt_of_le V9.lt (Nat.le_of_eq g17.symm))
    have qz55 := ((((V9.ext E17).ext E19).keep K21 (ninS ne_b9_b19 nin0)).keep K24 (ninS ne_b9_b17 nin0))
    have qz56 := (Nat.le_trans qz36 K24.1)
    obtain ⟨_, _, ⟨T49, L49, k49, n49⟩, -, X49, ⟨Lc49, hQ49, l49, y49, z49⟩, st49⟩ := Jvm.LawKit.callS X24 hx (y := mn_14) hown (mvT hZ (w_ hw 86 rfl)) (mvT hZ (w_ hw 87 rfl)) (mvT hZ (w_ hw 88 rfl)) (mvT hZ (w_ hw 89 rfl)) (by decide) (backOf (W := 0) (rm10z l Z a0 hw [] b2 (p0 &&& (15 : Int32)) b9 k9 T24.heap n0 qz56 qz50 qz51 qz52 qz53 qz54 qz55 g_b2 (Ne.symm ne_b2_b9) (own_g15 (own_m15 p0).2) (own_ps (own_m15 p0).1 hc53_37)) hZ (w_ hw 89 rfl) (w_ hw 88 rfl) (by decide) (by decide)) (g := (mkF m 53 #[iv p0, iv p1, iv p2, iv (p0 &&& (15 : Int32)), iv (p1 &&& (7 : Int32)), rv b1, rv b2, rv b17, .unset, .unset, .unset, .unset, .unset] [.int (p0 &&& (15 : Int32)), .ref b2])) rfl (by rw [hml]; rfl) (argsL := [(.ref b2), (.int (p0 &&& (15 : Int32)))]) (rest := []) (lenOf pd_14 rfl) rfl (by show 2 * 0 + _ ≤ _; exact Nat.le_of_eq rfl) (hb hby at_53) (fun _ _ => ⟨rfl, rfl, (by decide : 11 + 0 ≤ _), (by decide : 69 + 0 ≤ _)⟩)
    dsimp only [Pt.U, Pt.locs, Pt.cells, Pt.slots] at X49 l49 y49 z49 st49 hQ49
    subst l49 y49 z49
    obtain ⟨rfl, N49q, K49, E49, Fn49, Fk49, Fs49⟩ := hQ49
    have N49 := Fr.app N24 N49q
    refine own_of st49 ?_
    show own_Out p e below _ (T49.setTop (mkF m 56 #[iv p0, iv p1, iv p2, iv (p0 &&& (15 : Int32)), iv (p1 &&& (7 : Int32)), rv b1, rv b2, rv b17, .unset, .unset, .unset, .unset, .unset] []))
    refine o_aload X49 hx hby at_56 rfl rfl (q := 58) rfl ?_
    have qz58 := (E24.keep K49)
    have qz59 := (Fr24.keep K49 (ninS (Ne.symm ne_b2_b17) nin0))
    have qz60 := (Fk24.keep K49 (ninS (Ne.symm ne_b2_b17) nin0))
    have qz61 := (Ff24.keep K49 (ninS (Ne.symm ne_b2_b17) nin0))
    have qz62 := (Fn24.keep K49 (ninS (Ne.symm ne_b2_b17) nin0))
    have qz63 := (Fh24.keep K49 (ninS (Ne.symm ne_b2_b17) nin0))
    have qz64 := (Fl24.keep K49 (ninS (Ne.symm ne_b2_b17) nin0))
    have qz65 := (Fi24.keep K49 (ninS (Ne.symm ne_b2_b17) nin0))
    have ne_b2_kc24 : b2 ≠ kc24 := Nat.ne_of_lt (Nat.lt_of_lt_of_le (Nat.lt_of_lt_of_le (Nat.lt_of_lt_of_le (Nat.lt_of_lt_of_le (Nat.lt_of_lt_of_le (Nat.lt_of_lt_of_le (Nat.lt_of_lt_of_le A2.lt E4.1) K6.1) K9.1) E17.1) E19.1) K21.1) hs_kc24)
    have qz66 := (Vk24.keep K49 (ninS (Ne.symm ne_b2_kc24) nin0))
    have ne_b2_fa24 : b2 ≠ fa24 := Nat.ne_of_lt (Nat.lt_of_lt_of_le (Nat.lt_of_lt_of_le (Nat.lt_of_lt_of_le (Nat.lt_of_lt_of_le (Nat.lt_of_lt_of_le (Nat.lt_of_lt_of_le (Nat.lt_of_lt_of_le A2.lt E4.1) K6.1) K9.1) E17.1) E19.1) K21.1) hs_fa24)
    have qz67 := (Vf24.keep K49 (ninS (Ne.symm ne_b2_fa24) nin0))
    have ne_b2_na24 : b2 ≠ na24 := Nat.ne_of_lt (Nat.lt_of_lt_of_le (Nat.lt_of_lt_of_le (Nat.lt_of_lt_of_le (Nat.lt_of_lt_of_le (Nat.lt_of_lt_of_le (Nat.lt_of_lt_of_le (Nat.lt_of_lt_of_le A2.lt E4.1) K6.1) K9.1) E17.1) E19.1) K21.1) hs_na24)
    have qz68 := (Vn24.keep K49 (ninS (Ne.symm ne_b2_na24) nin0))
    have ne_b2_ha24 : b2 ≠ ha24 := Nat.ne_of_lt (Nat.lt_of_lt_of_le (Nat.lt_of_lt_of_le (Nat.lt_of_lt_of_le (Nat.lt_of_lt_of_le (Nat.lt_of_lt_of_le (Nat.lt_of_lt_of_le (Nat.lt_of_lt_of_le A2.lt E4.1) K6.1) K9.1) E17.1) E19.1) K21.1) hs_ha24)
    have qz69 := (Vh24.keep K49 (ninS (Ne.symm ne_b2_ha24) nin0))
    have qz70 := (Fg24.keep K49 (ninS (Ne.symm ne_b2_b17) nin0))
    have qz71 := (Fm24.keep K49 (ninS (Ne.symm ne_b2_b17) nin0))
    have qz72 := (Fq24.keep K49 (ninS (Ne.symm ne_b2_b17) nin0))
    have ne_b17_fa24 : b17 ≠ fa24 := Nat.ne_of_lt (Nat.lt_of_lt_of_le (Nat.lt_of_lt_of_le (Nat.lt_of_lt_of_le A17.lt E19.1) K21.1) hs_fa24)
    have ne_b17_na24 : b17 ≠ na24 := Nat.ne_of_lt (Nat.lt_of_lt_of_le (Nat.lt_of_lt_of_le (Nat.lt_of_lt_of_le A17.lt E19.1) K21.1) hs_na24)
    have ne_b17_ha24 : b17 ≠ ha24 := Nat.ne_of_lt (Nat.lt_of_lt_of_le (Nat.lt_of_lt_of_le (Nat.lt_of_lt_of_le A17.lt E19.1) K21.1) hs_ha24)
    have ne_b17_kc24 : b17 ≠ kc24 := Nat.ne_of_lt (Nat.lt_of_lt_of_le (Nat.lt_of_lt_of_le (Nat.lt_of_lt_of_le A17.lt E19.1) K21.1) hs_kc24)
    have qz73 := (Nat.le_trans qz56 K49.1)
    obtain ⟨cq57, kq57, q57a, q57b, q57c⟩ := isOf hZ rfl qz58
    obtain ⟨_, _, ⟨T57, L57, k57, n57⟩, -, X57, ⟨Lc57, hQ57, l57, y57, z57⟩, st57⟩ := X49.virtualBack hx (y := mn_29) (z := mn_29) hown (mvT hZ (w_ hw 90 rfl)) (mvT hZ (w_ hw 91 rfl)) (notFace_of_selects (args := #[]) (mvT hZ (w_ hw 93 rfl))) (mvT hZ (w_ hw 93 rfl)) (mvT hZ (w_ hw 92 rfl)) (by decide) (backOf (W := 0) (rm11a l Z a0 hw [] b17 b2 kc24 fa24 na24 ha24 kk24 kf24 kn24 kh24 (p0 &&& (15 : Int32)) T49.heap n0 qz73 ⟨⟨qz58, qz59, qz60, qz61, qz62, qz63, qz64, qz65, qz66, qz67, qz68, qz69⟩, E49, Fs49, qz70, qz71, qz72⟩ ⟨ne_b17_fa24, ne_b17_na24, ne_b17_ha24, ne_b2_b17, ne_b2_fa24, ne_b2_na24, ne_b2_ha24, (Ne.symm ne_b17_kc24), hn_kcfa24, hn_kcna24, hn_kcha24, hn_fana24, hn_faha24, hn_naha24, ne_b2_kc24, g_b17, hg_fa24, hg_na24, hg_ha24⟩ (own_m15 p0)) hZ (w_ hw 94 rfl) (w_ hw 63 rfl) (by decide) (by decide)) q57a q57c (g := (mkF m 58 #[iv p0, iv p1, iv p2, iv (p0 &&& (15 : Int32)), iv (p1 &&& (7 : Int32)), rv b1, rv b2, rv b17, .unset, .unset, .unset, .unset, .unset] [.ref b17])) rfl (by rw [hml]; rfl) (Steps.refl _) (argsL := []) (rest := []) (lenOf pd_0 rfl) rfl (by show 2 * 0 + _ ≤ _; exact Nat.le_of_eq rfl) (hb hby at_58) (fun _ _ => ⟨rfl, rfl, (by decide : 11 + 2 ≤ _), (by decide : 69 + 64 ≤ _)⟩)
    dsimp only [Pt.U, Pt.locs, Pt.cells, Pt.slots] at X57 l57 y57 z57 st57 hQ57
    subst l57 y57 z57
    obtain ⟨rfl, N57q, K57, FN57⟩ := hQ57
    have N57 := Fr.app N49 N57q
    refine own_of (fun _ k => st57.trans k) ?_
    show own_Out p e below _ (T57.setTop (mkF m 61 #[iv p0, iv p1, iv p2, iv (p0 &&& (15 : Int32)), iv (p1 &&& (7 : Int32)), rv b1, rv b2, rv b17, .unset, .unset, .unset, .unset, .unset] []))
    have qz74 := (Fn49.keep K57 (ninS ne_b2_b17 (ninS ne_b2_fa24 (ninS ne_b2_na24 (ninS ne_b2_ha24 nin0)))))
    have qz75 := (Fk49.keep K57 (ninS ne_b2_b17 (ninS ne_b2_fa24 (ninS ne_b2_na24 (ninS ne_b2_ha24 nin0)))))
    have ne_b9_ha24 : b9 ≠ ha24 := Nat.ne_of_lt (Nat.lt_of_lt_of_le (Nat.lt_of_lt_of_le (Nat.lt_of_lt_of_le (Nat.lt_of_lt_of_le V9.lt E17.1) E19.1) K21.1) hs_ha24)
    have ne_b9_na24 : b9 ≠ na24 := Nat.ne_of_lt (Nat.lt_of_lt_of_le (Nat.lt_of_lt_of_le (Nat.lt_of_lt_of_le (Nat.lt_of_lt_of_le V9.lt E17.1) E19.1) K21.1) hs_na24)
    have ne_b9_fa24 : b9 ≠ fa24 := Nat.ne_of_lt (Nat.lt_of_lt_of_le (Nat.lt_of_lt_of_le (Nat.lt_of_lt_of_le (Nat.lt_of_lt_of_le V9.lt E17.1) E19.1) K21.1) hs_fa24)
    have qz76 := ((qz55.keep K49 (ninS (Ne.symm ne_b2_b9) nin0)).keep K57 (ninS ne_b9_b17 (ninS ne_b9_fa24 (ninS ne_b9_na24 (ninS ne_b9_ha24 nin0)))))
    have qz77 := (Nat.le_trans qz73 K57.1)
    obtain ⟨fa1, na1, kf1, kn1, F1, nf1, vs1, v1, v2, LL1, rl1, S1, D1, hlen1, hN1, hF1⟩ := FN57
    rcases hF1 with ⟨rfl, rfl⟩ | ⟨rfl, rfl⟩
    · skip
      exact sg61_16p (Q := Q0 Z p0 p1 p2 wE h0 n0) p0 p1 p2 (p0 &&& (15 : Int32)) (p1 &&& (7 : Int32)) b1 b2 b17 kc24 fa1 na1 ha24 b9 kk24 kf1 kn1 kh24 k9 LL1 rl1 v1 v2 vs1 T57.heap n0 X57 hx hZ hw hby hml hown hret hlk (fun _ _ N => ⟨rfl, N⟩) rfl qz77 N57 S1 D1 hlen1 hN1 (own_m15 p0) (own_m7 p1) qz74 qz75 qz76 g_b2 (Ne.symm ne_b2_b9) ne_b9_b17
    · skip
      exact sg61_32p (Q := Q0 Z p0 p1 p2 wE h0 n0) p0 p1 p2 (p0 &&& (15 : Int32)) (p1 &&& (7 : Int32)) b1 b2 b17 kc24 fa1 na1 ha24 b9 kk24 kf1 kn1 kh24 k9 LL1 rl1 v1 v2 vs1 T57.heap n0 X57 hx hZ hw hby hml hown hret hlk (fun _ _ N => ⟨rfl, N⟩) rfl qz77 N57 S1 D1 hlen1 hN1 (own_m15 p0) (own_m7 p1) qz74 qz75 qz76 g_b2 (Ne.symm ne_b2_b9) ne_b9_b17
set_option maxRecDepth 65536 in
set_option maxHeartbeats 40000000 in
theorem comes_1 {Post : Tables → Env → Array Value → State → Outcome → State → Prop} (hpost : ∀ tb e args s v u, (limb_1_1.after args s (.returned v) u = true ∧ limb_1_2.after args s (.returned v) u = true ∧ True) → FrameEnd s (.returned v) u (Jvm.fieldLocs frame_1_writes args s ++ Jvm.arrayLocs frame_1_arrays args s ++ Jvm.staticLocs frame_1_statics s) 40 448 → Post tb e args s (.returned v) u) :
    ArmFor flags0 classFile x code maxLocals ret World_1 tables_1 room_1 Calls_1 rest_1 Pre_1 Post := by
  intro l hfl _ _ p e ha hc hk s m args below hf hA hF happ hP
  obtain ⟨hcalls, hrest, hpre⟩ := hP
  obtain ⟨-, -, -, hnamed, -, -, -, hat⟩ := (Spec.applies_iff hf).mp happ
  obtain ⟨hg, hn⟩ := and_e (Cond.before_iff.mp (show (Jvm.Cond.and given_1 narrow_1).before args s = true from hpre))
  obtain ⟨g1, g2⟩ := and_e hg
  obtain ⟨g3, g4⟩ := and_e g2
  obtain ⟨g5, g6⟩ := and_e g4
  obtain ⟨w0, w1, w2, rfl⟩ : ∃ w0 w1 w2 : Value, args = #[w0, w1, w2] := by
    have hs : args.size = 3 := by simpa [Cond.value, given_1] using g1
    obtain ⟨L⟩ := args
    match L, hs with
    | [w0, w1, w2], _ => exact ⟨w0, w1, w2, rfl⟩
  have hw := fun d (hd : d ∈ tables_1) => atoms_spec (ws := Jvm.Cond.code x code maxLocals ret :: tables_1) hat d (List.mem_cons_of_mem _ hd)
  have hfit : Fit s := fun {y c} hc i hi => by
    obtain ⟨ha, rfl⟩ := Array.getElem?_eq_some_iff.mp hc
    have q := List.all_eq_true.mp ((Array.all_eq_true_iff_forall_mem.mp hF) _ (Array.getElem_mem ha)) i (List.mem_range.mpr hi)
    simpa [Array.getElem?_eq_getElem hi] using q
  obtain ⟨hsets, hown0⟩ := atoms_of _ (rest_1_c_eq ▸ (show rest_1_c.before _ s = true from hrest))
  have hr0 := Cond.before_iff.mp hown0
  obtain ⟨i0, ei0⟩ := is_v g3
  obtain rfl : w0 = (.int i0) := Option.some.inj ei0
  obtain ⟨i1, ei1⟩ := is_v g5
  obtain rfl : w1 = (.int i1) := Option.some.inj ei1
  obtain ⟨i2, ei2⟩ := is_v g6
  obtain rfl : w2 = (.int i2) := Option.some.inj ei2
  obtain ⟨wE, evE⟩ := arr_v (Cond.before_iff.mp (hsets _ (List.mem_of_getElem? (i := 6) rfl)))
  have S_e := Sta.start evE (Or.inr ⟨(hw _ (List.mem_of_getElem? (i := 6) rfl)), (hsets _ (List.mem_of_getElem? (i := 2) rfl))⟩)
  obtain ⟨n, o, h1, h2, h3, _, L, rfl, ⟨rfl, N⟩, hq⟩ := rm0 l s _ hw tables_1 i0 i1 i2 wE s.heap s.heap.size (Nat.le_refl _) S_e p e ha hc hk s m _ below hf ((Spec.applies_iff_loose hf).mp happ).1 ⟨rfl, State.Warmed39.refl s, rfl⟩ trivial
  refine ⟨n, _, h1, h2, h3, hpost _ _ _ _ _ _ ⟨Cond.after_iff.mpr rfl, Cond.after_iff.mpr (eq_i res_at (Term.int_eval (1)) rfl), trivial⟩ ⟨hq.1, hq.2.1, (hq.2.2.sift fun y hy => Or.inr (N y hy)).mono (by decide) (by decide)⟩⟩
theorem main_1_1 : Claimed_1_1 := comes_1 fun _ _ _ _ _ _ h hF => ⟨h.1, hF⟩
theorem main_1_2 : Claimed_1_2 := comes_1 fun _ _ _ _ _ _ h hF => ⟨h.2.1, hF⟩
end Jvm.Pilot.@@N@@
namespace Jvm.Pilot.@@N@@
open Jvm Jvm.ClassFile Sem Op Lib Jvm.Free Jvm.Stand Jvm.Pilot.@@N@@.Jvm.D
/-! MADE BY PROGRAM (witnessworld.py) out of the Statement's table words and the real class files: 34 classes; the members and pool entries that the words name. The judged class is class 1, her method 1. -/
namespace start1
open Jvm.ClassFile
def u (s : String) : CpInfo := .utf8 (stringToUtf16 s)
/-- a pool by its gaps: so many unusable entries, then the entry; so many at the end -/
def gap : Nat → List CpInfo → List CpInfo
  | 0, r => r
  | n + 1, r => .unusable :: gap n r
def poolList (es : List (Nat × CpInfo)) (last : Nat) : List CpInfo := es.foldr (fun e r => gap e.1 (e.2 :: r)) (gap last [])
def pool (es : List (Nat × CpInfo)) (last : Nat) : Array CpInfo := ⟨poolList es last⟩
def fileOf (pool : Array CpInfo) (this : Nat) (attrs : Array Attribute := #[]) (ms : Array MethodInfo := #[]) (fl : Nat := 33) (sup : Nat := 0) (ifs : Array Nat := #[]) (fds : Array FieldInfo := #[]) : ClassFile where
  minorVersion := 0
  majorVersion := 65
  constantPool := pool
  accessFlags := fl
  thisClass := this
  superClass := sup
  interfaces := ifs
  fields := fds
  methods := ms
  attributes := attrs
def plain (name : String) (sup : Option ClassId) : Class where
  name := name
  kind := .ordinary
  loader := none
  accessFlags := 33
  super := sup
  interfaces := #[]
  cf := none
  fields := #[]
  methods := #[]
  instanceTypes := #[]
  staticTypes := #[]
  resolved := #[]
  callSites := []
  init := .initialized
  statics := none
  mirror := none

def pool0 : Array CpInfo := pool [(5, u "<init>"), (0, u "()V"), (1, .class_ 10), (1, u "java/lang/Object")] 113

def k0c0 : Code := { maxStack := 0, maxLocals := 1, code := object_method_1_code, exceptionTable := #[], attributes := #[] }
def k0m0 : Method := { name := "<init>", desc := "()V", sig := { parameters := [], returnType := none }, accessFlags := 1, code := some k0c0 }
/-- java/lang/Object -/
def k0 : Class := { plain "java/lang/Object" none with
  accessFlags := 33
  interfaces := #[]
  cf := some (fileOf pool0 8 #[] #[{ accessFlags := 1, nameIndex := 5, descriptorIndex := 6, attributes := #[] }] 33 0 #[] #[])
  fields := #[]
  methods := #[k0m0]
  instanceTypes := #[]
  staticTypes := #[]
  resolved := Array.replicate 124 none
  statics := none }

def pool1 : Array CpInfo := pool [(2, .class_ 4), (0, .nameAndType 5 6), (0, u "java/lang/Object"), (0, u "<init>"), (0, u "()V"), (0, .class_ 8), (0, u "com/example/headway/headway/engine/RowBuffer"), (0, .class_ 10), (0, u "java/util/ArrayList"), (0, .methodref 9 3), (0, .methodref 7 13), (0, .nameAndType 5 14), (0, u "(Ljava/util/List;)V"), (0, .class_ 16), (0, u "com/example/headway/headway/engine/HashIndex"), (0, .methodref 15 18), (0, .nameAndType 5 19), (0, u "(Lcom/example/headway/headway/engine/RowBuffer;Ljava/util/List;)V"), (0, .methodref 21 22), (0, .class_ 23), (0, .nameAndType 24 25), (0, u "com/example/headway/headway/engine/HashIndexStopGrowingPinLaw"), (0, u "appendRows"), (0, u "(Lcom/example/headway/headway/engine/RowBuffer;I)V"), (0, .methodref 15 27), (0, .nameAndType 28 6), (0, u "indexNewRows"), (0, .methodref 15 30), (0, .nameAndType 31 6), (0, u "stopGrowing"), (0, .methodref 15 33), (0, .nameAndType 34 35), (0, u "find"), (0, u "(Lcom/example/headway/headway/engine/Row;[I)I"), (0, .integer 2147483647), (0, .methodref 15 38), (0, .nameAndType 39 40), (0, u "findNext"), (0, u "(ILcom/example/headway/headway/engine/Row;[I)I"), (0, .methodref 7 42), (0, .nameAndType 43 44), (0, u "size"), (0, u "()I"), (0, .methodref 7 46), (0, .nameAndType 47 48), (0, u "append"), (0, u "(Lcom/example/headway/headway/engine/Row;)V"), (2, u "law"), (0, u "(III)Z")] 5

def k1m0 : Method := { name := "<init>", desc := "()V", sig := { parameters := [], returnType := none }, accessFlags := 1, code := none }
def k1c1 : Code := { maxStack := 5, maxLocals := 13, code := code, exceptionTable := #[], attributes := #[] }
def k1m1 : Method := { name := "law", desc := "(III)Z", sig := { parameters := [.int, .int, .int], returnType := some .boolean }, accessFlags := 9, code := some k1c1 }
def k1c2 : Code := { maxStack := 2, maxLocals := 2, code := method_3_code, exceptionTable := #[], attributes := #[] }
def k1m2 : Method := { name := "appendRows", desc := "(Lcom/example/headway/headway/engine/RowBuffer;I)V", sig := { parameters := [(.object "com/example/headway/headway/engine/RowBuffer"), .int], returnType := none }, accessFlags := 10, code := some k1c2 }
/-- com/example/headway/headway/engine/HashIndexStopGrowingPinLaw -/
def k1 : Class := { plain "com/example/headway/headway/engine/HashIndexStopGrowingPinLaw" (some 0) with
  accessFlags := 49
  interfaces := #[]
  cf := some (fileOf pool1 21 #[] #[{ accessFlags := 1, nameIndex := 5, descriptorIndex := 6, attributes := #[] }, { accessFlags := 9, nameIndex := 51, descriptorIndex := 52, attributes := #[] }, { accessFlags := 10, nameIndex := 24, descriptorIndex := 25, attributes := #[] }] 49 2 #[] #[])
  fields := #[]
  methods := #[k1m0, k1m1, k1m2]
  instanceTypes := #[]
  staticTypes := #[]
  resolved := Array.replicate 58 none
  statics := none }

def pool2 : Array CpInfo := pool [(3, .methodref 4 5), (0, .class_ 6), (0, .nameAndType 7 8), (0, u "com/example/headway/headway/engine/RowBuffer"), (0, u "<init>"), (0, u "(Ljava/util/List;IZ)V"), (0, .methodref 10 11), (0, .class_ 12), (0, .nameAndType 7 13), (0, u "java/lang/Object"), (0, u "()V"), (0, .integer 2147483639), (9, .interfaceMethodref 25 26), (0, .class_ 27), (0, .nameAndType 28 29), (0, u "java/util/List"), (0, u "size"), (0, u "()I"), (0, .class_ 31), (0, u "[J"), (0, .fieldref 4 33), (0, .nameAndType 34 35), (0, u "numbers"), (0, u "[[J"), (0, .class_ 37), (0, u "[Ljava/lang/String;"), (0, .fieldref 4 39), (0, .nameAndType 40 41), (0, u "strings"), (0, u "[[Ljava/lang/String;"), (24, .fieldref 4 67), (0, .nameAndType 68 69), (0, u "capacity"), (0, u "I"), (0, .fieldref 4 71), (0, .nameAndType 72 73), (0, u "doubles"), (0, u "Z"), (0, .fieldref 4 75), (0, .nameAndType 28 69), (0, .methodref 4 77), (0, .nameAndType 78 13), (0, u "grow"), (29, .methodref 109 110), (0, .class_ 111), (0, .nameAndType 112 113), (0, u "java/lang/Math"), (0, u "max"), (0, u "(II)I"), (0, .long 2147483639), (1, .methodref 109 117), (0, .nameAndType 118 119), (0, u "min"), (0, u "(JJ)J"), (9, u "MAX_ROWS"), (1, u "MIN_GROWTH"), (6, u "(Ljava/util/List;)V"), (3, u "append"), (0, u "(Lcom/example/headway/headway/engine/Row;)V")] 30

def k2c0 : Code := { maxStack := 4, maxLocals := 2, code := prog_83_method_2_code, exceptionTable := #[], attributes := #[] }
def k2m0 : Method := { name := "<init>", desc := "(Ljava/util/List;)V", sig := { parameters := [(.object "java/util/List")], returnType := none }, accessFlags := 1, code := some k2c0 }
def k2c1 : Code := { maxStack := 3, maxLocals := 5, code := prog_83_method_3_code, exceptionTable := #[], attributes := #[] }
def k2m1 : Method := { name := "<init>", desc := "(Ljava/util/List;IZ)V", sig := { parameters := [(.object "java/util/List"), .int, .boolean], returnType := none }, accessFlags := 2, code := some k2c1 }
def k2c2 : Code := { maxStack := 1, maxLocals := 1, code := prog_83_method_4_code, exceptionTable := #[], attributes := #[] }
def k2m2 : Method := { name := "size", desc := "()I", sig := { parameters := [], returnType := some .int }, accessFlags := 1, code := some k2c2 }
def k2c3 : Code := { maxStack := 4, maxLocals := 3, code := prog_83_method_6_code, exceptionTable := #[], attributes := #[] }
def k2m3 : Method := { name := "append", desc := "(Lcom/example/headway/headway/engine/Row;)V", sig := { parameters := [(.object "com/example/headway/headway/engine/Row")], returnType := none }, accessFlags := 1, code := some k2c3 }
def k2c4 : Code := { maxStack := 7, maxLocals := 4, code := prog_83_method_14_code, exceptionTable := #[], attributes := #[] }
def k2m4 : Method := { name := "grow", desc := "()V", sig := { parameters := [], returnType := none }, accessFlags := 2, code := some k2c4 }
/-- com/example/headway/headway/engine/RowBuffer -/
def k2 : Class := { plain "com/example/headway/headway/engine/RowBuffer" (some 0) with
  accessFlags := 49
  interfaces := #[]
  cf := some (fileOf pool2 4 #[] #[{ accessFlags := 1, nameIndex := 7, descriptorIndex := 138, attributes := #[] }, { accessFlags := 2, nameIndex := 7, descriptorIndex := 8, attributes := #[] }, { accessFlags := 1, nameIndex := 28, descriptorIndex := 29, attributes := #[] }, { accessFlags := 1, nameIndex := 142, descriptorIndex := 143, attributes := #[] }, { accessFlags := 2, nameIndex := 78, descriptorIndex := 13, attributes := #[] }] 49 10 #[] #[{ accessFlags := 25, nameIndex := 129, descriptorIndex := 69, attributes := #[] }, { accessFlags := 26, nameIndex := 131, descriptorIndex := 69, attributes := #[] }, { accessFlags := 18, nameIndex := 34, descriptorIndex := 35, attributes := #[] }, { accessFlags := 18, nameIndex := 40, descriptorIndex := 41, attributes := #[] }, { accessFlags := 18, nameIndex := 72, descriptorIndex := 73, attributes := #[] }, { accessFlags := 2, nameIndex := 68, descriptorIndex := 69, attributes := #[] }, { accessFlags := 2, nameIndex := 28, descriptorIndex := 69, attributes := #[] }])
  fields := #[{ name := "MAX_ROWS", type := .int, accessFlags := 25, slot := 0, constantValue := 0 }, { name := "MIN_GROWTH", type := .int, accessFlags := 26, slot := 1, constantValue := 0 }, { name := "numbers", type := (.array (.array .long)), accessFlags := 18, slot := 0, constantValue := 0 }, { name := "strings", type := (.array (.array (.object "java/lang/String"))), accessFlags := 18, slot := 1, constantValue := 0 }, { name := "doubles", type := .boolean, accessFlags := 18, slot := 2, constantValue := 0 }, { name := "capacity", type := .int, accessFlags := 2, slot := 3, constantValue := 0 }, { name := "size", type := .int, accessFlags := 2, slot := 4, constantValue := 0 }]
  methods := #[k2m0, k2m1, k2m2, k2m3, k2m4]
  instanceTypes := #[(.array (.array .long)), (.array (.array (.object "java/lang/String"))), .boolean, .int, .int]
  staticTypes := #[.int, .int]
  resolved := Array.replicate 174 none
  statics := none }

def pool3 : Array CpInfo := pool [(8, .class_ 10), (1, u "java/lang/Iterable"), (24, .class_ 36), (0, u "java/lang/Object")] 25

/-- java/lang/Iterable -/
def k3 : Class := { plain "java/lang/Iterable" (some 0) with
  accessFlags := 1537
  interfaces := #[]
  cf := some (fileOf pool3 8 #[] #[] 1537 35 #[] #[])
  fields := #[]
  methods := #[]
  instanceTypes := #[]
  staticTypes := #[]
  resolved := Array.replicate 62 none
  statics := none }

def pool4 : Array CpInfo := pool [(10, .class_ 12), (1, u "java/util/Collection"), (47, .class_ 61), (0, u "java/lang/Object"), (0, .class_ 63), (0, u "java/lang/Iterable")] 51

/-- java/util/Collection -/
def k4 : Class := { plain "java/util/Collection" (some 0) with
  accessFlags := 1537
  interfaces := #[3]
  cf := some (fileOf pool4 10 #[] #[] 1537 60 #[62] #[])
  fields := #[]
  methods := #[]
  instanceTypes := #[]
  staticTypes := #[]
  resolved := Array.replicate 115 none
  statics := none }

def pool5 : Array CpInfo := pool [(1, .methodref 2 3), (0, .class_ 4), (0, .nameAndType 5 6), (0, u "java/lang/Object"), (0, u "<init>"), (0, u "()V"), (1, .class_ 10), (1, u "java/util/AbstractCollection"), (66, .class_ 78), (0, u "java/util/Collection")] 81

def k5c0 : Code := { maxStack := 1, maxLocals := 1, code := jdk_22_method_1_code, exceptionTable := #[], attributes := #[] }
def k5m0 : Method := { name := "<init>", desc := "()V", sig := { parameters := [], returnType := none }, accessFlags := 4, code := some k5c0 }
/-- java/util/AbstractCollection -/
def k5 : Class := { plain "java/util/AbstractCollection" (some 0) with
  accessFlags := 1057
  interfaces := #[4]
  cf := some (fileOf pool5 8 #[] #[{ accessFlags := 4, nameIndex := 5, descriptorIndex := 6, attributes := #[] }] 1057 2 #[77] #[])
  fields := #[]
  methods := #[k5m0]
  instanceTypes := #[]
  staticTypes := #[]
  resolved := Array.replicate 160 none
  statics := none }

def pool6 : Array CpInfo := pool [(8, .class_ 10), (1, u "java/util/SequencedCollection"), (15, .class_ 27), (0, u "java/lang/Object"), (0, .class_ 29), (0, u "java/util/Collection")] 27

/-- java/util/SequencedCollection -/
def k6 : Class := { plain "java/util/SequencedCollection" (some 0) with
  accessFlags := 1537
  interfaces := #[4]
  cf := some (fileOf pool6 8 #[] #[] 1537 26 #[28] #[])
  fields := #[]
  methods := #[]
  instanceTypes := #[]
  staticTypes := #[]
  resolved := Array.replicate 57 none
  statics := none }

def pool7 : Array CpInfo := pool [(8, .class_ 10), (1, u "java/util/List"), (68, u "size"), (0, u "()I"), (22, .class_ 104), (0, u "java/lang/Object"), (15, .class_ 121), (0, u "java/util/SequencedCollection")] 129

def k7m0 : Method := { name := "size", desc := "()I", sig := { parameters := [], returnType := some .int }, accessFlags := 1025, code := none }
/-- java/util/List -/
def k7 : Class := { plain "java/util/List" (some 0) with
  accessFlags := 1537
  interfaces := #[6]
  cf := some (fileOf pool7 8 #[] #[{ accessFlags := 1025, nameIndex := 79, descriptorIndex := 80, attributes := #[] }] 1537 103 #[120] #[])
  fields := #[]
  methods := #[k7m0]
  instanceTypes := #[]
  staticTypes := #[]
  resolved := Array.replicate 251 none
  statics := none }

def pool8 : Array CpInfo := pool [(1, .methodref 2 3), (0, .class_ 4), (0, .nameAndType 5 6), (0, u "java/util/AbstractCollection"), (0, u "<init>"), (0, u "()V"), (0, .fieldref 8 9), (0, .class_ 10), (0, .nameAndType 11 12), (0, u "java/util/AbstractList"), (0, u "modCount"), (0, u "I"), (64, .class_ 78), (0, u "java/util/AbstractList$Itr"), (3, .class_ 83), (0, u "java/util/AbstractList$ListItr"), (9, .class_ 94), (0, u "java/util/AbstractList$RandomAccessSubList"), (3, .class_ 99), (0, u "java/util/AbstractList$SubList"), (33, .class_ 134), (0, u "java/util/List"), (73, .class_ 209), (0, u "java/util/AbstractList$SubList$1"), (0, .class_ 211), (0, u "java/util/AbstractList$RandomAccessSpliterator")] 6

def k8c0 : Code := { maxStack := 2, maxLocals := 1, code := jdk_39_method_1_code, exceptionTable := #[], attributes := #[] }
def k8m0 : Method := { name := "<init>", desc := "()V", sig := { parameters := [], returnType := none }, accessFlags := 4, code := some k8c0 }
/-- java/util/AbstractList -/
def k8 : Class := { plain "java/util/AbstractList" (some 5) with
  accessFlags := 1057
  interfaces := #[7]
  cf := some (fileOf pool8 8 #[.nestMembers #[93, 98, 208, 210, 82, 77]] #[{ accessFlags := 4, nameIndex := 5, descriptorIndex := 6, attributes := #[] }] 1057 2 #[133] #[{ accessFlags := 132, nameIndex := 11, descriptorIndex := 12, attributes := #[] }])
  fields := #[{ name := "modCount", type := .int, accessFlags := 132, slot := 0, constantValue := 0 }]
  methods := #[k8m0]
  instanceTypes := #[.int]
  staticTypes := #[]
  resolved := Array.replicate 218 none
  statics := none }

def pool9 : Array CpInfo := pool [(1, .class_ 2), (0, u "java/util/RandomAccess"), (0, .class_ 4), (0, u "java/lang/Object")] 2

/-- java/util/RandomAccess -/
def k9 : Class := { plain "java/util/RandomAccess" (some 0) with
  accessFlags := 1537
  interfaces := #[]
  cf := some (fileOf pool9 1 #[] #[] 1537 3 #[] #[])
  fields := #[]
  methods := #[]
  instanceTypes := #[]
  staticTypes := #[]
  resolved := Array.replicate 7 none
  statics := none }

def pool10 : Array CpInfo := pool [(1, .class_ 2), (0, u "java/lang/Cloneable"), (0, .class_ 4), (0, u "java/lang/Object")] 2

/-- java/lang/Cloneable -/
def k10 : Class := { plain "java/lang/Cloneable" (some 0) with
  accessFlags := 1537
  interfaces := #[]
  cf := some (fileOf pool10 1 #[] #[] 1537 3 #[] #[])
  fields := #[]
  methods := #[]
  instanceTypes := #[]
  staticTypes := #[]
  resolved := Array.replicate 7 none
  statics := none }

def pool11 : Array CpInfo := pool [(1, .class_ 2), (0, u "java/io/Serializable"), (0, .class_ 4), (0, u "java/lang/Object")] 2

/-- java/io/Serializable -/
def k11 : Class := { plain "java/io/Serializable" (some 0) with
  accessFlags := 1537
  interfaces := #[]
  cf := some (fileOf pool11 1 #[] #[] 1537 3 #[] #[])
  fields := #[]
  methods := #[]
  instanceTypes := #[]
  staticTypes := #[]
  resolved := Array.replicate 7 none
  statics := none }

def pool12 : Array CpInfo := pool [(1, .methodref 2 3), (0, .class_ 4), (0, .nameAndType 5 6), (0, u "java/util/AbstractList"), (0, u "<init>"), (0, u "()V"), (2, .fieldref 10 11), (0, .class_ 12), (0, .nameAndType 13 14), (0, u "java/util/ArrayList"), (0, u "elementData"), (0, u "[Ljava/lang/Object;"), (2, u "EMPTY_ELEMENTDATA"), (21, .fieldref 10 40), (0, .nameAndType 41 14), (0, u "DEFAULTCAPACITY_EMPTY_ELEMENTDATA"), (6, .fieldref 10 49), (0, .nameAndType 50 51), (0, u "size"), (0, u "I"), (96, .class_ 149), (0, u "java/util/List"), (36, u "()I"), (75, .class_ 263), (0, u "java/util/ArrayList$ListItr"), (3, .class_ 268), (0, u "java/util/ArrayList$Itr"), (7, .class_ 277), (0, u "java/util/ArrayList$SubList"), (12, .class_ 291), (0, u "java/util/ArrayList$ArrayListSpliterator"), (37, .class_ 330), (0, u "java/util/RandomAccess"), (0, .class_ 332), (0, u "java/lang/Cloneable"), (0, .class_ 334), (0, u "java/io/Serializable"), (0, u "serialVersionUID"), (0, u "J"), (3, u "DEFAULT_CAPACITY"), (159, .class_ 501), (0, u "java/util/ArrayList$SubList$2"), (0, .class_ 503), (0, u "java/util/ArrayList$SubList$1")] 5

def k12c0 : Code := { maxStack := 2, maxLocals := 1, code := jdk_38_method_2_code, exceptionTable := #[], attributes := #[] }
def k12m0 : Method := { name := "<init>", desc := "()V", sig := { parameters := [], returnType := none }, accessFlags := 1, code := some k12c0 }
def k12c1 : Code := { maxStack := 1, maxLocals := 1, code := jdk_38_method_8_code, exceptionTable := #[], attributes := #[] }
def k12m1 : Method := { name := "size", desc := "()I", sig := { parameters := [], returnType := some .int }, accessFlags := 1, code := some k12c1 }
/-- java/util/ArrayList -/
def k12 : Class := { plain "java/util/ArrayList" (some 8) with
  accessFlags := 33
  interfaces := #[7, 9, 10, 11]
  cf := some (fileOf pool12 10 #[.nestMembers #[290, 276, 500, 502, 262, 267]] #[{ accessFlags := 1, nameIndex := 5, descriptorIndex := 6, attributes := #[] }, { accessFlags := 1, nameIndex := 50, descriptorIndex := 186, attributes := #[] }] 33 2 #[148, 329, 331, 333] #[{ accessFlags := 26, nameIndex := 335, descriptorIndex := 336, attributes := #[] }, { accessFlags := 26, nameIndex := 340, descriptorIndex := 51, attributes := #[] }, { accessFlags := 26, nameIndex := 17, descriptorIndex := 14, attributes := #[] }, { accessFlags := 26, nameIndex := 41, descriptorIndex := 14, attributes := #[] }, { accessFlags := 128, nameIndex := 13, descriptorIndex := 14, attributes := #[] }, { accessFlags := 2, nameIndex := 50, descriptorIndex := 51, attributes := #[] }])
  fields := #[{ name := "serialVersionUID", type := .long, accessFlags := 26, slot := 0, constantValue := 0 }, { name := "DEFAULT_CAPACITY", type := .int, accessFlags := 26, slot := 1, constantValue := 0 }, { name := "EMPTY_ELEMENTDATA", type := (.array (.object "java/lang/Object")), accessFlags := 26, slot := 2, constantValue := 0 }, { name := "DEFAULTCAPACITY_EMPTY_ELEMENTDATA", type := (.array (.object "java/lang/Object")), accessFlags := 26, slot := 3, constantValue := 0 }, { name := "elementData", type := (.array (.object "java/lang/Object")), accessFlags := 128, slot := 1, constantValue := 0 }, { name := "size", type := .int, accessFlags := 2, slot := 2, constantValue := 0 }]
  methods := #[k12m0, k12m1]
  instanceTypes := #[.int, (.array (.object "java/lang/Object")), .int]
  staticTypes := #[.long, .int, (.array (.object "java/lang/Object")), (.array (.object "java/lang/Object"))]
  resolved := Array.replicate 509 none
  statics := some 0 }

def pool13 : Array CpInfo := pool [(1, .class_ 2), (0, u "com/example/headway/headway/engine/HashIndex"), (0, .methodref 4 5), (0, .class_ 6), (0, .nameAndType 7 8), (0, u "java/lang/Object"), (0, u "<init>"), (0, u "()V"), (0, .fieldref 1 10), (0, .nameAndType 11 12), (0, u "firstInBucket"), (0, u "[I"), (0, .fieldref 1 14), (0, .nameAndType 15 12), (0, u "nextInBucket"), (0, .fieldref 1 17), (0, .nameAndType 18 12), (0, u "hashes"), (0, .double 4604930618986332160), (1, .fieldref 1 22), (0, .nameAndType 23 24), (0, u "loadLimit"), (0, u "I"), (0, .fieldref 1 26), (0, .nameAndType 27 28), (0, u "rows"), (0, u "Lcom/example/headway/headway/engine/RowBuffer;"), (0, .interfaceMethodref 30 31), (0, .class_ 32), (0, .nameAndType 33 34), (0, u "java/util/List"), (0, u "size"), (0, u "()I"), (0, .fieldref 1 36), (0, .nameAndType 37 12), (0, u "keyColumns"), (4, .class_ 43), (0, u "java/lang/Integer"), (3, .methodref 48 49), (0, .class_ 50), (0, .nameAndType 51 52), (0, u "java/util/Arrays"), (0, u "fill"), (0, u "([II)V"), (0, .fieldref 1 54), (0, .nameAndType 55 24), (0, u "indexed"), (0, .methodref 57 31), (0, .class_ 58), (0, u "com/example/headway/headway/engine/RowBuffer"), (0, .integer 805306368), (7, .methodref 48 68), (0, .nameAndType 69 70), (0, u "copyOf"), (0, u "([II)[I"), (0, .methodref 1 72), (0, .nameAndType 73 74), (0, u "hashOf"), (0, u "(I)I"), (0, .integer 2654435769), (0, .methodref 1 77), (0, .nameAndType 78 79), (0, u "link"), (0, u "(II[I[I)V"), (0, .fieldref 1 81), (0, .nameAndType 82 12), (0, u "largerFirstInBucket"), (0, .methodref 1 84), (0, .nameAndType 85 8), (0, u "linkIntoLarger"), (0, .methodref 1 87), (0, .nameAndType 88 8), (0, u "buildLarger"), (0, .fieldref 1 90), (0, .nameAndType 91 12), (0, u "largerNextInBucket"), (0, .methodref 1 93), (0, .nameAndType 73 94), (0, u "(Lcom/example/headway/headway/engine/Row;[I)I"), (0, .methodref 1 96), (0, .nameAndType 97 98), (0, u "bucketOf"), (0, u "(I[I)I"), (0, .methodref 1 100), (0, .nameAndType 101 102), (0, u "matchFrom"), (0, u "(IILcom/example/headway/headway/engine/Row;[I)I"), (0, .methodref 1 104), (0, .nameAndType 105 106), (0, u "keyEquals"), (0, u "(ILcom/example/headway/headway/engine/Row;[I)Z"), (34, .methodref 42 142), (0, .nameAndType 143 74), (0, u "numberOfLeadingZeros"), (0, .fieldref 1 145), (0, .nameAndType 146 24), (0, u "relinked"), (0, .methodref 148 149), (0, .class_ 150), (0, .nameAndType 151 152), (0, u "java/lang/Math"), (0, u "min"), (0, u "(II)I"), (0, u "MAX_LOAD"), (0, u "D"), (1, u "MAX_ROWS"), (0, u "RELINKS_PER_ROW"), (1, u "SPREAD"), (0, u "NONE"), (1, u "(Lcom/example/headway/headway/engine/RowBuffer;Ljava/util/List;)V"), (5, u "indexNewRows"), (0, u "stopGrowing"), (0, u "find"), (0, u "findNext"), (0, u "(ILcom/example/headway/headway/engine/Row;[I)I")] 3

def k13c0 : Code := { maxStack := 5, maxLocals := 4, code := prog_57_method_1_code, exceptionTable := #[], attributes := #[] }
def k13m0 : Method := { name := "<init>", desc := "(Lcom/example/headway/headway/engine/RowBuffer;Ljava/util/List;)V", sig := { parameters := [(.object "com/example/headway/headway/engine/RowBuffer"), (.object "java/util/List")], returnType := none }, accessFlags := 0, code := some k13c0 }
def k13c1 : Code := { maxStack := 4, maxLocals := 2, code := prog_57_method_2_code, exceptionTable := #[], attributes := #[] }
def k13m1 : Method := { name := "indexNewRows", desc := "()V", sig := { parameters := [], returnType := none }, accessFlags := 0, code := some k13c1 }
def k13c2 : Code := { maxStack := 2, maxLocals := 1, code := prog_57_method_3_code, exceptionTable := #[], attributes := #[] }
def k13m2 : Method := { name := "stopGrowing", desc := "()V", sig := { parameters := [], returnType := none }, accessFlags := 0, code := some k13c2 }
def k13c3 : Code := { maxStack := 5, maxLocals := 4, code := prog_57_method_4_code, exceptionTable := #[], attributes := #[] }
def k13m3 : Method := { name := "find", desc := "(Lcom/example/headway/headway/engine/Row;[I)I", sig := { parameters := [(.object "com/example/headway/headway/engine/Row"), (.array .int)], returnType := some .int }, accessFlags := 0, code := some k13c3 }
def k13c4 : Code := { maxStack := 5, maxLocals := 4, code := prog_57_method_5_code, exceptionTable := #[], attributes := #[] }
def k13m4 : Method := { name := "findNext", desc := "(ILcom/example/headway/headway/engine/Row;[I)I", sig := { parameters := [.int, (.object "com/example/headway/headway/engine/Row"), (.array .int)], returnType := some .int }, accessFlags := 0, code := some k13c4 }
def k13c5 : Code := { maxStack := 4, maxLocals := 5, code := prog_57_method_6_code, exceptionTable := #[], attributes := #[] }
def k13m5 : Method := { name := "matchFrom", desc := "(IILcom/example/headway/headway/engine/Row;[I)I", sig := { parameters := [.int, .int, (.object "com/example/headway/headway/engine/Row"), (.array .int)], returnType := some .int }, accessFlags := 2, code := some k13c5 }
def k13c6 : Code := { maxStack := 5, maxLocals := 7, code := prog_57_method_7_code, exceptionTable := #[], attributes := #[] }
def k13m6 : Method := { name := "keyEquals", desc := "(ILcom/example/headway/headway/engine/Row;[I)Z", sig := { parameters := [.int, (.object "com/example/headway/headway/engine/Row"), (.array .int)], returnType := some .boolean }, accessFlags := 2, code := some k13c6 }
def k13c7 : Code := { maxStack := 4, maxLocals := 7, code := prog_57_method_8_code, exceptionTable := #[], attributes := #[] }
def k13m7 : Method := { name := "hashOf", desc := "(I)I", sig := { parameters := [.int], returnType := some .int }, accessFlags := 2, code := some k13c7 }
def k13c8 : Code := { maxStack := 4, maxLocals := 5, code := prog_57_method_9_code, exceptionTable := #[], attributes := #[] }
def k13m8 : Method := { name := "hashOf", desc := "(Lcom/example/headway/headway/engine/Row;[I)I", sig := { parameters := [(.object "com/example/headway/headway/engine/Row"), (.array .int)], returnType := some .int }, accessFlags := 2, code := some k13c8 }
def k13c9 : Code := { maxStack := 3, maxLocals := 2, code := prog_57_method_10_code, exceptionTable := #[], attributes := #[] }
def k13m9 : Method := { name := "bucketOf", desc := "(I[I)I", sig := { parameters := [.int, (.array .int)], returnType := some .int }, accessFlags := 10, code := some k13c9 }
def k13c10 : Code := { maxStack := 4, maxLocals := 5, code := prog_57_method_11_code, exceptionTable := #[], attributes := #[] }
def k13m10 : Method := { name := "link", desc := "(II[I[I)V", sig := { parameters := [.int, .int, (.array .int), (.array .int)], returnType := none }, accessFlags := 10, code := some k13c10 }
def k13c11 : Code := { maxStack := 3, maxLocals := 1, code := prog_57_method_12_code, exceptionTable := #[], attributes := #[] }
def k13m11 : Method := { name := "buildLarger", desc := "()V", sig := { parameters := [], returnType := none }, accessFlags := 2, code := some k13c11 }
def k13c12 : Code := { maxStack := 5, maxLocals := 3, code := prog_57_method_13_code, exceptionTable := #[], attributes := #[] }
def k13m12 : Method := { name := "linkIntoLarger", desc := "()V", sig := { parameters := [], returnType := none }, accessFlags := 2, code := some k13c12 }
/-- com/example/headway/headway/engine/HashIndex -/
def k13 : Class := { plain "com/example/headway/headway/engine/HashIndex" (some 0) with
  accessFlags := 48
  interfaces := #[]
  cf := some (fileOf pool13 1 #[] #[{ accessFlags := 0, nameIndex := 7, descriptorIndex := 162, attributes := #[] }, { accessFlags := 0, nameIndex := 168, descriptorIndex := 8, attributes := #[] }, { accessFlags := 0, nameIndex := 169, descriptorIndex := 8, attributes := #[] }, { accessFlags := 0, nameIndex := 170, descriptorIndex := 94, attributes := #[] }, { accessFlags := 0, nameIndex := 171, descriptorIndex := 172, attributes := #[] }, { accessFlags := 2, nameIndex := 101, descriptorIndex := 102, attributes := #[] }, { accessFlags := 2, nameIndex := 105, descriptorIndex := 106, attributes := #[] }, { accessFlags := 2, nameIndex := 73, descriptorIndex := 74, attributes := #[] }, { accessFlags := 2, nameIndex := 73, descriptorIndex := 94, attributes := #[] }, { accessFlags := 10, nameIndex := 97, descriptorIndex := 98, attributes := #[] }, { accessFlags := 10, nameIndex := 78, descriptorIndex := 79, attributes := #[] }, { accessFlags := 2, nameIndex := 88, descriptorIndex := 8, attributes := #[] }, { accessFlags := 2, nameIndex := 85, descriptorIndex := 8, attributes := #[] }] 48 4 #[] #[{ accessFlags := 26, nameIndex := 153, descriptorIndex := 154, attributes := #[] }, { accessFlags := 26, nameIndex := 156, descriptorIndex := 24, attributes := #[] }, { accessFlags := 26, nameIndex := 157, descriptorIndex := 24, attributes := #[] }, { accessFlags := 26, nameIndex := 159, descriptorIndex := 24, attributes := #[] }, { accessFlags := 26, nameIndex := 160, descriptorIndex := 24, attributes := #[] }, { accessFlags := 18, nameIndex := 27, descriptorIndex := 28, attributes := #[] }, { accessFlags := 18, nameIndex := 37, descriptorIndex := 12, attributes := #[] }, { accessFlags := 2, nameIndex := 11, descriptorIndex := 12, attributes := #[] }, { accessFlags := 2, nameIndex := 15, descriptorIndex := 12, attributes := #[] }, { accessFlags := 2, nameIndex := 18, descriptorIndex := 12, attributes := #[] }, { accessFlags := 2, nameIndex := 23, descriptorIndex := 24, attributes := #[] }, { accessFlags := 2, nameIndex := 82, descriptorIndex := 12, attributes := #[] }, { accessFlags := 2, nameIndex := 91, descriptorIndex := 12, attributes := #[] }, { accessFlags := 2, nameIndex := 146, descriptorIndex := 24, attributes := #[] }, { accessFlags := 2, nameIndex := 55, descriptorIndex := 24, attributes := #[] }])
  fields := #[{ name := "MAX_LOAD", type := .double, accessFlags := 26, slot := 0, constantValue := 0 }, { name := "MAX_ROWS", type := .int, accessFlags := 26, slot := 1, constantValue := 0 }, { name := "RELINKS_PER_ROW", type := .int, accessFlags := 26, slot := 2, constantValue := 0 }, { name := "SPREAD", type := .int, accessFlags := 26, slot := 3, constantValue := 0 }, { name := "NONE", type := .int, accessFlags := 26, slot := 4, constantValue := 0 }, { name := "rows", type := (.object "com/example/headway/headway/engine/RowBuffer"), accessFlags := 18, slot := 0, constantValue := 0 }, { name := "keyColumns", type := (.array .int), accessFlags := 18, slot := 1, constantValue := 0 }, { name := "firstInBucket", type := (.array .int), accessFlags := 2, slot := 2, constantValue := 0 }, { name := "nextInBucket", type := (.array .int), accessFlags := 2, slot := 3, constantValue := 0 }, { name := "hashes", type := (.array .int), accessFlags := 2, slot := 4, constantValue := 0 }, { name := "loadLimit", type := .int, accessFlags := 2, slot := 5, constantValue := 0 }, { name := "largerFirstInBucket", type := (.array .int), accessFlags := 2, slot := 6, constantValue := 0 }, { name := "largerNextInBucket", type := (.array .int), accessFlags := 2, slot := 7, constantValue := 0 }, { name := "relinked", type := .int, accessFlags := 2, slot := 8, constantValue := 0 }, { name := "indexed", type := .int, accessFlags := 2, slot := 9, constantValue := 0 }]
  methods := #[k13m0, k13m1, k13m2, k13m3, k13m4, k13m5, k13m6, k13m7, k13m8, k13m9, k13m10, k13m11, k13m12]
  instanceTypes := #[(.object "com/example/headway/headway/engine/RowBuffer"), (.array .int), (.array .int), (.array .int), (.array .int), .int, (.array .int), (.array .int), .int, .int]
  staticTypes := #[.double, .int, .int, .int, .int]
  resolved := Array.replicate 176 none
  statics := none }

def pool14 : Array CpInfo := pool [(2, .class_ 4), (1, u "java/lang/Object"), (0, u "<init>"), (0, u "()V"), (7, .class_ 16), (1, u "java/util/Arrays"), (57, .class_ 76), (1, u "java/util/Arrays$NaturalOrder"), (36, .class_ 115), (1, u "java/util/Arrays$LegacyMergeSort"), (1, u "Z"), (32, .methodref 151 152), (0, .class_ 153), (0, .nameAndType 154 155), (0, u "java/lang/System"), (0, u "arraycopy"), (0, u "(Ljava/lang/Object;ILjava/lang/Object;II)V"), (146, u "copyOf"), (1, .methodref 305 306), (0, .class_ 307), (0, .nameAndType 308 309), (0, u "java/lang/Math"), (0, u "min"), (0, u "(II)I"), (65, .class_ 376), (0, u "java/util/Arrays$ArrayList"), (68, u "$assertionsDisabled"), (269, u "MIN_ARRAY_SORT_GRAN"), (0, u "I"), (2, u "INSERTIONSORT_THRESHOLD"), (120, u "fill"), (4, u "([II)V"), (25, u "([II)[I"), (103, .class_ 976), (0, u "java/util/Arrays$ArrayItr")] 52

def k14m0 : Method := { name := "<init>", desc := "()V", sig := { parameters := [], returnType := none }, accessFlags := 2, code := none }
def k14c1 : Code := { maxStack := 3, maxLocals := 4, code := jdk_65_method_103_code, exceptionTable := #[], attributes := #[] }
def k14m1 : Method := { name := "fill", desc := "([II)V", sig := { parameters := [(.array .int), .int], returnType := none }, accessFlags := 9, code := some k14c1 }
def k14c2 : Code := { maxStack := 6, maxLocals := 3, code := jdk_65_method_123_code, exceptionTable := #[], attributes := #[] }
def k14m2 : Method := { name := "copyOf", desc := "([II)[I", sig := { parameters := [(.array .int), .int], returnType := some (.array .int) }, accessFlags := 9, code := some k14c2 }
/-- java/util/Arrays -/
def k14 : Class := { plain "java/util/Arrays" (some 0) with
  accessFlags := 49
  interfaces := #[]
  cf := some (fileOf pool14 14 #[.nestMembers #[975, 375, 113, 74]] #[{ accessFlags := 2, nameIndex := 5, descriptorIndex := 6, attributes := #[] }, { accessFlags := 9, nameIndex := 840, descriptorIndex := 845, attributes := #[] }, { accessFlags := 9, nameIndex := 302, descriptorIndex := 871, attributes := #[] }] 49 2 #[] #[{ accessFlags := 26, nameIndex := 715, descriptorIndex := 716, attributes := #[] }, { accessFlags := 26, nameIndex := 719, descriptorIndex := 716, attributes := #[] }, { accessFlags := 4120, nameIndex := 445, descriptorIndex := 117, attributes := #[] }])
  fields := #[{ name := "MIN_ARRAY_SORT_GRAN", type := .int, accessFlags := 26, slot := 0, constantValue := 0 }, { name := "INSERTIONSORT_THRESHOLD", type := .int, accessFlags := 26, slot := 1, constantValue := 0 }, { name := "$assertionsDisabled", type := .boolean, accessFlags := 4120, slot := 2, constantValue := 0 }]
  methods := #[k14m0, k14m1, k14m2]
  instanceTypes := #[]
  staticTypes := #[.int, .int, .boolean]
  resolved := Array.replicate 1029 none
  statics := none }

def pool15 : Array CpInfo := pool [(2, .class_ 4), (1, u "java/lang/Object"), (0, u "<init>"), (0, u "()V"), (1, .class_ 10), (1, u "java/lang/Number"), (2, .class_ 14), (0, u "java/io/Serializable"), (0, u "serialVersionUID"), (0, u "J")] 20

def k15m0 : Method := { name := "<init>", desc := "()V", sig := { parameters := [], returnType := none }, accessFlags := 1, code := none }
/-- java/lang/Number -/
def k15 : Class := { plain "java/lang/Number" (some 0) with
  accessFlags := 1057
  interfaces := #[11]
  cf := some (fileOf pool15 8 #[] #[{ accessFlags := 1, nameIndex := 5, descriptorIndex := 6, attributes := #[] }] 1057 2 #[13] #[{ accessFlags := 26, nameIndex := 15, descriptorIndex := 16, attributes := #[] }])
  fields := #[{ name := "serialVersionUID", type := .long, accessFlags := 26, slot := 0, constantValue := 0 }]
  methods := #[k15m0]
  instanceTypes := #[]
  staticTypes := #[.long]
  resolved := Array.replicate 37 none
  statics := none }

def pool16 : Array CpInfo := pool [(1, .class_ 2), (0, u "java/lang/Comparable"), (0, .class_ 4), (0, u "java/lang/Object")] 7

/-- java/lang/Comparable -/
def k16 : Class := { plain "java/lang/Comparable" (some 0) with
  accessFlags := 1537
  interfaces := #[]
  cf := some (fileOf pool16 1 #[] #[] 1537 3 #[] #[])
  fields := #[]
  methods := #[]
  instanceTypes := #[]
  staticTypes := #[]
  resolved := Array.replicate 12 none
  statics := none }

def pool17 : Array CpInfo := pool [(1, .class_ 2), (0, u "java/lang/constant/Constable"), (0, .class_ 4), (0, u "java/lang/Object")] 6

/-- java/lang/constant/Constable -/
def k17 : Class := { plain "java/lang/constant/Constable" (some 0) with
  accessFlags := 1537
  interfaces := #[]
  cf := some (fileOf pool17 1 #[] #[] 1537 3 #[] #[])
  fields := #[]
  methods := #[]
  instanceTypes := #[]
  staticTypes := #[]
  resolved := Array.replicate 11 none
  statics := none }

def pool18 : Array CpInfo := pool [(1, .class_ 2), (0, u "java/lang/constant/ConstantDesc"), (0, .class_ 4), (0, u "java/lang/Object")] 32

/-- java/lang/constant/ConstantDesc -/
def k18 : Class := { plain "java/lang/constant/ConstantDesc" (some 0) with
  accessFlags := 1537
  interfaces := #[]
  cf := some (fileOf pool18 1 #[] #[] 1537 3 #[] #[])
  fields := #[]
  methods := #[]
  instanceTypes := #[]
  staticTypes := #[]
  resolved := Array.replicate 37 none
  statics := none }

def pool19 : Array CpInfo := pool [(1, .class_ 2), (0, u "java/lang/Integer"), (16, u "digits"), (0, u "[C"), (32, u "numberOfLeadingZeros"), (0, u "(I)I"), (30, u "DigitOnes"), (0, u "[B"), (2, u "DigitTens"), (99, .class_ 190), (0, u "java/lang/Integer$IntegerCache"), (3, u "I"), (8, .class_ 204), (0, u "java/lang/Number"), (2, u "value"), (56, .integer 65536), (37, u "TYPE"), (0, u "Ljava/lang/Class;"), (0, .class_ 305), (0, u "java/lang/Comparable"), (0, .class_ 307), (0, u "java/lang/constant/Constable"), (0, .class_ 309), (0, u "java/lang/constant/ConstantDesc"), (0, u "MIN_VALUE"), (1, u "MAX_VALUE"), (3, u "SIZE"), (1, u "BYTES"), (1, u "serialVersionUID"), (0, u "J")] 131

def k19c0 : Code := { maxStack := 3, maxLocals := 2, code := jdk_33_method_47_code, exceptionTable := #[], attributes := #[] }
def k19m0 : Method := { name := "numberOfLeadingZeros", desc := "(I)I", sig := { parameters := [.int], returnType := some .int }, accessFlags := 9, code := some k19c0 }
/-- java/lang/Integer -/
def k19 : Class := { plain "java/lang/Integer" (some 15) with
  accessFlags := 49
  interfaces := #[16, 17, 18]
  cf := some (fileOf pool19 1 #[.nestMembers #[189]] #[{ accessFlags := 9, nameIndex := 53, descriptorIndex := 54, attributes := #[] }] 49 203 #[304, 306, 308] #[{ accessFlags := 25, nameIndex := 310, descriptorIndex := 194, attributes := #[] }, { accessFlags := 25, nameIndex := 312, descriptorIndex := 194, attributes := #[] }, { accessFlags := 25, nameIndex := 302, descriptorIndex := 303, attributes := #[] }, { accessFlags := 24, nameIndex := 19, descriptorIndex := 20, attributes := #[] }, { accessFlags := 24, nameIndex := 89, descriptorIndex := 86, attributes := #[] }, { accessFlags := 24, nameIndex := 85, descriptorIndex := 86, attributes := #[] }, { accessFlags := 18, nameIndex := 207, descriptorIndex := 194, attributes := #[] }, { accessFlags := 25, nameIndex := 316, descriptorIndex := 194, attributes := #[] }, { accessFlags := 25, nameIndex := 318, descriptorIndex := 194, attributes := #[] }, { accessFlags := 26, nameIndex := 320, descriptorIndex := 321, attributes := #[] }])
  fields := #[{ name := "MIN_VALUE", type := .int, accessFlags := 25, slot := 0, constantValue := 0 }, { name := "MAX_VALUE", type := .int, accessFlags := 25, slot := 1, constantValue := 0 }, { name := "TYPE", type := (.object "java/lang/Class"), accessFlags := 25, slot := 2, constantValue := 0 }, { name := "digits", type := (.array .char), accessFlags := 24, slot := 3, constantValue := 0 }, { name := "DigitTens", type := (.array .byte), accessFlags := 24, slot := 4, constantValue := 0 }, { name := "DigitOnes", type := (.array .byte), accessFlags := 24, slot := 5, constantValue := 0 }, { name := "value", type := .int, accessFlags := 18, slot := 0, constantValue := 0 }, { name := "SIZE", type := .int, accessFlags := 25, slot := 6, constantValue := 0 }, { name := "BYTES", type := .int, accessFlags := 25, slot := 7, constantValue := 0 }, { name := "serialVersionUID", type := .long, accessFlags := 26, slot := 8, constantValue := 0 }]
  methods := #[k19m0]
  instanceTypes := #[.int]
  staticTypes := #[.int, .int, (.object "java/lang/Class"), (.array .char), (.array .byte), (.array .byte), .int, .int, .long]
  resolved := Array.replicate 453 none
  statics := none }

def pool20 : Array CpInfo := pool [(1, .class_ 2), (0, u "java/lang/Math"), (1, .class_ 6), (1, u "java/lang/Object"), (0, u "<init>"), (0, u "()V"), (89, .class_ 100), (1, u "java/lang/Math$RandomNumberGeneratorHolder"), (20, u "(JJ)J"), (50, u "negativeZeroFloatBits"), (0, u "J"), (2, u "negativeZeroDoubleBits"), (21, u "max"), (2, u "min"), (43, u "$assertionsDisabled"), (0, u "Z"), (88, u "(II)I"), (2, u "twoToTheDoubleScaleDown"), (0, u "D"), (4, u "twoToTheDoubleScaleUp"), (9, u "E"), (3, u "PI"), (2, u "TAU"), (2, u "DEGREES_TO_RADIANS"), (0, u "RADIANS_TO_DEGREES")] 94

def k20m0 : Method := { name := "<init>", desc := "()V", sig := { parameters := [], returnType := none }, accessFlags := 2, code := none }
def k20c1 : Code := { maxStack := 2, maxLocals := 2, code := jdk_29_method_65_code, exceptionTable := #[], attributes := #[] }
def k20m1 : Method := { name := "max", desc := "(II)I", sig := { parameters := [.int, .int], returnType := some .int }, accessFlags := 9, code := some k20c1 }
def k20c2 : Code := { maxStack := 2, maxLocals := 2, code := jdk_29_method_69_code, exceptionTable := #[], attributes := #[] }
def k20m2 : Method := { name := "min", desc := "(II)I", sig := { parameters := [.int, .int], returnType := some .int }, accessFlags := 9, code := some k20c2 }
def k20c3 : Code := { maxStack := 4, maxLocals := 4, code := jdk_29_method_70_code, exceptionTable := #[], attributes := #[] }
def k20m3 : Method := { name := "min", desc := "(JJ)J", sig := { parameters := [.long, .long], returnType := some .long }, accessFlags := 9, code := some k20c3 }
/-- java/lang/Math -/
def k20 : Class := { plain "java/lang/Math" (some 0) with
  accessFlags := 49
  interfaces := #[]
  cf := some (fileOf pool20 1 #[.nestMembers #[98]] #[{ accessFlags := 2, nameIndex := 7, descriptorIndex := 8, attributes := #[] }, { accessFlags := 9, nameIndex := 198, descriptorIndex := 335, attributes := #[] }, { accessFlags := 9, nameIndex := 201, descriptorIndex := 335, attributes := #[] }, { accessFlags := 9, nameIndex := 201, descriptorIndex := 121, attributes := #[] }] 49 4 #[] #[{ accessFlags := 25, nameIndex := 354, descriptorIndex := 339, attributes := #[] }, { accessFlags := 25, nameIndex := 358, descriptorIndex := 339, attributes := #[] }, { accessFlags := 25, nameIndex := 361, descriptorIndex := 339, attributes := #[] }, { accessFlags := 26, nameIndex := 364, descriptorIndex := 339, attributes := #[] }, { accessFlags := 26, nameIndex := 365, descriptorIndex := 339, attributes := #[] }, { accessFlags := 26, nameIndex := 172, descriptorIndex := 173, attributes := #[] }, { accessFlags := 26, nameIndex := 176, descriptorIndex := 173, attributes := #[] }, { accessFlags := 8, nameIndex := 344, descriptorIndex := 339, attributes := #[] }, { accessFlags := 8, nameIndex := 338, descriptorIndex := 339, attributes := #[] }, { accessFlags := 4120, nameIndex := 245, descriptorIndex := 246, attributes := #[] }])
  fields := #[{ name := "E", type := .double, accessFlags := 25, slot := 0, constantValue := 0 }, { name := "PI", type := .double, accessFlags := 25, slot := 1, constantValue := 0 }, { name := "TAU", type := .double, accessFlags := 25, slot := 2, constantValue := 0 }, { name := "DEGREES_TO_RADIANS", type := .double, accessFlags := 26, slot := 3, constantValue := 0 }, { name := "RADIANS_TO_DEGREES", type := .double, accessFlags := 26, slot := 4, constantValue := 0 }, { name := "negativeZeroFloatBits", type := .long, accessFlags := 26, slot := 5, constantValue := 0 }, { name := "negativeZeroDoubleBits", type := .long, accessFlags := 26, slot := 6, constantValue := 0 }, { name := "twoToTheDoubleScaleUp", type := .double, accessFlags := 8, slot := 7, constantValue := 0 }, { name := "twoToTheDoubleScaleDown", type := .double, accessFlags := 8, slot := 8, constantValue := 0 }, { name := "$assertionsDisabled", type := .boolean, accessFlags := 4120, slot := 9, constantValue := 0 }]
  methods := #[k20m0, k20m1, k20m2, k20m3]
  instanceTypes := #[]
  staticTypes := #[.double, .double, .double, .double, .double, .long, .long, .double, .double, .boolean]
  resolved := Array.replicate 460 none
  statics := none }

def pool21 : Array CpInfo := pool [(2, .class_ 4), (1, u "java/lang/Object"), (0, u "<init>"), (0, u "()V"), (1, .class_ 10), (1, u "java/lang/System"), (0, u "allowSecurityManager"), (0, u "I"), (16, u "cons"), (0, u "Ljava/io/Console;"), (77, .class_ 110), (1, u "java/lang/System$CallersHolder"), (43, u "initialErrStream"), (0, u "Ljava/io/PrintStream;"), (19, u "security"), (0, u "Ljava/lang/SecurityManager;"), (31, .class_ 209), (0, u "java/lang/System$1"), (7, u "props"), (0, u "Ljava/util/Properties;"), (2, u "lineSeparator"), (0, u "Ljava/lang/String;"), (96, .class_ 321), (1, u "java/lang/System$LoggerFinder"), (5, .class_ 328), (0, u "java/lang/System$Logger"), (67, u "err"), (2, u "out"), (91, u "notSupportedJnuEncoding"), (15, u "in"), (17, u "initialIn"), (0, u "Ljava/io/InputStream;"), (35, u "bootLayer"), (0, u "Ljava/lang/ModuleLayer;"), (99, .class_ 664), (0, u "java/lang/System$2"), (9, u "NEVER"), (2, u "MAYBE"), (49, u "arraycopy"), (0, u "(Ljava/lang/Object;ILjava/lang/Object;II)V"), (72, .class_ 802), (0, u "java/lang/System$Logger$Level")] 31

def k21m0 : Method := { name := "<init>", desc := "()V", sig := { parameters := [], returnType := none }, accessFlags := 2, code := none }
def k21m1 : Method := { name := "arraycopy", desc := "(Ljava/lang/Object;ILjava/lang/Object;II)V", sig := { parameters := [(.object "java/lang/Object"), .int, (.object "java/lang/Object"), .int, .int], returnType := none }, accessFlags := 265, code := none }
/-- java/lang/System -/
def k21 : Class := { plain "java/lang/System" (some 0) with
  accessFlags := 49
  interfaces := #[]
  cf := some (fileOf pool21 8 #[.nestMembers #[319, 327, 801, 108, 663, 208]] #[{ accessFlags := 2, nameIndex := 5, descriptorIndex := 6, attributes := #[] }, { accessFlags := 265, nameIndex := 727, descriptorIndex := 728, attributes := #[] }] 49 2 #[] #[{ accessFlags := 25, nameIndex := 507, descriptorIndex := 526, attributes := #[] }, { accessFlags := 25, nameIndex := 399, descriptorIndex := 155, attributes := #[] }, { accessFlags := 25, nameIndex := 396, descriptorIndex := 155, attributes := #[] }, { accessFlags := 10, nameIndex := 525, descriptorIndex := 526, attributes := #[] }, { accessFlags := 26, nameIndex := 674, descriptorIndex := 12, attributes := #[] }, { accessFlags := 26, nameIndex := 677, descriptorIndex := 12, attributes := #[] }, { accessFlags := 10, nameIndex := 11, descriptorIndex := 12, attributes := #[] }, { accessFlags := 74, nameIndex := 175, descriptorIndex := 176, attributes := #[] }, { accessFlags := 10, nameIndex := 491, descriptorIndex := 222, attributes := #[] }, { accessFlags := 74, nameIndex := 29, descriptorIndex := 30, attributes := #[] }, { accessFlags := 74, nameIndex := 154, descriptorIndex := 155, attributes := #[] }, { accessFlags := 10, nameIndex := 217, descriptorIndex := 218, attributes := #[] }, { accessFlags := 10, nameIndex := 221, descriptorIndex := 222, attributes := #[] }, { accessFlags := 8, nameIndex := 562, descriptorIndex := 563, attributes := #[] }])
  fields := #[{ name := "in", type := (.object "java/io/InputStream"), accessFlags := 25, slot := 0, constantValue := 0 }, { name := "out", type := (.object "java/io/PrintStream"), accessFlags := 25, slot := 1, constantValue := 0 }, { name := "err", type := (.object "java/io/PrintStream"), accessFlags := 25, slot := 2, constantValue := 0 }, { name := "initialIn", type := (.object "java/io/InputStream"), accessFlags := 10, slot := 3, constantValue := 0 }, { name := "NEVER", type := .int, accessFlags := 26, slot := 4, constantValue := 0 }, { name := "MAYBE", type := .int, accessFlags := 26, slot := 5, constantValue := 0 }, { name := "allowSecurityManager", type := .int, accessFlags := 10, slot := 6, constantValue := 0 }, { name := "security", type := (.object "java/lang/SecurityManager"), accessFlags := 74, slot := 7, constantValue := 0 }, { name := "notSupportedJnuEncoding", type := (.object "java/lang/String"), accessFlags := 10, slot := 8, constantValue := 0 }, { name := "cons", type := (.object "java/io/Console"), accessFlags := 74, slot := 9, constantValue := 0 }, { name := "initialErrStream", type := (.object "java/io/PrintStream"), accessFlags := 74, slot := 10, constantValue := 0 }, { name := "props", type := (.object "java/util/Properties"), accessFlags := 10, slot := 11, constantValue := 0 }, { name := "lineSeparator", type := (.object "java/lang/String"), accessFlags := 10, slot := 12, constantValue := 0 }, { name := "bootLayer", type := (.object "java/lang/ModuleLayer"), accessFlags := 8, slot := 13, constantValue := 0 }]
  methods := #[k21m0, k21m1]
  instanceTypes := #[]
  staticTypes := #[(.object "java/io/InputStream"), (.object "java/io/PrintStream"), (.object "java/io/PrintStream"), (.object "java/io/InputStream"), .int, .int, .int, (.object "java/lang/SecurityManager"), (.object "java/lang/String"), (.object "java/io/Console"), (.object "java/io/PrintStream"), (.object "java/util/Properties"), (.object "java/lang/String"), (.object "java/lang/ModuleLayer")]
  resolved := Array.replicate 834 none
  statics := none }

def pool22 : Array CpInfo := pool [(2, .class_ 4), (1, u "java/lang/CharSequence"), (42, .class_ 48), (0, u "java/lang/CharSequence$1CodePointIterator"), (10, .class_ 60), (0, u "java/lang/CharSequence$1CharIterator"), (5, .class_ 67), (0, u "java/lang/Object")] 63

/-- java/lang/CharSequence -/
def k22 : Class := { plain "java/lang/CharSequence" (some 0) with
  accessFlags := 1537
  interfaces := #[]
  cf := some (fileOf pool22 2 #[.nestMembers #[47, 59]] #[] 1537 66 #[] #[])
  fields := #[]
  methods := #[]
  instanceTypes := #[]
  staticTypes := #[]
  resolved := Array.replicate 131 none
  statics := none }

def pool23 : Array CpInfo := pool [(2, .class_ 4), (1, u "java/lang/Object"), (0, u "<init>"), (0, u "()V"), (3, .class_ 12), (1, u "java/lang/String"), (0, u "value"), (0, u "[B"), (2, u "coder"), (0, u "B"), (2, u "hash"), (0, u "I"), (2, u "hashIsZero"), (0, u "Z"), (13, u "COMPACT_STRINGS"), (534, .class_ 576), (0, u "java/lang/CharSequence"), (22, u "CASE_INSENSITIVE_ORDER"), (0, u "Ljava/util/Comparator;"), (500, u "serialPersistentFields"), (0, u "[Ljava/io/ObjectStreamField;"), (0, .class_ 1104), (0, u "java/lang/String$CaseInsensitiveComparator"), (1, .class_ 1107), (0, u "java/io/Serializable"), (0, .class_ 1109), (0, u "java/lang/Comparable"), (0, .class_ 1111), (0, u "java/lang/constant/Constable"), (0, .class_ 1113), (0, u "java/lang/constant/ConstantDesc"), (2, u "serialVersionUID"), (0, u "J"), (3, u "REPL"), (0, u "C"), (2, u "LATIN1"), (1, u "UTF16")] 323

def k23m0 : Method := { name := "<init>", desc := "()V", sig := { parameters := [], returnType := none }, accessFlags := 1, code := none }
/-- java/lang/String -/
def k23 : Class := { plain "java/lang/String" (some 0) with
  accessFlags := 49
  interfaces := #[11, 16, 22, 17, 18]
  cf := some (fileOf pool23 10 #[.nestMembers #[1103]] #[{ accessFlags := 1, nameIndex := 5, descriptorIndex := 6, attributes := #[] }] 49 2 #[1106, 1108, 575, 1110, 1112] #[{ accessFlags := 18, nameIndex := 13, descriptorIndex := 14, attributes := #[] }, { accessFlags := 18, nameIndex := 17, descriptorIndex := 18, attributes := #[] }, { accessFlags := 2, nameIndex := 21, descriptorIndex := 22, attributes := #[] }, { accessFlags := 2, nameIndex := 25, descriptorIndex := 26, attributes := #[] }, { accessFlags := 26, nameIndex := 1116, descriptorIndex := 1117, attributes := #[] }, { accessFlags := 24, nameIndex := 40, descriptorIndex := 26, attributes := #[] }, { accessFlags := 26, nameIndex := 1101, descriptorIndex := 1102, attributes := #[] }, { accessFlags := 26, nameIndex := 1121, descriptorIndex := 1122, attributes := #[] }, { accessFlags := 25, nameIndex := 599, descriptorIndex := 600, attributes := #[] }, { accessFlags := 24, nameIndex := 1125, descriptorIndex := 18, attributes := #[] }, { accessFlags := 24, nameIndex := 1127, descriptorIndex := 18, attributes := #[] }])
  fields := #[{ name := "value", type := (.array .byte), accessFlags := 18, slot := 0, constantValue := 0 }, { name := "coder", type := .byte, accessFlags := 18, slot := 1, constantValue := 0 }, { name := "hash", type := .int, accessFlags := 2, slot := 2, constantValue := 0 }, { name := "hashIsZero", type := .boolean, accessFlags := 2, slot := 3, constantValue := 0 }, { name := "serialVersionUID", type := .long, accessFlags := 26, slot := 0, constantValue := 0 }, { name := "COMPACT_STRINGS", type := .boolean, accessFlags := 24, slot := 1, constantValue := 0 }, { name := "serialPersistentFields", type := (.array (.object "java/io/ObjectStreamField")), accessFlags := 26, slot := 2, constantValue := 0 }, { name := "REPL", type := .char, accessFlags := 26, slot := 3, constantValue := 0 }, { name := "CASE_INSENSITIVE_ORDER", type := (.object "java/util/Comparator"), accessFlags := 25, slot := 4, constantValue := 0 }, { name := "LATIN1", type := .byte, accessFlags := 24, slot := 5, constantValue := 0 }, { name := "UTF16", type := .byte, accessFlags := 24, slot := 6, constantValue := 0 }]
  methods := #[k23m0]
  instanceTypes := #[(.array .byte), .byte, .int, .boolean]
  staticTypes := #[.long, .boolean, (.array (.object "java/io/ObjectStreamField")), .char, (.object "java/util/Comparator"), .byte, .byte]
  resolved := Array.replicate 1451 none
  statics := none }

/-- the primitive byte -/
def k24 : Class := { plain "byte" none with kind := .primitive 'B', accessFlags := 0x411 }
/-- [B -/
def k25 : Class := { plain "[B" (some 0) with kind := .array 24 .byte, interfaces := #[10, 11], accessFlags := 1041 }

/-- the primitive int -/
def k26 : Class := { plain "int" none with kind := .primitive 'I', accessFlags := 0x411 }
/-- [I -/
def k27 : Class := { plain "[I" (some 0) with kind := .array 26 .int, interfaces := #[10, 11], accessFlags := 1041 }

/-- the primitive long -/
def k28 : Class := { plain "long" none with kind := .primitive 'J', accessFlags := 0x411 }
/-- [J -/
def k29 : Class := { plain "[J" (some 0) with kind := .array 28 .long, interfaces := #[10, 11], accessFlags := 1041 }

/-- [Ljava/lang/Object; -/
def k30 : Class := { plain "[Ljava/lang/Object;" (some 0) with kind := .array 0 (.object "java/lang/Object"), interfaces := #[10, 11], accessFlags := 1041 }

/-- [Ljava/lang/String; -/
def k31 : Class := { plain "[Ljava/lang/String;" (some 0) with kind := .array 23 (.object "java/lang/String"), interfaces := #[10, 11], accessFlags := 1041 }

/-- [[J -/
def k32 : Class := { plain "[[J" (some 0) with kind := .array 29 (.array .long), interfaces := #[10, 11], accessFlags := 1041 }

/-- [[Ljava/lang/String; -/
def k33 : Class := { plain "[[Ljava/lang/String;" (some 0) with kind := .array 31 (.array (.object "java/lang/String")), interfaces := #[10, 11], accessFlags := 1041 }

def heap : Heap := #[{ cls := 12, slots := #[.long 0, .int 0, .ref 1, .ref 2], vm := .statics 12 },
  { cls := 30, slots := #[], vm := .none },
  { cls := 30, slots := #[], vm := .none }]
def classes : Array Class := #[k0, k1, k2, k3, k4, k5, k6, k7, k8, k9, k10, k11, k12, k13, k14, k15, k16, k17, k18, k19, k20, k21, k22, k23, k24, k25, k26, k27, k28, k29, k30, k31, k32, k33]
def interned : List (Array UInt16 × Addr) := []
def slotsUsed : Nat := 4
def theMethod : MethodId := ⟨1, 1⟩
def args0 : Array Value := #[.int 5, .int 5, .int 5]
def aboutOver (below : List Frame) : State where
  vm := { classes := classes, interned := interned.toArray }
  heap := heap
  slotsUsed := slotsUsed
  threads := #[{ frames := .invoking theMethod args0 :: below }]
def below0 : List Frame := [.native { method := ⟨0, 0⟩, args := #[] }]
def about1 : State := aboutOver below0
def p0 : Program := .bare "" "" ""
def e0 : Env := launch0.env 0 0 0
theorem w_frames : about1.frames = Frame.invoking theMethod args0 :: below0 := rfl
set_option maxRecDepth 65536 in
theorem w_args : argsFit about1.vm theMethod args0 = true := by decide +kernel
set_option maxRecDepth 65536 in
theorem w_heap : heapFits about1 = true := by decide +kernel
set_option maxRecDepth 65536 in
theorem w_runnable : about1.curStatus? = some .runnable := by decide +kernel
set_option maxRecDepth 65536 in
theorem w_alone : about1.alone = true := by decide +kernel
set_option maxRecDepth 65536 in
theorem w_named : about1.methodNamed? x = some theMethod := by decide +kernel
set_option maxRecDepth 65536 in
theorem w_hears : about1.hears theMethod below0 = true := by decide +kernel
set_option maxRecDepth 65536 in
theorem w_ripe : about1.ripe theMethod args0 below0 = true := by decide +kernel
theorem w_running : about1.status = .running := rfl
set_option maxRecDepth 65536 in
theorem w_room : about1.hasRoom e0.platform room_1 = true :=
  launch0.hasRoom_least _ room_1 (by decide +kernel) (by decide +kernel) (by decide +kernel) (by decide +kernel) (by decide +kernel) (by decide +kernel)
theorem allAtoms_all (ts : List Jvm.Cond) (a : Array Jvm.Value) (st : Jvm.State) : (allAtoms ts).before a st = ts.all (fun c => c.before a st) := by
  induction ts with
  | nil => rfl
  | cons c t ih =>
    show (Jvm.Cond.and c (allAtoms t)).before a st = _
    rw [Jvm.Cond.before_and, ih, List.all_cons]
def words1 : List Jvm.Cond := Jvm.Cond.code x code maxLocals ret :: tables_1
/-- a 'code' word, met by the world's own term for the bytes: nothing is compared byte by byte -/
theorem code_word {y : MethodName} {bytes : ByteArray} {mx : Nat} {rt : Option FieldType} {a : Array Value} {s : State} {m : MethodId} {meth : Method} {c : Code} (h1 : s.methodNamed? y = some m) (h2 : s.vm.method? m = some meth) (h3 : meth.code = some c) (h4 : c.code = bytes)
    (h5 : (c.maxLocals == mx && c.exceptionTable.isEmpty && decide (c.maxStack ≤ mostOperands) && decide (meth.sig.returnType = rt) && !meth.locks && decide (parseMethodDescriptor y.desc = some meth.sig)) = true) : (Jvm.Cond.code y bytes mx rt).before a s = true := by
  simp only [Bool.and_eq_true, beq_iff_eq, Bool.not_eq_true', decide_eq_true_eq] at h5
  obtain ⟨⟨⟨⟨⟨g1, g2⟩, g3⟩, g4⟩, g5⟩, g6⟩ := h5
  simp [Cond.before, Cond.holds, Cond.value, h1, h2, h3, h4, g1, g2, g3, g4, g5, g6]
def isCode : Jvm.Cond → Bool
  | .code _ _ _ _ => true
  | _ => false
theorem all_split {L : List Jvm.Cond} {P : Jvm.Cond → Bool} (h1 : L.all (fun c => isCode c || P c) = true) (h2 : ∀ c ∈ L.filter isCode, P c = true) : L.all P = true := by
  refine List.all_eq_true.mpr fun c hc => ?_
  have h := List.all_eq_true.mp h1 c hc
  rcases Bool.eq_false_or_eq_true (isCode c) with hi | hi
  · exact h2 c (List.mem_filter.mpr ⟨hc, hi⟩)
  · simpa [hi] using h
set_option maxRecDepth 65536 in
theorem w_c0 : (Jvm.Cond.code x code maxLocals ret).before args0 about1 = true := code_word (m := ⟨1, 1⟩) (meth := k1m1) (c := k1c1) (by decide +kernel) rfl rfl rfl (by decide +kernel)
set_option maxRecDepth 65536 in
theorem w_c1 : (Jvm.Cond.code ({ cls := "java/util/ArrayList", name := "<init>", desc := "()V" } : Jvm.MethodName) jdk_38_method_2_code (1 : Nat) (Option.none : Option Jvm.ClassFile.FieldType)).before args0 about1 = true := code_word (m := ⟨12, 0⟩) (meth := k12m0) (c := k12c0) (by decide +kernel) rfl rfl rfl (by decide +kernel)
set_option maxRecDepth 65536 in
theorem w_c2 : (Jvm.Cond.code ({ cls := "java/util/AbstractList", name := "<init>", desc := "()V" } : Jvm.MethodName) jdk_39_method_1_code (1 : Nat) (Option.none : Option Jvm.ClassFile.FieldType)).before args0 about1 = true := code_word (m := ⟨8, 0⟩) (meth := k8m0) (c := k8c0) (by decide +kernel) rfl rfl rfl (by decide +kernel)
set_option maxRecDepth 65536 in
theorem w_c3 : (Jvm.Cond.code ({ cls := "java/util/AbstractCollection", name := "<init>", desc := "()V" } : Jvm.MethodName) jdk_22_method_1_code (1 : Nat) (Option.none : Option Jvm.ClassFile.FieldType)).before args0 about1 = true := code_word (m := ⟨5, 0⟩) (meth := k5m0) (c := k5c0) (by decide +kernel) rfl rfl rfl (by decide +kernel)
set_option maxRecDepth 65536 in
theorem w_c4 : (Jvm.Cond.code ({ cls := "java/lang/Object", name := "<init>", desc := "()V" } : Jvm.MethodName) object_method_1_code (1 : Nat) (Option.none : Option Jvm.ClassFile.FieldType)).before args0 about1 = true := code_word (m := ⟨0, 0⟩) (meth := k0m0) (c := k0c0) (by decide +kernel) rfl rfl rfl (by decide +kernel)
set_option maxRecDepth 65536 in
theorem w_c5 : (Jvm.Cond.code ({ cls := "com/example/headway/headway/engine/RowBuffer", name := "<init>", desc := "(Ljava/util/List;)V" } : Jvm.MethodName) prog_83_method_2_code (2 : Nat) (Option.none : Option Jvm.ClassFile.FieldType)).before args0 about1 = true := code_word (m := ⟨2, 0⟩) (meth := k2m0) (c := k2c0) (by decide +kernel) rfl rfl rfl (by decide +kernel)
set_option maxRecDepth 65536 in
theorem w_c6 : (Jvm.Cond.code ({ cls := "com/example/headway/headway/engine/RowBuffer", name := "<init>", desc := "(Ljava/util/List;IZ)V" } : Jvm.MethodName) prog_83_method_3_code (5 : Nat) (Option.none : Option Jvm.ClassFile.FieldType)).before args0 about1 = true := code_word (m := ⟨2, 1⟩) (meth := k2m1) (c := k2c1) (by decide +kernel) rfl rfl rfl (by decide +kernel)
set_option maxRecDepth 65536 in
theorem w_c7 : (Jvm.Cond.code ({ cls := "java/util/ArrayList", name := "size", desc := "()I" } : Jvm.MethodName) jdk_38_method_8_code (1 : Nat) (Option.some Jvm.ClassFile.FieldType.int)).before args0 about1 = true := code_word (m := ⟨12, 1⟩) (meth := k12m1) (c := k12c1) (by decide +kernel) rfl rfl rfl (by decide +kernel)
set_option maxRecDepth 65536 in
theorem w_c8 : (Jvm.Cond.code ({ cls := "com/example/headway/headway/engine/HashIndex", name := "<init>", desc := "(Lcom/example/headway/headway/engine/RowBuffer;Ljava/util/List;)V" } : Jvm.MethodName) prog_57_method_1_code (4 : Nat) (Option.none : Option Jvm.ClassFile.FieldType)).before args0 about1 = true := code_word (m := ⟨13, 0⟩) (meth := k13m0) (c := k13c0) (by decide +kernel) rfl rfl rfl (by decide +kernel)
set_option maxRecDepth 65536 in
theorem w_c9 : (Jvm.Cond.code ({ cls := "java/util/Arrays", name := "fill", desc := "([II)V" } : Jvm.MethodName) jdk_65_method_103_code (4 : Nat) (Option.none : Option Jvm.ClassFile.FieldType)).before args0 about1 = true := code_word (m := ⟨14, 1⟩) (meth := k14m1) (c := k14c1) (by decide +kernel) rfl rfl rfl (by decide +kernel)
set_option maxRecDepth 65536 in
theorem w_c10 : (Jvm.Cond.code ({ cls := "com/example/headway/headway/engine/HashIndexStopGrowingPinLaw", name := "appendRows", desc := "(Lcom/example/headway/headway/engine/RowBuffer;I)V" } : Jvm.MethodName) method_3_code (2 : Nat) (Option.none : Option Jvm.ClassFile.FieldType)).before args0 about1 = true := code_word (m := ⟨1, 2⟩) (meth := k1m2) (c := k1c2) (by decide +kernel) rfl rfl rfl (by decide +kernel)
set_option maxRecDepth 65536 in
theorem w_c11 : (Jvm.Cond.code ({ cls := "com/example/headway/headway/engine/HashIndex", name := "indexNewRows", desc := "()V" } : Jvm.MethodName) prog_57_method_2_code (2 : Nat) (Option.none : Option Jvm.ClassFile.FieldType)).before args0 about1 = true := code_word (m := ⟨13, 1⟩) (meth := k13m1) (c := k13c1) (by decide +kernel) rfl rfl rfl (by decide +kernel)
set_option maxRecDepth 65536 in
theorem w_c12 : (Jvm.Cond.code ({ cls := "com/example/headway/headway/engine/RowBuffer", name := "size", desc := "()I" } : Jvm.MethodName) prog_83_method_4_code (1 : Nat) (Option.some Jvm.ClassFile.FieldType.int)).before args0 about1 = true := code_word (m := ⟨2, 2⟩) (meth := k2m2) (c := k2c2) (by decide +kernel) rfl rfl rfl (by decide +kernel)
set_option maxRecDepth 65536 in
theorem w_c13 : (Jvm.Cond.code ({ cls := "com/example/headway/headway/engine/HashIndex", name := "stopGrowing", desc := "()V" } : Jvm.MethodName) prog_57_method_3_code (1 : Nat) (Option.none : Option Jvm.ClassFile.FieldType)).before args0 about1 = true := code_word (m := ⟨13, 2⟩) (meth := k13m2) (c := k13c2) (by decide +kernel) rfl rfl rfl (by decide +kernel)
set_option maxRecDepth 65536 in
theorem w_c14 : (Jvm.Cond.code ({ cls := "com/example/headway/headway/engine/HashIndex", name := "find", desc := "(Lcom/example/headway/headway/engine/Row;[I)I" } : Jvm.MethodName) prog_57_method_4_code (4 : Nat) (Option.some Jvm.ClassFile.FieldType.int)).before args0 about1 = true := code_word (m := ⟨13, 3⟩) (meth := k13m3) (c := k13c3) (by decide +kernel) rfl rfl rfl (by decide +kernel)
set_option maxRecDepth 65536 in
theorem w_c15 : (Jvm.Cond.code ({ cls := "com/example/headway/headway/engine/HashIndex", name := "hashOf", desc := "(Lcom/example/headway/headway/engine/Row;[I)I" } : Jvm.MethodName) prog_57_method_9_code (5 : Nat) (Option.some Jvm.ClassFile.FieldType.int)).before args0 about1 = true := code_word (m := ⟨13, 8⟩) (meth := k13m8) (c := k13c8) (by decide +kernel) rfl rfl rfl (by decide +kernel)
set_option maxRecDepth 65536 in
theorem w_c16 : (Jvm.Cond.code ({ cls := "com/example/headway/headway/engine/HashIndex", name := "bucketOf", desc := "(I[I)I" } : Jvm.MethodName) prog_57_method_10_code (2 : Nat) (Option.some Jvm.ClassFile.FieldType.int)).before args0 about1 = true := code_word (m := ⟨13, 9⟩) (meth := k13m9) (c := k13c9) (by decide +kernel) rfl rfl rfl (by decide +kernel)
set_option maxRecDepth 65536 in
theorem w_c17 : (Jvm.Cond.code ({ cls := "java/lang/Integer", name := "numberOfLeadingZeros", desc := "(I)I" } : Jvm.MethodName) jdk_33_method_47_code (2 : Nat) (Option.some Jvm.ClassFile.FieldType.int)).before args0 about1 = true := code_word (m := ⟨19, 0⟩) (meth := k19m0) (c := k19c0) (by decide +kernel) rfl rfl rfl (by decide +kernel)
set_option maxRecDepth 65536 in
theorem w_c18 : (Jvm.Cond.code ({ cls := "com/example/headway/headway/engine/HashIndex", name := "matchFrom", desc := "(IILcom/example/headway/headway/engine/Row;[I)I" } : Jvm.MethodName) prog_57_method_6_code (5 : Nat) (Option.some Jvm.ClassFile.FieldType.int)).before args0 about1 = true := code_word (m := ⟨13, 5⟩) (meth := k13m5) (c := k13c5) (by decide +kernel) rfl rfl rfl (by decide +kernel)
set_option maxRecDepth 65536 in
theorem w_c19 : (Jvm.Cond.code ({ cls := "com/example/headway/headway/engine/RowBuffer", name := "append", desc := "(Lcom/example/headway/headway/engine/Row;)V" } : Jvm.MethodName) prog_83_method_6_code (3 : Nat) (Option.none : Option Jvm.ClassFile.FieldType)).before args0 about1 = true := code_word (m := ⟨2, 3⟩) (meth := k2m3) (c := k2c3) (by decide +kernel) rfl rfl rfl (by decide +kernel)
set_option maxRecDepth 65536 in
theorem w_c20 : (Jvm.Cond.code ({ cls := "com/example/headway/headway/engine/RowBuffer", name := "grow", desc := "()V" } : Jvm.MethodName) prog_83_method_14_code (4 : Nat) (Option.none : Option Jvm.ClassFile.FieldType)).before args0 about1 = true := code_word (m := ⟨2, 4⟩) (meth := k2m4) (c := k2c4) (by decide +kernel) rfl rfl rfl (by decide +kernel)
set_option maxRecDepth 65536 in
theorem w_c21 : (Jvm.Cond.code ({ cls := "java/lang/Math", name := "max", desc := "(II)I" } : Jvm.MethodName) jdk_29_method_65_code (2 : Nat) (Option.some Jvm.ClassFile.FieldType.int)).before args0 about1 = true := code_word (m := ⟨20, 1⟩) (meth := k20m1) (c := k20c1) (by decide +kernel) rfl rfl rfl (by decide +kernel)
set_option maxRecDepth 65536 in
theorem w_c22 : (Jvm.Cond.code ({ cls := "java/lang/Math", name := "min", desc := "(JJ)J" } : Jvm.MethodName) jdk_29_method_70_code (4 : Nat) (Option.some Jvm.ClassFile.FieldType.long)).before args0 about1 = true := code_word (m := ⟨20, 3⟩) (meth := k20m3) (c := k20c3) (by decide +kernel) rfl rfl rfl (by decide +kernel)
set_option maxRecDepth 65536 in
theorem w_c23 : (Jvm.Cond.code ({ cls := "com/example/headway/headway/engine/HashIndex", name := "hashOf", desc := "(I)I" } : Jvm.MethodName) prog_57_method_8_code (7 : Nat) (Option.some Jvm.ClassFile.FieldType.int)).before args0 about1 = true := code_word (m := ⟨13, 7⟩) (meth := k13m7) (c := k13c7) (by decide +kernel) rfl rfl rfl (by decide +kernel)
set_option maxRecDepth 65536 in
theorem w_c24 : (Jvm.Cond.code ({ cls := "com/example/headway/headway/engine/HashIndex", name := "link", desc := "(II[I[I)V" } : Jvm.MethodName) prog_57_method_11_code (5 : Nat) (Option.none : Option Jvm.ClassFile.FieldType)).before args0 about1 = true := code_word (m := ⟨13, 10⟩) (meth := k13m10) (c := k13c10) (by decide +kernel) rfl rfl rfl (by decide +kernel)
set_option maxRecDepth 65536 in
theorem w_c25 : (Jvm.Cond.code ({ cls := "com/example/headway/headway/engine/HashIndex", name := "keyEquals", desc := "(ILcom/example/headway/headway/engine/Row;[I)Z" } : Jvm.MethodName) prog_57_method_7_code (7 : Nat) (Option.some Jvm.ClassFile.FieldType.boolean)).before args0 about1 = true := code_word (m := ⟨13, 6⟩) (meth := k13m6) (c := k13c6) (by decide +kernel) rfl rfl rfl (by decide +kernel)
set_option maxRecDepth 65536 in
theorem w_c26 : (Jvm.Cond.code ({ cls := "com/example/headway/headway/engine/HashIndex", name := "findNext", desc := "(ILcom/example/headway/headway/engine/Row;[I)I" } : Jvm.MethodName) prog_57_method_5_code (4 : Nat) (Option.some Jvm.ClassFile.FieldType.int)).before args0 about1 = true := code_word (m := ⟨13, 4⟩) (meth := k13m4) (c := k13c4) (by decide +kernel) rfl rfl rfl (by decide +kernel)
set_option maxRecDepth 65536 in
theorem w_c27 : (Jvm.Cond.code ({ cls := "com/example/headway/headway/engine/HashIndex", name := "buildLarger", desc := "()V" } : Jvm.MethodName) prog_57_method_12_code (1 : Nat) (Option.none : Option Jvm.ClassFile.FieldType)).before args0 about1 = true := code_word (m := ⟨13, 11⟩) (meth := k13m11) (c := k13c11) (by decide +kernel) rfl rfl rfl (by decide +kernel)
set_option maxRecDepth 65536 in
theorem w_c28 : (Jvm.Cond.code ({ cls := "com/example/headway/headway/engine/HashIndex", name := "linkIntoLarger", desc := "()V" } : Jvm.MethodName) prog_57_method_13_code (3 : Nat) (Option.none : Option Jvm.ClassFile.FieldType)).before args0 about1 = true := code_word (m := ⟨13, 12⟩) (meth := k13m12) (c := k13c12) (by decide +kernel) rfl rfl rfl (by decide +kernel)
set_option maxRecDepth 65536 in
theorem w_c29 : (Jvm.Cond.code ({ cls := "java/lang/Math", name := "min", desc := "(II)I" } : Jvm.MethodName) jdk_29_method_69_code (2 : Nat) (Option.some Jvm.ClassFile.FieldType.int)).before args0 about1 = true := code_word (m := ⟨20, 2⟩) (meth := k20m2) (c := k20c2) (by decide +kernel) rfl rfl rfl (by decide +kernel)
set_option maxRecDepth 65536 in
theorem w_c30 : (Jvm.Cond.code ({ cls := "java/util/Arrays", name := "copyOf", desc := "([II)[I" } : Jvm.MethodName) jdk_65_method_123_code (3 : Nat) (Option.some (Jvm.ClassFile.FieldType.array Jvm.ClassFile.FieldType.int))).before args0 about1 = true := code_word (m := ⟨14, 2⟩) (meth := k14m2) (c := k14c2) (by decide +kernel) rfl rfl rfl (by decide +kernel)
def codes1 : List Jvm.Cond := [Jvm.Cond.code x code maxLocals ret, Jvm.Cond.code ({ cls := "java/util/ArrayList", name := "<init>", desc := "()V" } : Jvm.MethodName) jdk_38_method_2_code (1 : Nat) (Option.none : Option Jvm.ClassFile.FieldType), Jvm.Cond.code ({ cls := "java/util/AbstractList", name := "<init>", desc := "()V" } : Jvm.MethodName) jdk_39_method_1_code (1 : Nat) (Option.none : Option Jvm.ClassFile.FieldType), Jvm.Cond.code ({ cls := "java/util/AbstractCollection", name := "<init>", desc := "()V" } : Jvm.MethodName) jdk_22_method_1_code (1 : Nat) (Option.none : Option Jvm.ClassFile.FieldType), Jvm.Cond.code ({ cls := "java/lang/Object", name := "<init>", desc := "()V" } : Jvm.MethodName) object_method_1_code (1 : Nat) (Option.none : Option Jvm.ClassFile.FieldType), Jvm.Cond.code ({ cls := "com/example/headway/headway/engine/RowBuffer", name := "<init>", desc := "(Ljava/util/List;)V" } : Jvm.MethodName) prog_83_method_2_code (2 : Nat) (Option.none : Option Jvm.ClassFile.FieldType), Jvm.Cond.code ({ cls := "com/example/headway/headway/engine/RowBuffer", name := "<init>", desc := "(Ljava/util/List;IZ)V" } : Jvm.MethodName) prog_83_method_3_code (5 : Nat) (Option.none : Option Jvm.ClassFile.FieldType), Jvm.Cond.code ({ cls := "java/util/ArrayList", name := "size", desc := "()I" } : Jvm.MethodName) jdk_38_method_8_code (1 : Nat) (Option.some Jvm.ClassFile.FieldType.int), Jvm.Cond.code ({ cls := "com/example/headway/headway/engine/HashIndex", name := "<init>", desc := "(Lcom/example/headway/headway/engine/RowBuffer;Ljava/util/List;)V" } : Jvm.MethodName) prog_57_method_1_code (4 : Nat) (Option.none : Option Jvm.ClassFile.FieldType), Jvm.Cond.code ({ cls := "java/util/Arrays", name := "fill", desc := "([II)V" } : Jvm.MethodName) jdk_65_method_103_code (4 : Nat) (Option.none : Option Jvm.ClassFile.FieldType), Jvm.Cond.code ({ cls := "com/example/headway/headway/engine/HashIndexStopGrowingPinLaw", name := "appendRows", desc := "(Lcom/example/headway/headway/engine/RowBuffer;I)V" } : Jvm.MethodName) method_3_code (2 : Nat) (Option.none : Option Jvm.ClassFile.FieldType), Jvm.Cond.code ({ cls := "com/example/headway/headway/engine/HashIndex", name := "indexNewRows", desc := "()V" } : Jvm.MethodName) prog_57_method_2_code (2 : Nat) (Option.none : Option Jvm.ClassFile.FieldType), Jvm.Cond.code ({ cls := "com/example/headway/headway/engine/RowBuffer", name := "size", desc := "()I" } : Jvm.MethodName) prog_83_method_4_code (1 : Nat) (Option.some Jvm.ClassFile.FieldType.int), Jvm.Cond.code ({ cls := "com/example/headway/headway/engine/HashIndex", name := "stopGrowing", desc := "()V" } : Jvm.MethodName) prog_57_method_3_code (1 : Nat) (Option.none : Option Jvm.ClassFile.FieldType), Jvm.Cond.code ({ cls := "com/example/headway/headway/engine/HashIndex", name := "find", desc := "(Lcom/example/headway/headway/engine/Row;[I)I" } : Jvm.MethodName) prog_57_method_4_code (4 : Nat) (Option.some Jvm.ClassFile.FieldType.int), Jvm.Cond.code ({ cls := "com/example/headway/headway/engine/HashIndex", name := "hashOf", desc := "(Lcom/example/headway/headway/engine/Row;[I)I" } : Jvm.MethodName) prog_57_method_9_code (5 : Nat) (Option.some Jvm.ClassFile.FieldType.int), Jvm.Cond.code ({ cls := "com/example/headway/headway/engine/HashIndex", name := "bucketOf", desc := "(I[I)I" } : Jvm.MethodName) prog_57_method_10_code (2 : Nat) (Option.some Jvm.ClassFile.FieldType.int), Jvm.Cond.code ({ cls := "java/lang/Integer", name := "numberOfLeadingZeros", desc := "(I)I" } : Jvm.MethodName) jdk_33_method_47_code (2 : Nat) (Option.some Jvm.ClassFile.FieldType.int), Jvm.Cond.code ({ cls := "com/example/headway/headway/engine/HashIndex", name := "matchFrom", desc := "(IILcom/example/headway/headway/engine/Row;[I)I" } : Jvm.MethodName) prog_57_method_6_code (5 : Nat) (Option.some Jvm.ClassFile.FieldType.int), Jvm.Cond.code ({ cls := "com/example/headway/headway/engine/RowBuffer", name := "append", desc := "(Lcom/example/headway/headway/engine/Row;)V" } : Jvm.MethodName) prog_83_method_6_code (3 : Nat) (Option.none : Option Jvm.ClassFile.FieldType), Jvm.Cond.code ({ cls := "com/example/headway/headway/engine/RowBuffer", name := "grow", desc := "()V" } : Jvm.MethodName) prog_83_method_14_code (4 : Nat) (Option.none : Option Jvm.ClassFile.FieldType), Jvm.Cond.code ({ cls := "java/lang/Math", name := "max", desc := "(II)I" } : Jvm.MethodName) jdk_29_method_65_code (2 : Nat) (Option.some Jvm.ClassFile.FieldType.int), Jvm.Cond.code ({ cls := "java/lang/Math", name := "min", desc := "(JJ)J" } : Jvm.MethodName) jdk_29_method_70_code (4 : Nat) (Option.some Jvm.ClassFile.FieldType.long), Jvm.Cond.code ({ cls := "com/example/headway/headway/engine/HashIndex", name := "hashOf", desc := "(I)I" } : Jvm.MethodName) prog_57_method_8_code (7 : Nat) (Option.some Jvm.ClassFile.FieldType.int), Jvm.Cond.code ({ cls := "com/example/headway/headway/engine/HashIndex", name := "link", desc := "(II[I[I)V" } : Jvm.MethodName) prog_57_method_11_code (5 : Nat) (Option.none : Option Jvm.ClassFile.FieldType), Jvm.Cond.code ({ cls := "com/example/headway/headway/engine/HashIndex", name := "keyEquals", desc := "(ILcom/example/headway/headway/engine/Row;[I)Z" } : Jvm.MethodName) prog_57_method_7_code (7 : Nat) (Option.some Jvm.ClassFile.FieldType.boolean), Jvm.Cond.code ({ cls := "com/example/headway/headway/engine/HashIndex", name := "findNext", desc := "(ILcom/example/headway/headway/engine/Row;[I)I" } : Jvm.MethodName) prog_57_method_5_code (4 : Nat) (Option.some Jvm.ClassFile.FieldType.int), Jvm.Cond.code ({ cls := "com/example/headway/headway/engine/HashIndex", name := "buildLarger", desc := "()V" } : Jvm.MethodName) prog_57_method_12_code (1 : Nat) (Option.none : Option Jvm.ClassFile.FieldType), Jvm.Cond.code ({ cls := "com/example/headway/headway/engine/HashIndex", name := "linkIntoLarger", desc := "()V" } : Jvm.MethodName) prog_57_method_13_code (3 : Nat) (Option.none : Option Jvm.ClassFile.FieldType), Jvm.Cond.code ({ cls := "java/lang/Math", name := "min", desc := "(II)I" } : Jvm.MethodName) jdk_29_method_69_code (2 : Nat) (Option.some Jvm.ClassFile.FieldType.int), Jvm.Cond.code ({ cls := "java/util/Arrays", name := "copyOf", desc := "([II)[I" } : Jvm.MethodName) jdk_65_method_123_code (3 : Nat) (Option.some (Jvm.ClassFile.FieldType.array Jvm.ClassFile.FieldType.int))]
set_option maxRecDepth 65536 in
theorem codes_eq : words1.filter isCode = codes1 := rfl
theorem w_codes : ∀ c ∈ words1.filter isCode, c.before args0 about1 = true := by
  rw [codes_eq]
  intro c hc
  simp only [codes1, List.mem_cons, List.not_mem_nil, or_false] at hc
  rcases hc with rfl | rfl | rfl | rfl | rfl | rfl | rfl | rfl | rfl | rfl | rfl | rfl | rfl | rfl | rfl | rfl | rfl | rfl | rfl | rfl | rfl | rfl | rfl | rfl | rfl | rfl | rfl | rfl | rfl | rfl | rfl
  · exact w_c0
  · exact w_c1
  · exact w_c2
  · exact w_c3
  · exact w_c4
  · exact w_c5
  · exact w_c6
  · exact w_c7
  · exact w_c8
  · exact w_c9
  · exact w_c10
  · exact w_c11
  · exact w_c12
  · exact w_c13
  · exact w_c14
  · exact w_c15
  · exact w_c16
  · exact w_c17
  · exact w_c18
  · exact w_c19
  · exact w_c20
  · exact w_c21
  · exact w_c22
  · exact w_c23
  · exact w_c24
  · exact w_c25
  · exact w_c26
  · exact w_c27
  · exact w_c28
  · exact w_c29
  · exact w_c30
set_option maxRecDepth 65536 in
theorem w_t1 : (words1.take 24).all (fun c => isCode c || c.before args0 about1) = true := by decide +kernel
set_option maxRecDepth 65536 in
theorem w_t2 : ((words1.drop 24).take 24).all (fun c => isCode c || c.before args0 about1) = true := by decide +kernel
set_option maxRecDepth 65536 in
theorem w_t3 : (((words1.drop 24).drop 24).take 24).all (fun c => isCode c || c.before args0 about1) = true := by decide +kernel
set_option maxRecDepth 65536 in
theorem w_t4 : ((((words1.drop 24).drop 24).drop 24).take 24).all (fun c => isCode c || c.before args0 about1) = true := by decide +kernel
set_option maxRecDepth 65536 in
theorem w_t5 : (((((words1.drop 24).drop 24).drop 24).drop 24).take 24).all (fun c => isCode c || c.before args0 about1) = true := by decide +kernel
set_option maxRecDepth 65536 in
theorem w_t6 : ((((((words1.drop 24).drop 24).drop 24).drop 24).drop 24).take 24).all (fun c => isCode c || c.before args0 about1) = true := by decide +kernel
set_option maxRecDepth 65536 in
theorem w_t7 : (((((((words1.drop 24).drop 24).drop 24).drop 24).drop 24).drop 24).take 24).all (fun c => isCode c || c.before args0 about1) = true := by decide +kernel
set_option maxRecDepth 65536 in
theorem w_t8 : ((((((((words1.drop 24).drop 24).drop 24).drop 24).drop 24).drop 24).drop 24).take 24).all (fun c => isCode c || c.before args0 about1) = true := by decide +kernel
set_option maxRecDepth 65536 in
theorem w_t9 : ((((((((words1.drop 24).drop 24).drop 24).drop 24).drop 24).drop 24).drop 24).drop 24).all (fun c => isCode c || c.before args0 about1) = true := by decide +kernel
theorem w_tables : (allAtoms (Jvm.Cond.code x code maxLocals ret :: tables_1)).before args0 about1 = true := by
  rw [allAtoms_all]
  show words1.all (fun c => c.before args0 about1) = true
  refine all_split ?_ w_codes
  rw [← List.take_append_drop 24 words1, List.all_append, w_t1, ← List.take_append_drop 24 (words1.drop 24), List.all_append, w_t2, ← List.take_append_drop 24 ((words1.drop 24).drop 24), List.all_append, w_t3, ← List.take_append_drop 24 (((words1.drop 24).drop 24).drop 24), List.all_append, w_t4, ← List.take_append_drop 24 ((((words1.drop 24).drop 24).drop 24).drop 24), List.all_append, w_t5, ← List.take_append_drop 24 (((((words1.drop 24).drop 24).drop 24).drop 24).drop 24), List.all_append, w_t6, ← List.take_append_drop 24 ((((((words1.drop 24).drop 24).drop 24).drop 24).drop 24).drop 24), List.all_append, w_t7, ← List.take_append_drop 24 (((((((words1.drop 24).drop 24).drop 24).drop 24).drop 24).drop 24).drop 24), List.all_append, w_t8, w_t9]
  rfl
set_option maxRecDepth 65536 in
theorem w_rest : rest_1_c.before args0 about1 = true := by decide +kernel
set_option maxRecDepth 65536 in
theorem w_case : (Jvm.Cond.and given_1 narrow_1).before args0 about1 = true := by decide +kernel
theorem w_applies : (headSpec (Jvm.Cond.code x code maxLocals ret :: tables_1) room_1).applies x e0.platform about1 = true :=
  (Spec.applies_iff w_frames).mpr ⟨w_running, w_runnable, w_alone, w_named, w_hears, w_ripe, w_room, w_tables⟩
theorem atStart : AtStart classFile x code maxLocals ret World_1 tables_1 room_1 Calls_1 rest_1 Pre_1 launch0 p0 e0 about1 theMethod args0 below0 :=
  ⟨lists_1, trivial, launch0.admits_env _ _ _, launch0.least_env, fairChoices_fair.cas, fairChoices_fair.clock, w_frames, w_args, w_heap, w_applies, trivial, w_rest, w_case⟩
end start1
theorem witness_1 : WitnessClaimed_1 := ⟨start1.p0, start1.e0, start1.about1, start1.theMethod, start1.args0, start1.below0, start1.atStart⟩
end Jvm.Pilot.@@N@@
