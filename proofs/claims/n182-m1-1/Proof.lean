import JvmDerived
import JvmDerived.Pilot.@@N@@Statement
import JvmDerived.Pilot.@@N@@Code
set_option linter.unusedVariables false
set_option linter.unusedSimpArgs false
@@BLOCK:NumsL.lean.txt@@
namespace Jvm.RoadKit
open Sem ClassFile Op Lib Jvm.Stand Jvm.Free Jvm.LawKit
/-- from the state S the run comes to an end that P holds of -/
def own_Out (p : Program) (e : Env) (below : List Frame) (P : Outcome → State → Prop) (S : State) : Prop := ∃ s₂ o, Steps p.tables e below S s₂ ∧ s₂.status = .running ∧ Ended s₂ below o ∧ P o s₂
theorem own_of {p : Program} {e : Env} {below : List Frame} {P : Outcome → State → Prop} {S S' : State} (h : ∀ t, Steps p.tables e below S' t → Steps p.tables e below S t) (k : own_Out p e below P S') : own_Out p e below P S := by
  obtain ⟨a, b, c, d⟩ := k
  exact ⟨a, b, h a c, d⟩
section New
variable {p : Program} {l : Launch} {e : Env} {R : Room} {s : State} {m : MethodId} {args : Array Value} {below : List Frame} {meth : Method} {c : Code} {T : State} {locs : List Loc} {cells slots : Nat}
theorem own_end (X : Stand p l e R s m args below meth c T locs cells slots) (hlk : meth.locks = false) {v : Option Value} (hv : meth.sig.returnType = none → v = none) {g : JFrame}
    (hs : ∀ fs, (∀ (f : JFrame) (acts : List Action), f.method = m → f.locked = none → f.entered = [] → (doReturn e (T.setTop f) acts v).1 = T.setFrames fs) → Steps p.tables e below (T.setTop g) (T.setFrames fs))
    {Q : Option Value → Heap → List Loc → Prop} (hQ : Q v T.heap locs) {C N : Nat} (hC : cells ≤ C) (hN : slots ≤ N) :
    own_Out p e below (fun o U' => ∃ v L, o = .returned v ∧ Q v U'.heap L ∧ FrameEnd s o U' L C N) (T.setTop g) := by
  obtain ⟨fs, hr, hrun, hended, hW, hsame⟩ := X.leave (v := v) hv hlk
  exact ⟨_, _, hs fs hr, hrun, hended, _, _, rfl, hQ, ⟨_, rfl⟩, hW, hsame.mono hC hN⟩
theorem own_outN (X : Stand p l e R s m args below meth c T locs cells slots) (hx : p.tables.exec = Jvm.exec) (hlk : meth.locks = false) {pc : Nat} {Ls : Array Slot} {z z' : Int32} {t : FieldType} {rest : List Value} (hret : meth.sig.returnType = some t) (ht : t = .boolean ∨ t = .byte ∨ t = .char ∨ t = .short) (hd : decode c.code pc = .ok (.ireturn, 1)) (hz : nar t z = z')
    {Q : Option Value → Heap → List Loc → Prop} (hQ : Q (some (.int z')) T.heap locs) {C N : Nat} (hC : cells ≤ C) (hN : slots ≤ N) :
    own_Out p e below (fun o U' => ∃ v L, o = .returned v ∧ Q v U'.heap L ∧ FrameEnd s o U' L C N) (T.setTop (mkF m pc Ls (.int z :: rest))) :=
  own_end X hlk (fun h => by rw [hret] at h; cases h) (fun fs hr => retN X hx hret ht hd (by rw [hz]; exact hr)) hQ hC hN
end New
theorem own_ltlt {x y : Int64} (h : x < y) : ifCond.holds .lt (lcmpW x y) = true ∧ ifCond.holds .ge (lcmpW x y) = false ∧ ifCond.holds .gt (lcmpW y x) = true ∧ ifCond.holds .le (lcmpW y x) = false := by
  have h1 : ¬ x > y := fun q => by rw [gt_iff_lt, Int64.lt_iff_toInt_lt] at q; rw [Int64.lt_iff_toInt_lt] at h; omega
  have h2 : ¬ x = y := fun q => by subst q; rw [Int64.lt_iff_toInt_lt] at h; omega
  have e1 : lcmpW x y = -1 := by simp only [lcmpW, if_neg h1, if_neg h2]
  have e2 : lcmpW y x = 1 := by simp only [lcmpW, if_pos (show y > x from h)]
  rw [e1, e2]; decide
theorem own_lflt {x y : Int64} (h : ¬ x < y) : ifCond.holds .lt (lcmpW x y) = false ∧ ifCond.holds .ge (lcmpW x y) = true ∧ ifCond.holds .gt (lcmpW y x) = false ∧ ifCond.holds .le (lcmpW y x) = true := by
  by_cases h1 : x = y
  · subst h1
    have h1 : ¬ x > x := fun q => by rw [gt_iff_lt, Int64.lt_iff_toInt_lt] at q; omega
    have e1 : lcmpW x x = 0 := by simp only [lcmpW, if_neg h1, if_pos]
    rw [e1]; decide
  · have h2 : x > y := by
      rw [gt_iff_lt, Int64.lt_iff_toInt_lt]; rw [Int64.lt_iff_toInt_lt] at h
      have h3 : ¬ x.toInt = y.toInt := fun q => h1 (Int64.toInt_inj.mp q)
      omega
    have h3 : ¬ y > x := fun q => by rw [gt_iff_lt, Int64.lt_iff_toInt_lt] at q h2; omega
    have e1 : lcmpW x y = 1 := by simp only [lcmpW, if_pos h2]
    have e2 : lcmpW y x = -1 := by simp only [lcmpW, if_neg h3, if_neg (fun q => h1 (Eq.symm q))]
    rw [e1, e2]; decide
section Bounds
variable {x a k : Int32} {u : Int}
end Bounds
section Rel
end Rel
end Jvm.RoadKit
namespace Jvm.RoadKit
open Sem ClassFile Op Lib Jvm.Stand Jvm.Free Jvm.LawKit
section Short
variable {p : Program} {l : Launch} {e : Env} {R : Room} {s : State} {m : MethodId} {args : Array Value} {below : List Frame} {meth : Method} {c : Code} {T : State} {locs : List Loc} {cells slots : Nat} {P : Outcome → State → Prop} {bytes : ByteArray} {pc q : Nat} {ls l' : Array Slot} {st : List Value}
theorem o_iloadN (X : Stand p l e R s m args below meth c T locs cells slots) (hx : p.tables.exec = Jvm.exec) (hby : c.code = bytes) {k : Fin 4} {v : Int32} (hd : decode bytes pc = .ok (.iload_n k, 1)) (hl : ls[k.val]? = some (.val (.int v))) (hq : pc + 1 = q) (hr : own_Out p e below P (T.setTop (mkF m q ls (.int v :: st)))) : own_Out p e below P (T.setTop (mkF m pc ls (st))) := by
  subst hq; exact own_of (fun _ k => XS.iloadN X.here hx rfl (hb hby hd) hl k) hr
theorem o_iload (X : Stand p l e R s m args below meth c T locs cells slots) (hx : p.tables.exec = Jvm.exec) (hby : c.code = bytes) {k : Nat} {v : Int32} (hd : decode bytes pc = .ok (.iload k, 2)) (hl : ls[k]? = some (.val (.int v))) (hq : pc + 2 = q) (hr : own_Out p e below P (T.setTop (mkF m q ls (.int v :: st)))) : own_Out p e below P (T.setTop (mkF m pc ls (st))) := by
  subst hq; exact own_of (fun _ k => XS.iload X.here hx rfl (hb hby hd) hl k) hr
theorem o_istore (X : Stand p l e R s m args below meth c T locs cells slots) (hx : p.tables.exec = Jvm.exec) (hby : c.code = bytes) {k : Nat} {x : Int32} (hd : decode bytes pc = .ok (.istore k, 2)) (hl : storeLocals ls k (.int x) = some l') (hq : pc + 2 = q) (hr : own_Out p e below P (T.setTop (mkF m q l' (st)))) : own_Out p e below P (T.setTop (mkF m pc ls (.int x :: st))) := by
  subst hq; exact own_of (fun _ k => XS.istore X.here hx rfl (hb hby hd) rfl hl k) hr
theorem o_lloadN (X : Stand p l e R s m args below meth c T locs cells slots) (hx : p.tables.exec = Jvm.exec) (hby : c.code = bytes) {k : Fin 4} {v : Int64} (hd : decode bytes pc = .ok (.lload_n k, 1)) (hl : ls[k.val]? = some (.val (.long v))) (hq : pc + 1 = q) (hr : own_Out p e below P (T.setTop (mkF m q ls (.long v :: st)))) : own_Out p e below P (T.setTop (mkF m pc ls (st))) := by
  subst hq; exact own_of (fun _ k => XS.lloadN X.here hx rfl (hb hby hd) hl k) hr
theorem o_dloadN (X : Stand p l e R s m args below meth c T locs cells slots) (hx : p.tables.exec = Jvm.exec) (hby : c.code = bytes) {k : Fin 4} {v : UInt64} (hd : decode bytes pc = .ok (.dload_n k, 1)) (hl : ls[k.val]? = some (.val (.double v))) (hq : pc + 1 = q) (hr : own_Out p e below P (T.setTop (mkF m q ls (.double v :: st)))) : own_Out p e below P (T.setTop (mkF m pc ls (st))) := by
  subst hq; exact own_of (fun _ k => XS.dloadN X.here hx rfl (hb hby hd) hl k) hr
theorem o_dload (X : Stand p l e R s m args below meth c T locs cells slots) (hx : p.tables.exec = Jvm.exec) (hby : c.code = bytes) {k : Nat} {v : UInt64} (hd : decode bytes pc = .ok (.dload k, 2)) (hl : ls[k]? = some (.val (.double v))) (hq : pc + 2 = q) (hr : own_Out p e below P (T.setTop (mkF m q ls (.double v :: st)))) : own_Out p e below P (T.setTop (mkF m pc ls (st))) := by
  subst hq; exact own_of (fun _ k => XS.dload X.here hx rfl (hb hby hd) hl k) hr
theorem o_dstore (X : Stand p l e R s m args below meth c T locs cells slots) (hx : p.tables.exec = Jvm.exec) (hby : c.code = bytes) {k : Nat} {x : UInt64} (hd : decode bytes pc = .ok (.dstore k, 2)) (hl : storeLocals ls k (.double x) = some l') (hq : pc + 2 = q) (hr : own_Out p e below P (T.setTop (mkF m q l' (st)))) : own_Out p e below P (T.setTop (mkF m pc ls (.double x :: st))) := by
  subst hq; exact own_of (fun _ k => XS.dstore X.here hx rfl (hb hby hd) rfl hl k) hr
theorem o_iconst (X : Stand p l e R s m args below meth c T locs cells slots) (hx : p.tables.exec = Jvm.exec) (hby : c.code = bytes) {i : Int} {z : Int32} (hd : decode bytes pc = .ok (.iconst i, 1)) (hz : Int32.ofInt i = z) (hq : pc + 1 = q) (hr : own_Out p e below P (T.setTop (mkF m q ls (.int z :: st)))) : own_Out p e below P (T.setTop (mkF m pc ls (st))) := by
  subst hq; exact own_of (fun _ k => XS.iconst X.here hx rfl (hb hby hd) (by rw [hz]; exact k)) hr
theorem o_bipush (X : Stand p l e R s m args below meth c T locs cells slots) (hx : p.tables.exec = Jvm.exec) (hby : c.code = bytes) {i : Int} {z : Int32} (hd : decode bytes pc = .ok (.bipush i, 2)) (hz : (Int8.ofInt i).toInt32 = z) (hq : pc + 2 = q) (hr : own_Out p e below P (T.setTop (mkF m q ls (.int z :: st)))) : own_Out p e below P (T.setTop (mkF m pc ls (st))) := by
  subst hq; exact own_of (fun _ k => XS.bipush X.here hx rfl (hb hby hd) (by rw [hz]; exact k)) hr
theorem o_lconst (X : Stand p l e R s m args below meth c T locs cells slots) (hx : p.tables.exec = Jvm.exec) (hby : c.code = bytes) {i : Fin 2} {z : Int64} (hd : decode bytes pc = .ok (.lconst i, 1)) (hz : Int64.ofNat i = z) (hq : pc + 1 = q) (hr : own_Out p e below P (T.setTop (mkF m q ls (.long z :: st)))) : own_Out p e below P (T.setTop (mkF m pc ls (st))) := by
  subst hq; exact own_of (fun _ k => XS.lconst X.here hx rfl (hb hby hd) (by rw [hz]; exact k)) hr
theorem o_iadd (X : Stand p l e R s m args below meth c T locs cells slots) (hx : p.tables.exec = Jvm.exec) (hby : c.code = bytes) {x y z : Int32} (hd : decode bytes pc = .ok (.iadd, 1)) (hz : x + y = z) (hq : pc + 1 = q) (hr : own_Out p e below P (T.setTop (mkF m q ls (.int z :: st)))) : own_Out p e below P (T.setTop (mkF m pc ls (.int y :: .int x :: st))) := by
  subst hq; exact own_of (fun _ k => XS.iadd X.here hx rfl (hb hby hd) rfl (by rw [hz]; exact k)) hr
theorem o_iand (X : Stand p l e R s m args below meth c T locs cells slots) (hx : p.tables.exec = Jvm.exec) (hby : c.code = bytes) {x y z : Int32} (hd : decode bytes pc = .ok (.iand, 1)) (hz : x &&& y = z) (hq : pc + 1 = q) (hr : own_Out p e below P (T.setTop (mkF m q ls (.int z :: st)))) : own_Out p e below P (T.setTop (mkF m pc ls (.int y :: .int x :: st))) := by
  subst hq; exact own_of (fun _ k => XS.iand X.here hx rfl (hb hby hd) rfl (by rw [hz]; exact k)) hr
theorem o_lcmp (X : Stand p l e R s m args below meth c T locs cells slots) (hx : p.tables.exec = Jvm.exec) (hby : c.code = bytes) {x y : Int64} (hd : decode bytes pc = .ok (.lcmp, 1))  (hq : pc + 1 = q) (hr : own_Out p e below P (T.setTop (mkF m q ls (.int (lcmpW x y) :: st)))) : own_Out p e below P (T.setTop (mkF m pc ls (.long y :: .long x :: st))) := by
  subst hq; exact own_of (fun _ k => XS.lcmp X.here hx rfl (hb hby hd) rfl k) hr
theorem o_goto (X : Stand p l e R s m args below meth c T locs cells slots) (hx : p.tables.exec = Jvm.exec) (hby : c.code = bytes) {o : Int} (hd : decode bytes pc = .ok (.goto o, 3))  (ho : 0 ≤ (pc : Int) + o) (hq : ((pc : Int) + o).toNat = q) (hr : own_Out p e below P (T.setTop (mkF m q ls (st)))) : own_Out p e below P (T.setTop (mkF m pc ls (st))) := by
  exact own_of (fun _ k => XS.goto X.here hx rfl rfl (hb hby hd) ho hq k) hr
theorem o_ifY (X : Stand p l e R s m args below meth c T locs cells slots) (hx : p.tables.exec = Jvm.exec) (hby : c.code = bytes) {cd : ClassFile.Cond} {x : Int32} {o : Int} (hd : decode bytes pc = .ok (.ifCond cd o, 3)) (hc : ifCond.holds cd x = true) (ho : 0 ≤ (pc : Int) + o) (hq : ((pc : Int) + o).toNat = q) (hr : own_Out p e below P (T.setTop (mkF m q ls (st)))) : own_Out p e below P (T.setTop (mkF m pc ls (.int x :: st))) := by
  exact own_of (fun _ k => XS.ifYes X.here hx rfl rfl (hb hby hd) rfl hc ho hq k) hr
theorem o_ifN (X : Stand p l e R s m args below meth c T locs cells slots) (hx : p.tables.exec = Jvm.exec) (hby : c.code = bytes) {cd : ClassFile.Cond} {x : Int32} {o : Int} (hd : decode bytes pc = .ok (.ifCond cd o, 3)) (hc : ifCond.holds cd x = false) (hq : pc + 3 = q) (hr : own_Out p e below P (T.setTop (mkF m q ls (st)))) : own_Out p e below P (T.setTop (mkF m pc ls (.int x :: st))) := by
  subst hq; exact own_of (fun _ k => XS.ifNo X.here hx rfl (hb hby hd) rfl hc k) hr
theorem o_icY (X : Stand p l e R s m args below meth c T locs cells slots) (hx : p.tables.exec = Jvm.exec) (hby : c.code = bytes) {cd : ClassFile.Cond} {x y : Int32} {o : Int} (hd : decode bytes pc = .ok (.if_icmp cd o, 3)) (hc : if_icmp.holds cd x y = true) (ho : 0 ≤ (pc : Int) + o) (hq : ((pc : Int) + o).toNat = q) (hr : own_Out p e below P (T.setTop (mkF m q ls (st)))) : own_Out p e below P (T.setTop (mkF m pc ls (.int y :: .int x :: st))) := by
  exact own_of (fun _ k => XS.icmpYes X.here hx rfl rfl (hb hby hd) rfl hc ho hq k) hr
theorem o_icN (X : Stand p l e R s m args below meth c T locs cells slots) (hx : p.tables.exec = Jvm.exec) (hby : c.code = bytes) {cd : ClassFile.Cond} {x y : Int32} {o : Int} (hd : decode bytes pc = .ok (.if_icmp cd o, 3)) (hc : if_icmp.holds cd x y = false) (hq : pc + 3 = q) (hr : own_Out p e below P (T.setTop (mkF m q ls (st)))) : own_Out p e below P (T.setTop (mkF m pc ls (.int y :: .int x :: st))) := by
  subst hq; exact own_of (fun _ k => XS.icmpNo X.here hx rfl (hb hby hd) rfl hc k) hr
variable {Z : State} {a0 : Array Value} {h : Heap}
theorem o_ldcI (X : Stand p l e R s m args below meth c T locs cells slots) (hx : p.tables.exec = Jvm.exec) (hZ : Z.Warmed39 s.vm) {own : String} (hown : s.vm.findClass own = some m.cls) (hby : c.code = bytes) {i : Nat} {v : Int32} (w : (Cond.constant own i v).before a0 Z = true) (hd : decode bytes pc = .ok (.ldc i, 2)) (hq : pc + 2 = q) (hr : own_Out p e below P (T.setTop (mkF m q ls (.int v :: st)))) : own_Out p e below P (T.setTop (mkF m pc ls st)) := by
  subst hq; exact own_of (X.ldcInt hx hown (mvT hZ w) (g := mkF m pc ls st) rfl (hb hby hd)) hr
variable {a : Addr} {k : ClassId} {z j : Int32} {vs : List Value} {dv v : Value} {ty : FieldType}
end Short
end Jvm.RoadKit
namespace Jvm.Pilot.@@N@@
open Jvm Jvm.ClassFile Sem Op Lib Jvm.Free Jvm.Stand Jvm.LawKit Jvm.RoadKit Bundle Jvm.Pilot.@@N@@.Jvm.D
theorem w_ {a0 : Array Value} {Z : State} (hw : ∀ d ∈ tables_1, d.before a0 Z = true) (i : Nat) {d : Jvm.Cond} (h : tables_1[i]? = some d) : d.before a0 Z = true := hw _ (List.mem_of_getElem? h)
section Dbl
open Jvm.FP.Core
abbrev rho (x : UInt64) : Int := zval b64 (val64 x)
theorem own_mul {x y V : UInt64} (hx : DFin x) (hy : DFin y) (hV : val64 V ≠ .nan) : (rho x * rho y ≤ rho V * (one64 : Int) → rho (dmul x y) ≤ rho V) ∧ (rho V * (one64 : Int) ≤ rho x * rho y → rho V ≤ rho (dmul x y)) := by
  obtain ⟨s, c, q, ex⟩ := hx
  obtain ⟨t, d, r, ey⟩ := hy
  have fx : Jvm.FP.Core.fits b64 (.fin s c q) := ex ▸ val64_fits x
  have fy : Jvm.FP.Core.fits b64 (.fin t d r) := ey ▸ val64_fits y
  obtain ⟨p1, p2, p3⟩ := product_units fx fy
  have e1 : val64 (dmul x y) = round b64 (.fin (s != t) (c * d) (q + r)) := by rw [val64_dmul, ex, ey, p1]
  have e2 : (2 ^ (b64.qmin - 2 * b64.qmin).toNat : Nat) = one64 := by decide +kernel
  have e3 : rho x * rho y = signed (s != t) (inUnits (c * d) (q + r) (2 * b64.qmin)) := by
    rw [p3, signed_xor]; show zval b64 (val64 x) * zval b64 (val64 y) = _; rw [ex, ey]; rfl
  refine ⟨fun h => ?_, fun h => ?_⟩
  · show zval b64 (val64 (dmul x y)) ≤ _
    rw [e1]
    refine zval_round_le good_b64 (val64_fits V) hV (e0 := 2 * b64.qmin) (by decide +kernel) p2 ?_
    rw [e2, ← e3]; exact h
  · show _ ≤ zval b64 (val64 (dmul x y))
    rw [e1]
    refine zval_round_ge good_b64 (val64_fits V) hV (e0 := 2 * b64.qmin) (by decide +kernel) p2 ?_
    rw [e2, ← e3]; exact h
theorem own_sg {s t : Bool} {zr zV xP vD : Nat} (hle : xP ≤ vD → zr ≤ zV) (hge : vD ≤ xP → zV ≤ zr) (hz : vD = 0 → zV = 0) : (signed s xP ≤ signed t vD → signed s zr ≤ signed t zV) ∧ (signed t vD ≤ signed s xP → signed t zV ≤ signed s zr) := by
  by_cases h1 : xP ≤ vD <;> by_cases h2 : vD ≤ xP <;> simp only [h1, h2, true_implies, false_implies] at hle hge <;> constructor <;> intro h <;> cases s <;> cases t <;> simp only [signed, if_true, Bool.false_eq_true, if_false] at h ⊢ <;> omega
theorem own_div {x K V : UInt64} {d : Nat} {r : Int} (hx : DFin x) (hK : val64 K = .fin false d r) (hd : 0 < d) (hr : r ≤ 0) (hV : val64 V ≠ .nan) : (rho x * ((2 ^ (-r).toNat : Nat) : Int) ≤ rho V * (d : Int) → rho (ddiv x K) ≤ rho V) ∧ (rho V * (d : Int) ≤ rho x * ((2 ^ (-r).toNat : Nat) : Int) → rho V ≤ rho (ddiv x K)) := by
  obtain ⟨s, c, q, ex⟩ := hx
  have fx : Jvm.FP.Core.fits b64 (.fin s c q) := ex ▸ val64_fits x
  have q0 := fx.2.1
  have e : val64 (ddiv x K) = roundRatio b64 s c d (q - r) := by
    rw [val64_ddiv, ex, hK]
    show (if d = 0 then _ else roundRatio b64 (s != false) c d (q - r)) = _
    rw [if_neg (by omega), Bool.bne_false]
  have hle := zmag_roundRatio_le good_b64 (s := s) (A := c) (B := d) (e := q - r) (e0 := b64.qmin) hd (val64_fits V) hV (Int.le_refl _) (by omega)
  have hge := zmag_roundRatio_ge good_b64 (s := s) (A := c) (B := d) (e := q - r) (e0 := b64.qmin) hd (val64_fits V) (Int.le_refl _) (by omega)
  have u : inUnits c (q - r) b64.qmin = zmag b64 (.fin s c q) * 2 ^ (-r).toNat := by
    show c * 2 ^ (q - r - b64.qmin).toNat = c * 2 ^ (q - b64.qmin).toNat * 2 ^ (-r).toNat
    rw [show (q - r - b64.qmin).toNat = (q - b64.qmin).toNat + (-r).toNat by omega, Nat.pow_add, Nat.mul_assoc]
  rw [u, Int.sub_self, show (2 : Nat) ^ (0 : Int).toNat = 1 from rfl, Nat.mul_one] at hle hge
  have g := own_sg (s := s) (t := sgn (val64 V)) hle hge (fun h => by rcases Nat.mul_eq_zero.mp h with h | h <;> omega)
  rw [signed_mul, signed_mul] at g
  have ex' : rho x = signed s (zmag b64 (.fin s c q)) := by show zval b64 (val64 x) = _; rw [ex]; rfl
  have er : rho (ddiv x K) = signed s (zmag b64 (roundRatio b64 s c d (q - r))) := by
    show zval b64 (val64 (ddiv x K)) = _; rw [e]; unfold zval; rw [sgn_roundRatio]
  rw [ex', er]; exact g
theorem own_l2d_ge {a : Int64} {V : UInt64} {k : Int} (hV : val64 V ≠ .nan) (e : rho V = k * (one64 : Int)) (h : k ≤ a.toInt) : rho V ≤ rho (l2d a) :=
  l2d_zval_ge hV (by show rho V ≤ _; rw [e]; exact Int.mul_le_mul_of_nonneg_right h (Int.natCast_nonneg _))
theorem own_l2d_le {a : Int64} {V : UInt64} {k : Int} (hV : val64 V ≠ .nan) (e : rho V = k * (one64 : Int)) (h : a.toInt ≤ k) : rho (l2d a) ≤ rho V :=
  l2d_zval_le hV (by show _ ≤ rho V; rw [e]; exact Int.mul_le_mul_of_nonneg_right h (Int.natCast_nonneg _))
theorem own_cmp (x y : UInt64) (o : CmpOp) (hx : val64 x ≠ .nan) (hy : val64 y ≠ .nan) : (rho x < rho y → cmpValue (Jvm.FP.dcmp x y) o = -1) ∧ (rho x = rho y → cmpValue (Jvm.FP.dcmp x y) o = 0) ∧ (rho y < rho x → cmpValue (Jvm.FP.dcmp x y) o = 1) := by
  refine ⟨fun h => ?_, fun h => ?_, fun h => ?_⟩
  · rw [show Jvm.FP.dcmp x y = some .lt from dcmp_lt.mpr ⟨hx, hy, h⟩]; cases o <;> rfl
  · rw [show Jvm.FP.dcmp x y = some .eq from dcmp_eq.mpr ⟨hx, hy, h⟩]; cases o <;> rfl
  · rw [show Jvm.FP.dcmp x y = some .gt from dcmp_gt.mpr ⟨hx, hy, h⟩]; cases o <;> rfl
theorem own_inf : val64 9218868437227405312 ≠ .nan := by decide +kernel
theorem own_rinf {x : UInt64} (h : DFin x) : rho x < rho 9218868437227405312 := (dcmp_lt.mp (fin_lt_inf h).1).2.2
theorem own_finV {x : UInt64} (hn : val64 x ≠ .nan) (h1 : rho x ≤ rho 9218868437227405311) (h2 : rho 18442240474082181119 ≤ rho x) : DFin x := by
  cases e : val64 x with
  | nan => exact absurd e hn
  | fin s c q => exact ⟨s, c, q, e⟩
  | inf s =>
    exfalso
    have e1 : rho x = signed s (b64.tails * 2 ^ (b64.exps - 2)) := by show zval b64 (val64 x) = _; rw [e]; rfl
    have a : rho 9218868437227405311 < ((b64.tails * 2 ^ (b64.exps - 2) : Nat) : Int) := by decide +kernel
    have b : -((b64.tails * 2 ^ (b64.exps - 2) : Nat) : Int) < rho 18442240474082181119 := by decide +kernel
    cases s <;> simp only [signed, if_true, Bool.false_eq_true, if_false] at e1 <;> omega
end Dbl

theorem d1_0 : decode prog_38_method_5_code 0 = .ok (.dload_n 0, 1) := by decide +kernel
theorem d1_1 : decode prog_38_method_5_code 1 = .ok (.dconst 1, 1) := by decide +kernel
theorem d1_2 : decode prog_38_method_5_code 2 = .ok (.dcmp .l, 1) := by decide +kernel
theorem d1_3 : decode prog_38_method_5_code 3 = .ok (.ifCond .le 15, 3) := by decide +kernel
theorem d1_6 : decode prog_38_method_5_code 6 = .ok (.dload_n 0, 1) := by decide +kernel
theorem d1_7 : decode prog_38_method_5_code 7 = .ok (.ldc2_w 80, 3) := by decide +kernel
theorem d1_10 : decode prog_38_method_5_code 10 = .ok (.dcmp .g, 1) := by decide +kernel
theorem d1_11 : decode prog_38_method_5_code 11 = .ok (.ifCond .ge 7, 3) := by decide +kernel
theorem d1_14 : decode prog_38_method_5_code 14 = .ok (.iconst 1, 1) := by decide +kernel
theorem d1_15 : decode prog_38_method_5_code 15 = .ok (.goto 4, 3) := by decide +kernel
theorem d1_18 : decode prog_38_method_5_code 18 = .ok (.iconst 0, 1) := by decide +kernel
theorem d1_19 : decode prog_38_method_5_code 19 = .ok (.ireturn, 1) := by decide +kernel
theorem pn_0 : plainName "com/example/cliquefold/cliquefold/MarkovClustering" = true := by first | (simp [plainName, overriddenIn]; done) | decide +kernel
theorem ef_1 (m : MethodId) (x0 : UInt64) : entryFrame m #[(.double x0)] 2 = mkF m 0 #[.val (.double x0), .second] [] := by first | (simp [entryFrame, mkF, argsToLocals, Value.category]; done) | rfl
def finf (d0 : UInt64) : Int32 := if (0 : Int32) < (cmpValue (FP.dcmp d0 (4607182418800017408 : UInt64)) .l) then (if (cmpValue (FP.dcmp d0 (9218868437227405312 : UInt64)) .g) < (0 : Int32) then (1 : Int32)
    else (0 : Int32))
  else (0 : Int32)
def Q1 (Z : State) (d0 : UInt64) (h0 : Heap) (n0 : Nat) (v : Option Value) (h : Heap) (L : List Loc) : Prop := v = some (.int (finf d0)) ∧ Fr n0 L ∧ h = h0
set_option maxRecDepth 65536 in
set_option maxHeartbeats 40000000 in
theorem rm1 (l : Launch) (Z : State) (a0 : Array Value) (hw : ∀ d ∈ tables_1, d.before a0 Z = true) (ws : List Jvm.Cond) (d0 : UInt64) (h0 : Heap) (n0 : Nat) (Z0 : n0 ≤ h0.size) :
    MetFree l (⟨"com/example/cliquefold/cliquefold/MarkovClustering", "isInflation", "(D)Z"⟩ : MethodName) (head1 (Jvm.Cond.code (⟨"com/example/cliquefold/cliquefold/MarkovClustering", "isInflation", "(D)Z"⟩ : MethodName) prog_38_method_5_code 2 (some .boolean) :: ws) (⟨0, 0, 0, 0⟩ : Room)) (fun a U => a = #[(.double d0)] ∧ Z.Warmed39 U.vm ∧ U.heap = h0) (fun _ _ _ _ _ => True) (fun _ U o U' => ∃ v L, o = .returned v ∧ Q1 Z d0 h0 n0 v U'.heap L ∧ FrameEnd U o U' L (⟨0, 0, 0, 0⟩ : Room).cells (⟨0, 0, 0, 0⟩ : Room).slots) := by
  refine MetFree.of_bodySF (plainFor_of_name pn_0) hisR ?_
  intro p e s m args below meth c s₁ Bd hml0 hP hK
  obtain ⟨rfl, hZ, hh⟩ := hP
  have hx := Bd.exec
  have hby := Bd.bytes
  have hml : c.maxLocals = 2 := hml0
  have hown : s.vm.findClass "com/example/cliquefold/cliquefold/MarkovClustering" = some m.cls := findClass_of_methodNamed Bd.named
  have hnm := (name_of_methodNamed Bd.named Bd.method).1
  have X0 : Stand p l e (⟨0, 0, 0, 0⟩ : Room) s m #[(.double d0)] below meth c s₁ [] 0 0 := Stand.of_body Bd
  have e0 : s₁.heap = h0 := by rw [← hh, Bd.state]; rfl
  have N0 := Fr.nil n0
  have hret := Bd.returns
  have hlk := BodyLoose.notSynchronized Bd
  show own_Out p e below (fun o U' => ∃ v L, o = .returned v ∧ Q1 Z d0 h0 n0 v U'.heap L ∧ FrameEnd s o U' L (⟨0, 0, 0, 0⟩ : Room).cells (⟨0, 0, 0, 0⟩ : Room).slots) (s₁.setTop (entryFrame m #[(.double d0)] 2))
  refine own_of (fun t k => castTop (ef_1 m d0) k) ?_
  show own_Out p e below _ (s₁.setTop (mkF m 0 #[.val (.double d0), .second] []))
  refine o_dloadN X0 hx hby d1_0 rfl (q := 1) rfl ?_
  refine own_of (fun _ k => XS.dconst1 X0.here hx rfl (v := (4607182418800017408 : UInt64)) (hb hby d1_1) (by decide +kernel) k) ?_
  show own_Out p e below _ (s₁.setTop (mkF m 2 #[.val (.double d0), .second] [.double (4607182418800017408 : UInt64), .double d0]))
  refine own_of (fun _ k => XS.dcmpS X0.here hx rfl (v := (cmpValue (FP.dcmp d0 (4607182418800017408 : UInt64)) .l)) (hb hby d1_2) rfl rfl k) ?_
  show own_Out p e below _ (s₁.setTop (mkF m 3 #[.val (.double d0), .second] [.int (cmpValue (FP.dcmp d0 (4607182418800017408 : UInt64)) .l)]))
  by_cases hc3_1 : (0 : Int32) < (cmpValue (FP.dcmp d0 (4607182418800017408 : UInt64)) .l)
  · skip
    refine o_ifN X0 hx hby d1_3 ((if0 _ _).trans (tlt hc3_1).2.2.2) (q := 6) rfl ?_
    refine o_dloadN X0 hx hby d1_6 rfl (q := 7) rfl ?_
    refine own_of (X0.ldc2DoubleC hx hown (mvT hZ (w_ hw 7 rfl)) (g := (mkF m 7 #[.val (.double d0), .second] [.double d0])) rfl (hb hby d1_7)) ?_
    show own_Out p e below _ (s₁.setTop (mkF m 10 #[.val (.double d0), .second] [.double (9218868437227405312 : UInt64), .double d0]))
    refine own_of (fun _ k => XS.dcmpS X0.here hx rfl (v := (cmpValue (FP.dcmp d0 (9218868437227405312 : UInt64)) .g)) (hb hby d1_10) rfl rfl k) ?_
    show own_Out p e below _ (s₁.setTop (mkF m 11 #[.val (.double d0), .second] [.int (cmpValue (FP.dcmp d0 (9218868437227405312 : UInt64)) .g)]))
    by_cases hc11_2 : (cmpValue (FP.dcmp d0 (9218868437227405312 : UInt64)) .g) < (0 : Int32)
    · skip
      refine o_ifN X0 hx hby d1_11 ((if0 _ _).trans (tlt hc11_2).2.1) (q := 14) rfl ?_
      refine o_iconst X0 hx hby d1_14 (z := 1) rfl (q := 15) rfl ?_
      refine o_goto X0 hx hby d1_15 (by decide) (q := 19) (by decide) ?_
      exact own_outN X0 hx hlk (t := .boolean) hret (by simp) (hb hby d1_19) (z' := (1 : Int32)) rfl (Q := Q1 Z d0 h0 n0) ⟨by simp only [finf, if_pos hc3_1, if_pos hc11_2], N0, e0⟩ (by decide) (by decide)
    · skip
      refine o_ifY X0 hx hby d1_11 ((if0 _ _).trans (flt hc11_2).2.1) (by decide) (q := 18) (by decide) ?_
      refine o_iconst X0 hx hby d1_18 (z := 0) rfl (q := 19) rfl ?_
      exact own_outN X0 hx hlk (t := .boolean) hret (by simp) (hb hby d1_19) (z' := (0 : Int32)) rfl (Q := Q1 Z d0 h0 n0) ⟨by simp only [finf, if_pos hc3_1, if_neg hc11_2], N0, e0⟩ (by decide) (by decide)
  · skip
    refine o_ifY X0 hx hby d1_3 ((if0 _ _).trans (flt hc3_1).2.2.2) (by decide) (q := 18) (by decide) ?_
    refine o_iconst X0 hx hby d1_18 (z := 0) rfl (q := 19) rfl ?_
    exact own_outN X0 hx hlk (t := .boolean) hret (by simp) (hb hby d1_19) (z' := (0 : Int32)) rfl (Q := Q1 Z d0 h0 n0) ⟨by simp only [finf, if_neg hc3_1], N0, e0⟩ (by decide) (by decide)
section Inf
open Jvm.FP.Core
theorem own_n1 : val64 4607182418800017408 ≠ .nan := by decide +kernel
theorem own_inf1 {x : UInt64} (hx : DFin x) (h : rho 4607182418800017408 < rho x) : finf x = 1 := by
  have c0 := (own_cmp x 4607182418800017408 .l hx.ne_nan own_n1).2.2 h
  have c1 := (own_cmp x 9218868437227405312 .g hx.ne_nan own_inf).1 (own_rinf hx)
  simp only [finf, c0, c1]; decide
theorem own_inf0 {x : UInt64} (hx : val64 x ≠ .nan) (h : rho x ≤ rho 4607182418800017408) : finf x = 0 := by
  have c0 := own_cmp x 4607182418800017408 .l hx own_n1
  have e : cmpValue (Jvm.FP.dcmp x 4607182418800017408) .l = 0 ∨ cmpValue (Jvm.FP.dcmp x 4607182418800017408) .l = -1 := by
    rcases Int.lt_or_eq_of_le h with q | q
    · exact Or.inr (c0.1 q)
    · exact Or.inl (c0.2.1 q)
  rcases e with e | e <;> simp only [finf, e] <;> exact if_neg (by decide)
theorem own_i2d (p : Int32) : rho (i2d p) = p.toInt * (one64 : Int) := by
  have r := rng32 p
  rw [i2d_l2d]
  have e : p.toInt64.toInt = p.toInt := Int32.toInt_toInt64 p
  have q := DInt_zval (l2d_int (a := p.toInt64) (by rw [e]; omega))
  rw [e] at q; exact q
theorem own_ifin (p : Int32) : DFin (i2d p) := by rw [i2d_l2d]; exact l2d_fin _
theorem own_inan (p : Int32) : dIsNaN (i2d p) = false := (own_ifin p).notNaN
theorem own_k30 : val64 4742290407621132288 = .fin false (2 ^ 52) (-22) := by decide +kernel
theorem own_nn0 (p : Int32) : dIsNaN (ddiv (i2d p) 4742290407621132288) = false := ddiv_out (own_inan p) ⟨_, _, _, own_k30⟩ (by rw [zero_bits2]; decide)
theorem own_litf : DFin 9184749379333099564 := (fin_bits _).mpr (by decide)
theorem own_nn1 (p : Int32) : dIsNaN (dmul 9184749379333099564 (i2d p)) = false := dmul_out own_litf (own_ifin p)
theorem own_r1 : rho 4607182418800017408 = (one64 : Int) := by decide +kernel
theorem own_r2 : rho 4611686018427387904 = 2 * (one64 : Int) := by decide +kernel
theorem own_up : rho 4607182418800017409 * 4503599627370496 = 4503599627370497 * (one64 : Int) := by decide +kernel
theorem own_pos : (0 : Int) < (one64 : Int) := by decide +kernel
theorem own_c22 : ((2 ^ (-(-22 : Int)).toNat : Nat) : Int) = 4194304 := by decide
theorem own_c52 : ((2 ^ 52 : Nat) : Int) = 4503599627370496 := by decide
theorem own_a1 {p : Int32} (h : (1073741824 : Int32) < p) : finf (ddiv (i2d p) 4742290407621132288) = 1 := by
  have n30 : (1073741824 : Int32).toInt = 1073741824 := rfl
  rw [Int32.lt_iff_toInt_lt, n30] at h
  have lm : (i2d p).toNat % 2 ^ 63 < 1088 * 2 ^ 52 := by rw [i2d_l2d]; exact l2d_mag _
  have m := ddiv_mag (a := i2d p) (b := 4742290407621132288) (K := 1088) (L := 1053) lm (by decide) (by decide) (by decide) (by decide)
  refine own_inf1 (fin_of_lt m (by decide)) ?_
  have q := (own_div (x := i2d p) (V := 4607182418800017409) (own_ifin p) own_k30 (by decide) (by decide) (by decide +kernel)).2
  rw [own_c22, own_c52, own_up, own_i2d] at q
  have w : (1073741825 : Int) * (one64 : Int) ≤ p.toInt * (one64 : Int) := Int.mul_le_mul_of_nonneg_right (by omega) (Int.natCast_nonneg _)
  have o := own_pos
  have q' := q (by omega)
  have u := own_up
  rw [own_r1]; omega
theorem own_a0 {p : Int32} (h : ¬ ((1073741824 : Int32) < p)) : finf (ddiv (i2d p) 4742290407621132288) = 0 := by
  have n30 : (1073741824 : Int32).toInt = 1073741824 := rfl
  rw [Int32.lt_iff_toInt_lt, n30] at h
  refine own_inf0 ((notNaN_iff _).mp (own_nn0 p)) ?_
  have q := (own_div (x := i2d p) (V := 4607182418800017408) (own_ifin p) own_k30 (by decide) (by decide) own_n1).1
  rw [own_c22, own_c52, own_r1, own_i2d] at q
  have w : p.toInt * (one64 : Int) ≤ (1073741824 : Int) * (one64 : Int) := Int.mul_le_mul_of_nonneg_right (by omega) (Int.natCast_nonneg _)
  have o := own_pos
  rw [own_r1]; exact q (by omega)
theorem own_b1 {a : Int64} (h : (1 : Int64) < a) : finf (l2d a) = 1 := by
  have n1 : (1 : Int64).toInt = 1 := rfl
  rw [Int64.lt_iff_toInt_lt, n1] at h
  refine own_inf1 (l2d_fin a) ?_
  have q := own_l2d_ge (a := a) (V := 4611686018427387904) (k := 2) (by decide +kernel) own_r2 (by omega)
  have o := own_pos
  rw [own_r2] at q; rw [own_r1]; omega
theorem own_b0 {a : Int64} (h : ¬ ((1 : Int64) < a)) : finf (l2d a) = 0 := by
  have n1 : (1 : Int64).toInt = 1 := rfl
  rw [Int64.lt_iff_toInt_lt, n1] at h
  exact own_inf0 (l2d_fin a).ne_nan (own_l2d_le (a := a) (k := 1) own_n1 (by rw [own_r1, Int.one_mul]) (by omega))
theorem own_k (p : Int32) : 1 ≤ ((1 : Int32) + (p &&& (127 : Int32))).toInt ∧ ((1 : Int32) + (p &&& (127 : Int32))).toInt ≤ 128 := by
  have h := c_mask p 127 7 (by decide) (by decide)
  have n1 : (1 : Int32).toInt = 1 := rfl
  have e := c_iadd (1 : Int32) (p &&& (127 : Int32))
  have r := rng32 ((1 : Int32) + (p &&& (127 : Int32)))
  omega
theorem own_lit1 : 2 * (one64 : Int) ≤ rho 9184749379333099564 := by decide +kernel
theorem own_lit2 : rho 9184749379333099564 * 128 ≤ rho 9218868437227405311 := by decide +kernel
theorem own_big (p : Int32) : 2 * (one64 : Int) ≤ rho (dmul 9184749379333099564 (i2d ((1 : Int32) + (p &&& (127 : Int32))))) ∧ DFin (dmul 9184749379333099564 (i2d ((1 : Int32) + (p &&& (127 : Int32))))) := by
  have k := own_k p
  have o := own_pos
  have l1 := own_lit1
  have l2 := own_lit2
  have e := own_i2d ((1 : Int32) + (p &&& (127 : Int32)))
  generalize ((1 : Int32) + (p &&& (127 : Int32))) = w at *
  have q1 := (own_mul (x := 9184749379333099564) (y := i2d w) (V := 4611686018427387904) own_litf (own_ifin w) (by decide +kernel)).2
  have q2 := (own_mul (x := 9184749379333099564) (y := i2d w) (V := 9218868437227405311) own_litf (own_ifin w) (by decide +kernel)).1
  rw [e, own_r2] at q1
  rw [e] at q2
  have a1 : 1 * (one64 : Int) ≤ w.toInt * (one64 : Int) := Int.mul_le_mul_of_nonneg_right k.1 (Int.le_of_lt o)
  have a2 : w.toInt * (one64 : Int) ≤ 128 * (one64 : Int) := Int.mul_le_mul_of_nonneg_right k.2 (Int.le_of_lt o)
  rw [Int.one_mul] at a1
  have b1 : 2 * (one64 : Int) * (one64 : Int) ≤ rho 9184749379333099564 * (w.toInt * (one64 : Int)) := Int.mul_le_mul l1 a1 (Int.le_of_lt o) (by omega)
  have b2 : rho 9184749379333099564 * (w.toInt * (one64 : Int)) ≤ rho 9218868437227405311 * (one64 : Int) := by
    refine Int.le_trans (Int.mul_le_mul_of_nonneg_left a2 (by omega)) ?_
    rw [← Int.mul_assoc]
    exact Int.mul_le_mul_of_nonneg_right l2 (Int.le_of_lt o)
  have g1 := q1 b1
  have g2 := q2 b2
  refine ⟨g1, own_finV ((notNaN_iff _).mp (own_nn1 w)) g2 ?_⟩
  have n : rho 18442240474082181119 ≤ 0 := by decide +kernel
  omega
theorem own_d1 (p : Int32) : finf (dmul 9184749379333099564 (i2d ((1 : Int32) + (p &&& (127 : Int32))))) = 1 := by
  have q := own_big p
  have o := own_pos
  exact own_inf1 q.2 (by rw [own_r1]; omega)
theorem own_d0 (p : Int32) : finf (Jvm.FP.dneg (dmul 9184749379333099564 (i2d ((1 : Int32) + (p &&& (127 : Int32)))))) = 0 := by
  have q := own_big p
  have o := own_pos
  have e : val64 (Jvm.FP.dneg (dmul 9184749379333099564 (i2d ((1 : Int32) + (p &&& (127 : Int32)))))) = negate (val64 (dmul 9184749379333099564 (i2d ((1 : Int32) + (p &&& (127 : Int32)))))) := Jvm.FP.val64_dneg _
  have r : rho (Jvm.FP.dneg (dmul 9184749379333099564 (i2d ((1 : Int32) + (p &&& (127 : Int32)))))) = -rho (dmul 9184749379333099564 (i2d ((1 : Int32) + (p &&& (127 : Int32))))) := by show zval b64 (val64 _) = _; rw [e, zval_negate]
  exact own_inf0 (by rw [e]; exact negate_ne_nan q.2.ne_nan) (by rw [r, own_r1]; omega)
end Inf
theorem pd_0 : parseMethodDescriptor "(D)Z" = some ⟨[.double], some .boolean⟩ := by decide +kernel
theorem pn_1 : plainName "com/example/cliquefold/cliquefold/MarkovClusteringIsInflationPinLaw" = true := by first | (simp [plainName, overriddenIn]; done) | decide +kernel
theorem ef_0 (m : MethodId) (x0 x1 : Int32) (x2 : Int64) (x3 : Int32) : entryFrame m #[(.int x0), (.int x1), (.long x2), (.int x3)] maxLocals = mkF m 0 #[.val (.int x0), .val (.int x1), .val (.long x2), .second, .val (.int x3), .unset, .unset, .unset, .unset, .unset, .unset, .unset, .unset, .unset, .unset, .unset, .unset, .unset, .unset, .unset, .unset, .unset, .unset, .unset] [] := by first | (simp [entryFrame, mkF, argsToLocals, Value.category, maxLocals]; done) | rfl
theorem dead0_0 (p0 p1 : Int32) (q2 : Int64) (p3 : Int32) (hc4_1 : (p3 &&& (1 : Int32)) = (0 : Int32)) (hc61_2 : (p0 &&& (3 : Int32)) = (0 : Int32)) (hc75_3 : (1073741824 : Int32) < p1) (hc197_5 : ¬ ((finf (FP.ddiv (FP.i2d p1) (4742290407621132288 : UInt64))) = (1 : Int32))) : False := by
  exact hc197_5 (own_a1 hc75_3)
theorem dead0_1 (p0 p1 : Int32) (q2 : Int64) (p3 : Int32) (hc4_1 : (p3 &&& (1 : Int32)) = (0 : Int32)) (hc61_2 : (p0 &&& (3 : Int32)) = (0 : Int32)) (hc75_3 : ¬ ((1073741824 : Int32) < p1)) (hc197_7 : ¬ ((finf (FP.ddiv (FP.i2d p1) (4742290407621132288 : UInt64))) = (0 : Int32))) : False := by
  exact hc197_7 (own_a0 hc75_3)
theorem dead0_2 (p0 p1 : Int32) (q2 : Int64) (p3 : Int32) (hc4_1 : (p3 &&& (1 : Int32)) = (0 : Int32)) (hc61_2 : ¬ ((p0 &&& (3 : Int32)) = (0 : Int32))) (hc91_8 : (p0 &&& (3 : Int32)) = (1 : Int32)) (hc101_9 : (1 : Int64) < q2) (hc197_11 : ¬ ((finf (FP.l2d q2)) = (1 : Int32))) : False := by
  exact hc197_11 (own_b1 hc101_9)
theorem dead0_3 (p0 p1 : Int32) (q2 : Int64) (p3 : Int32) (hc4_1 : (p3 &&& (1 : Int32)) = (0 : Int32)) (hc61_2 : ¬ ((p0 &&& (3 : Int32)) = (0 : Int32))) (hc91_8 : (p0 &&& (3 : Int32)) = (1 : Int32)) (hc101_9 : ¬ ((1 : Int64) < q2)) (hc197_13 : ¬ ((finf (FP.l2d q2)) = (0 : Int32))) : False := by
  exact hc197_13 (own_b0 hc101_9)
theorem dead0_4 (p0 p1 : Int32) (q2 : Int64) (p3 : Int32) (hc4_1 : (p3 &&& (1 : Int32)) = (0 : Int32)) (hc61_2 : ¬ ((p0 &&& (3 : Int32)) = (0 : Int32))) (hc91_8 : ¬ ((p0 &&& (3 : Int32)) = (1 : Int32))) (hc117_14 : (p0 &&& (3 : Int32)) = (2 : Int32)) (hc197_16 : ¬ ((finf (FP.dmul (9184749379333099564 : UInt64) (FP.i2d ((1 : Int32) + (p1 &&& (127 : Int32)))))) = (1 : Int32))) : False := by
  exact hc197_16 (own_d1 p1)
theorem dead0_5 (p0 p1 : Int32) (q2 : Int64) (p3 : Int32) (hc4_1 : (p3 &&& (1 : Int32)) = (0 : Int32)) (hc61_2 : ¬ ((p0 &&& (3 : Int32)) = (0 : Int32))) (hc91_8 : ¬ ((p0 &&& (3 : Int32)) = (1 : Int32))) (hc117_14 : ¬ ((p0 &&& (3 : Int32)) = (2 : Int32))) (hc197_18 : ¬ ((finf (9218868437227405312 : UInt64)) = (0 : Int32))) : False := by
  apply hc197_18
  decide +kernel
theorem dead0_6 (p0 p1 : Int32) (q2 : Int64) (p3 : Int32) (hc4_1 : ¬ ((p3 &&& (1 : Int32)) = (0 : Int32))) (hc61_19 : (p0 &&& (3 : Int32)) = (0 : Int32)) (hc75_20 : (1073741824 : Int32) < p1) (hc197_22 : ¬ ((finf (FP.ddiv (FP.i2d p1) (4742290407621132288 : UInt64))) = (1 : Int32))) : False := by
  exact hc197_22 (own_a1 hc75_20)
theorem dead0_7 (p0 p1 : Int32) (q2 : Int64) (p3 : Int32) (hc4_1 : ¬ ((p3 &&& (1 : Int32)) = (0 : Int32))) (hc61_19 : (p0 &&& (3 : Int32)) = (0 : Int32)) (hc75_20 : ¬ ((1073741824 : Int32) < p1)) (hc197_24 : ¬ ((finf (FP.ddiv (FP.i2d p1) (4742290407621132288 : UInt64))) = (0 : Int32))) : False := by
  exact hc197_24 (own_a0 hc75_20)
theorem dead0_8 (p0 p1 : Int32) (q2 : Int64) (p3 : Int32) (hc4_1 : ¬ ((p3 &&& (1 : Int32)) = (0 : Int32))) (hc61_19 : ¬ ((p0 &&& (3 : Int32)) = (0 : Int32))) (hc91_25 : (p0 &&& (3 : Int32)) = (1 : Int32)) (hc101_26 : (1 : Int64) < q2) (hc197_28 : ¬ ((finf (FP.l2d q2)) = (1 : Int32))) : False := by
  exact hc197_28 (own_b1 hc101_26)
theorem dead0_9 (p0 p1 : Int32) (q2 : Int64) (p3 : Int32) (hc4_1 : ¬ ((p3 &&& (1 : Int32)) = (0 : Int32))) (hc61_19 : ¬ ((p0 &&& (3 : Int32)) = (0 : Int32))) (hc91_25 : (p0 &&& (3 : Int32)) = (1 : Int32)) (hc101_26 : ¬ ((1 : Int64) < q2)) (hc197_30 : ¬ ((finf (FP.l2d q2)) = (0 : Int32))) : False := by
  exact hc197_30 (own_b0 hc101_26)
theorem dead0_10 (p0 p1 : Int32) (q2 : Int64) (p3 : Int32) (hc4_1 : ¬ ((p3 &&& (1 : Int32)) = (0 : Int32))) (hc61_19 : ¬ ((p0 &&& (3 : Int32)) = (0 : Int32))) (hc91_25 : ¬ ((p0 &&& (3 : Int32)) = (1 : Int32))) (hc117_31 : (p0 &&& (3 : Int32)) = (2 : Int32)) (hc197_33 : ¬ ((finf (FP.dneg (FP.dmul (9184749379333099564 : UInt64) (FP.i2d ((1 : Int32) + (p1 &&& (127 : Int32))))))) = (0 : Int32))) : False := by
  exact hc197_33 (own_d0 p1)
theorem dead0_11 (p0 p1 : Int32) (q2 : Int64) (p3 : Int32) (hc4_1 : ¬ ((p3 &&& (1 : Int32)) = (0 : Int32))) (hc61_19 : ¬ ((p0 &&& (3 : Int32)) = (0 : Int32))) (hc91_25 : ¬ ((p0 &&& (3 : Int32)) = (1 : Int32))) (hc117_31 : ¬ ((p0 &&& (3 : Int32)) = (2 : Int32))) (hc197_35 : ¬ ((finf (18442240474082181120 : UInt64)) = (0 : Int32))) : False := by
  apply hc197_35
  decide +kernel
def Q0 (Z : State) (p0 p1 : Int32) (q2 : Int64) (p3 : Int32) (h0 : Heap) (n0 : Nat) (v : Option Value) (h : Heap) (L : List Loc) : Prop := v = some (.int 1) ∧ Fr n0 L
set_option maxRecDepth 65536 in
set_option maxHeartbeats 40000000 in
theorem rm0 (l : Launch) (Z : State) (a0 : Array Value) (hw : ∀ d ∈ tables_1, d.before a0 Z = true) (ws : List Jvm.Cond) (p0 p1 : Int32) (q2 : Int64) (p3 : Int32) (h0 : Heap) (n0 : Nat) (Z0 : n0 ≤ h0.size) :
    MetFree l x (head1 (Jvm.Cond.code x code maxLocals ret :: ws) room_1) (fun a U => a = #[(.int p0), (.int p1), (.long q2), (.int p3)] ∧ Z.Warmed39 U.vm ∧ U.heap = h0) (fun _ _ _ _ _ => True) (fun _ U o U' => ∃ v L, o = .returned v ∧ Q0 Z p0 p1 q2 p3 h0 n0 v U'.heap L ∧ FrameEnd U o U' L 0 0) := by
  refine MetFree.of_bodySF (plainFor_of_name pn_1) hisR ?_
  intro p e s m args below meth c s₁ Bd hml0 hP hK
  obtain ⟨rfl, hZ, hh⟩ := hP
  have hx := Bd.exec
  have hby := Bd.bytes
  have hml : c.maxLocals = 24 := hml0
  have hown : s.vm.findClass "com/example/cliquefold/cliquefold/MarkovClusteringIsInflationPinLaw" = some m.cls := findClass_of_methodNamed Bd.named
  have hnm := (name_of_methodNamed Bd.named Bd.method).1
  have X0 : Stand p l e room_1 s m #[(.int p0), (.int p1), (.long q2), (.int p3)] below meth c s₁ [] 0 0 := Stand.of_body Bd
  have e0 : s₁.heap = h0 := by rw [← hh, Bd.state]; rfl
  have N0 := Fr.nil n0
  have hret := Bd.returns
  have hlk := BodyLoose.notSynchronized Bd
  show own_Out p e below (fun o U' => ∃ v L, o = .returned v ∧ Q0 Z p0 p1 q2 p3 h0 n0 v U'.heap L ∧ FrameEnd s o U' L 0 0) (s₁.setTop (entryFrame m #[(.int p0), (.int p1), (.long q2), (.int p3)] maxLocals))
  refine own_of (fun t k => castTop (ef_0 m p0 p1 q2 p3) k) ?_
  show own_Out p e below _ (s₁.setTop (mkF m 0 #[iv p0, iv p1, .val (.long q2), .second, iv p3, .unset, .unset, .unset, .unset, .unset, .unset, .unset, .unset, .unset, .unset, .unset, .unset, .unset, .unset, .unset, .unset, .unset, .unset, .unset] []))
  refine o_iload X0 hx hby at_0 rfl (q := 2) rfl ?_
  refine o_iconst X0 hx hby at_2 (z := 1) rfl (q := 3) rfl ?_
  refine o_iand X0 hx hby at_3 rfl (q := 4) rfl ?_
  by_cases hc4_1 : (p3 &&& (1 : Int32)) = (0 : Int32)
  · skip
    refine o_ifY X0 hx hby at_4 ((if0 _ _).trans (teq hc4_1).1) (by decide) (q := 11) (by decide) ?_
    refine o_iconst X0 hx hby at_11 (z := 0) rfl (q := 12) rfl ?_
    refine o_istore X0 hx hby at_12 (l' := #[iv p0, iv p1, .val (.long q2), .second, iv p3, iv 0, .unset, .unset, .unset, .unset, .unset, .unset, .unset, .unset, .unset, .unset, .unset, .unset, .unset, .unset, .unset, .unset, .unset, .unset]) rfl (q := 14) rfl ?_
    refine own_of (X0.ldc2DoubleC hx hown (mvT hZ (w_ hw 0 rfl)) (g := (mkF m 14 #[iv p0, iv p1, .val (.long q2), .second, iv p3, iv 0, .unset, .unset, .unset, .unset, .unset, .unset, .unset, .unset, .unset, .unset, .unset, .unset, .unset, .unset, .unset, .unset, .unset, .unset] [])) rfl (hb hby at_14)) ?_
    show own_Out p e below _ (s₁.setTop (mkF m 17 #[iv p0, iv p1, .val (.long q2), .second, iv p3, iv 0, .unset, .unset, .unset, .unset, .unset, .unset, .unset, .unset, .unset, .unset, .unset, .unset, .unset, .unset, .unset, .unset, .unset, .unset] [.double (4741671816366391296 : UInt64)]))
    refine o_dstore X0 hx hby at_17 (l' := #[iv p0, iv p1, .val (.long q2), .second, iv p3, iv 0, .val (.double (4741671816366391296 : UInt64)), .second, .unset, .unset, .unset, .unset, .unset, .unset, .unset, .unset, .unset, .unset, .unset, .unset, .unset, .unset, .unset, .unset]) rfl (q := 19) rfl ?_
    refine o_dload X0 hx hby at_19 rfl (q := 21) rfl ?_
    refine o_dload X0 hx hby at_21 rfl (q := 23) rfl ?_
    refine own_of (fun _ k => XS.dmulS X0.here hx rfl (v := (4876203697187506176 : UInt64)) (hb hby at_23) rfl (Jvm.Free.Fl.noNaN64_no.mpr (by decide +kernel)) (by decide +kernel) k) ?_
    show own_Out p e below _ (s₁.setTop (mkF m 24 #[iv p0, iv p1, .val (.long q2), .second, iv p3, iv 0, .val (.double (4741671816366391296 : UInt64)), .second, .unset, .unset, .unset, .unset, .unset, .unset, .unset, .unset, .unset, .unset, .unset, .unset, .unset, .unset, .unset, .unset] [.double (4876203697187506176 : UInt64)]))
    refine o_dstore X0 hx hby at_24 (l' := #[iv p0, iv p1, .val (.long q2), .second, iv p3, iv 0, .val (.double (4741671816366391296 : UInt64)), .second, .val (.double (4876203697187506176 : UInt64)), .second, .unset, .unset, .unset, .unset, .unset, .unset, .unset, .unset, .unset, .unset, .unset, .unset, .unset, .unset]) rfl (q := 26) rfl ?_
    refine o_dload X0 hx hby at_26 rfl (q := 28) rfl ?_
    refine o_dload X0 hx hby at_28 rfl (q := 30) rfl ?_
    refine own_of (fun _ k => XS.dmulS X0.here hx rfl (v := (5145383438407770339 : UInt64)) (hb hby at_30) rfl (Jvm.Free.Fl.noNaN64_no.mpr (by decide +kernel)) (by decide +kernel) k) ?_
    show own_Out p e below _ (s₁.setTop (mkF m 31 #[iv p0, iv p1, .val (.long q2), .second, iv p3, iv 0, .val (.double (4741671816366391296 : UInt64)), .second, .val (.double (4876203697187506176 : UInt64)), .second, .unset, .unset, .unset, .unset, .unset, .unset, .unset, .unset, .unset, .unset, .unset, .unset, .unset, .unset] [.double (5145383438407770339 : UInt64)]))
    refine o_dstore X0 hx hby at_31 (l' := #[iv p0, iv p1, .val (.long q2), .second, iv p3, iv 0, .val (.double (4741671816366391296 : UInt64)), .second, .val (.double (4876203697187506176 : UInt64)), .second, .val (.double (5145383438407770339 : UInt64)), .second, .unset, .unset, .unset, .unset, .unset, .unset, .unset, .unset, .unset, .unset, .unset, .unset]) rfl (q := 33) rfl ?_
    refine o_dload X0 hx hby at_33 rfl (q := 35) rfl ?_
    refine o_dload X0 hx hby at_35 rfl (q := 37) rfl ?_
    refine own_of (fun _ k => XS.dmulS X0.here hx rfl (v := (5684137024229819304 : UInt64)) (hb hby at_37) rfl (Jvm.Free.Fl.noNaN64_no.mpr (by decide +kernel)) (by decide +kernel) k) ?_
    show own_Out p e below _ (s₁.setTop (mkF m 38 #[iv p0, iv p1, .val (.long q2), .second, iv p3, iv 0, .val (.double (4741671816366391296 : UInt64)), .second, .val (.double (4876203697187506176 : UInt64)), .second, .val (.double (5145383438407770339 : UInt64)), .second, .unset, .unset, .unset, .unset, .unset, .unset, .unset, .unset, .unset, .unset, .unset, .unset] [.double (5684137024229819304 : UInt64)]))
    refine o_dstore X0 hx hby at_38 (l' := #[iv p0, iv p1, .val (.long q2), .second, iv p3, iv 0, .val (.double (4741671816366391296 : UInt64)), .second, .val (.double (4876203697187506176 : UInt64)), .second, .val (.double (5145383438407770339 : UInt64)), .second, .val (.double (5684137024229819304 : UInt64)), .second, .unset, .unset, .unset, .unset, .unset, .unset, .unset, .unset, .unset, .unset]) rfl (q := 40) rfl ?_
    refine o_dload X0 hx hby at_40 rfl (q := 42) rfl ?_
    refine o_dload X0 hx hby at_42 rfl (q := 44) rfl ?_
    refine own_of (fun _ k => XS.dmulS X0.here hx rfl (v := (6761170052691860086 : UInt64)) (hb hby at_44) rfl (Jvm.Free.Fl.noNaN64_no.mpr (by decide +kernel)) (by decide +kernel) k) ?_
    show own_Out p e below _ (s₁.setTop (mkF m 45 #[iv p0, iv p1, .val (.long q2), .second, iv p3, iv 0, .val (.double (4741671816366391296 : UInt64)), .second, .val (.double (4876203697187506176 : UInt64)), .second, .val (.double (5145383438407770339 : UInt64)), .second, .val (.double (5684137024229819304 : UInt64)), .second, .unset, .unset, .unset, .unset, .unset, .unset, .unset, .unset, .unset, .unset] [.double (6761170052691860086 : UInt64)]))
    refine o_dstore X0 hx hby at_45 (l' := #[iv p0, iv p1, .val (.long q2), .second, iv p3, iv 0, .val (.double (4741671816366391296 : UInt64)), .second, .val (.double (4876203697187506176 : UInt64)), .second, .val (.double (5145383438407770339 : UInt64)), .second, .val (.double (5684137024229819304 : UInt64)), .second, .val (.double (6761170052691860086 : UInt64)), .second, .unset, .unset, .unset, .unset, .unset, .unset, .unset, .unset]) rfl (q := 47) rfl ?_
    refine o_dload X0 hx hby at_47 rfl (q := 49) rfl ?_
    refine o_dload X0 hx hby at_49 rfl (q := 51) rfl ?_
    refine own_of (fun _ k => XS.dmulS X0.here hx rfl (v := (8915514139102383433 : UInt64)) (hb hby at_51) rfl (Jvm.Free.Fl.noNaN64_no.mpr (by decide +kernel)) (by decide +kernel) k) ?_
    show own_Out p e below _ (s₁.setTop (mkF m 52 #[iv p0, iv p1, .val (.long q2), .second, iv p3, iv 0, .val (.double (4741671816366391296 : UInt64)), .second, .val (.double (4876203697187506176 : UInt64)), .second, .val (.double (5145383438407770339 : UInt64)), .second, .val (.double (5684137024229819304 : UInt64)), .second, .val (.double (6761170052691860086 : UInt64)), .second, .unset, .unset, .unset, .unset, .unset, .unset, .unset, .unset] [.double (8915514139102383433 : UInt64)]))
    refine o_dstore X0 hx hby at_52 (l' := #[iv p0, iv p1, .val (.long q2), .second, iv p3, iv 0, .val (.double (4741671816366391296 : UInt64)), .second, .val (.double (4876203697187506176 : UInt64)), .second, .val (.double (5145383438407770339 : UInt64)), .second, .val (.double (5684137024229819304 : UInt64)), .second, .val (.double (6761170052691860086 : UInt64)), .second, .val (.double (8915514139102383433 : UInt64)), .second, .unset, .unset, .unset, .unset, .unset, .unset]) rfl (q := 54) rfl ?_
    refine o_iloadN X0 hx hby at_54 rfl (q := 55) rfl ?_
    refine o_iconst X0 hx hby at_55 (z := 3) rfl (q := 56) rfl ?_
    refine o_iand X0 hx hby at_56 rfl (q := 57) rfl ?_
    refine o_istore X0 hx hby at_57 (l' := #[iv p0, iv p1, .val (.long q2), .second, iv p3, iv 0, .val (.double (4741671816366391296 : UInt64)), .second, .val (.double (4876203697187506176 : UInt64)), .second, .val (.double (5145383438407770339 : UInt64)), .second, .val (.double (5684137024229819304 : UInt64)), .second, .val (.double (6761170052691860086 : UInt64)), .second, .val (.double (8915514139102383433 : UInt64)), .second, iv (p0 &&& (3 : Int32)), .unset, .unset, .unset, .unset, .unset]) rfl (q := 59) rfl ?_
    refine o_iload X0 hx hby at_59 rfl (q := 61) rfl ?_
    by_cases hc61_2 : (p0 &&& (3 : Int32)) = (0 : Int32)
    · skip
      refine o_ifN X0 hx hby at_61 ((if0 _ _).trans (teq hc61_2).2) (q := 64) rfl ?_
      refine o_iloadN X0 hx hby at_64 rfl (q := 65) rfl ?_
      refine own_of (fun _ k => XS.i2dS X0.here hx rfl (v := (FP.i2d p1)) (hb hby at_65) rfl rfl k) ?_
      show own_Out p e below _ (s₁.setTop (mkF m 66 #[iv p0, iv p1, .val (.long q2), .second, iv p3, iv 0, .val (.double (4741671816366391296 : UInt64)), .second, .val (.double (4876203697187506176 : UInt64)), .second, .val (.double (5145383438407770339 : UInt64)), .second, .val (.double (5684137024229819304 : UInt64)), .second, .val (.double (6761170052691860086 : UInt64)), .second, .val (.double (8915514139102383433 : UInt64)), .second, iv (p0 &&& (3 : Int32)), .unset, .unset, .unset, .unset, .unset] [.double (FP.i2d p1)]))
      refine own_of (X0.ldc2DoubleC hx hown (mvT hZ (w_ hw 1 rfl)) (g := (mkF m 66 #[iv p0, iv p1, .val (.long q2), .second, iv p3, iv 0, .val (.double (4741671816366391296 : UInt64)), .second, .val (.double (4876203697187506176 : UInt64)), .second, .val (.double (5145383438407770339 : UInt64)), .second, .val (.double (5684137024229819304 : UInt64)), .second, .val (.double (6761170052691860086 : UInt64)), .second, .val (.double (8915514139102383433 : UInt64)), .second, iv (p0 &&& (3 : Int32)), .unset, .unset, .unset, .unset, .unset] [.double (FP.i2d p1)])) rfl (hb hby at_66)) ?_
      show own_Out p e below _ (s₁.setTop (mkF m 69 #[iv p0, iv p1, .val (.long q2), .second, iv p3, iv 0, .val (.double (4741671816366391296 : UInt64)), .second, .val (.double (4876203697187506176 : UInt64)), .second, .val (.double (5145383438407770339 : UInt64)), .second, .val (.double (5684137024229819304 : UInt64)), .second, .val (.double (6761170052691860086 : UInt64)), .second, .val (.double (8915514139102383433 : UInt64)), .second, iv (p0 &&& (3 : Int32)), .unset, .unset, .unset, .unset, .unset] [.double (4742290407621132288 : UInt64), .double (FP.i2d p1)]))
      refine own_of (fun _ k => XS.ddivS X0.here hx rfl (v := (FP.ddiv (FP.i2d p1) (4742290407621132288 : UInt64))) (hb hby at_69) rfl (Jvm.Free.Fl.noNaN64_no.mpr (own_nn0 p1)) rfl k) ?_
      show own_Out p e below _ (s₁.setTop (mkF m 70 #[iv p0, iv p1, .val (.long q2), .second, iv p3, iv 0, .val (.double (4741671816366391296 : UInt64)), .second, .val (.double (4876203697187506176 : UInt64)), .second, .val (.double (5145383438407770339 : UInt64)), .second, .val (.double (5684137024229819304 : UInt64)), .second, .val (.double (6761170052691860086 : UInt64)), .second, .val (.double (8915514139102383433 : UInt64)), .second, iv (p0 &&& (3 : Int32)), .unset, .unset, .unset, .unset, .unset] [.double (FP.ddiv (FP.i2d p1) (4742290407621132288 : UInt64))]))
      refine o_dstore X0 hx hby at_70 (l' := #[iv p0, iv p1, .val (.long q2), .second, iv p3, iv 0, .val (.double (4741671816366391296 : UInt64)), .second, .val (.double (4876203697187506176 : UInt64)), .second, .val (.double (5145383438407770339 : UInt64)), .second, .val (.double (5684137024229819304 : UInt64)), .second, .val (.double (6761170052691860086 : UInt64)), .second, .val (.double (8915514139102383433 : UInt64)), .second, iv (p0 &&& (3 : Int32)), .val (.double (FP.ddiv (FP.i2d p1) (4742290407621132288 : UInt64))), .second, .unset, .unset, .unset]) rfl (q := 72) rfl ?_
      refine o_iloadN X0 hx hby at_72 rfl (q := 73) rfl ?_
      refine o_ldcI X0 hx hZ hown hby (w_ hw 2 rfl) at_73 (q := 75) rfl ?_
      by_cases hc75_3 : (1073741824 : Int32) < p1
      · skip
        refine o_icN X0 hx hby at_75 (tlt hc75_3).2.2.2 (q := 78) rfl ?_
        refine o_iconst X0 hx hby at_78 (z := 1) rfl (q := 79) rfl ?_
        refine o_goto X0 hx hby at_79 (by decide) (q := 83) (by decide) ?_
        refine o_istore X0 hx hby at_83 (l' := #[iv p0, iv p1, .val (.long q2), .second, iv p3, iv 0, .val (.double (4741671816366391296 : UInt64)), .second, .val (.double (4876203697187506176 : UInt64)), .second, .val (.double (5145383438407770339 : UInt64)), .second, .val (.double (5684137024229819304 : UInt64)), .second, .val (.double (6761170052691860086 : UInt64)), .second, .val (.double (8915514139102383433 : UInt64)), .second, iv (p0 &&& (3 : Int32)), .val (.double (FP.ddiv (FP.i2d p1) (4742290407621132288 : UInt64))), .second, iv 1, .unset, .unset]) rfl (q := 85) rfl ?_
        refine o_goto X0 hx hby at_85 (by decide) (q := 190) (by decide) ?_
        refine o_dload X0 hx hby at_190 rfl (q := 192) rfl ?_
        obtain ⟨_, _, ⟨T4, L4, k4, n4⟩, -, X4, ⟨Lc4, hQ4, l4, y4, z4⟩, st4⟩ := Jvm.LawKit.callS X0 hx (y := (⟨"com/example/cliquefold/cliquefold/MarkovClustering", "isInflation", "(D)Z"⟩ : MethodName)) hown (mvT hZ (w_ hw 3 rfl)) (mvT hZ (w_ hw 4 rfl)) (mvT hZ (w_ hw 5 rfl)) (mvT hZ (w_ hw 6 rfl)) (by decide) (backOf (W := 0) (rm1 l Z a0 hw [] (FP.ddiv (FP.i2d p1) (4742290407621132288 : UInt64)) h0 n0 Z0 ) hZ (w_ hw 6 rfl) (w_ hw 5 rfl) (by decide) (by decide)) (g := (mkF m 192 #[iv p0, iv p1, .val (.long q2), .second, iv p3, iv 0, .val (.double (4741671816366391296 : UInt64)), .second, .val (.double (4876203697187506176 : UInt64)), .second, .val (.double (5145383438407770339 : UInt64)), .second, .val (.double (5684137024229819304 : UInt64)), .second, .val (.double (6761170052691860086 : UInt64)), .second, .val (.double (8915514139102383433 : UInt64)), .second, iv (p0 &&& (3 : Int32)), .val (.double (FP.ddiv (FP.i2d p1) (4742290407621132288 : UInt64))), .second, iv 1, .unset, .unset] [.double (FP.ddiv (FP.i2d p1) (4742290407621132288 : UInt64))])) rfl (by rw [hml]; rfl) (argsL := [(.double (FP.ddiv (FP.i2d p1) (4742290407621132288 : UInt64)))]) (rest := []) (lenOf pd_0 rfl) rfl (by show 2 * 0 + _ ≤ _; exact Nat.le_of_eq rfl) (hb hby at_192) (fun _ _ => ⟨rfl, e0, (by decide : 0 + 0 ≤ _), (by decide : 0 + 0 ≤ _)⟩)
        dsimp only [Pt.U, Pt.locs, Pt.cells, Pt.slots] at X4 l4 y4 z4 st4 hQ4
        subst l4 y4 z4
        obtain ⟨rfl, N4q, hh4⟩ := hQ4
        have N4 := Fr.app N0 N4q
        refine own_of st4 ?_
        show own_Out p e below _ (T4.setTop (mkF m 195 #[iv p0, iv p1, .val (.long q2), .second, iv p3, iv 0, .val (.double (4741671816366391296 : UInt64)), .second, .val (.double (4876203697187506176 : UInt64)), .second, .val (.double (5145383438407770339 : UInt64)), .second, .val (.double (5684137024229819304 : UInt64)), .second, .val (.double (6761170052691860086 : UInt64)), .second, .val (.double (8915514139102383433 : UInt64)), .second, iv (p0 &&& (3 : Int32)), .val (.double (FP.ddiv (FP.i2d p1) (4742290407621132288 : UInt64))), .second, iv 1, .unset, .unset] [.int (finf (FP.ddiv (FP.i2d p1) (4742290407621132288 : UInt64)))]))
        refine o_iload X4 hx hby at_195 rfl (q := 197) rfl ?_
        by_cases hc197_5 : (finf (FP.ddiv (FP.i2d p1) (4742290407621132288 : UInt64))) = (1 : Int32)
        · skip
          refine o_icN X4 hx hby at_197 (teq hc197_5).2 (q := 200) rfl ?_
          refine o_iconst X4 hx hby at_200 (z := 1) rfl (q := 201) rfl ?_
          refine o_goto X4 hx hby at_201 (by decide) (q := 205) (by decide) ?_
          exact own_outN X4 hx hlk (t := .boolean) hret (by simp) (hb hby at_205) (z' := (1 : Int32)) rfl (Q := Q0 Z p0 p1 q2 p3 h0 n0) ⟨rfl, N4⟩ (by decide) (by decide)
        · skip
          refine o_icY X4 hx hby at_197 (feq hc197_5).2 (by decide) (q := 204) (by decide) ?_
          refine o_iconst X4 hx hby at_204 (z := 0) rfl (q := 205) rfl ?_
          exact (dead0_0 p0 p1 q2 p3 hc4_1 hc61_2 hc75_3 hc197_5).elim
      · skip
        refine o_icY X0 hx hby at_75 (flt hc75_3).2.2.2 (by decide) (q := 82) (by decide) ?_
        refine o_iconst X0 hx hby at_82 (z := 0) rfl (q := 83) rfl ?_
        refine o_istore X0 hx hby at_83 (l' := #[iv p0, iv p1, .val (.long q2), .second, iv p3, iv 0, .val (.double (4741671816366391296 : UInt64)), .second, .val (.double (4876203697187506176 : UInt64)), .second, .val (.double (5145383438407770339 : UInt64)), .second, .val (.double (5684137024229819304 : UInt64)), .second, .val (.double (6761170052691860086 : UInt64)), .second, .val (.double (8915514139102383433 : UInt64)), .second, iv (p0 &&& (3 : Int32)), .val (.double (FP.ddiv (FP.i2d p1) (4742290407621132288 : UInt64))), .second, iv 0, .unset, .unset]) rfl (q := 85) rfl ?_
        refine o_goto X0 hx hby at_85 (by decide) (q := 190) (by decide) ?_
        refine o_dload X0 hx hby at_190 rfl (q := 192) rfl ?_
        obtain ⟨_, _, ⟨T6, L6, k6, n6⟩, -, X6, ⟨Lc6, hQ6, l6, y6, z6⟩, st6⟩ := Jvm.LawKit.callS X0 hx (y := (⟨"com/example/cliquefold/cliquefold/MarkovClustering", "isInflation", "(D)Z"⟩ : MethodName)) hown (mvT hZ (w_ hw 3 rfl)) (mvT hZ (w_ hw 4 rfl)) (mvT hZ (w_ hw 5 rfl)) (mvT hZ (w_ hw 6 rfl)) (by decide) (backOf (W := 0) (rm1 l Z a0 hw [] (FP.ddiv (FP.i2d p1) (4742290407621132288 : UInt64)) h0 n0 Z0 ) hZ (w_ hw 6 rfl) (w_ hw 5 rfl) (by decide) (by decide)) (g := (mkF m 192 #[iv p0, iv p1, .val (.long q2), .second, iv p3, iv 0, .val (.double (4741671816366391296 : UInt64)), .second, .val (.double (4876203697187506176 : UInt64)), .second, .val (.double (5145383438407770339 : UInt64)), .second, .val (.double (5684137024229819304 : UInt64)), .second, .val (.double (6761170052691860086 : UInt64)), .second, .val (.double (8915514139102383433 : UInt64)), .second, iv (p0 &&& (3 : Int32)), .val (.double (FP.ddiv (FP.i2d p1) (4742290407621132288 : UInt64))), .second, iv 0, .unset, .unset] [.double (FP.ddiv (FP.i2d p1) (4742290407621132288 : UInt64))])) rfl (by rw [hml]; rfl) (argsL := [(.double (FP.ddiv (FP.i2d p1) (4742290407621132288 : UInt64)))]) (rest := []) (lenOf pd_0 rfl) rfl (by show 2 * 0 + _ ≤ _; exact Nat.le_of_eq rfl) (hb hby at_192) (fun _ _ => ⟨rfl, e0, (by decide : 0 + 0 ≤ _), (by decide : 0 + 0 ≤ _)⟩)
        dsimp only [Pt.U, Pt.locs, Pt.cells, Pt.slots] at X6 l6 y6 z6 st6 hQ6
        subst l6 y6 z6
        obtain ⟨rfl, N6q, hh6⟩ := hQ6
        have N6 := Fr.app N0 N6q
        refine own_of st6 ?_
        show own_Out p e below _ (T6.setTop (mkF m 195 #[iv p0, iv p1, .val (.long q2), .second, iv p3, iv 0, .val (.double (4741671816366391296 : UInt64)), .second, .val (.double (4876203697187506176 : UInt64)), .second, .val (.double (5145383438407770339 : UInt64)), .second, .val (.double (5684137024229819304 : UInt64)), .second, .val (.double (6761170052691860086 : UInt64)), .second, .val (.double (8915514139102383433 : UInt64)), .second, iv (p0 &&& (3 : Int32)), .val (.double (FP.ddiv (FP.i2d p1) (4742290407621132288 : UInt64))), .second, iv 0, .unset, .unset] [.int (finf (FP.ddiv (FP.i2d p1) (4742290407621132288 : UInt64)))]))
        refine o_iload X6 hx hby at_195 rfl (q := 197) rfl ?_
        by_cases hc197_7 : (finf (FP.ddiv (FP.i2d p1) (4742290407621132288 : UInt64))) = (0 : Int32)
        · skip
          refine o_icN X6 hx hby at_197 (teq hc197_7).2 (q := 200) rfl ?_
          refine o_iconst X6 hx hby at_200 (z := 1) rfl (q := 201) rfl ?_
          refine o_goto X6 hx hby at_201 (by decide) (q := 205) (by decide) ?_
          exact own_outN X6 hx hlk (t := .boolean) hret (by simp) (hb hby at_205) (z' := (1 : Int32)) rfl (Q := Q0 Z p0 p1 q2 p3 h0 n0) ⟨rfl, N6⟩ (by decide) (by decide)
        · skip
          refine o_icY X6 hx hby at_197 (feq hc197_7).2 (by decide) (q := 204) (by decide) ?_
          refine o_iconst X6 hx hby at_204 (z := 0) rfl (q := 205) rfl ?_
          exact (dead0_1 p0 p1 q2 p3 hc4_1 hc61_2 hc75_3 hc197_7).elim
    · skip
      refine o_ifY X0 hx hby at_61 ((if0 _ _).trans (feq hc61_2).2) (by decide) (q := 88) (by decide) ?_
      refine o_iload X0 hx hby at_88 rfl (q := 90) rfl ?_
      refine o_iconst X0 hx hby at_90 (z := 1) rfl (q := 91) rfl ?_
      by_cases hc91_8 : (p0 &&& (3 : Int32)) = (1 : Int32)
      · skip
        refine o_icN X0 hx hby at_91 (teq hc91_8).2 (q := 94) rfl ?_
        refine o_lloadN X0 hx hby at_94 rfl (q := 95) rfl ?_
        refine own_of (fun _ k => XS.l2dS X0.here hx rfl (v := (FP.l2d q2)) (hb hby at_95) rfl rfl k) ?_
        show own_Out p e below _ (s₁.setTop (mkF m 96 #[iv p0, iv p1, .val (.long q2), .second, iv p3, iv 0, .val (.double (4741671816366391296 : UInt64)), .second, .val (.double (4876203697187506176 : UInt64)), .second, .val (.double (5145383438407770339 : UInt64)), .second, .val (.double (5684137024229819304 : UInt64)), .second, .val (.double (6761170052691860086 : UInt64)), .second, .val (.double (8915514139102383433 : UInt64)), .second, iv (p0 &&& (3 : Int32)), .unset, .unset, .unset, .unset, .unset] [.double (FP.l2d q2)]))
        refine o_dstore X0 hx hby at_96 (l' := #[iv p0, iv p1, .val (.long q2), .second, iv p3, iv 0, .val (.double (4741671816366391296 : UInt64)), .second, .val (.double (4876203697187506176 : UInt64)), .second, .val (.double (5145383438407770339 : UInt64)), .second, .val (.double (5684137024229819304 : UInt64)), .second, .val (.double (6761170052691860086 : UInt64)), .second, .val (.double (8915514139102383433 : UInt64)), .second, iv (p0 &&& (3 : Int32)), .val (.double (FP.l2d q2)), .second, .unset, .unset, .unset]) rfl (q := 98) rfl ?_
        refine o_lloadN X0 hx hby at_98 rfl (q := 99) rfl ?_
        refine o_lconst X0 hx hby at_99 (z := 1) rfl (q := 100) rfl ?_
        refine o_lcmp X0 hx hby at_100 (q := 101) rfl ?_
        by_cases hc101_9 : (1 : Int64) < q2
        · skip
          refine o_ifN X0 hx hby at_101 (own_ltlt hc101_9).2.2.2 (q := 104) rfl ?_
          refine o_iconst X0 hx hby at_104 (z := 1) rfl (q := 105) rfl ?_
          refine o_goto X0 hx hby at_105 (by decide) (q := 109) (by decide) ?_
          refine o_istore X0 hx hby at_109 (l' := #[iv p0, iv p1, .val (.long q2), .second, iv p3, iv 0, .val (.double (4741671816366391296 : UInt64)), .second, .val (.double (4876203697187506176 : UInt64)), .second, .val (.double (5145383438407770339 : UInt64)), .second, .val (.double (5684137024229819304 : UInt64)), .second, .val (.double (6761170052691860086 : UInt64)), .second, .val (.double (8915514139102383433 : UInt64)), .second, iv (p0 &&& (3 : Int32)), .val (.double (FP.l2d q2)), .second, iv 1, .unset, .unset]) rfl (q := 111) rfl ?_
          refine o_goto X0 hx hby at_111 (by decide) (q := 190) (by decide) ?_
          refine o_dload X0 hx hby at_190 rfl (q := 192) rfl ?_
          obtain ⟨_, _, ⟨T10, L10, k10, n10⟩, -, X10, ⟨Lc10, hQ10, l10, y10, z10⟩, st10⟩ := Jvm.LawKit.callS X0 hx (y := (⟨"com/example/cliquefold/cliquefold/MarkovClustering", "isInflation", "(D)Z"⟩ : MethodName)) hown (mvT hZ (w_ hw 3 rfl)) (mvT hZ (w_ hw 4 rfl)) (mvT hZ (w_ hw 5 rfl)) (mvT hZ (w_ hw 6 rfl)) (by decide) (backOf (W := 0) (rm1 l Z a0 hw [] (FP.l2d q2) h0 n0 Z0 ) hZ (w_ hw 6 rfl) (w_ hw 5 rfl) (by decide) (by decide)) (g := (mkF m 192 #[iv p0, iv p1, .val (.long q2), .second, iv p3, iv 0, .val (.double (4741671816366391296 : UInt64)), .second, .val (.double (4876203697187506176 : UInt64)), .second, .val (.double (5145383438407770339 : UInt64)), .second, .val (.double (5684137024229819304 : UInt64)), .second, .val (.double (6761170052691860086 : UInt64)), .second, .val (.double (8915514139102383433 : UInt64)), .second, iv (p0 &&& (3 : Int32)), .val (.double (FP.l2d q2)), .second, iv 1, .unset, .unset] [.double (FP.l2d q2)])) rfl (by rw [hml]; rfl) (argsL := [(.double (FP.l2d q2))]) (rest := []) (lenOf pd_0 rfl) rfl (by show 2 * 0 + _ ≤ _; exact Nat.le_of_eq rfl) (hb hby at_192) (fun _ _ => ⟨rfl, e0, (by decide : 0 + 0 ≤ _), (by decide : 0 + 0 ≤ _)⟩)
          dsimp only [Pt.U, Pt.locs, Pt.cells, Pt.slots] at X10 l10 y10 z10 st10 hQ10
          subst l10 y10 z10
          obtain ⟨rfl, N10q, hh10⟩ := hQ10
          have N10 := Fr.app N0 N10q
          refine own_of st10 ?_
          show own_Out p e below _ (T10.setTop (mkF m 195 #[iv p0, iv p1, .val (.long q2), .second, iv p3, iv 0, .val (.double (4741671816366391296 : UInt64)), .second, .val (.double (4876203697187506176 : UInt64)), .second, .val (.double (5145383438407770339 : UInt64)), .second, .val (.double (5684137024229819304 : UInt64)), .second, .val (.double (6761170052691860086 : UInt64)), .second, .val (.double (8915514139102383433 : UInt64)), .second, iv (p0 &&& (3 : Int32)), .val (.double (FP.l2d q2)), .second, iv 1, .unset, .unset] [.int (finf (FP.l2d q2))]))
          refine o_iload X10 hx hby at_195 rfl (q := 197) rfl ?_
          by_cases hc197_11 : (finf (FP.l2d q2)) = (1 : Int32)
          · skip
            refine o_icN X10 hx hby at_197 (teq hc197_11).2 (q := 200) rfl ?_
            refine o_iconst X10 hx hby at_200 (z := 1) rfl (q := 201) rfl ?_
            refine o_goto X10 hx hby at_201 (by decide) (q := 205) (by decide) ?_
            exact own_outN X10 hx hlk (t := .boolean) hret (by simp) (hb hby at_205) (z' := (1 : Int32)) rfl (Q := Q0 Z p0 p1 q2 p3 h0 n0) ⟨rfl, N10⟩ (by decide) (by decide)
          · skip
            refine o_icY X10 hx hby at_197 (feq hc197_11).2 (by decide) (q := 204) (by decide) ?_
            refine o_iconst X10 hx hby at_204 (z := 0) rfl (q := 205) rfl ?_
            exact (dead0_2 p0 p1 q2 p3 hc4_1 hc61_2 hc91_8 hc101_9 hc197_11).elim
        · skip
          refine o_ifY X0 hx hby at_101 (own_lflt hc101_9).2.2.2 (by decide) (q := 108) (by decide) ?_
          refine o_iconst X0 hx hby at_108 (z := 0) rfl (q := 109) rfl ?_
          refine o_istore X0 hx hby at_109 (l' := #[iv p0, iv p1, .val (.long q2), .second, iv p3, iv 0, .val (.double (4741671816366391296 : UInt64)), .second, .val (.double (4876203697187506176 : UInt64)), .second, .val (.double (5145383438407770339 : UInt64)), .second, .val (.double (5684137024229819304 : UInt64)), .second, .val (.double (6761170052691860086 : UInt64)), .second, .val (.double (8915514139102383433 : UInt64)), .second, iv (p0 &&& (3 : Int32)), .val (.double (FP.l2d q2)), .second, iv 0, .unset, .unset]) rfl (q := 111) rfl ?_
          refine o_goto X0 hx hby at_111 (by decide) (q := 190) (by decide) ?_
          refine o_dload X0 hx hby at_190 rfl (q := 192) rfl ?_
          obtain ⟨_, _, ⟨T12, L12, k12, n12⟩, -, X12, ⟨Lc12, hQ12, l12, y12, z12⟩, st12⟩ := Jvm.LawKit.callS X0 hx (y := (⟨"com/example/cliquefold/cliquefold/MarkovClustering", "isInflation", "(D)Z"⟩ : MethodName)) hown (mvT hZ (w_ hw 3 rfl)) (mvT hZ (w_ hw 4 rfl)) (mvT hZ (w_ hw 5 rfl)) (mvT hZ (w_ hw 6 rfl)) (by decide) (backOf (W := 0) (rm1 l Z a0 hw [] (FP.l2d q2) h0 n0 Z0 ) hZ (w_ hw 6 rfl) (w_ hw 5 rfl) (by decide) (by decide)) (g := (mkF m 192 #[iv p0, iv p1, .val (.long q2), .second, iv p3, iv 0, .val (.double (4741671816366391296 : UInt64)), .second, .val (.double (4876203697187506176 : UInt64)), .second, .val (.double (5145383438407770339 : UInt64)), .second, .val (.double (5684137024229819304 : UInt64)), .second, .val (.double (6761170052691860086 : UInt64)), .second, .val (.double (8915514139102383433 : UInt64)), .second, iv (p0 &&& (3 : Int32)), .val (.double (FP.l2d q2)), .second, iv 0, .unset, .unset] [.double (FP.l2d q2)])) rfl (by rw [hml]; rfl) (argsL := [(.double (FP.l2d q2))]) (rest := []) (lenOf pd_0 rfl) rfl (by show 2 * 0 + _ ≤ _; exact Nat.le_of_eq rfl) (hb hby at_192) (fun _ _ => ⟨rfl, e0, (by decide : 0 + 0 ≤ _), (by decide : 0 + 0 ≤ _)⟩)
          dsimp only [Pt.U, Pt.locs, Pt.cells, Pt.slots] at X12 l12 y12 z12 st12 hQ12
          subst l12 y12 z12
          obtain ⟨rfl, N12q, hh12⟩ := hQ12
          have N12 := Fr.app N0 N12q
          refine own_of st12 ?_
          show own_Out p e below _ (T12.setTop (mkF m 195 #[iv p0, iv p1, .val (.long q2), .second, iv p3, iv 0, .val (.double (4741671816366391296 : UInt64)), .second, .val (.double (4876203697187506176 : UInt64)), .second, .val (.double (5145383438407770339 : UInt64)), .second, .val (.double (5684137024229819304 : UInt64)), .second, .val (.double (6761170052691860086 : UInt64)), .second, .val (.double (8915514139102383433 : UInt64)), .second, iv (p0 &&& (3 : Int32)), .val (.double (FP.l2d q2)), .second, iv 0, .unset, .unset] [.int (finf (FP.l2d q2))]))
          refine o_iload X12 hx hby at_195 rfl (q := 197) rfl ?_
          by_cases hc197_13 : (finf (FP.l2d q2)) = (0 : Int32)
          · skip
            refine o_icN X12 hx hby at_197 (teq hc197_13).2 (q := 200) rfl ?_
            refine o_iconst X12 hx hby at_200 (z := 1) rfl (q := 201) rfl ?_
            refine o_goto X12 hx hby at_201 (by decide) (q := 205) (by decide) ?_
            exact own_outN X12 hx hlk (t := .boolean) hret (by simp) (hb hby at_205) (z' := (1 : Int32)) rfl (Q := Q0 Z p0 p1 q2 p3 h0 n0) ⟨rfl, N12⟩ (by decide) (by decide)
          · skip
            refine o_icY X12 hx hby at_197 (feq hc197_13).2 (by decide) (q := 204) (by decide) ?_
            refine o_iconst X12 hx hby at_204 (z := 0) rfl (q := 205) rfl ?_
            exact (dead0_3 p0 p1 q2 p3 hc4_1 hc61_2 hc91_8 hc101_9 hc197_13).elim
      · skip
        refine o_icY X0 hx hby at_91 (feq hc91_8).2 (by decide) (q := 114) (by decide) ?_
        refine o_iload X0 hx hby at_114 rfl (q := 116) rfl ?_
        refine o_iconst X0 hx hby at_116 (z := 2) rfl (q := 117) rfl ?_
        by_cases hc117_14 : (p0 &&& (3 : Int32)) = (2 : Int32)
        · skip
          refine o_icN X0 hx hby at_117 (teq hc117_14).2 (q := 120) rfl ?_
          refine o_dload X0 hx hby at_120 rfl (q := 122) rfl ?_
          refine o_dload X0 hx hby at_122 rfl (q := 124) rfl ?_
          refine own_of (fun _ k => XS.dmulS X0.here hx rfl (v := (9184749379333099564 : UInt64)) (hb hby at_124) rfl (Jvm.Free.Fl.noNaN64_no.mpr (by decide +kernel)) (by decide +kernel) k) ?_
          show own_Out p e below _ (s₁.setTop (mkF m 125 #[iv p0, iv p1, .val (.long q2), .second, iv p3, iv 0, .val (.double (4741671816366391296 : UInt64)), .second, .val (.double (4876203697187506176 : UInt64)), .second, .val (.double (5145383438407770339 : UInt64)), .second, .val (.double (5684137024229819304 : UInt64)), .second, .val (.double (6761170052691860086 : UInt64)), .second, .val (.double (8915514139102383433 : UInt64)), .second, iv (p0 &&& (3 : Int32)), .unset, .unset, .unset, .unset, .unset] [.double (9184749379333099564 : UInt64)]))
          refine o_iconst X0 hx hby at_125 (z := 1) rfl (q := 126) rfl ?_
          refine o_iloadN X0 hx hby at_126 rfl (q := 127) rfl ?_
          refine o_bipush X0 hx hby at_127 (z := 127) rfl (q := 129) rfl ?_
          refine o_iand X0 hx hby at_129 rfl (q := 130) rfl ?_
          refine o_iadd X0 hx hby at_130 rfl (q := 131) rfl ?_
          refine own_of (fun _ k => XS.i2dS X0.here hx rfl (v := (FP.i2d ((1 : Int32) + (p1 &&& (127 : Int32))))) (hb hby at_131) rfl rfl k) ?_
          show own_Out p e below _ (s₁.setTop (mkF m 132 #[iv p0, iv p1, .val (.long q2), .second, iv p3, iv 0, .val (.double (4741671816366391296 : UInt64)), .second, .val (.double (4876203697187506176 : UInt64)), .second, .val (.double (5145383438407770339 : UInt64)), .second, .val (.double (5684137024229819304 : UInt64)), .second, .val (.double (6761170052691860086 : UInt64)), .second, .val (.double (8915514139102383433 : UInt64)), .second, iv (p0 &&& (3 : Int32)), .unset, .unset, .unset, .unset, .unset] [.double (FP.i2d ((1 : Int32) + (p1 &&& (127 : Int32)))), .double (9184749379333099564 : UInt64)]))
          refine own_of (fun _ k => XS.dmulS X0.here hx rfl (v := (FP.dmul (9184749379333099564 : UInt64) (FP.i2d ((1 : Int32) + (p1 &&& (127 : Int32)))))) (hb hby at_132) rfl (Jvm.Free.Fl.noNaN64_no.mpr (own_nn1 _)) rfl k) ?_
          show own_Out p e below _ (s₁.setTop (mkF m 133 #[iv p0, iv p1, .val (.long q2), .second, iv p3, iv 0, .val (.double (4741671816366391296 : UInt64)), .second, .val (.double (4876203697187506176 : UInt64)), .second, .val (.double (5145383438407770339 : UInt64)), .second, .val (.double (5684137024229819304 : UInt64)), .second, .val (.double (6761170052691860086 : UInt64)), .second, .val (.double (8915514139102383433 : UInt64)), .second, iv (p0 &&& (3 : Int32)), .unset, .unset, .unset, .unset, .unset] [.double (FP.dmul (9184749379333099564 : UInt64) (FP.i2d ((1 : Int32) + (p1 &&& (127 : Int32)))))]))
          refine o_dstore X0 hx hby at_133 (l' := #[iv p0, iv p1, .val (.long q2), .second, iv p3, iv 0, .val (.double (4741671816366391296 : UInt64)), .second, .val (.double (4876203697187506176 : UInt64)), .second, .val (.double (5145383438407770339 : UInt64)), .second, .val (.double (5684137024229819304 : UInt64)), .second, .val (.double (6761170052691860086 : UInt64)), .second, .val (.double (8915514139102383433 : UInt64)), .second, iv (p0 &&& (3 : Int32)), .unset, .unset, .unset, .val (.double (FP.dmul (9184749379333099564 : UInt64) (FP.i2d ((1 : Int32) + (p1 &&& (127 : Int32)))))), .second]) rfl (q := 135) rfl ?_
          refine o_iload X0 hx hby at_135 rfl (q := 137) rfl ?_
          refine o_ifY X0 hx hby at_137 ((if0 _ _).trans (teq (by decide : (0 : Int32) = (0 : Int32))).1) (by decide) (q := 146) (by decide) ?_
          refine o_dload X0 hx hby at_146 rfl (q := 148) rfl ?_
          refine o_dstore X0 hx hby at_148 (l' := #[iv p0, iv p1, .val (.long q2), .second, iv p3, iv 0, .val (.double (4741671816366391296 : UInt64)), .second, .val (.double (4876203697187506176 : UInt64)), .second, .val (.double (5145383438407770339 : UInt64)), .second, .val (.double (5684137024229819304 : UInt64)), .second, .val (.double (6761170052691860086 : UInt64)), .second, .val (.double (8915514139102383433 : UInt64)), .second, iv (p0 &&& (3 : Int32)), .val (.double (FP.dmul (9184749379333099564 : UInt64) (FP.i2d ((1 : Int32) + (p1 &&& (127 : Int32)))))), .second, .unset, .val (.double (FP.dmul (9184749379333099564 : UInt64) (FP.i2d ((1 : Int32) + (p1 &&& (127 : Int32)))))), .second]) rfl (q := 150) rfl ?_
          refine o_iload X0 hx hby at_150 rfl (q := 152) rfl ?_
          refine o_ifN X0 hx hby at_152 ((if0 _ _).trans (teq (by decide : (0 : Int32) = (0 : Int32))).2) (q := 155) rfl ?_
          refine o_iconst X0 hx hby at_155 (z := 1) rfl (q := 156) rfl ?_
          refine o_goto X0 hx hby at_156 (by decide) (q := 160) (by decide) ?_
          refine o_istore X0 hx hby at_160 (l' := #[iv p0, iv p1, .val (.long q2), .second, iv p3, iv 0, .val (.double (4741671816366391296 : UInt64)), .second, .val (.double (4876203697187506176 : UInt64)), .second, .val (.double (5145383438407770339 : UInt64)), .second, .val (.double (5684137024229819304 : UInt64)), .second, .val (.double (6761170052691860086 : UInt64)), .second, .val (.double (8915514139102383433 : UInt64)), .second, iv (p0 &&& (3 : Int32)), .val (.double (FP.dmul (9184749379333099564 : UInt64) (FP.i2d ((1 : Int32) + (p1 &&& (127 : Int32)))))), .second, iv 1, .val (.double (FP.dmul (9184749379333099564 : UInt64) (FP.i2d ((1 : Int32) + (p1 &&& (127 : Int32)))))), .second]) rfl (q := 162) rfl ?_
          refine o_goto X0 hx hby at_162 (by decide) (q := 190) (by decide) ?_
          refine o_dload X0 hx hby at_190 rfl (q := 192) rfl ?_
          obtain ⟨_, _, ⟨T15, L15, k15, n15⟩, -, X15, ⟨Lc15, hQ15, l15, y15, z15⟩, st15⟩ := Jvm.LawKit.callS X0 hx (y := (⟨"com/example/cliquefold/cliquefold/MarkovClustering", "isInflation", "(D)Z"⟩ : MethodName)) hown (mvT hZ (w_ hw 3 rfl)) (mvT hZ (w_ hw 4 rfl)) (mvT hZ (w_ hw 5 rfl)) (mvT hZ (w_ hw 6 rfl)) (by decide) (backOf (W := 0) (rm1 l Z a0 hw [] (FP.dmul (9184749379333099564 : UInt64) (FP.i2d ((1 : Int32) + (p1 &&& (127 : Int32))))) h0 n0 Z0 ) hZ (w_ hw 6 rfl) (w_ hw 5 rfl) (by decide) (by decide)) (g := (mkF m 192 #[iv p0, iv p1, .val (.long q2), .second, iv p3, iv 0, .val (.double (4741671816366391296 : UInt64)), .second, .val (.double (4876203697187506176 : UInt64)), .second, .val (.double (5145383438407770339 : UInt64)), .second, .val (.double (5684137024229819304 : UInt64)), .second, .val (.double (6761170052691860086 : UInt64)), .second, .val (.double (8915514139102383433 : UInt64)), .second, iv (p0 &&& (3 : Int32)), .val (.double (FP.dmul (9184749379333099564 : UInt64) (FP.i2d ((1 : Int32) + (p1 &&& (127 : Int32)))))), .second, iv 1, .val (.double (FP.dmul (9184749379333099564 : UInt64) (FP.i2d ((1 : Int32) + (p1 &&& (127 : Int32)))))), .second] [.double (FP.dmul (9184749379333099564 : UInt64) (FP.i2d ((1 : Int32) + (p1 &&& (127 : Int32)))))])) rfl (by rw [hml]; rfl) (argsL := [(.double (FP.dmul (9184749379333099564 : UInt64) (FP.i2d ((1 : Int32) + (p1 &&& (127 : Int32))))))]) (rest := []) (lenOf pd_0 rfl) rfl (by show 2 * 0 + _ ≤ _; exact Nat.le_of_eq rfl) (hb hby at_192) (fun _ _ => ⟨rfl, e0, (by decide : 0 + 0 ≤ _), (by decide : 0 + 0 ≤ _)⟩)
          dsimp only [Pt.U, Pt.locs, Pt.cells, Pt.slots] at X15 l15 y15 z15 st15 hQ15
          subst l15 y15 z15
          obtain ⟨rfl, N15q, hh15⟩ := hQ15
          have N15 := Fr.app N0 N15q
          refine own_of st15 ?_
          show own_Out p e below _ (T15.setTop (mkF m 195 #[iv p0, iv p1, .val (.long q2), .second, iv p3, iv 0, .val (.double (4741671816366391296 : UInt64)), .second, .val (.double (4876203697187506176 : UInt64)), .second, .val (.double (5145383438407770339 : UInt64)), .second, .val (.double (5684137024229819304 : UInt64)), .second, .val (.double (6761170052691860086 : UInt64)), .second, .val (.double (8915514139102383433 : UInt64)), .second, iv (p0 &&& (3 : Int32)), .val (.double (FP.dmul (9184749379333099564 : UInt64) (FP.i2d ((1 : Int32) + (p1 &&& (127 : Int32)))))), .second, iv 1, .val (.double (FP.dmul (9184749379333099564 : UInt64) (FP.i2d ((1 : Int32) + (p1 &&& (127 : Int32)))))), .second] [.int (finf (FP.dmul (9184749379333099564 : UInt64) (FP.i2d ((1 : Int32) + (p1 &&& (127 : Int32))))))]))
          refine o_iload X15 hx hby at_195 rfl (q := 197) rfl ?_
          by_cases hc197_16 : (finf (FP.dmul (9184749379333099564 : UInt64) (FP.i2d ((1 : Int32) + (p1 &&& (127 : Int32)))))) = (1 : Int32)
          · skip
            refine o_icN X15 hx hby at_197 (teq hc197_16).2 (q := 200) rfl ?_
            refine o_iconst X15 hx hby at_200 (z := 1) rfl (q := 201) rfl ?_
            refine o_goto X15 hx hby at_201 (by decide) (q := 205) (by decide) ?_
            exact own_outN X15 hx hlk (t := .boolean) hret (by simp) (hb hby at_205) (z' := (1 : Int32)) rfl (Q := Q0 Z p0 p1 q2 p3 h0 n0) ⟨rfl, N15⟩ (by decide) (by decide)
          · skip
            refine o_icY X15 hx hby at_197 (feq hc197_16).2 (by decide) (q := 204) (by decide) ?_
            refine o_iconst X15 hx hby at_204 (z := 0) rfl (q := 205) rfl ?_
            exact (dead0_4 p0 p1 q2 p3 hc4_1 hc61_2 hc91_8 hc117_14 hc197_16).elim
        · skip
          refine o_icY X0 hx hby at_117 (feq hc117_14).2 (by decide) (q := 165) (by decide) ?_
          refine o_dload X0 hx hby at_165 rfl (q := 167) rfl ?_
          refine o_dload X0 hx hby at_167 rfl (q := 169) rfl ?_
          refine own_of (fun _ k => XS.dmulS X0.here hx rfl (v := (9218868437227405312 : UInt64)) (hb hby at_169) rfl (Jvm.Free.Fl.noNaN64_no.mpr (by decide +kernel)) (by decide +kernel) k) ?_
          show own_Out p e below _ (s₁.setTop (mkF m 170 #[iv p0, iv p1, .val (.long q2), .second, iv p3, iv 0, .val (.double (4741671816366391296 : UInt64)), .second, .val (.double (4876203697187506176 : UInt64)), .second, .val (.double (5145383438407770339 : UInt64)), .second, .val (.double (5684137024229819304 : UInt64)), .second, .val (.double (6761170052691860086 : UInt64)), .second, .val (.double (8915514139102383433 : UInt64)), .second, iv (p0 &&& (3 : Int32)), .unset, .unset, .unset, .unset, .unset] [.double (9218868437227405312 : UInt64)]))
          refine o_dstore X0 hx hby at_170 (l' := #[iv p0, iv p1, .val (.long q2), .second, iv p3, iv 0, .val (.double (4741671816366391296 : UInt64)), .second, .val (.double (4876203697187506176 : UInt64)), .second, .val (.double (5145383438407770339 : UInt64)), .second, .val (.double (5684137024229819304 : UInt64)), .second, .val (.double (6761170052691860086 : UInt64)), .second, .val (.double (8915514139102383433 : UInt64)), .second, iv (p0 &&& (3 : Int32)), .unset, .unset, .unset, .val (.double (9218868437227405312 : UInt64)), .second]) rfl (q := 172) rfl ?_
          refine o_iload X0 hx hby at_172 rfl (q := 174) rfl ?_
          refine o_ifY X0 hx hby at_174 ((if0 _ _).trans (teq (by decide : (0 : Int32) = (0 : Int32))).1) (by decide) (q := 183) (by decide) ?_
          refine o_dload X0 hx hby at_183 rfl (q := 185) rfl ?_
          refine o_dstore X0 hx hby at_185 (l' := #[iv p0, iv p1, .val (.long q2), .second, iv p3, iv 0, .val (.double (4741671816366391296 : UInt64)), .second, .val (.double (4876203697187506176 : UInt64)), .second, .val (.double (5145383438407770339 : UInt64)), .second, .val (.double (5684137024229819304 : UInt64)), .second, .val (.double (6761170052691860086 : UInt64)), .second, .val (.double (8915514139102383433 : UInt64)), .second, iv (p0 &&& (3 : Int32)), .val (.double (9218868437227405312 : UInt64)), .second, .unset, .val (.double (9218868437227405312 : UInt64)), .second]) rfl (q := 187) rfl ?_
          refine o_iconst X0 hx hby at_187 (z := 0) rfl (q := 188) rfl ?_
          refine o_istore X0 hx hby at_188 (l' := #[iv p0, iv p1, .val (.long q2), .second, iv p3, iv 0, .val (.double (4741671816366391296 : UInt64)), .second, .val (.double (4876203697187506176 : UInt64)), .second, .val (.double (5145383438407770339 : UInt64)), .second, .val (.double (5684137024229819304 : UInt64)), .second, .val (.double (6761170052691860086 : UInt64)), .second, .val (.double (8915514139102383433 : UInt64)), .second, iv (p0 &&& (3 : Int32)), .val (.double (9218868437227405312 : UInt64)), .second, iv 0, .val (.double (9218868437227405312 : UInt64)), .second]) rfl (q := 190) rfl ?_
          refine o_dload X0 hx hby at_190 rfl (q := 192) rfl ?_
          obtain ⟨_, _, ⟨T17, L17, k17, n17⟩, -, X17, ⟨Lc17, hQ17, l17, y17, z17⟩, st17⟩ := Jvm.LawKit.callS X0 hx (y := (⟨"com/example/cliquefold/cliquefold/MarkovClustering", "isInflation", "(D)Z"⟩ : MethodName)) hown (mvT hZ (w_ hw 3 rfl)) (mvT hZ (w_ hw 4 rfl)) (mvT hZ (w_ hw 5 rfl)) (mvT hZ (w_ hw 6 rfl)) (by decide) (backOf (W := 0) (rm1 l Z a0 hw [] (9218868437227405312 : UInt64) h0 n0 Z0 ) hZ (w_ hw 6 rfl) (w_ hw 5 rfl) (by decide) (by decide)) (g := (mkF m 192 #[iv p0, iv p1, .val (.long q2), .second, iv p3, iv 0, .val (.double (4741671816366391296 : UInt64)), .second, .val (.double (4876203697187506176 : UInt64)), .second, .val (.double (5145383438407770339 : UInt64)), .second, .val (.double (5684137024229819304 : UInt64)), .second, .val (.double (6761170052691860086 : UInt64)), .second, .val (.double (8915514139102383433 : UInt64)), .second, iv (p0 &&& (3 : Int32)), .val (.double (9218868437227405312 : UInt64)), .second, iv 0, .val (.double (9218868437227405312 : UInt64)), .second] [.double (9218868437227405312 : UInt64)])) rfl (by rw [hml]; rfl) (argsL := [(.double (9218868437227405312 : UInt64))]) (rest := []) (lenOf pd_0 rfl) rfl (by show 2 * 0 + _ ≤ _; exact Nat.le_of_eq rfl) (hb hby at_192) (fun _ _ => ⟨rfl, e0, (by decide : 0 + 0 ≤ _), (by decide : 0 + 0 ≤ _)⟩)
          dsimp only [Pt.U, Pt.locs, Pt.cells, Pt.slots] at X17 l17 y17 z17 st17 hQ17
          subst l17 y17 z17
          obtain ⟨rfl, N17q, hh17⟩ := hQ17
          have N17 := Fr.app N0 N17q
          refine own_of st17 ?_
          show own_Out p e below _ (T17.setTop (mkF m 195 #[iv p0, iv p1, .val (.long q2), .second, iv p3, iv 0, .val (.double (4741671816366391296 : UInt64)), .second, .val (.double (4876203697187506176 : UInt64)), .second, .val (.double (5145383438407770339 : UInt64)), .second, .val (.double (5684137024229819304 : UInt64)), .second, .val (.double (6761170052691860086 : UInt64)), .second, .val (.double (8915514139102383433 : UInt64)), .second, iv (p0 &&& (3 : Int32)), .val (.double (9218868437227405312 : UInt64)), .second, iv 0, .val (.double (9218868437227405312 : UInt64)), .second] [.int (finf (9218868437227405312 : UInt64))]))
          refine o_iload X17 hx hby at_195 rfl (q := 197) rfl ?_
          by_cases hc197_18 : (finf (9218868437227405312 : UInt64)) = (0 : Int32)
          · skip
            refine o_icN X17 hx hby at_197 (teq hc197_18).2 (q := 200) rfl ?_
            refine o_iconst X17 hx hby at_200 (z := 1) rfl (q := 201) rfl ?_
            refine o_goto X17 hx hby at_201 (by decide) (q := 205) (by decide) ?_
            exact own_outN X17 hx hlk (t := .boolean) hret (by simp) (hb hby at_205) (z' := (1 : Int32)) rfl (Q := Q0 Z p0 p1 q2 p3 h0 n0) ⟨rfl, N17⟩ (by decide) (by decide)
          · skip
            refine o_icY X17 hx hby at_197 (feq hc197_18).2 (by decide) (q := 204) (by decide) ?_
            refine o_iconst X17 hx hby at_204 (z := 0) rfl (q := 205) rfl ?_
            exact (dead0_5 p0 p1 q2 p3 hc4_1 hc61_2 hc91_8 hc117_14 hc197_18).elim
  · skip
    refine o_ifN X0 hx hby at_4 ((if0 _ _).trans (feq hc4_1).1) (q := 7) rfl ?_
    refine o_iconst X0 hx hby at_7 (z := 1) rfl (q := 8) rfl ?_
    refine o_goto X0 hx hby at_8 (by decide) (q := 12) (by decide) ?_
    refine o_istore X0 hx hby at_12 (l' := #[iv p0, iv p1, .val (.long q2), .second, iv p3, iv 1, .unset, .unset, .unset, .unset, .unset, .unset, .unset, .unset, .unset, .unset, .unset, .unset, .unset, .unset, .unset, .unset, .unset, .unset]) rfl (q := 14) rfl ?_
    refine own_of (X0.ldc2DoubleC hx hown (mvT hZ (w_ hw 0 rfl)) (g := (mkF m 14 #[iv p0, iv p1, .val (.long q2), .second, iv p3, iv 1, .unset, .unset, .unset, .unset, .unset, .unset, .unset, .unset, .unset, .unset, .unset, .unset, .unset, .unset, .unset, .unset, .unset, .unset] [])) rfl (hb hby at_14)) ?_
    show own_Out p e below _ (s₁.setTop (mkF m 17 #[iv p0, iv p1, .val (.long q2), .second, iv p3, iv 1, .unset, .unset, .unset, .unset, .unset, .unset, .unset, .unset, .unset, .unset, .unset, .unset, .unset, .unset, .unset, .unset, .unset, .unset] [.double (4741671816366391296 : UInt64)]))
    refine o_dstore X0 hx hby at_17 (l' := #[iv p0, iv p1, .val (.long q2), .second, iv p3, iv 1, .val (.double (4741671816366391296 : UInt64)), .second, .unset, .unset, .unset, .unset, .unset, .unset, .unset, .unset, .unset, .unset, .unset, .unset, .unset, .unset, .unset, .unset]) rfl (q := 19) rfl ?_
    refine o_dload X0 hx hby at_19 rfl (q := 21) rfl ?_
    refine o_dload X0 hx hby at_21 rfl (q := 23) rfl ?_
    refine own_of (fun _ k => XS.dmulS X0.here hx rfl (v := (4876203697187506176 : UInt64)) (hb hby at_23) rfl (Jvm.Free.Fl.noNaN64_no.mpr (by decide +kernel)) (by decide +kernel) k) ?_
    show own_Out p e below _ (s₁.setTop (mkF m 24 #[iv p0, iv p1, .val (.long q2), .second, iv p3, iv 1, .val (.double (4741671816366391296 : UInt64)), .second, .unset, .unset, .unset, .unset, .unset, .unset, .unset, .unset, .unset, .unset, .unset, .unset, .unset, .unset, .unset, .unset] [.double (4876203697187506176 : UInt64)]))
    refine o_dstore X0 hx hby at_24 (l' := #[iv p0, iv p1, .val (.long q2), .second, iv p3, iv 1, .val (.double (4741671816366391296 : UInt64)), .second, .val (.double (4876203697187506176 : UInt64)), .second, .unset, .unset, .unset, .unset, .unset, .unset, .unset, .unset, .unset, .unset, .unset, .unset, .unset, .unset]) rfl (q := 26) rfl ?_
    refine o_dload X0 hx hby at_26 rfl (q := 28) rfl ?_
    refine o_dload X0 hx hby at_28 rfl (q := 30) rfl ?_
    refine own_of (fun _ k => XS.dmulS X0.here hx rfl (v := (5145383438407770339 : UInt64)) (hb hby at_30) rfl (Jvm.Free.Fl.noNaN64_no.mpr (by decide +kernel)) (by decide +kernel) k) ?_
    show own_Out p e below _ (s₁.setTop (mkF m 31 #[iv p0, iv p1, .val (.long q2), .second, iv p3, iv 1, .val (.double (4741671816366391296 : UInt64)), .second, .val (.double (4876203697187506176 : UInt64)), .second, .unset, .unset, .unset, .unset, .unset, .unset, .unset, .unset, .unset, .unset, .unset, .unset, .unset, .unset] [.double (5145383438407770339 : UInt64)]))
    refine o_dstore X0 hx hby at_31 (l' := #[iv p0, iv p1, .val (.long q2), .second, iv p3, iv 1, .val (.double (4741671816366391296 : UInt64)), .second, .val (.double (4876203697187506176 : UInt64)), .second, .val (.double (5145383438407770339 : UInt64)), .second, .unset, .unset, .unset, .unset, .unset, .unset, .unset, .unset, .unset, .unset, .unset, .unset]) rfl (q := 33) rfl ?_
    refine o_dload X0 hx hby at_33 rfl (q := 35) rfl ?_
    refine o_dload X0 hx hby at_35 rfl (q := 37) rfl ?_
    refine own_of (fun _ k => XS.dmulS X0.here hx rfl (v := (5684137024229819304 : UInt64)) (hb hby at_37) rfl (Jvm.Free.Fl.noNaN64_no.mpr (by decide +kernel)) (by decide +kernel) k) ?_
    show own_Out p e below _ (s₁.setTop (mkF m 38 #[iv p0, iv p1, .val (.long q2), .second, iv p3, iv 1, .val (.double (4741671816366391296 : UInt64)), .second, .val (.double (4876203697187506176 : UInt64)), .second, .val (.double (5145383438407770339 : UInt64)), .second, .unset, .unset, .unset, .unset, .unset, .unset, .unset, .unset, .unset, .unset, .unset, .unset] [.double (5684137024229819304 : UInt64)]))
    refine o_dstore X0 hx hby at_38 (l' := #[iv p0, iv p1, .val (.long q2), .second, iv p3, iv 1, .val (.double (4741671816366391296 : UInt64)), .second, .val (.double (4876203697187506176 : UInt64)), .second, .val (.double (5145383438407770339 : UInt64)), .second, .val (.double (5684137024229819304 : UInt64)), .second, .unset, .unset, .unset, .unset, .unset, .unset, .unset, .unset, .unset, .unset]) rfl (q := 40) rfl ?_
    refine o_dload X0 hx hby at_40 rfl (q := 42) rfl ?_
    refine o_dload X0 hx hby at_42 rfl (q := 44) rfl ?_
    refine own_of (fun _ k => XS.dmulS X0.here hx rfl (v := (6761170052691860086 : UInt64)) (hb hby at_44) rfl (Jvm.Free.Fl.noNaN64_no.mpr (by decide +kernel)) (by decide +kernel) k) ?_
    show own_Out p e below _ (s₁.setTop (mkF m 45 #[iv p0, iv p1, .val (.long q2), .second, iv p3, iv 1, .val (.double (4741671816366391296 : UInt64)), .second, .val (.double (4876203697187506176 : UInt64)), .second, .val (.double (5145383438407770339 : UInt64)), .second, .val (.double (5684137024229819304 : UInt64)), .second, .unset, .unset, .unset, .unset, .unset, .unset, .unset, .unset, .unset, .unset] [.double (6761170052691860086 : UInt64)]))
    refine o_dstore X0 hx hby at_45 (l' := #[iv p0, iv p1, .val (.long q2), .second, iv p3, iv 1, .val (.double (4741671816366391296 : UInt64)), .second, .val (.double (4876203697187506176 : UInt64)), .second, .val (.double (5145383438407770339 : UInt64)), .second, .val (.double (5684137024229819304 : UInt64)), .second, .val (.double (6761170052691860086 : UInt64)), .second, .unset, .unset, .unset, .unset, .unset, .unset, .unset, .unset]) rfl (q := 47) rfl ?_
    refine o_dload X0 hx hby at_47 rfl (q := 49) rfl ?_
    refine o_dload X0 hx hby at_49 rfl (q := 51) rfl ?_
    refine own_of (fun _ k => XS.dmulS X0.here hx rfl (v := (8915514139102383433 : UInt64)) (hb hby at_51) rfl (Jvm.Free.Fl.noNaN64_no.mpr (by decide +kernel)) (by decide +kernel) k) ?_
    show own_Out p e below _ (s₁.setTop (mkF m 52 #[iv p0, iv p1, .val (.long q2), .second, iv p3, iv 1, .val (.double (4741671816366391296 : UInt64)), .second, .val (.double (4876203697187506176 : UInt64)), .second, .val (.double (5145383438407770339 : UInt64)), .second, .val (.double (5684137024229819304 : UInt64)), .second, .val (.double (6761170052691860086 : UInt64)), .second, .unset, .unset, .unset, .unset, .unset, .unset, .unset, .unset] [.double (8915514139102383433 : UInt64)]))
    refine o_dstore X0 hx hby at_52 (l' := #[iv p0, iv p1, .val (.long q2), .second, iv p3, iv 1, .val (.double (4741671816366391296 : UInt64)), .second, .val (.double (4876203697187506176 : UInt64)), .second, .val (.double (5145383438407770339 : UInt64)), .second, .val (.double (5684137024229819304 : UInt64)), .second, .val (.double (6761170052691860086 : UInt64)), .second, .val (.double (8915514139102383433 : UInt64)), .second, .unset, .unset, .unset, .unset, .unset, .unset]) rfl (q := 54) rfl ?_
    refine o_iloadN X0 hx hby at_54 rfl (q := 55) rfl ?_
    refine o_iconst X0 hx hby at_55 (z := 3) rfl (q := 56) rfl ?_
    refine o_iand X0 hx hby at_56 rfl (q := 57) rfl ?_
    refine o_istore X0 hx hby at_57 (l' := #[iv p0, iv p1, .val (.long q2), .second, iv p3, iv 1, .val (.double (4741671816366391296 : UInt64)), .second, .val (.double (4876203697187506176 : UInt64)), .second, .val (.double (5145383438407770339 : UInt64)), .second, .val (.double (5684137024229819304 : UInt64)), .second, .val (.double (6761170052691860086 : UInt64)), .second, .val (.double (8915514139102383433 : UInt64)), .second, iv (p0 &&& (3 : Int32)), .unset, .unset, .unset, .unset, .unset]) rfl (q := 59) rfl ?_
    refine o_iload X0 hx hby at_59 rfl (q := 61) rfl ?_
    by_cases hc61_19 : (p0 &&& (3 : Int32)) = (0 : Int32)
    · skip
      refine o_ifN X0 hx hby at_61 ((if0 _ _).trans (teq hc61_19).2) (q := 64) rfl ?_
      refine o_iloadN X0 hx hby at_64 rfl (q := 65) rfl ?_
      refine own_of (fun _ k => XS.i2dS X0.here hx rfl (v := (FP.i2d p1)) (hb hby at_65) rfl rfl k) ?_
      show own_Out p e below _ (s₁.setTop (mkF m 66 #[iv p0, iv p1, .val (.long q2), .second, iv p3, iv 1, .val (.double (4741671816366391296 : UInt64)), .second, .val (.double (4876203697187506176 : UInt64)), .second, .val (.double (5145383438407770339 : UInt64)), .second, .val (.double (5684137024229819304 : UInt64)), .second, .val (.double (6761170052691860086 : UInt64)), .second, .val (.double (8915514139102383433 : UInt64)), .second, iv (p0 &&& (3 : Int32)), .unset, .unset, .unset, .unset, .unset] [.double (FP.i2d p1)]))
      refine own_of (X0.ldc2DoubleC hx hown (mvT hZ (w_ hw 1 rfl)) (g := (mkF m 66 #[iv p0, iv p1, .val (.long q2), .second, iv p3, iv 1, .val (.double (4741671816366391296 : UInt64)), .second, .val (.double (4876203697187506176 : UInt64)), .second, .val (.double (5145383438407770339 : UInt64)), .second, .val (.double (5684137024229819304 : UInt64)), .second, .val (.double (6761170052691860086 : UInt64)), .second, .val (.double (8915514139102383433 : UInt64)), .second, iv (p0 &&& (3 : Int32)), .unset, .unset, .unset, .unset, .unset] [.double (FP.i2d p1)])) rfl (hb hby at_66)) ?_
      show own_Out p e below _ (s₁.setTop (mkF m 69 #[iv p0, iv p1, .val (.long q2), .second, iv p3, iv 1, .val (.double (4741671816366391296 : UInt64)), .second, .val (.double (4876203697187506176 : UInt64)), .second, .val (.double (5145383438407770339 : UInt64)), .second, .val (.double (5684137024229819304 : UInt64)), .second, .val (.double (6761170052691860086 : UInt64)), .second, .val (.double (8915514139102383433 : UInt64)), .second, iv (p0 &&& (3 : Int32)), .unset, .unset, .unset, .unset, .unset] [.double (4742290407621132288 : UInt64), .double (FP.i2d p1)]))
      refine own_of (fun _ k => XS.ddivS X0.here hx rfl (v := (FP.ddiv (FP.i2d p1) (4742290407621132288 : UInt64))) (hb hby at_69) rfl (Jvm.Free.Fl.noNaN64_no.mpr (own_nn0 p1)) rfl k) ?_
      show own_Out p e below _ (s₁.setTop (mkF m 70 #[iv p0, iv p1, .val (.long q2), .second, iv p3, iv 1, .val (.double (4741671816366391296 : UInt64)), .second, .val (.double (4876203697187506176 : UInt64)), .second, .val (.double (5145383438407770339 : UInt64)), .second, .val (.double (5684137024229819304 : UInt64)), .second, .val (.double (6761170052691860086 : UInt64)), .second, .val (.double (8915514139102383433 : UInt64)), .second, iv (p0 &&& (3 : Int32)), .unset, .unset, .unset, .unset, .unset] [.double (FP.ddiv (FP.i2d p1) (4742290407621132288 : UInt64))]))
      refine o_dstore X0 hx hby at_70 (l' := #[iv p0, iv p1, .val (.long q2), .second, iv p3, iv 1, .val (.double (4741671816366391296 : UInt64)), .second, .val (.double (4876203697187506176 : UInt64)), .second, .val (.double (5145383438407770339 : UInt64)), .second, .val (.double (5684137024229819304 : UInt64)), .second, .val (.double (6761170052691860086 : UInt64)), .second, .val (.double (8915514139102383433 : UInt64)), .second, iv (p0 &&& (3 : Int32)), .val (.double (FP.ddiv (FP.i2d p1) (4742290407621132288 : UInt64))), .second, .unset, .unset, .unset]) rfl (q := 72) rfl ?_
      refine o_iloadN X0 hx hby at_72 rfl (q := 73) rfl ?_
      refine o_ldcI X0 hx hZ hown hby (w_ hw 2 rfl) at_73 (q := 75) rfl ?_
      by_cases hc75_20 : (1073741824 : Int32) < p1
      · skip
        refine o_icN X0 hx hby at_75 (tlt hc75_20).2.2.2 (q := 78) rfl ?_
        refine o_iconst X0 hx hby at_78 (z := 1) rfl (q := 79) rfl ?_
        refine o_goto X0 hx hby at_79 (by decide) (q := 83) (by decide) ?_
        refine o_istore X0 hx hby at_83 (l' := #[iv p0, iv p1, .val (.long q2), .second, iv p3, iv 1, .val (.double (4741671816366391296 : UInt64)), .second, .val (.double (4876203697187506176 : UInt64)), .second, .val (.double (5145383438407770339 : UInt64)), .second, .val (.double (5684137024229819304 : UInt64)), .second, .val (.double (6761170052691860086 : UInt64)), .second, .val (.double (8915514139102383433 : UInt64)), .second, iv (p0 &&& (3 : Int32)), .val (.double (FP.ddiv (FP.i2d p1) (4742290407621132288 : UInt64))), .second, iv 1, .unset, .unset]) rfl (q := 85) rfl ?_
        refine o_goto X0 hx hby at_85 (by decide) (q := 190) (by decide) ?_
        refine o_dload X0 hx hby at_190 rfl (q := 192) rfl ?_
        obtain ⟨_, _, ⟨T21, L21, k21, n21⟩, -, X21, ⟨Lc21, hQ21, l21, y21, z21⟩, st21⟩ := Jvm.LawKit.callS X0 hx (y := (⟨"com/example/cliquefold/cliquefold/MarkovClustering", "isInflation", "(D)Z"⟩ : MethodName)) hown (mvT hZ (w_ hw 3 rfl)) (mvT hZ (w_ hw 4 rfl)) (mvT hZ (w_ hw 5 rfl)) (mvT hZ (w_ hw 6 rfl)) (by decide) (backOf (W := 0) (rm1 l Z a0 hw [] (FP.ddiv (FP.i2d p1) (4742290407621132288 : UInt64)) h0 n0 Z0 ) hZ (w_ hw 6 rfl) (w_ hw 5 rfl) (by decide) (by decide)) (g := (mkF m 192 #[iv p0, iv p1, .val (.long q2), .second, iv p3, iv 1, .val (.double (4741671816366391296 : UInt64)), .second, .val (.double (4876203697187506176 : UInt64)), .second, .val (.double (5145383438407770339 : UInt64)), .second, .val (.double (5684137024229819304 : UInt64)), .second, .val (.double (6761170052691860086 : UInt64)), .second, .val (.double (8915514139102383433 : UInt64)), .second, iv (p0 &&& (3 : Int32)), .val (.double (FP.ddiv (FP.i2d p1) (4742290407621132288 : UInt64))), .second, iv 1, .unset, .unset] [.double (FP.ddiv (FP.i2d p1) (4742290407621132288 : UInt64))])) rfl (by rw [hml]; rfl) (argsL := [(.double (FP.ddiv (FP.i2d p1) (4742290407621132288 : UInt64)))]) (rest := []) (lenOf pd_0 rfl) rfl (by show 2 * 0 + _ ≤ _; exact Nat.le_of_eq rfl) (hb hby at_192) (fun _ _ => ⟨rfl, e0, (by decide : 0 + 0 ≤ _), (by decide : 0 + 0 ≤ _)⟩)
        dsimp only [Pt.U, Pt.locs, Pt.cells, Pt.slots] at X21 l21 y21 z21 st21 hQ21
        subst l21 y21 z21
        obtain ⟨rfl, N21q, hh21⟩ := hQ21
        have N21 := Fr.app N0 N21q
        refine own_of st21 ?_
        show own_Out p e below _ (T21.setTop (mkF m 195 #[iv p0, iv p1, .val (.long q2), .second, iv p3, iv 1, .val (.double (4741671816366391296 : UInt64)), .second, .val (.double (4876203697187506176 : UInt64)), .second, .val (.double (5145383438407770339 : UInt64)), .second, .val (.double (5684137024229819304 : UInt64)), .second, .val (.double (6761170052691860086 : UInt64)), .second, .val (.double (8915514139102383433 : UInt64)), .second, iv (p0 &&& (3 : Int32)), .val (.double (FP.ddiv (FP.i2d p1) (4742290407621132288 : UInt64))), .second, iv 1, .unset, .unset] [.int (finf (FP.ddiv (FP.i2d p1) (4742290407621132288 : UInt64)))]))
        refine o_iload X21 hx hby at_195 rfl (q := 197) rfl ?_
        by_cases hc197_22 : (finf (FP.ddiv (FP.i2d p1) (4742290407621132288 : UInt64))) = (1 : Int32)
        · skip
          refine o_icN X21 hx hby at_197 (teq hc197_22).2 (q := 200) rfl ?_
          refine o_iconst X21 hx hby at_200 (z := 1) rfl (q := 201) rfl ?_
          refine o_goto X21 hx hby at_201 (by decide) (q := 205) (by decide) ?_
          exact own_outN X21 hx hlk (t := .boolean) hret (by simp) (hb hby at_205) (z' := (1 : Int32)) rfl (Q := Q0 Z p0 p1 q2 p3 h0 n0) ⟨rfl, N21⟩ (by decide) (by decide)
        · skip
          refine o_icY X21 hx hby at_197 (feq hc197_22).2 (by decide) (q := 204) (by decide) ?_
          refine o_iconst X21 hx hby at_204 (z := 0) rfl (q := 205) rfl ?_
          exact (dead0_6 p0 p1 q2 p3 hc4_1 hc61_19 hc75_20 hc197_22).elim
      · skip
        refine o_icY X0 hx hby at_75 (flt hc75_20).2.2.2 (by decide) (q := 82) (by decide) ?_
        refine o_iconst X0 hx hby at_82 (z := 0) rfl (q := 83) rfl ?_
        refine o_istore X0 hx hby at_83 (l' := #[iv p0, iv p1, .val (.long q2), .second, iv p3, iv 1, .val (.double (4741671816366391296 : UInt64)), .second, .val (.double (4876203697187506176 : UInt64)), .second, .val (.double (5145383438407770339 : UInt64)), .second, .val (.double (5684137024229819304 : UInt64)), .second, .val (.double (6761170052691860086 : UInt64)), .second, .val (.double (8915514139102383433 : UInt64)), .second, iv (p0 &&& (3 : Int32)), .val (.double (FP.ddiv (FP.i2d p1) (4742290407621132288 : UInt64))), .second, iv 0, .unset, .unset]) rfl (q := 85) rfl ?_
        refine o_goto X0 hx hby at_85 (by decide) (q := 190) (by decide) ?_
        refine o_dload X0 hx hby at_190 rfl (q := 192) rfl ?_
        obtain ⟨_, _, ⟨T23, L23, k23, n23⟩, -, X23, ⟨Lc23, hQ23, l23, y23, z23⟩, st23⟩ := Jvm.LawKit.callS X0 hx (y := (⟨"com/example/cliquefold/cliquefold/MarkovClustering", "isInflation", "(D)Z"⟩ : MethodName)) hown (mvT hZ (w_ hw 3 rfl)) (mvT hZ (w_ hw 4 rfl)) (mvT hZ (w_ hw 5 rfl)) (mvT hZ (w_ hw 6 rfl)) (by decide) (backOf (W := 0) (rm1 l Z a0 hw [] (FP.ddiv (FP.i2d p1) (4742290407621132288 : UInt64)) h0 n0 Z0 ) hZ (w_ hw 6 rfl) (w_ hw 5 rfl) (by decide) (by decide)) (g := (mkF m 192 #[iv p0, iv p1, .val (.long q2), .second, iv p3, iv 1, .val (.double (4741671816366391296 : UInt64)), .second, .val (.double (4876203697187506176 : UInt64)), .second, .val (.double (5145383438407770339 : UInt64)), .second, .val (.double (5684137024229819304 : UInt64)), .second, .val (.double (6761170052691860086 : UInt64)), .second, .val (.double (8915514139102383433 : UInt64)), .second, iv (p0 &&& (3 : Int32)), .val (.double (FP.ddiv (FP.i2d p1) (4742290407621132288 : UInt64))), .second, iv 0, .unset, .unset] [.double (FP.ddiv (FP.i2d p1) (4742290407621132288 : UInt64))])) rfl (by rw [hml]; rfl) (argsL := [(.double (FP.ddiv (FP.i2d p1) (4742290407621132288 : UInt64)))]) (rest := []) (lenOf pd_0 rfl) rfl (by show 2 * 0 + _ ≤ _; exact Nat.le_of_eq rfl) (hb hby at_192) (fun _ _ => ⟨rfl, e0, (by decide : 0 + 0 ≤ _), (by decide : 0 + 0 ≤ _)⟩)
        dsimp only [Pt.U, Pt.locs, Pt.cells, Pt.slots] at X23 l23 y23 z23 st23 hQ23
        subst l23 y23 z23
        obtain ⟨rfl, N23q, hh23⟩ := hQ23
        have N23 := Fr.app N0 N23q
        refine own_of st23 ?_
        show own_Out p e below _ (T23.setTop (mkF m 195 #[iv p0, iv p1, .val (.long q2), .second, iv p3, iv 1, .val (.double (4741671816366391296 : UInt64)), .second, .val (.double (4876203697187506176 : UInt64)), .second, .val (.double (5145383438407770339 : UInt64)), .second, .val (.double (5684137024229819304 : UInt64)), .second, .val (.double (6761170052691860086 : UInt64)), .second, .val (.double (8915514139102383433 : UInt64)), .second, iv (p0 &&& (3 : Int32)), .val (.double (FP.ddiv (FP.i2d p1) (4742290407621132288 : UInt64))), .second, iv 0, .unset, .unset] [.int (finf (FP.ddiv (FP.i2d p1) (4742290407621132288 : UInt64)))]))
        refine o_iload X23 hx hby at_195 rfl (q := 197) rfl ?_
        by_cases hc197_24 : (finf (FP.ddiv (FP.i2d p1) (4742290407621132288 : UInt64))) = (0 : Int32)
        · skip
          refine o_icN X23 hx hby at_197 (teq hc197_24).2 (q := 200) rfl ?_
          refine o_iconst X23 hx hby at_200 (z := 1) rfl (q := 201) rfl ?_
          refine o_goto X23 hx hby at_201 (by decide) (q := 205) (by decide) ?_
          exact own_outN X23 hx hlk (t := .boolean) hret (by simp) (hb hby at_205) (z' := (1 : Int32)) rfl (Q := Q0 Z p0 p1 q2 p3 h0 n0) ⟨rfl, N23⟩ (by decide) (by decide)
        · skip
          refine o_icY X23 hx hby at_197 (feq hc197_24).2 (by decide) (q := 204) (by decide) ?_
          refine o_iconst X23 hx hby at_204 (z := 0) rfl (q := 205) rfl ?_
          exact (dead0_7 p0 p1 q2 p3 hc4_1 hc61_19 hc75_20 hc197_24).elim
    · skip
      refine o_ifY X0 hx hby at_61 ((if0 _ _).trans (feq hc61_19).2) (by decide) (q := 88) (by decide) ?_
      refine o_iload X0 hx hby at_88 rfl (q := 90) rfl ?_
      refine o_iconst X0 hx hby at_90 (z := 1) rfl (q := 91) rfl ?_
      by_cases hc91_25 : (p0 &&& (3 : Int32)) = (1 : Int32)
      · skip
        refine o_icN X0 hx hby at_91 (teq hc91_25).2 (q := 94) rfl ?_
        refine o_lloadN X0 hx hby at_94 rfl (q := 95) rfl ?_
        refine own_of (fun _ k => XS.l2dS X0.here hx rfl (v := (FP.l2d q2)) (hb hby at_95) rfl rfl k) ?_
        show own_Out p e below _ (s₁.setTop (mkF m 96 #[iv p0, iv p1, .val (.long q2), .second, iv p3, iv 1, .val (.double (4741671816366391296 : UInt64)), .second, .val (.double (4876203697187506176 : UInt64)), .second, .val (.double (5145383438407770339 : UInt64)), .second, .val (.double (5684137024229819304 : UInt64)), .second, .val (.double (6761170052691860086 : UInt64)), .second, .val (.double (8915514139102383433 : UInt64)), .second, iv (p0 &&& (3 : Int32)), .unset, .unset, .unset, .unset, .unset] [.double (FP.l2d q2)]))
        refine o_dstore X0 hx hby at_96 (l' := #[iv p0, iv p1, .val (.long q2), .second, iv p3, iv 1, .val (.double (4741671816366391296 : UInt64)), .second, .val (.double (4876203697187506176 : UInt64)), .second, .val (.double (5145383438407770339 : UInt64)), .second, .val (.double (5684137024229819304 : UInt64)), .second, .val (.double (6761170052691860086 : UInt64)), .second, .val (.double (8915514139102383433 : UInt64)), .second, iv (p0 &&& (3 : Int32)), .val (.double (FP.l2d q2)), .second, .unset, .unset, .unset]) rfl (q := 98) rfl ?_
        refine o_lloadN X0 hx hby at_98 rfl (q := 99) rfl ?_
        refine o_lconst X0 hx hby at_99 (z := 1) rfl (q := 100) rfl ?_
        refine o_lcmp X0 hx hby at_100 (q := 101) rfl ?_
        by_cases hc101_26 : (1 : Int64) < q2
        · skip
          refine o_ifN X0 hx hby at_101 (own_ltlt hc101_26).2.2.2 (q := 104) rfl ?_
          refine o_iconst X0 hx hby at_104 (z := 1) rfl (q := 105) rfl ?_
          refine o_goto X0 hx hby at_105 (by decide) (q := 109) (by decide) ?_
          refine o_istore X0 hx hby at_109 (l' := #[iv p0, iv p1, .val (.long q2), .second, iv p3, iv 1, .val (.double (4741671816366391296 : UInt64)), .second, .val (.double (4876203697187506176 : UInt64)), .second, .val (.double (5145383438407770339 : UInt64)), .second, .val (.double (5684137024229819304 : UInt64)), .second, .val (.double (6761170052691860086 : UInt64)), .second, .val (.double (8915514139102383433 : UInt64)), .second, iv (p0 &&& (3 : Int32)), .val (.double (FP.l2d q2)), .second, iv 1, .unset, .unset]) rfl (q := 111) rfl ?_
          refine o_goto X0 hx hby at_111 (by decide) (q := 190) (by decide) ?_
          refine o_dload X0 hx hby at_190 rfl (q := 192) rfl ?_
          obtain ⟨_, _, ⟨T27, L27, k27, n27⟩, -, X27, ⟨Lc27, hQ27, l27, y27, z27⟩, st27⟩ := Jvm.LawKit.callS X0 hx (y := (⟨"com/example/cliquefold/cliquefold/MarkovClustering", "isInflation", "(D)Z"⟩ : MethodName)) hown (mvT hZ (w_ hw 3 rfl)) (mvT hZ (w_ hw 4 rfl)) (mvT hZ (w_ hw 5 rfl)) (mvT hZ (w_ hw 6 rfl)) (by decide) (backOf (W := 0) (rm1 l Z a0 hw [] (FP.l2d q2) h0 n0 Z0 ) hZ (w_ hw 6 rfl) (w_ hw 5 rfl) (by decide) (by decide)) (g := (mkF m 192 #[iv p0, iv p1, .val (.long q2), .second, iv p3, iv 1, .val (.double (4741671816366391296 : UInt64)), .second, .val (.double (4876203697187506176 : UInt64)), .second, .val (.double (5145383438407770339 : UInt64)), .second, .val (.double (5684137024229819304 : UInt64)), .second, .val (.double (6761170052691860086 : UInt64)), .second, .val (.double (8915514139102383433 : UInt64)), .second, iv (p0 &&& (3 : Int32)), .val (.double (FP.l2d q2)), .second, iv 1, .unset, .unset] [.double (FP.l2d q2)])) rfl (by rw [hml]; rfl) (argsL := [(.double (FP.l2d q2))]) (rest := []) (lenOf pd_0 rfl) rfl (by show 2 * 0 + _ ≤ _; exact Nat.le_of_eq rfl) (hb hby at_192) (fun _ _ => ⟨rfl, e0, (by decide : 0 + 0 ≤ _), (by decide : 0 + 0 ≤ _)⟩)
          dsimp only [Pt.U, Pt.locs, Pt.cells, Pt.slots] at X27 l27 y27 z27 st27 hQ27
          subst l27 y27 z27
          obtain ⟨rfl, N27q, hh27⟩ := hQ27
          have N27 := Fr.app N0 N27q
          refine own_of st27 ?_
          show own_Out p e below _ (T27.setTop (mkF m 195 #[iv p0, iv p1, .val (.long q2), .second, iv p3, iv 1, .val (.double (4741671816366391296 : UInt64)), .second, .val (.double (4876203697187506176 : UInt64)), .second, .val (.double (5145383438407770339 : UInt64)), .second, .val (.double (5684137024229819304 : UInt64)), .second, .val (.double (6761170052691860086 : UInt64)), .second, .val (.double (8915514139102383433 : UInt64)), .second, iv (p0 &&& (3 : Int32)), .val (.double (FP.l2d q2)), .second, iv 1, .unset, .unset] [.int (finf (FP.l2d q2))]))
          refine o_iload X27 hx hby at_195 rfl (q := 197) rfl ?_
          by_cases hc197_28 : (finf (FP.l2d q2)) = (1 : Int32)
          · skip
            refine o_icN X27 hx hby at_197 (teq hc197_28).2 (q := 200) rfl ?_
            refine o_iconst X27 hx hby at_200 (z := 1) rfl (q := 201) rfl ?_
            refine o_goto X27 hx hby at_201 (by decide) (q := 205) (by decide) ?_
            exact own_outN X27 hx hlk (t := .boolean) hret (by simp) (hb hby at_205) (z' := (1 : Int32)) rfl (Q := Q0 Z p0 p1 q2 p3 h0 n0) ⟨rfl, N27⟩ (by decide) (by decide)
          · skip
            refine o_icY X27 hx hby at_197 (feq hc197_28).2 (by decide) (q := 204) (by decide) ?_
            refine o_iconst X27 hx hby at_204 (z := 0) rfl (q := 205) rfl ?_
            exact (dead0_8 p0 p1 q2 p3 hc4_1 hc61_19 hc91_25 hc101_26 hc197_28).elim
        · skip
          refine o_ifY X0 hx hby at_101 (own_lflt hc101_26).2.2.2 (by decide) (q := 108) (by decide) ?_
          refine o_iconst X0 hx hby at_108 (z := 0) rfl (q := 109) rfl ?_
          refine o_istore X0 hx hby at_109 (l' := #[iv p0, iv p1, .val (.long q2), .second, iv p3, iv 1, .val (.double (4741671816366391296 : UInt64)), .second, .val (.double (4876203697187506176 : UInt64)), .second, .val (.double (5145383438407770339 : UInt64)), .second, .val (.double (5684137024229819304 : UInt64)), .second, .val (.double (6761170052691860086 : UInt64)), .second, .val (.double (8915514139102383433 : UInt64)), .second, iv (p0 &&& (3 : Int32)), .val (.double (FP.l2d q2)), .second, iv 0, .unset, .unset]) rfl (q := 111) rfl ?_
          refine o_goto X0 hx hby at_111 (by decide) (q := 190) (by decide) ?_
          refine o_dload X0 hx hby at_190 rfl (q := 192) rfl ?_
          obtain ⟨_, _, ⟨T29, L29, k29, n29⟩, -, X29, ⟨Lc29, hQ29, l29, y29, z29⟩, st29⟩ := Jvm.LawKit.callS X0 hx (y := (⟨"com/example/cliquefold/cliquefold/MarkovClustering", "isInflation", "(D)Z"⟩ : MethodName)) hown (mvT hZ (w_ hw 3 rfl)) (mvT hZ (w_ hw 4 rfl)) (mvT hZ (w_ hw 5 rfl)) (mvT hZ (w_ hw 6 rfl)) (by decide) (backOf (W := 0) (rm1 l Z a0 hw [] (FP.l2d q2) h0 n0 Z0 ) hZ (w_ hw 6 rfl) (w_ hw 5 rfl) (by decide) (by decide)) (g := (mkF m 192 #[iv p0, iv p1, .val (.long q2), .second, iv p3, iv 1, .val (.double (4741671816366391296 : UInt64)), .second, .val (.double (4876203697187506176 : UInt64)), .second, .val (.double (5145383438407770339 : UInt64)), .second, .val (.double (5684137024229819304 : UInt64)), .second, .val (.double (6761170052691860086 : UInt64)), .second, .val (.double (8915514139102383433 : UInt64)), .second, iv (p0 &&& (3 : Int32)), .val (.double (FP.l2d q2)), .second, iv 0, .unset, .unset] [.double (FP.l2d q2)])) rfl (by rw [hml]; rfl) (argsL := [(.double (FP.l2d q2))]) (rest := []) (lenOf pd_0 rfl) rfl (by show 2 * 0 + _ ≤ _; exact Nat.le_of_eq rfl) (hb hby at_192) (fun _ _ => ⟨rfl, e0, (by decide : 0 + 0 ≤ _), (by decide : 0 + 0 ≤ _)⟩)
          dsimp only [Pt.U, Pt.locs, Pt.cells, Pt.slots] at X29 l29 y29 z29 st29 hQ29
          subst l29 y29 z29
          obtain ⟨rfl, N29q, hh29⟩ := hQ29
          have N29 := Fr.app N0 N29q
          refine own_of st29 ?_
          show own_Out p e below _ (T29.setTop (mkF m 195 #[iv p0, iv p1, .val (.long q2), .second, iv p3, iv 1, .val (.double (4741671816366391296 : UInt64)), .second, .val (.double (4876203697187506176 : UInt64)), .second, .val (.double (5145383438407770339 : UInt64)), .second, .val (.double (5684137024229819304 : UInt64)), .second, .val (.double (6761170052691860086 : UInt64)), .second, .val (.double (8915514139102383433 : UInt64)), .second, iv (p0 &&& (3 : Int32)), .val (.double (FP.l2d q2)), .second, iv 0, .unset, .unset] [.int (finf (FP.l2d q2))]))
          refine o_iload X29 hx hby at_195 rfl (q := 197) rfl ?_
          by_cases hc197_30 : (finf (FP.l2d q2)) = (0 : Int32)
          · skip
            refine o_icN X29 hx hby at_197 (teq hc197_30).2 (q := 200) rfl ?_
            refine o_iconst X29 hx hby at_200 (z := 1) rfl (q := 201) rfl ?_
            refine o_goto X29 hx hby at_201 (by decide) (q := 205) (by decide) ?_
            exact own_outN X29 hx hlk (t := .boolean) hret (by simp) (hb hby at_205) (z' := (1 : Int32)) rfl (Q := Q0 Z p0 p1 q2 p3 h0 n0) ⟨rfl, N29⟩ (by decide) (by decide)
          · skip
            refine o_icY X29 hx hby at_197 (feq hc197_30).2 (by decide) (q := 204) (by decide) ?_
            refine o_iconst X29 hx hby at_204 (z := 0) rfl (q := 205) rfl ?_
            exact (dead0_9 p0 p1 q2 p3 hc4_1 hc61_19 hc91_25 hc101_26 hc197_30).elim
      · skip
        refine o_icY X0 hx hby at_91 (feq hc91_25).2 (by decide) (q := 114) (by decide) ?_
        refine o_iload X0 hx hby at_114 rfl (q := 116) rfl ?_
        refine o_iconst X0 hx hby at_116 (z := 2) rfl (q := 117) rfl ?_
        by_cases hc117_31 : (p0 &&& (3 : Int32)) = (2 : Int32)
        · skip
          refine o_icN X0 hx hby at_117 (teq hc117_31).2 (q := 120) rfl ?_
          refine o_dload X0 hx hby at_120 rfl (q := 122) rfl ?_
          refine o_dload X0 hx hby at_122 rfl (q := 124) rfl ?_
          refine own_of (fun _ k => XS.dmulS X0.here hx rfl (v := (9184749379333099564 : UInt64)) (hb hby at_124) rfl (Jvm.Free.Fl.noNaN64_no.mpr (by decide +kernel)) (by decide +kernel) k) ?_
          show own_Out p e below _ (s₁.setTop (mkF m 125 #[iv p0, iv p1, .val (.long q2), .second, iv p3, iv 1, .val (.double (4741671816366391296 : UInt64)), .second, .val (.double (4876203697187506176 : UInt64)), .second, .val (.double (5145383438407770339 : UInt64)), .second, .val (.double (5684137024229819304 : UInt64)), .second, .val (.double (6761170052691860086 : UInt64)), .second, .val (.double (8915514139102383433 : UInt64)), .second, iv (p0 &&& (3 : Int32)), .unset, .unset, .unset, .unset, .unset] [.double (9184749379333099564 : UInt64)]))
          refine o_iconst X0 hx hby at_125 (z := 1) rfl (q := 126) rfl ?_
          refine o_iloadN X0 hx hby at_126 rfl (q := 127) rfl ?_
          refine o_bipush X0 hx hby at_127 (z := 127) rfl (q := 129) rfl ?_
          refine o_iand X0 hx hby at_129 rfl (q := 130) rfl ?_
          refine o_iadd X0 hx hby at_130 rfl (q := 131) rfl ?_
          refine own_of (fun _ k => XS.i2dS X0.here hx rfl (v := (FP.i2d ((1 : Int32) + (p1 &&& (127 : Int32))))) (hb hby at_131) rfl rfl k) ?_
          show own_Out p e below _ (s₁.setTop (mkF m 132 #[iv p0, iv p1, .val (.long q2), .second, iv p3, iv 1, .val (.double (4741671816366391296 : UInt64)), .second, .val (.double (4876203697187506176 : UInt64)), .second, .val (.double (5145383438407770339 : UInt64)), .second, .val (.double (5684137024229819304 : UInt64)), .second, .val (.double (6761170052691860086 : UInt64)), .second, .val (.double (8915514139102383433 : UInt64)), .second, iv (p0 &&& (3 : Int32)), .unset, .unset, .unset, .unset, .unset] [.double (FP.i2d ((1 : Int32) + (p1 &&& (127 : Int32)))), .double (9184749379333099564 : UInt64)]))
          refine own_of (fun _ k => XS.dmulS X0.here hx rfl (v := (FP.dmul (9184749379333099564 : UInt64) (FP.i2d ((1 : Int32) + (p1 &&& (127 : Int32)))))) (hb hby at_132) rfl (Jvm.Free.Fl.noNaN64_no.mpr (own_nn1 _)) rfl k) ?_
          show own_Out p e below _ (s₁.setTop (mkF m 133 #[iv p0, iv p1, .val (.long q2), .second, iv p3, iv 1, .val (.double (4741671816366391296 : UInt64)), .second, .val (.double (4876203697187506176 : UInt64)), .second, .val (.double (5145383438407770339 : UInt64)), .second, .val (.double (5684137024229819304 : UInt64)), .second, .val (.double (6761170052691860086 : UInt64)), .second, .val (.double (8915514139102383433 : UInt64)), .second, iv (p0 &&& (3 : Int32)), .unset, .unset, .unset, .unset, .unset] [.double (FP.dmul (9184749379333099564 : UInt64) (FP.i2d ((1 : Int32) + (p1 &&& (127 : Int32)))))]))
          refine o_dstore X0 hx hby at_133 (l' := #[iv p0, iv p1, .val (.long q2), .second, iv p3, iv 1, .val (.double (4741671816366391296 : UInt64)), .second, .val (.double (4876203697187506176 : UInt64)), .second, .val (.double (5145383438407770339 : UInt64)), .second, .val (.double (5684137024229819304 : UInt64)), .second, .val (.double (6761170052691860086 : UInt64)), .second, .val (.double (8915514139102383433 : UInt64)), .second, iv (p0 &&& (3 : Int32)), .unset, .unset, .unset, .val (.double (FP.dmul (9184749379333099564 : UInt64) (FP.i2d ((1 : Int32) + (p1 &&& (127 : Int32)))))), .second]) rfl (q := 135) rfl ?_
          refine o_iload X0 hx hby at_135 rfl (q := 137) rfl ?_
          refine o_ifN X0 hx hby at_137 ((if0 _ _).trans (feq (by decide : ¬ ((1 : Int32) = (0 : Int32)))).1) (q := 140) rfl ?_
          refine o_dload X0 hx hby at_140 rfl (q := 142) rfl ?_
          refine own_of (fun _ k => XS.dnegS X0.here hx rfl (v := (FP.dneg (FP.dmul (9184749379333099564 : UInt64) (FP.i2d ((1 : Int32) + (p1 &&& (127 : Int32))))))) (hb hby at_142) rfl rfl k) ?_
          show own_Out p e below _ (s₁.setTop (mkF m 143 #[iv p0, iv p1, .val (.long q2), .second, iv p3, iv 1, .val (.double (4741671816366391296 : UInt64)), .second, .val (.double (4876203697187506176 : UInt64)), .second, .val (.double (5145383438407770339 : UInt64)), .second, .val (.double (5684137024229819304 : UInt64)), .second, .val (.double (6761170052691860086 : UInt64)), .second, .val (.double (8915514139102383433 : UInt64)), .second, iv (p0 &&& (3 : Int32)), .unset, .unset, .unset, .val (.double (FP.dmul (9184749379333099564 : UInt64) (FP.i2d ((1 : Int32) + (p1 &&& (127 : Int32)))))), .second] [.double (FP.dneg (FP.dmul (9184749379333099564 : UInt64) (FP.i2d ((1 : Int32) + (p1 &&& (127 : Int32))))))]))
          refine o_goto X0 hx hby at_143 (by decide) (q := 148) (by decide) ?_
          refine o_dstore X0 hx hby at_148 (l' := #[iv p0, iv p1, .val (.long q2), .second, iv p3, iv 1, .val (.double (4741671816366391296 : UInt64)), .second, .val (.double (4876203697187506176 : UInt64)), .second, .val (.double (5145383438407770339 : UInt64)), .second, .val (.double (5684137024229819304 : UInt64)), .second, .val (.double (6761170052691860086 : UInt64)), .second, .val (.double (8915514139102383433 : UInt64)), .second, iv (p0 &&& (3 : Int32)), .val (.double (FP.dneg (FP.dmul (9184749379333099564 : UInt64) (FP.i2d ((1 : Int32) + (p1 &&& (127 : Int32))))))), .second, .unset, .val (.double (FP.dmul (9184749379333099564 : UInt64) (FP.i2d ((1 : Int32) + (p1 &&& (127 : Int32)))))), .second]) rfl (q := 150) rfl ?_
          refine o_iload X0 hx hby at_150 rfl (q := 152) rfl ?_
          refine o_ifY X0 hx hby at_152 ((if0 _ _).trans (feq (by decide : ¬ ((1 : Int32) = (0 : Int32)))).2) (by decide) (q := 159) (by decide) ?_
          refine o_iconst X0 hx hby at_159 (z := 0) rfl (q := 160) rfl ?_
          refine o_istore X0 hx hby at_160 (l' := #[iv p0, iv p1, .val (.long q2), .second, iv p3, iv 1, .val (.double (4741671816366391296 : UInt64)), .second, .val (.double (4876203697187506176 : UInt64)), .second, .val (.double (5145383438407770339 : UInt64)), .second, .val (.double (5684137024229819304 : UInt64)), .second, .val (.double (6761170052691860086 : UInt64)), .second, .val (.double (8915514139102383433 : UInt64)), .second, iv (p0 &&& (3 : Int32)), .val (.double (FP.dneg (FP.dmul (9184749379333099564 : UInt64) (FP.i2d ((1 : Int32) + (p1 &&& (127 : Int32))))))), .second, iv 0, .val (.double (FP.dmul (9184749379333099564 : UInt64) (FP.i2d ((1 : Int32) + (p1 &&& (127 : Int32)))))), .second]) rfl (q := 162) rfl ?_
          refine o_goto X0 hx hby at_162 (by decide) (q := 190) (by decide) ?_
          refine o_dload X0 hx hby at_190 rfl (q := 192) rfl ?_
          obtain ⟨_, _, ⟨T32, L32, k32, n32⟩, -, X32, ⟨Lc32, hQ32, l32, y32, z32⟩, st32⟩ := Jvm.LawKit.callS X0 hx (y := (⟨"com/example/cliquefold/cliquefold/MarkovClustering", "isInflation", "(D)Z"⟩ : MethodName)) hown (mvT hZ (w_ hw 3 rfl)) (mvT hZ (w_ hw 4 rfl)) (mvT hZ (w_ hw 5 rfl)) (mvT hZ (w_ hw 6 rfl)) (by decide) (backOf (W := 0) (rm1 l Z a0 hw [] (FP.dneg (FP.dmul (9184749379333099564 : UInt64) (FP.i2d ((1 : Int32) + (p1 &&& (127 : Int32)))))) h0 n0 Z0 ) hZ (w_ hw 6 rfl) (w_ hw 5 rfl) (by decide) (by decide)) (g := (mkF m 192 #[iv p0, iv p1, .val (.long q2), .second, iv p3, iv 1, .val (.double (4741671816366391296 : UInt64)), .second, .val (.double (4876203697187506176 : UInt64)), .second, .val (.double (5145383438407770339 : UInt64)), .second, .val (.double (5684137024229819304 : UInt64)), .second, .val (.double (6761170052691860086 : UInt64)), .second, .val (.double (8915514139102383433 : UInt64)), .second, iv (p0 &&& (3 : Int32)), .val (.double (FP.dneg (FP.dmul (9184749379333099564 : UInt64) (FP.i2d ((1 : Int32) + (p1 &&& (127 : Int32))))))), .second, iv 0, .val (.double (FP.dmul (9184749379333099564 : UInt64) (FP.i2d ((1 : Int32) + (p1 &&& (127 : Int32)))))), .second] [.double (FP.dneg (FP.dmul (9184749379333099564 : UInt64) (FP.i2d ((1 : Int32) + (p1 &&& (127 : Int32))))))])) rfl (by rw [hml]; rfl) (argsL := [(.double (FP.dneg (FP.dmul (9184749379333099564 : UInt64) (FP.i2d ((1 : Int32) + (p1 &&& (127 : Int32)))))))]) (rest := []) (lenOf pd_0 rfl) rfl (by show 2 * 0 + _ ≤ _; exact Nat.le_of_eq rfl) (hb hby at_192) (fun _ _ => ⟨rfl, e0, (by decide : 0 + 0 ≤ _), (by decide : 0 + 0 ≤ _)⟩)
          dsimp only [Pt.U, Pt.locs, Pt.cells, Pt.slots] at X32 l32 y32 z32 st32 hQ32
          subst l32 y32 z32
          obtain ⟨rfl, N32q, hh32⟩ := hQ32
          have N32 := Fr.app N0 N32q
          refine own_of st32 ?_
          show own_Out p e below _ (T32.setTop (mkF m 195 #[iv p0, iv p1, .val (.long q2), .second, iv p3, iv 1, .val (.double (4741671816366391296 : UInt64)), .second, .val (.double (4876203697187506176 : UInt64)), .second, .val (.double (5145383438407770339 : UInt64)), .second, .val (.double (5684137024229819304 : UInt64)), .second, .val (.double (6761170052691860086 : UInt64)), .second, .val (.double (8915514139102383433 : UInt64)), .second, iv (p0 &&& (3 : Int32)), .val (.double (FP.dneg (FP.dmul (9184749379333099564 : UInt64) (FP.i2d ((1 : Int32) + (p1 &&& (127 : Int32))))))), .second, iv 0, .val (.double (FP.dmul (9184749379333099564 : UInt64) (FP.i2d ((1 : Int32) + (p1 &&& (127 : Int32)))))), .second] [.int (finf (FP.dneg (FP.dmul (9184749379333099564 : UInt64) (FP.i2d ((1 : Int32) + (p1 &&& (127 : Int32)))))))]))
          refine o_iload X32 hx hby at_195 rfl (q := 197) rfl ?_
          by_cases hc197_33 : (finf (FP.dneg (FP.dmul (9184749379333099564 : UInt64) (FP.i2d ((1 : Int32) + (p1 &&& (127 : Int32))))))) = (0 : Int32)
          · skip
            refine o_icN X32 hx hby at_197 (teq hc197_33).2 (q := 200) rfl ?_
            refine o_iconst X32 hx hby at_200 (z := 1) rfl (q := 201) rfl ?_
            refine o_goto X32 hx hby at_201 (by decide) (q := 205) (by decide) ?_
            exact own_outN X32 hx hlk (t := .boolean) hret (by simp) (hb hby at_205) (z' := (1 : Int32)) rfl (Q := Q0 Z p0 p1 q2 p3 h0 n0) ⟨rfl, N32⟩ (by decide) (by decide)
          · skip
            refine o_icY X32 hx hby at_197 (feq hc197_33).2 (by decide) (q := 204) (by decide) ?_
            refine o_iconst X32 hx hby at_204 (z := 0) rfl (q := 205) rfl ?_
            exact (dead0_10 p0 p1 q2 p3 hc4_1 hc61_19 hc91_25 hc117_31 hc197_33).elim
        · skip
          refine o_icY X0 hx hby at_117 (feq hc117_31).2 (by decide) (q := 165) (by decide) ?_
          refine o_dload X0 hx hby at_165 rfl (q := 167) rfl ?_
          refine o_dload X0 hx hby at_167 rfl (q := 169) rfl ?_
          refine own_of (fun _ k => XS.dmulS X0.here hx rfl (v := (9218868437227405312 : UInt64)) (hb hby at_169) rfl (Jvm.Free.Fl.noNaN64_no.mpr (by decide +kernel)) (by decide +kernel) k) ?_
          show own_Out p e below _ (s₁.setTop (mkF m 170 #[iv p0, iv p1, .val (.long q2), .second, iv p3, iv 1, .val (.double (4741671816366391296 : UInt64)), .second, .val (.double (4876203697187506176 : UInt64)), .second, .val (.double (5145383438407770339 : UInt64)), .second, .val (.double (5684137024229819304 : UInt64)), .second, .val (.double (6761170052691860086 : UInt64)), .second, .val (.double (8915514139102383433 : UInt64)), .second, iv (p0 &&& (3 : Int32)), .unset, .unset, .unset, .unset, .unset] [.double (9218868437227405312 : UInt64)]))
          refine o_dstore X0 hx hby at_170 (l' := #[iv p0, iv p1, .val (.long q2), .second, iv p3, iv 1, .val (.double (4741671816366391296 : UInt64)), .second, .val (.double (4876203697187506176 : UInt64)), .second, .val (.double (5145383438407770339 : UInt64)), .second, .val (.double (5684137024229819304 : UInt64)), .second, .val (.double (6761170052691860086 : UInt64)), .second, .val (.double (8915514139102383433 : UInt64)), .second, iv (p0 &&& (3 : Int32)), .unset, .unset, .unset, .val (.double (9218868437227405312 : UInt64)), .second]) rfl (q := 172) rfl ?_
          refine o_iload X0 hx hby at_172 rfl (q := 174) rfl ?_
          refine o_ifN X0 hx hby at_174 ((if0 _ _).trans (feq (by decide : ¬ ((1 : Int32) = (0 : Int32)))).1) (q := 177) rfl ?_
          refine o_dload X0 hx hby at_177 rfl (q := 179) rfl ?_
          refine own_of (fun _ k => XS.dnegS X0.here hx rfl (v := (18442240474082181120 : UInt64)) (hb hby at_179) rfl (by decide +kernel) k) ?_
          show own_Out p e below _ (s₁.setTop (mkF m 180 #[iv p0, iv p1, .val (.long q2), .second, iv p3, iv 1, .val (.double (4741671816366391296 : UInt64)), .second, .val (.double (4876203697187506176 : UInt64)), .second, .val (.double (5145383438407770339 : UInt64)), .second, .val (.double (5684137024229819304 : UInt64)), .second, .val (.double (6761170052691860086 : UInt64)), .second, .val (.double (8915514139102383433 : UInt64)), .second, iv (p0 &&& (3 : Int32)), .unset, .unset, .unset, .val (.double (9218868437227405312 : UInt64)), .second] [.double (18442240474082181120 : UInt64)]))
          refine o_goto X0 hx hby at_180 (by decide) (q := 185) (by decide) ?_
          refine o_dstore X0 hx hby at_185 (l' := #[iv p0, iv p1, .val (.long q2), .second, iv p3, iv 1, .val (.double (4741671816366391296 : UInt64)), .second, .val (.double (4876203697187506176 : UInt64)), .second, .val (.double (5145383438407770339 : UInt64)), .second, .val (.double (5684137024229819304 : UInt64)), .second, .val (.double (6761170052691860086 : UInt64)), .second, .val (.double (8915514139102383433 : UInt64)), .second, iv (p0 &&& (3 : Int32)), .val (.double (18442240474082181120 : UInt64)), .second, .unset, .val (.double (9218868437227405312 : UInt64)), .second]) rfl (q := 187) rfl ?_
          refine o_iconst X0 hx hby at_187 (z := 0) rfl (q := 188) rfl ?_
          refine o_istore X0 hx hby at_188 (l' := #[iv p0, iv p1, .val (.long q2), .second, iv p3, iv 1, .val (.double (4741671816366391296 : UInt64)), .second, .val (.double (4876203697187506176 : UInt64)), .second, .val (.double (5145383438407770339 : UInt64)), .second, .val (.double (5684137024229819304 : UInt64)), .second, .val (.double (6761170052691860086 : UInt64)), .second, .val (.double (8915514139102383433 : UInt64)), .second, iv (p0 &&& (3 : Int32)), .val (.double (18442240474082181120 : UInt64)), .second, iv 0, .val (.double (9218868437227405312 : UInt64)), .second]) rfl (q := 190) rfl ?_
          refine o_dload X0 hx hby at_190 rfl (q := 192) rfl ?_
          obtain ⟨_, _, ⟨T34, L34, k34, n34⟩, -, X34, ⟨Lc34, hQ34, l34, y34, z34⟩, st34⟩ := Jvm.LawKit.callS X0 hx (y := (⟨"com/example/cliquefold/cliquefold/MarkovClustering", "isInflation", "(D)Z"⟩ : MethodName)) hown (mvT hZ (w_ hw 3 rfl)) (mvT hZ (w_ hw 4 rfl)) (mvT hZ (w_ hw 5 rfl)) (mvT hZ (w_ hw 6 rfl)) (by decide) (backOf (W := 0) (rm1 l Z a0 hw [] (18442240474082181120 : UInt64) h0 n0 Z0 ) hZ (w_ hw 6 rfl) (w_ hw 5 rfl) (by decide) (by decide)) (g := (mkF m 192 #[iv p0, iv p1, .val (.long q2), .second, iv p3, iv 1, .val (.double (4741671816366391296 : UInt64)), .second, .val (.double (4876203697187506176 : UInt64)), .second, .val (.double (5145383438407770339 : UInt64)), .second, .val (.double (5684137024229819304 : UInt64)), .second, .val (.double (6761170052691860086 : UInt64)), .second, .val (.double (8915514139102383433 : UInt64)), .second, iv (p0 &&& (3 : Int32)), .val (.double (18442240474082181120 : UInt64)), .second, iv 0, .val (.double (9218868437227405312 : UInt64)), .second] [.double (18442240474082181120 : UInt64)])) rfl (by rw [hml]; rfl) (argsL := [(.double (18442240474082181120 : UInt64))]) (rest := []) (lenOf pd_0 rfl) rfl (by show 2 * 0 + _ ≤ _; exact Nat.le_of_eq rfl) (hb hby at_192) (fun _ _ => ⟨rfl, e0, (by decide : 0 + 0 ≤ _), (by decide : 0 + 0 ≤ _)⟩)
          dsimp only [Pt.U, Pt.locs, Pt.cells, Pt.slots] at X34 l34 y34 z34 st34 hQ34
          subst l34 y34 z34
          obtain ⟨rfl, N34q, hh34⟩ := hQ34
          have N34 := Fr.app N0 N34q
          refine own_of st34 ?_
          show own_Out p e below _ (T34.setTop (mkF m 195 #[iv p0, iv p1, .val (.long q2), .second, iv p3, iv 1, .val (.double (4741671816366391296 : UInt64)), .second, .val (.double (4876203697187506176 : UInt64)), .second, .val (.double (5145383438407770339 : UInt64)), .second, .val (.double (5684137024229819304 : UInt64)), .second, .val (.double (6761170052691860086 : UInt64)), .second, .val (.double (8915514139102383433 : UInt64)), .second, iv (p0 &&& (3 : Int32)), .val (.double (18442240474082181120 : UInt64)), .second, iv 0, .val (.double (9218868437227405312 : UInt64)), .second] [.int (finf (18442240474082181120 : UInt64))]))
          refine o_iload X34 hx hby at_195 rfl (q := 197) rfl ?_
          by_cases hc197_35 : (finf (18442240474082181120 : UInt64)) = (0 : Int32)
          · skip
            refine o_icN X34 hx hby at_197 (teq hc197_35).2 (q := 200) rfl ?_
            refine o_iconst X34 hx hby at_200 (z := 1) rfl (q := 201) rfl ?_
            refine o_goto X34 hx hby at_201 (by decide) (q := 205) (by decide) ?_
            exact own_outN X34 hx hlk (t := .boolean) hret (by simp) (hb hby at_205) (z' := (1 : Int32)) rfl (Q := Q0 Z p0 p1 q2 p3 h0 n0) ⟨rfl, N34⟩ (by decide) (by decide)
          · skip
            refine o_icY X34 hx hby at_197 (feq hc197_35).2 (by decide) (q := 204) (by decide) ?_
            refine o_iconst X34 hx hby at_204 (z := 0) rfl (q := 205) rfl ?_
            exact (dead0_11 p0 p1 q2 p3 hc4_1 hc61_19 hc91_25 hc117_31 hc197_35).elim
set_option maxRecDepth 65536 in
set_option maxHeartbeats 40000000 in
theorem comes_1 {Post : Tables → Env → Array Value → State → Outcome → State → Prop} (hpost : ∀ tb e args s v u, (limb_1_1.after args s (.returned v) u = true ∧ limb_1_2.after args s (.returned v) u = true ∧ True) → FrameEnd s (.returned v) u (Jvm.fieldLocs frame_1_writes args s ++ Jvm.arrayLocs frame_1_arrays args s ++ Jvm.staticLocs frame_1_statics s) 0 0 → Post tb e args s (.returned v) u) :
    ArmFor flags0 classFile x code maxLocals ret World_1 tables_1 room_1 Calls_1 rest_1 Pre_1 Post := by
  intro l hfl _ _ p e ha hc hk s m args below hf hA hF happ hP
  obtain ⟨hcalls, hrest, hpre⟩ := hP
  obtain ⟨-, -, -, hnamed, -, -, -, hat⟩ := (Spec.applies_iff hf).mp happ
  obtain ⟨hg, hn⟩ := and_e (Cond.before_iff.mp (show (Jvm.Cond.and given_1 narrow_1).before args s = true from hpre))
  obtain ⟨g1, g2⟩ := and_e hg
  obtain ⟨g3, g4⟩ := and_e g2
  obtain ⟨g5, g6⟩ := and_e g4
  obtain ⟨g7, g8⟩ := and_e g6
  obtain ⟨w0, w1, w2, w3, rfl⟩ : ∃ w0 w1 w2 w3 : Value, args = #[w0, w1, w2, w3] := by
    have hs : args.size = 4 := by simpa [Cond.value, given_1] using g1
    obtain ⟨L⟩ := args
    match L, hs with
    | [w0, w1, w2, w3], _ => exact ⟨w0, w1, w2, w3, rfl⟩
  have hw := fun d (hd : d ∈ tables_1) => atoms_spec (ws := Jvm.Cond.code x code maxLocals ret :: tables_1) hat d (List.mem_cons_of_mem _ hd)
  have hfit : Fit s := fun {y c} hc i hi => by
    obtain ⟨ha, rfl⟩ := Array.getElem?_eq_some_iff.mp hc
    have q := List.all_eq_true.mp ((Array.all_eq_true_iff_forall_mem.mp hF) _ (Array.getElem_mem ha)) i (List.mem_range.mpr hi)
    simpa [Array.getElem?_eq_getElem hi] using q
  obtain ⟨i0, ei0⟩ := is_v g3
  obtain rfl : w0 = (.int i0) := Option.some.inj ei0
  obtain ⟨i1, ei1⟩ := is_v g5
  obtain rfl : w1 = (.int i1) := Option.some.inj ei1
  obtain ⟨i2, ei2⟩ := isL_v g7
  obtain rfl : w2 = (.long i2) := Option.some.inj ei2
  obtain ⟨i3, ei3⟩ := is_v g8
  obtain rfl : w3 = (.int i3) := Option.some.inj ei3
  obtain ⟨n, o, h1, h2, h3, _, L, rfl, ⟨rfl, N⟩, hq⟩ := rm0 l s _ hw tables_1 i0 i1 i2 i3 s.heap s.heap.size (Nat.le_refl _)  p e ha hc hk s m _ below hf ((Spec.applies_iff_loose hf).mp happ).1 ⟨rfl, State.Warmed39.refl s, rfl⟩ trivial
  refine ⟨n, _, h1, h2, h3, hpost _ _ _ _ _ _ ⟨Cond.after_iff.mpr rfl, Cond.after_iff.mpr (eq_i res_at (Term.int_eval (1)) rfl), trivial⟩ ⟨hq.1, hq.2.1, (hq.2.2.sift fun y hy => Or.inr (N y hy)).mono (by decide) (by decide)⟩⟩
theorem main_1_1 : Claimed_1_1 := comes_1 fun _ _ _ _ _ _ h hF => ⟨h.1, hF⟩
theorem main_1_2 : Claimed_1_2 := comes_1 fun _ _ _ _ _ _ h hF => ⟨h.2.1, hF⟩
end Jvm.Pilot.@@N@@
namespace Jvm.Pilot.@@N@@
open Jvm Jvm.ClassFile Sem Op Lib Jvm.Free Jvm.Stand Jvm.Pilot.@@N@@.Jvm.D
/-! MADE BY PROGRAM (witnessworld.py) out of the Statement's table words and the real class files: 9 classes; the members and pool entries that the words name. The judged class is class 1, her method 1. -/
namespace start1
open Jvm.ClassFile
def u (s : String) : CpInfo := .utf8 (stringToUtf16 s)
/-- a pool by its gaps: so many unusable entries, then the entry; so many at the end -/
def gap : Nat → List CpInfo → List CpInfo
  | 0, r => r
  | n + 1, r => .unusable :: gap n r
def poolList (es : List (Nat × CpInfo)) (last : Nat) : List CpInfo := es.foldr (fun e r => gap e.1 (e.2 :: r)) (gap last [])
def pool (es : List (Nat × CpInfo)) (last : Nat) : Array CpInfo := ⟨poolList es last⟩
def fileOf (pool : Array CpInfo) (this : Nat) (attrs : Array Attribute := #[]) (ms : Array MethodInfo := #[]) (fl : Nat := 33) (sup : Nat := 0) (ifs : Array Nat := #[]) (fds : Array FieldInfo := #[]) : ClassFile where
  minorVersion := 0
  majorVersion := 65
  constantPool := pool
  accessFlags := fl
  thisClass := this
  superClass := sup
  interfaces := ifs
  fields := fds
  methods := ms
  attributes := attrs
def plain (name : String) (sup : Option ClassId) : Class where
  name := name
  kind := .ordinary
  loader := none
  accessFlags := 33
  super := sup
  interfaces := #[]
  cf := none
  fields := #[]
  methods := #[]
  instanceTypes := #[]
  staticTypes := #[]
  resolved := #[]
  callSites := []
  init := .initialized
  statics := none
  mirror := none

def pool0 : Array CpInfo := pool [(5, u "<init>"), (0, u "()V"), (1, .class_ 10), (1, u "java/lang/Object")] 113

def k0m0 : Method := { name := "<init>", desc := "()V", sig := { parameters := [], returnType := none }, accessFlags := 1, code := none }
/-- java/lang/Object -/
def k0 : Class := { plain "java/lang/Object" none with
  accessFlags := 33
  interfaces := #[]
  cf := some (fileOf pool0 8 #[] #[{ accessFlags := 1, nameIndex := 5, descriptorIndex := 6, attributes := #[] }] 33 0 #[] #[])
  fields := #[]
  methods := #[k0m0]
  instanceTypes := #[]
  staticTypes := #[]
  resolved := Array.replicate 124 none
  statics := none }

def pool1 : Array CpInfo := pool [(2, .class_ 4), (1, u "java/lang/Object"), (0, u "<init>"), (0, u "()V"), (0, .double 4741671816366391296), (1, .double 4742290407621132288), (1, .integer 1073741824), (0, .methodref 13 14), (0, .class_ 15), (0, .nameAndType 16 17), (0, u "com/example/cliquefold/cliquefold/MarkovClustering"), (0, u "isInflation"), (0, u "(D)Z"), (0, .class_ 19), (0, u "com/example/cliquefold/cliquefold/MarkovClusteringIsInflationPinLaw"), (2, u "law"), (0, u "(IIJI)Z")] 3

def k1m0 : Method := { name := "<init>", desc := "()V", sig := { parameters := [], returnType := none }, accessFlags := 1, code := none }
def k1c1 : Code := { maxStack := 5, maxLocals := 24, code := code, exceptionTable := #[], attributes := #[] }
def k1m1 : Method := { name := "law", desc := "(IIJI)Z", sig := { parameters := [.int, .int, .long, .int], returnType := some .boolean }, accessFlags := 9, code := some k1c1 }
/-- com/example/cliquefold/cliquefold/MarkovClusteringIsInflationPinLaw -/
def k1 : Class := { plain "com/example/cliquefold/cliquefold/MarkovClusteringIsInflationPinLaw" (some 0) with
  accessFlags := 49
  interfaces := #[]
  cf := some (fileOf pool1 18 #[] #[{ accessFlags := 1, nameIndex := 5, descriptorIndex := 6, attributes := #[] }, { accessFlags := 9, nameIndex := 22, descriptorIndex := 23, attributes := #[] }] 49 2 #[] #[])
  fields := #[]
  methods := #[k1m0, k1m1]
  instanceTypes := #[]
  staticTypes := #[]
  resolved := Array.replicate 27 none
  statics := none }

def pool2 : Array CpInfo := pool [(2, .class_ 4), (1, u "java/lang/Object"), (0, u "<init>"), (0, u "()V"), (7, .class_ 16), (1, u "com/example/cliquefold/cliquefold/MarkovClustering"), (20, u "isInflation"), (0, u "(D)Z"), (25, .class_ 65), (0, u "com/example/cliquefold/cliquefold/MarkovClustering$Result"), (14, .double 9218868437227405312), (51, u "PRUNE"), (0, u "D"), (1, u "SETTLED"), (0, u "MAX_ITERATIONS"), (0, u "I")] 30

def k2m0 : Method := { name := "<init>", desc := "()V", sig := { parameters := [], returnType := none }, accessFlags := 2, code := none }
def k2c1 : Code := { maxStack := 4, maxLocals := 2, code := prog_38_method_5_code, exceptionTable := #[], attributes := #[] }
def k2m1 : Method := { name := "isInflation", desc := "(D)Z", sig := { parameters := [.double], returnType := some .boolean }, accessFlags := 8, code := some k2c1 }
/-- com/example/cliquefold/cliquefold/MarkovClustering -/
def k2 : Class := { plain "com/example/cliquefold/cliquefold/MarkovClustering" (some 0) with
  accessFlags := 49
  interfaces := #[]
  cf := some (fileOf pool2 14 #[.nestMembers #[64]] #[{ accessFlags := 2, nameIndex := 5, descriptorIndex := 6, attributes := #[] }, { accessFlags := 8, nameIndex := 37, descriptorIndex := 38, attributes := #[] }] 49 2 #[] #[{ accessFlags := 24, nameIndex := 132, descriptorIndex := 133, attributes := #[] }, { accessFlags := 24, nameIndex := 135, descriptorIndex := 133, attributes := #[] }, { accessFlags := 24, nameIndex := 136, descriptorIndex := 137, attributes := #[] }])
  fields := #[{ name := "PRUNE", type := .double, accessFlags := 24, slot := 0, constantValue := 0 }, { name := "SETTLED", type := .double, accessFlags := 24, slot := 1, constantValue := 0 }, { name := "MAX_ITERATIONS", type := .int, accessFlags := 24, slot := 2, constantValue := 0 }]
  methods := #[k2m0, k2m1]
  instanceTypes := #[]
  staticTypes := #[.double, .double, .int]
  resolved := Array.replicate 168 none
  statics := none }

def pool3 : Array CpInfo := pool [(1, u "java/lang/Cloneable"), (0, .class_ 1), (0, u "java/lang/Object"), (0, .class_ 3)] 3

/-- java/lang/Cloneable -/
def k3 : Class := { plain "java/lang/Cloneable" (some 0) with
  accessFlags := 1537
  interfaces := #[]
  cf := some (fileOf pool3 2 #[] #[] 1537 4 #[] #[])
  fields := #[]
  methods := #[]
  instanceTypes := #[]
  staticTypes := #[]
  resolved := Array.replicate 8 none
  statics := none }

def pool4 : Array CpInfo := pool [(1, u "java/io/Serializable"), (0, .class_ 1), (0, u "java/lang/Object"), (0, .class_ 3)] 3

/-- java/io/Serializable -/
def k4 : Class := { plain "java/io/Serializable" (some 0) with
  accessFlags := 1537
  interfaces := #[]
  cf := some (fileOf pool4 2 #[] #[] 1537 4 #[] #[])
  fields := #[]
  methods := #[]
  instanceTypes := #[]
  staticTypes := #[]
  resolved := Array.replicate 8 none
  statics := none }

/-- the primitive byte -/
def k5 : Class := { plain "byte" none with kind := .primitive 'B', accessFlags := 0x411 }
/-- [B -/
def k6 : Class := { plain "[B" (some 0) with kind := .array 5 .byte, interfaces := #[3, 4], accessFlags := 1041 }

/-- the primitive int -/
def k7 : Class := { plain "int" none with kind := .primitive 'I', accessFlags := 0x411 }
/-- [I -/
def k8 : Class := { plain "[I" (some 0) with kind := .array 7 .int, interfaces := #[3, 4], accessFlags := 1041 }

def heap : Heap := #[]
def classes : Array Class := #[k0, k1, k2, k3, k4, k5, k6, k7, k8]
def interned : List (Array UInt16 × Addr) := []
def slotsUsed : Nat := 0
def theMethod : MethodId := ⟨1, 1⟩
def args0 : Array Value := #[.int 5, .int 5, .long 5, .int 5]
def aboutOver (below : List Frame) : State where
  vm := { classes := classes, interned := interned.toArray }
  heap := heap
  slotsUsed := slotsUsed
  threads := #[{ frames := .invoking theMethod args0 :: below }]
def below0 : List Frame := [.native { method := ⟨0, 0⟩, args := #[] }]
def about1 : State := aboutOver below0
def p0 : Program := .bare "" "" ""
def e0 : Env := launch0.env 0 0 0
theorem w_frames : about1.frames = Frame.invoking theMethod args0 :: below0 := rfl
set_option maxRecDepth 65536 in
theorem w_args : argsFit about1.vm theMethod args0 = true := by decide +kernel
set_option maxRecDepth 65536 in
theorem w_heap : heapFits about1 = true := by decide +kernel
set_option maxRecDepth 65536 in
theorem w_runnable : about1.curStatus? = some .runnable := by decide +kernel
set_option maxRecDepth 65536 in
theorem w_alone : about1.alone = true := by decide +kernel
set_option maxRecDepth 65536 in
theorem w_named : about1.methodNamed? x = some theMethod := by decide +kernel
set_option maxRecDepth 65536 in
theorem w_hears : about1.hears theMethod below0 = true := by decide +kernel
set_option maxRecDepth 65536 in
theorem w_ripe : about1.ripe theMethod args0 below0 = true := by decide +kernel
theorem w_running : about1.status = .running := rfl
set_option maxRecDepth 65536 in
theorem w_room : about1.hasRoom e0.platform room_1 = true :=
  launch0.hasRoom_least _ room_1 (by decide +kernel) (by decide +kernel) (by decide +kernel) (by decide +kernel) (by decide +kernel) (by decide +kernel)
theorem allAtoms_all (ts : List Jvm.Cond) (a : Array Jvm.Value) (st : Jvm.State) : (allAtoms ts).before a st = ts.all (fun c => c.before a st) := by
  induction ts with
  | nil => rfl
  | cons c t ih =>
    show (Jvm.Cond.and c (allAtoms t)).before a st = _
    rw [Jvm.Cond.before_and, ih, List.all_cons]
def words1 : List Jvm.Cond := Jvm.Cond.code x code maxLocals ret :: tables_1
/-- a 'code' word, met by the world's own term for the bytes: nothing is compared byte by byte -/
theorem code_word {y : MethodName} {bytes : ByteArray} {mx : Nat} {rt : Option FieldType} {a : Array Value} {s : State} {m : MethodId} {meth : Method} {c : Code} (h1 : s.methodNamed? y = some m) (h2 : s.vm.method? m = some meth) (h3 : meth.code = some c) (h4 : c.code = bytes)
    (h5 : (c.maxLocals == mx && c.exceptionTable.isEmpty && decide (c.maxStack ≤ mostOperands) && decide (meth.sig.returnType = rt) && !meth.locks && decide (parseMethodDescriptor y.desc = some meth.sig)) = true) : (Jvm.Cond.code y bytes mx rt).before a s = true := by
  simp only [Bool.and_eq_true, beq_iff_eq, Bool.not_eq_true', decide_eq_true_eq] at h5
  obtain ⟨⟨⟨⟨⟨g1, g2⟩, g3⟩, g4⟩, g5⟩, g6⟩ := h5
  simp [Cond.before, Cond.holds, Cond.value, h1, h2, h3, h4, g1, g2, g3, g4, g5, g6]
def isCode : Jvm.Cond → Bool
  | .code _ _ _ _ => true
  | _ => false
theorem all_split {L : List Jvm.Cond} {P : Jvm.Cond → Bool} (h1 : L.all (fun c => isCode c || P c) = true) (h2 : ∀ c ∈ L.filter isCode, P c = true) : L.all P = true := by
  refine List.all_eq_true.mpr fun c hc => ?_
  have h := List.all_eq_true.mp h1 c hc
  rcases Bool.eq_false_or_eq_true (isCode c) with hi | hi
  · exact h2 c (List.mem_filter.mpr ⟨hc, hi⟩)
  · simpa [hi] using h
set_option maxRecDepth 65536 in
theorem w_c0 : (Jvm.Cond.code x code maxLocals ret).before args0 about1 = true := code_word (m := ⟨1, 1⟩) (meth := k1m1) (c := k1c1) (by decide +kernel) rfl rfl rfl (by decide +kernel)
set_option maxRecDepth 65536 in
theorem w_c1 : (Jvm.Cond.code ({ cls := "com/example/cliquefold/cliquefold/MarkovClustering", name := "isInflation", desc := "(D)Z" } : Jvm.MethodName) prog_38_method_5_code (2 : Nat) (Option.some Jvm.ClassFile.FieldType.boolean)).before args0 about1 = true := code_word (m := ⟨2, 1⟩) (meth := k2m1) (c := k2c1) (by decide +kernel) rfl rfl rfl (by decide +kernel)
def codes1 : List Jvm.Cond := [Jvm.Cond.code x code maxLocals ret, Jvm.Cond.code ({ cls := "com/example/cliquefold/cliquefold/MarkovClustering", name := "isInflation", desc := "(D)Z" } : Jvm.MethodName) prog_38_method_5_code (2 : Nat) (Option.some Jvm.ClassFile.FieldType.boolean)]
set_option maxRecDepth 65536 in
theorem codes_eq : words1.filter isCode = codes1 := rfl
theorem w_codes : ∀ c ∈ words1.filter isCode, c.before args0 about1 = true := by
  rw [codes_eq]
  intro c hc
  simp only [codes1, List.mem_cons, List.not_mem_nil, or_false] at hc
  rcases hc with rfl | rfl
  · exact w_c0
  · exact w_c1
set_option maxRecDepth 65536 in
theorem w_t1 : words1.all (fun c => isCode c || c.before args0 about1) = true := by decide +kernel
theorem w_tables : (allAtoms (Jvm.Cond.code x code maxLocals ret :: tables_1)).before args0 about1 = true := by
  rw [allAtoms_all]
  show words1.all (fun c => c.before args0 about1) = true
  refine all_split ?_ w_codes
  rw [w_t1]
set_option maxRecDepth 65536 in
theorem w_case : (Jvm.Cond.and given_1 narrow_1).before args0 about1 = true := by decide +kernel
theorem w_applies : (headSpec (Jvm.Cond.code x code maxLocals ret :: tables_1) room_1).applies x e0.platform about1 = true :=
  (Spec.applies_iff w_frames).mpr ⟨w_running, w_runnable, w_alone, w_named, w_hears, w_ripe, w_room, w_tables⟩
theorem atStart : AtStart classFile x code maxLocals ret World_1 tables_1 room_1 Calls_1 rest_1 Pre_1 launch0 p0 e0 about1 theMethod args0 below0 :=
  ⟨lists_1, trivial, launch0.admits_env _ _ _, launch0.least_env, fairChoices_fair.cas, fairChoices_fair.clock, w_frames, w_args, w_heap, w_applies, trivial, trivial, w_case⟩
end start1
theorem witness_1 : WitnessClaimed_1 := ⟨start1.p0, start1.e0, start1.about1, start1.theMethod, start1.args0, start1.below0, start1.atStart⟩
end Jvm.Pilot.@@N@@
