import JvmDerived
import JvmDerived.Pilot.@@N@@Statement
import JvmDerived.Pilot.@@N@@Code
set_option linter.unusedVariables false
set_option linter.unusedSimpArgs false
@@BLOCK:NumsL.lean.txt@@
namespace Jvm.RoadKit
open Sem ClassFile Op Lib Jvm.Stand Jvm.Free Jvm.LawKit
/-- from the state S the run comes to an end that P holds of -/
def own_Out (p : Program) (e : Env) (below : List Frame) (P : Outcome → State → Prop) (S : State) : Prop := ∃ s₂ o, Steps p.tables e below S s₂ ∧ s₂.status = .running ∧ Ended s₂ below o ∧ P o s₂
theorem own_of {p : Program} {e : Env} {below : List Frame} {P : Outcome → State → Prop} {S S' : State} (h : ∀ t, Steps p.tables e below S' t → Steps p.tables e below S t) (k : own_Out p e below P S') : own_Out p e below P S := by
  obtain ⟨a, b, c, d⟩ := k
  exact ⟨a, b, h a c, d⟩
section New
variable {p : Program} {l : Launch} {e : Env} {R : Room} {s : State} {m : MethodId} {args : Array Value} {below : List Frame} {meth : Method} {c : Code} {T : State} {locs : List Loc} {cells slots : Nat}
theorem own_end (X : Stand p l e R s m args below meth c T locs cells slots) (hlk : meth.locks = false) {v : Option Value} (hv : meth.sig.returnType = none → v = none) {g : JFrame}
    (hs : ∀ fs, (∀ (f : JFrame) (acts : List Action), f.method = m → f.locked = none → f.entered = [] → (doReturn e (T.setTop f) acts v).1 = T.setFrames fs) → Steps p.tables e below (T.setTop g) (T.setFrames fs))
    {Q : Option Value → Heap → List Loc → Prop} (hQ : Q v T.heap locs) {C N : Nat} (hC : cells ≤ C) (hN : slots ≤ N) :
    own_Out p e below (fun o U' => ∃ v L, o = .returned v ∧ Q v U'.heap L ∧ FrameEnd s o U' L C N) (T.setTop g) := by
  obtain ⟨fs, hr, hrun, hended, hW, hsame⟩ := X.leave (v := v) hv hlk
  exact ⟨_, _, hs fs hr, hrun, hended, _, _, rfl, hQ, ⟨_, rfl⟩, hW, hsame.mono hC hN⟩
theorem own_outN (X : Stand p l e R s m args below meth c T locs cells slots) (hx : p.tables.exec = Jvm.exec) (hlk : meth.locks = false) {pc : Nat} {Ls : Array Slot} {z z' : Int32} {t : FieldType} {rest : List Value} (hret : meth.sig.returnType = some t) (ht : t = .boolean ∨ t = .byte ∨ t = .char ∨ t = .short) (hd : decode c.code pc = .ok (.ireturn, 1)) (hz : nar t z = z')
    {Q : Option Value → Heap → List Loc → Prop} (hQ : Q (some (.int z')) T.heap locs) {C N : Nat} (hC : cells ≤ C) (hN : slots ≤ N) :
    own_Out p e below (fun o U' => ∃ v L, o = .returned v ∧ Q v U'.heap L ∧ FrameEnd s o U' L C N) (T.setTop (mkF m pc Ls (.int z :: rest))) :=
  own_end X hlk (fun h => by rw [hret] at h; cases h) (fun fs hr => retN X hx hret ht hd (by rw [hz]; exact hr)) hQ hC hN
end New
theorem own_ltlt {x y : Int64} (h : x < y) : ifCond.holds .lt (lcmpW x y) = true ∧ ifCond.holds .ge (lcmpW x y) = false ∧ ifCond.holds .gt (lcmpW y x) = true ∧ ifCond.holds .le (lcmpW y x) = false := by
  have h1 : ¬ x > y := fun q => by rw [gt_iff_lt, Int64.lt_iff_toInt_lt] at q; rw [Int64.lt_iff_toInt_lt] at h; omega
  have h2 : ¬ x = y := fun q => by subst q; rw [Int64.lt_iff_toInt_lt] at h; omega
  have e1 : lcmpW x y = -1 := by simp only [lcmpW, if_neg h1, if_neg h2]
  have e2 : lcmpW y x = 1 := by simp only [lcmpW, if_pos (show y > x from h)]
  rw [e1, e2]; decide
theorem own_lflt {x y : Int64} (h : ¬ x < y) : ifCond.holds .lt (lcmpW x y) = false ∧ ifCond.holds .ge (lcmpW x y) = true ∧ ifCond.holds .gt (lcmpW y x) = false ∧ ifCond.holds .le (lcmpW y x) = true := by
  by_cases h1 : x = y
  · subst h1
    have h1 : ¬ x > x := fun q => by rw [gt_iff_lt, Int64.lt_iff_toInt_lt] at q; omega
    have e1 : lcmpW x x = 0 := by simp only [lcmpW, if_neg h1, if_pos]
    rw [e1]; decide
  · have h2 : x > y := by
      rw [gt_iff_lt, Int64.lt_iff_toInt_lt]; rw [Int64.lt_iff_toInt_lt] at h
      have h3 : ¬ x.toInt = y.toInt := fun q => h1 (Int64.toInt_inj.mp q)
      omega
    have h3 : ¬ y > x := fun q => by rw [gt_iff_lt, Int64.lt_iff_toInt_lt] at q h2; omega
    have e1 : lcmpW x y = 1 := by simp only [lcmpW, if_pos h2]
    have e2 : lcmpW y x = -1 := by simp only [lcmpW, if_neg h3, if_neg (fun q => h1 (Eq.symm q))]
    rw [e1, e2]; decide
section Bounds
variable {x a k : Int32} {u : Int}
end Bounds
section Rel
end Rel
end Jvm.RoadKit
namespace Jvm.RoadKit
open Sem ClassFile Op Lib Jvm.Stand Jvm.Free Jvm.LawKit
section Short
variable {p : Program} {l : Launch} {e : Env} {R : Room} {s : State} {m : MethodId} {args : Array Value} {below : List Frame} {meth : Method} {c : Code} {T : State} {locs : List Loc} {cells slots : Nat} {P : Outcome → State → Prop} {bytes : ByteArray} {pc q : Nat} {ls l' : Array Slot} {st : List Value}
theorem o_iloadN (X : Stand p l e R s m args below meth c T locs cells slots) (hx : p.tables.exec = Jvm.exec) (hby : c.code = bytes) {k : Fin 4} {v : Int32} (hd : decode bytes pc = .ok (.iload_n k, 1)) (hl : ls[k.val]? = some (.val (.int v))) (hq : pc + 1 = q) (hr : own_Out p e below P (T.setTop (mkF m q ls (.int v :: st)))) : own_Out p e below P (T.setTop (mkF m pc ls (st))) := by
  subst hq; exact own_of (fun _ k => XS.iloadN X.here hx rfl (hb hby hd) hl k) hr
theorem o_iload (X : Stand p l e R s m args below meth c T locs cells slots) (hx : p.tables.exec = Jvm.exec) (hby : c.code = bytes) {k : Nat} {v : Int32} (hd : decode bytes pc = .ok (.iload k, 2)) (hl : ls[k]? = some (.val (.int v))) (hq : pc + 2 = q) (hr : own_Out p e below P (T.setTop (mkF m q ls (.int v :: st)))) : own_Out p e below P (T.setTop (mkF m pc ls (st))) := by
  subst hq; exact own_of (fun _ k => XS.iload X.here hx rfl (hb hby hd) hl k) hr
theorem o_istoreN (X : Stand p l e R s m args below meth c T locs cells slots) (hx : p.tables.exec = Jvm.exec) (hby : c.code = bytes) {k : Fin 4} {x : Int32} (hd : decode bytes pc = .ok (.istore_n k, 1)) (hl : storeLocals ls k.val (.int x) = some l') (hq : pc + 1 = q) (hr : own_Out p e below P (T.setTop (mkF m q l' (st)))) : own_Out p e below P (T.setTop (mkF m pc ls (.int x :: st))) := by
  subst hq; exact own_of (fun _ k => XS.istoreN X.here hx rfl (hb hby hd) rfl hl k) hr
theorem o_istore (X : Stand p l e R s m args below meth c T locs cells slots) (hx : p.tables.exec = Jvm.exec) (hby : c.code = bytes) {k : Nat} {x : Int32} (hd : decode bytes pc = .ok (.istore k, 2)) (hl : storeLocals ls k (.int x) = some l') (hq : pc + 2 = q) (hr : own_Out p e below P (T.setTop (mkF m q l' (st)))) : own_Out p e below P (T.setTop (mkF m pc ls (.int x :: st))) := by
  subst hq; exact own_of (fun _ k => XS.istore X.here hx rfl (hb hby hd) rfl hl k) hr
theorem o_lloadN (X : Stand p l e R s m args below meth c T locs cells slots) (hx : p.tables.exec = Jvm.exec) (hby : c.code = bytes) {k : Fin 4} {v : Int64} (hd : decode bytes pc = .ok (.lload_n k, 1)) (hl : ls[k.val]? = some (.val (.long v))) (hq : pc + 1 = q) (hr : own_Out p e below P (T.setTop (mkF m q ls (.long v :: st)))) : own_Out p e below P (T.setTop (mkF m pc ls (st))) := by
  subst hq; exact own_of (fun _ k => XS.lloadN X.here hx rfl (hb hby hd) hl k) hr
theorem o_dloadN (X : Stand p l e R s m args below meth c T locs cells slots) (hx : p.tables.exec = Jvm.exec) (hby : c.code = bytes) {k : Fin 4} {v : UInt64} (hd : decode bytes pc = .ok (.dload_n k, 1)) (hl : ls[k.val]? = some (.val (.double v))) (hq : pc + 1 = q) (hr : own_Out p e below P (T.setTop (mkF m q ls (.double v :: st)))) : own_Out p e below P (T.setTop (mkF m pc ls (st))) := by
  subst hq; exact own_of (fun _ k => XS.dloadN X.here hx rfl (hb hby hd) hl k) hr
theorem o_dload (X : Stand p l e R s m args below meth c T locs cells slots) (hx : p.tables.exec = Jvm.exec) (hby : c.code = bytes) {k : Nat} {v : UInt64} (hd : decode bytes pc = .ok (.dload k, 2)) (hl : ls[k]? = some (.val (.double v))) (hq : pc + 2 = q) (hr : own_Out p e below P (T.setTop (mkF m q ls (.double v :: st)))) : own_Out p e below P (T.setTop (mkF m pc ls (st))) := by
  subst hq; exact own_of (fun _ k => XS.dload X.here hx rfl (hb hby hd) hl k) hr
theorem o_dstore (X : Stand p l e R s m args below meth c T locs cells slots) (hx : p.tables.exec = Jvm.exec) (hby : c.code = bytes) {k : Nat} {x : UInt64} (hd : decode bytes pc = .ok (.dstore k, 2)) (hl : storeLocals ls k (.double x) = some l') (hq : pc + 2 = q) (hr : own_Out p e below P (T.setTop (mkF m q l' (st)))) : own_Out p e below P (T.setTop (mkF m pc ls (.double x :: st))) := by
  subst hq; exact own_of (fun _ k => XS.dstore X.here hx rfl (hb hby hd) rfl hl k) hr
theorem o_iconst (X : Stand p l e R s m args below meth c T locs cells slots) (hx : p.tables.exec = Jvm.exec) (hby : c.code = bytes) {i : Int} {z : Int32} (hd : decode bytes pc = .ok (.iconst i, 1)) (hz : Int32.ofInt i = z) (hq : pc + 1 = q) (hr : own_Out p e below P (T.setTop (mkF m q ls (.int z :: st)))) : own_Out p e below P (T.setTop (mkF m pc ls (st))) := by
  subst hq; exact own_of (fun _ k => XS.iconst X.here hx rfl (hb hby hd) (by rw [hz]; exact k)) hr
theorem o_bipush (X : Stand p l e R s m args below meth c T locs cells slots) (hx : p.tables.exec = Jvm.exec) (hby : c.code = bytes) {i : Int} {z : Int32} (hd : decode bytes pc = .ok (.bipush i, 2)) (hz : (Int8.ofInt i).toInt32 = z) (hq : pc + 2 = q) (hr : own_Out p e below P (T.setTop (mkF m q ls (.int z :: st)))) : own_Out p e below P (T.setTop (mkF m pc ls (st))) := by
  subst hq; exact own_of (fun _ k => XS.bipush X.here hx rfl (hb hby hd) (by rw [hz]; exact k)) hr
theorem o_lconst (X : Stand p l e R s m args below meth c T locs cells slots) (hx : p.tables.exec = Jvm.exec) (hby : c.code = bytes) {i : Fin 2} {z : Int64} (hd : decode bytes pc = .ok (.lconst i, 1)) (hz : Int64.ofNat i = z) (hq : pc + 1 = q) (hr : own_Out p e below P (T.setTop (mkF m q ls (.long z :: st)))) : own_Out p e below P (T.setTop (mkF m pc ls (st))) := by
  subst hq; exact own_of (fun _ k => XS.lconst X.here hx rfl (hb hby hd) (by rw [hz]; exact k)) hr
theorem o_iand (X : Stand p l e R s m args below meth c T locs cells slots) (hx : p.tables.exec = Jvm.exec) (hby : c.code = bytes) {x y z : Int32} (hd : decode bytes pc = .ok (.iand, 1)) (hz : x &&& y = z) (hq : pc + 1 = q) (hr : own_Out p e below P (T.setTop (mkF m q ls (.int z :: st)))) : own_Out p e below P (T.setTop (mkF m pc ls (.int y :: .int x :: st))) := by
  subst hq; exact own_of (fun _ k => XS.iand X.here hx rfl (hb hby hd) rfl (by rw [hz]; exact k)) hr
theorem o_lcmp (X : Stand p l e R s m args below meth c T locs cells slots) (hx : p.tables.exec = Jvm.exec) (hby : c.code = bytes) {x y : Int64} (hd : decode bytes pc = .ok (.lcmp, 1))  (hq : pc + 1 = q) (hr : own_Out p e below P (T.setTop (mkF m q ls (.int (lcmpW x y) :: st)))) : own_Out p e below P (T.setTop (mkF m pc ls (.long y :: .long x :: st))) := by
  subst hq; exact own_of (fun _ k => XS.lcmp X.here hx rfl (hb hby hd) rfl k) hr
theorem o_goto (X : Stand p l e R s m args below meth c T locs cells slots) (hx : p.tables.exec = Jvm.exec) (hby : c.code = bytes) {o : Int} (hd : decode bytes pc = .ok (.goto o, 3))  (ho : 0 ≤ (pc : Int) + o) (hq : ((pc : Int) + o).toNat = q) (hr : own_Out p e below P (T.setTop (mkF m q ls (st)))) : own_Out p e below P (T.setTop (mkF m pc ls (st))) := by
  exact own_of (fun _ k => XS.goto X.here hx rfl rfl (hb hby hd) ho hq k) hr
theorem o_ifY (X : Stand p l e R s m args below meth c T locs cells slots) (hx : p.tables.exec = Jvm.exec) (hby : c.code = bytes) {cd : ClassFile.Cond} {x : Int32} {o : Int} (hd : decode bytes pc = .ok (.ifCond cd o, 3)) (hc : ifCond.holds cd x = true) (ho : 0 ≤ (pc : Int) + o) (hq : ((pc : Int) + o).toNat = q) (hr : own_Out p e below P (T.setTop (mkF m q ls (st)))) : own_Out p e below P (T.setTop (mkF m pc ls (.int x :: st))) := by
  exact own_of (fun _ k => XS.ifYes X.here hx rfl rfl (hb hby hd) rfl hc ho hq k) hr
theorem o_ifN (X : Stand p l e R s m args below meth c T locs cells slots) (hx : p.tables.exec = Jvm.exec) (hby : c.code = bytes) {cd : ClassFile.Cond} {x : Int32} {o : Int} (hd : decode bytes pc = .ok (.ifCond cd o, 3)) (hc : ifCond.holds cd x = false) (hq : pc + 3 = q) (hr : own_Out p e below P (T.setTop (mkF m q ls (st)))) : own_Out p e below P (T.setTop (mkF m pc ls (.int x :: st))) := by
  subst hq; exact own_of (fun _ k => XS.ifNo X.here hx rfl (hb hby hd) rfl hc k) hr
theorem o_icY (X : Stand p l e R s m args below meth c T locs cells slots) (hx : p.tables.exec = Jvm.exec) (hby : c.code = bytes) {cd : ClassFile.Cond} {x y : Int32} {o : Int} (hd : decode bytes pc = .ok (.if_icmp cd o, 3)) (hc : if_icmp.holds cd x y = true) (ho : 0 ≤ (pc : Int) + o) (hq : ((pc : Int) + o).toNat = q) (hr : own_Out p e below P (T.setTop (mkF m q ls (st)))) : own_Out p e below P (T.setTop (mkF m pc ls (.int y :: .int x :: st))) := by
  exact own_of (fun _ k => XS.icmpYes X.here hx rfl rfl (hb hby hd) rfl hc ho hq k) hr
theorem o_icN (X : Stand p l e R s m args below meth c T locs cells slots) (hx : p.tables.exec = Jvm.exec) (hby : c.code = bytes) {cd : ClassFile.Cond} {x y : Int32} {o : Int} (hd : decode bytes pc = .ok (.if_icmp cd o, 3)) (hc : if_icmp.holds cd x y = false) (hq : pc + 3 = q) (hr : own_Out p e below P (T.setTop (mkF m q ls (st)))) : own_Out p e below P (T.setTop (mkF m pc ls (.int y :: .int x :: st))) := by
  subst hq; exact own_of (fun _ k => XS.icmpNo X.here hx rfl (hb hby hd) rfl hc k) hr
variable {Z : State} {a0 : Array Value} {h : Heap}
variable {a : Addr} {k : ClassId} {z j : Int32} {vs : List Value} {dv v : Value} {ty : FieldType}
end Short
end Jvm.RoadKit
namespace Jvm.Pilot.@@N@@
open Jvm Jvm.ClassFile Sem Op Lib Jvm.Free Jvm.Stand Jvm.LawKit Jvm.RoadKit Bundle Jvm.Pilot.@@N@@.Jvm.D
theorem w_ {a0 : Array Value} {Z : State} (hw : ∀ d ∈ tables_1, d.before a0 Z = true) (i : Nat) {d : Jvm.Cond} (h : tables_1[i]? = some d) : d.before a0 Z = true := hw _ (List.mem_of_getElem? h)
section Dbl
open Jvm.FP.Core
abbrev rho (x : UInt64) : Int := zval b64 (val64 x)
theorem own_mul {x y V : UInt64} (hx : DFin x) (hy : DFin y) (hV : val64 V ≠ .nan) : (rho x * rho y ≤ rho V * (one64 : Int) → rho (dmul x y) ≤ rho V) ∧ (rho V * (one64 : Int) ≤ rho x * rho y → rho V ≤ rho (dmul x y)) := by
  obtain ⟨s, c, q, ex⟩ := hx
  obtain ⟨t, d, r, ey⟩ := hy
  have fx : Jvm.FP.Core.fits b64 (.fin s c q) := ex ▸ val64_fits x
  have fy : Jvm.FP.Core.fits b64 (.fin t d r) := ey ▸ val64_fits y
  obtain ⟨p1, p2, p3⟩ := product_units fx fy
  have e1 : val64 (dmul x y) = round b64 (.fin (s != t) (c * d) (q + r)) := by rw [val64_dmul, ex, ey, p1]
  have e2 : (2 ^ (b64.qmin - 2 * b64.qmin).toNat : Nat) = one64 := by decide +kernel
  have e3 : rho x * rho y = signed (s != t) (inUnits (c * d) (q + r) (2 * b64.qmin)) := by
    rw [p3, signed_xor]; show zval b64 (val64 x) * zval b64 (val64 y) = _; rw [ex, ey]; rfl
  refine ⟨fun h => ?_, fun h => ?_⟩
  · show zval b64 (val64 (dmul x y)) ≤ _
    rw [e1]
    refine zval_round_le good_b64 (val64_fits V) hV (e0 := 2 * b64.qmin) (by decide +kernel) p2 ?_
    rw [e2, ← e3]; exact h
  · show _ ≤ zval b64 (val64 (dmul x y))
    rw [e1]
    refine zval_round_ge good_b64 (val64_fits V) hV (e0 := 2 * b64.qmin) (by decide +kernel) p2 ?_
    rw [e2, ← e3]; exact h
theorem own_sg {s t : Bool} {zr zV xP vD : Nat} (hle : xP ≤ vD → zr ≤ zV) (hge : vD ≤ xP → zV ≤ zr) (hz : vD = 0 → zV = 0) : (signed s xP ≤ signed t vD → signed s zr ≤ signed t zV) ∧ (signed t vD ≤ signed s xP → signed t zV ≤ signed s zr) := by
  by_cases h1 : xP ≤ vD <;> by_cases h2 : vD ≤ xP <;> simp only [h1, h2, true_implies, false_implies] at hle hge <;> constructor <;> intro h <;> cases s <;> cases t <;> simp only [signed, if_true, Bool.false_eq_true, if_false] at h ⊢ <;> omega
theorem own_div {x K V : UInt64} {d : Nat} {r : Int} (hx : DFin x) (hK : val64 K = .fin false d r) (hd : 0 < d) (hr : r ≤ 0) (hV : val64 V ≠ .nan) : (rho x * ((2 ^ (-r).toNat : Nat) : Int) ≤ rho V * (d : Int) → rho (ddiv x K) ≤ rho V) ∧ (rho V * (d : Int) ≤ rho x * ((2 ^ (-r).toNat : Nat) : Int) → rho V ≤ rho (ddiv x K)) := by
  obtain ⟨s, c, q, ex⟩ := hx
  have fx : Jvm.FP.Core.fits b64 (.fin s c q) := ex ▸ val64_fits x
  have q0 := fx.2.1
  have e : val64 (ddiv x K) = roundRatio b64 s c d (q - r) := by
    rw [val64_ddiv, ex, hK]
    show (if d = 0 then _ else roundRatio b64 (s != false) c d (q - r)) = _
    rw [if_neg (by omega), Bool.bne_false]
  have hle := zmag_roundRatio_le good_b64 (s := s) (A := c) (B := d) (e := q - r) (e0 := b64.qmin) hd (val64_fits V) hV (Int.le_refl _) (by omega)
  have hge := zmag_roundRatio_ge good_b64 (s := s) (A := c) (B := d) (e := q - r) (e0 := b64.qmin) hd (val64_fits V) (Int.le_refl _) (by omega)
  have u : inUnits c (q - r) b64.qmin = zmag b64 (.fin s c q) * 2 ^ (-r).toNat := by
    show c * 2 ^ (q - r - b64.qmin).toNat = c * 2 ^ (q - b64.qmin).toNat * 2 ^ (-r).toNat
    rw [show (q - r - b64.qmin).toNat = (q - b64.qmin).toNat + (-r).toNat by omega, Nat.pow_add, Nat.mul_assoc]
  rw [u, Int.sub_self, show (2 : Nat) ^ (0 : Int).toNat = 1 from rfl, Nat.mul_one] at hle hge
  have g := own_sg (s := s) (t := sgn (val64 V)) hle hge (fun h => by rcases Nat.mul_eq_zero.mp h with h | h <;> omega)
  rw [signed_mul, signed_mul] at g
  have ex' : rho x = signed s (zmag b64 (.fin s c q)) := by show zval b64 (val64 x) = _; rw [ex]; rfl
  have er : rho (ddiv x K) = signed s (zmag b64 (roundRatio b64 s c d (q - r))) := by
    show zval b64 (val64 (ddiv x K)) = _; rw [e]; unfold zval; rw [sgn_roundRatio]
  rw [ex', er]; exact g
theorem own_l2d_ge {a : Int64} {V : UInt64} {k : Int} (hV : val64 V ≠ .nan) (e : rho V = k * (one64 : Int)) (h : k ≤ a.toInt) : rho V ≤ rho (l2d a) :=
  l2d_zval_ge hV (by show rho V ≤ _; rw [e]; exact Int.mul_le_mul_of_nonneg_right h (Int.natCast_nonneg _))
theorem own_l2d_le {a : Int64} {V : UInt64} {k : Int} (hV : val64 V ≠ .nan) (e : rho V = k * (one64 : Int)) (h : a.toInt ≤ k) : rho (l2d a) ≤ rho V :=
  l2d_zval_le hV (by show _ ≤ rho V; rw [e]; exact Int.mul_le_mul_of_nonneg_right h (Int.natCast_nonneg _))
theorem own_cmp (x y : UInt64) (o : CmpOp) (hx : val64 x ≠ .nan) (hy : val64 y ≠ .nan) : (rho x < rho y → cmpValue (Jvm.FP.dcmp x y) o = -1) ∧ (rho x = rho y → cmpValue (Jvm.FP.dcmp x y) o = 0) ∧ (rho y < rho x → cmpValue (Jvm.FP.dcmp x y) o = 1) := by
  refine ⟨fun h => ?_, fun h => ?_, fun h => ?_⟩
  · rw [show Jvm.FP.dcmp x y = some .lt from dcmp_lt.mpr ⟨hx, hy, h⟩]; cases o <;> rfl
  · rw [show Jvm.FP.dcmp x y = some .eq from dcmp_eq.mpr ⟨hx, hy, h⟩]; cases o <;> rfl
  · rw [show Jvm.FP.dcmp x y = some .gt from dcmp_gt.mpr ⟨hx, hy, h⟩]; cases o <;> rfl
theorem own_inf : val64 9218868437227405312 ≠ .nan := by decide +kernel
theorem own_rinf {x : UInt64} (h : DFin x) : rho x < rho 9218868437227405312 := (dcmp_lt.mp (fin_lt_inf h).1).2.2
theorem own_finV {x : UInt64} (hn : val64 x ≠ .nan) (h1 : rho x ≤ rho 9218868437227405311) (h2 : rho 18442240474082181119 ≤ rho x) : DFin x := by
  cases e : val64 x with
  | nan => exact absurd e hn
  | fin s c q => exact ⟨s, c, q, e⟩
  | inf s =>
    exfalso
    have e1 : rho x = signed s (b64.tails * 2 ^ (b64.exps - 2)) := by show zval b64 (val64 x) = _; rw [e]; rfl
    have a : rho 9218868437227405311 < ((b64.tails * 2 ^ (b64.exps - 2) : Nat) : Int) := by decide +kernel
    have b : -((b64.tails * 2 ^ (b64.exps - 2) : Nat) : Int) < rho 18442240474082181119 := by decide +kernel
    cases s <;> simp only [signed, if_true, Bool.false_eq_true, if_false] at e1 <;> omega
end Dbl

theorem d1_0 : decode prog_43_method_3_code 0 = .ok (.dload_n 0, 1) := by decide +kernel
theorem d1_1 : decode prog_43_method_3_code 1 = .ok (.dconst 0, 1) := by decide +kernel
theorem d1_2 : decode prog_43_method_3_code 2 = .ok (.dcmp .l, 1) := by decide +kernel
theorem d1_3 : decode prog_43_method_3_code 3 = .ok (.ifCond .lt 15, 3) := by decide +kernel
theorem d1_6 : decode prog_43_method_3_code 6 = .ok (.dload_n 0, 1) := by decide +kernel
theorem d1_7 : decode prog_43_method_3_code 7 = .ok (.ldc2_w 69, 3) := by decide +kernel
theorem d1_10 : decode prog_43_method_3_code 10 = .ok (.dcmp .g, 1) := by decide +kernel
theorem d1_11 : decode prog_43_method_3_code 11 = .ok (.ifCond .ge 7, 3) := by decide +kernel
theorem d1_14 : decode prog_43_method_3_code 14 = .ok (.iconst 1, 1) := by decide +kernel
theorem d1_15 : decode prog_43_method_3_code 15 = .ok (.goto 4, 3) := by decide +kernel
theorem d1_18 : decode prog_43_method_3_code 18 = .ok (.iconst 0, 1) := by decide +kernel
theorem d1_19 : decode prog_43_method_3_code 19 = .ok (.ireturn, 1) := by decide +kernel
theorem pn_0 : plainName "com/example/cliquefold/cliquefold/Modularity" = true := by first | (simp [plainName, overriddenIn]; done) | decide +kernel
theorem ef_1 (m : MethodId) (x0 : UInt64) : entryFrame m #[(.double x0)] 2 = mkF m 0 #[.val (.double x0), .second] [] := by first | (simp [entryFrame, mkF, argsToLocals, Value.category]; done) | rfl
def fres (d0 : UInt64) : Int32 := if (cmpValue (FP.dcmp d0 (0 : UInt64)) .l) < (0 : Int32) then (0 : Int32)
  else if (cmpValue (FP.dcmp d0 (9218868437227405312 : UInt64)) .g) < (0 : Int32) then (1 : Int32)
    else (0 : Int32)
def Q1 (Z : State) (d0 : UInt64) (h0 : Heap) (n0 : Nat) (v : Option Value) (h : Heap) (L : List Loc) : Prop := v = some (.int (fres d0)) ∧ Fr n0 L ∧ h = h0
set_option maxRecDepth 65536 in
set_option maxHeartbeats 40000000 in
theorem rm1 (l : Launch) (Z : State) (a0 : Array Value) (hw : ∀ d ∈ tables_1, d.before a0 Z = true) (ws : List Jvm.Cond) (d0 : UInt64) (h0 : Heap) (n0 : Nat) (Z0 : n0 ≤ h0.size) :
    MetFree l (⟨"com/example/cliquefold/cliquefold/Modularity", "isResolution", "(D)Z"⟩ : MethodName) (head1 (Jvm.Cond.code (⟨"com/example/cliquefold/cliquefold/Modularity", "isResolution", "(D)Z"⟩ : MethodName) prog_43_method_3_code 2 (some .boolean) :: ws) (⟨0, 0, 0, 0⟩ : Room)) (fun a U => a = #[(.double d0)] ∧ Z.Warmed39 U.vm ∧ U.heap = h0) (fun _ _ _ _ _ => True) (fun _ U o U' => ∃ v L, o = .returned v ∧ Q1 Z d0 h0 n0 v U'.heap L ∧ FrameEnd U o U' L (⟨0, 0, 0, 0⟩ : Room).cells (⟨0, 0, 0, 0⟩ : Room).slots) := by
  refine MetFree.of_bodySF (plainFor_of_name pn_0) hisR ?_
  intro p e s m args below meth c s₁ Bd hml0 hP hK
  obtain ⟨rfl, hZ, hh⟩ := hP
  have hx := Bd.exec
  have hby := Bd.bytes
  have hml : c.maxLocals = 2 := hml0
  have hown : s.vm.findClass "com/example/cliquefold/cliquefold/Modularity" = some m.cls := findClass_of_methodNamed Bd.named
  have hnm := (name_of_methodNamed Bd.named Bd.method).1
  have X0 : Stand p l e (⟨0, 0, 0, 0⟩ : Room) s m #[(.double d0)] below meth c s₁ [] 0 0 := Stand.of_body Bd
  have e0 : s₁.heap = h0 := by rw [← hh, Bd.state]; rfl
  have N0 := Fr.nil n0
  have hret := Bd.returns
  have hlk := BodyLoose.notSynchronized Bd
  show own_Out p e below (fun o U' => ∃ v L, o = .returned v ∧ Q1 Z d0 h0 n0 v U'.heap L ∧ FrameEnd s o U' L (⟨0, 0, 0, 0⟩ : Room).cells (⟨0, 0, 0, 0⟩ : Room).slots) (s₁.setTop (entryFrame m #[(.double d0)] 2))
  refine own_of (fun t k => castTop (ef_1 m d0) k) ?_
  show own_Out p e below _ (s₁.setTop (mkF m 0 #[.val (.double d0), .second] []))
  refine o_dloadN X0 hx hby d1_0 rfl (q := 1) rfl ?_
  refine own_of (fun _ k => XS.dconst0 X0.here hx rfl (v := (0 : UInt64)) (hb hby d1_1) (by decide +kernel) k) ?_
  show own_Out p e below _ (s₁.setTop (mkF m 2 #[.val (.double d0), .second] [.double (0 : UInt64), .double d0]))
  refine own_of (fun _ k => XS.dcmpS X0.here hx rfl (v := (cmpValue (FP.dcmp d0 (0 : UInt64)) .l)) (hb hby d1_2) rfl rfl k) ?_
  show own_Out p e below _ (s₁.setTop (mkF m 3 #[.val (.double d0), .second] [.int (cmpValue (FP.dcmp d0 (0 : UInt64)) .l)]))
  by_cases hc3_1 : (cmpValue (FP.dcmp d0 (0 : UInt64)) .l) < (0 : Int32)
  · skip
    refine o_ifY X0 hx hby d1_3 ((if0 _ _).trans (tlt hc3_1).1) (by decide) (q := 18) (by decide) ?_
    refine o_iconst X0 hx hby d1_18 (z := 0) rfl (q := 19) rfl ?_
    exact own_outN X0 hx hlk (t := .boolean) hret (by simp) (hb hby d1_19) (z' := (0 : Int32)) rfl (Q := Q1 Z d0 h0 n0) ⟨by simp only [fres, if_pos hc3_1], N0, e0⟩ (by decide) (by decide)
  · skip
    refine o_ifN X0 hx hby d1_3 ((if0 _ _).trans (flt hc3_1).1) (q := 6) rfl ?_
    refine o_dloadN X0 hx hby d1_6 rfl (q := 7) rfl ?_
    refine own_of (X0.ldc2DoubleC hx hown (mvT hZ (w_ hw 6 rfl)) (g := (mkF m 7 #[.val (.double d0), .second] [.double d0])) rfl (hb hby d1_7)) ?_
    show own_Out p e below _ (s₁.setTop (mkF m 10 #[.val (.double d0), .second] [.double (9218868437227405312 : UInt64), .double d0]))
    refine own_of (fun _ k => XS.dcmpS X0.here hx rfl (v := (cmpValue (FP.dcmp d0 (9218868437227405312 : UInt64)) .g)) (hb hby d1_10) rfl rfl k) ?_
    show own_Out p e below _ (s₁.setTop (mkF m 11 #[.val (.double d0), .second] [.int (cmpValue (FP.dcmp d0 (9218868437227405312 : UInt64)) .g)]))
    by_cases hc11_2 : (cmpValue (FP.dcmp d0 (9218868437227405312 : UInt64)) .g) < (0 : Int32)
    · skip
      refine o_ifN X0 hx hby d1_11 ((if0 _ _).trans (tlt hc11_2).2.1) (q := 14) rfl ?_
      refine o_iconst X0 hx hby d1_14 (z := 1) rfl (q := 15) rfl ?_
      refine o_goto X0 hx hby d1_15 (by decide) (q := 19) (by decide) ?_
      exact own_outN X0 hx hlk (t := .boolean) hret (by simp) (hb hby d1_19) (z' := (1 : Int32)) rfl (Q := Q1 Z d0 h0 n0) ⟨by simp only [fres, if_neg hc3_1, if_pos hc11_2], N0, e0⟩ (by decide) (by decide)
    · skip
      refine o_ifY X0 hx hby d1_11 ((if0 _ _).trans (flt hc11_2).2.1) (by decide) (q := 18) (by decide) ?_
      refine o_iconst X0 hx hby d1_18 (z := 0) rfl (q := 19) rfl ?_
      exact own_outN X0 hx hlk (t := .boolean) hret (by simp) (hb hby d1_19) (z' := (0 : Int32)) rfl (Q := Q1 Z d0 h0 n0) ⟨by simp only [fres, if_neg hc3_1, if_neg hc11_2], N0, e0⟩ (by decide) (by decide)
section Res
open Jvm.FP.Core
theorem own_res1 {x : UInt64} (hx : DFin x) (h : 0 ≤ rho x) : fres x = 1 := by
  have c0 := own_cmp x 0 .l hx.ne_nan (by decide +kernel)
  have c1 := (own_cmp x 9218868437227405312 .g hx.ne_nan own_inf).1 (own_rinf hx)
  have z : rho 0 = 0 := zval64_zero
  have e : cmpValue (Jvm.FP.dcmp x 0) .l = 0 ∨ cmpValue (Jvm.FP.dcmp x 0) .l = 1 := by
    rcases Int.lt_or_eq_of_le h with q | q
    · exact Or.inr (c0.2.2 (by rw [z]; exact q))
    · exact Or.inl (c0.2.1 (by rw [z]; exact q.symm))
  rcases e with e | e <;> simp only [fres, e, c1] <;> decide
theorem own_res0 {x : UInt64} (hx : val64 x ≠ .nan) (h : rho x < 0) : fres x = 0 := by
  have z : rho 0 = 0 := zval64_zero
  have c0 := (own_cmp x 0 .l hx (by decide +kernel)).1 (by rw [z]; exact h)
  simp only [fres, c0]; exact if_pos (by decide)
theorem own_l0 {a : Int64} (h : ¬ a < (0 : Int64)) : 0 ≤ rho (l2d a) := by
  have z : rho 0 = 0 := zval64_zero
  have n0 : (0 : Int64).toInt = 0 := rfl
  rw [Int64.lt_iff_toInt_lt] at h
  have q := own_l2d_ge (a := a) (V := 0) (k := 0) (by decide +kernel) (by rw [z, Int.zero_mul]) (by omega)
  rw [z] at q; exact q
theorem own_lm {a : Int64} (h : a < (0 : Int64)) : rho (l2d a) ≤ -(one64 : Int) := by
  have n0 : (0 : Int64).toInt = 0 := rfl
  rw [Int64.lt_iff_toInt_lt] at h
  have e : rho 13830554455654793216 = (-1) * (one64 : Int) := by decide +kernel
  have q := own_l2d_le (a := a) (V := 13830554455654793216) (k := -1) (by decide +kernel) e (by omega)
  rw [e] at q; omega
theorem own_one : (4503599627370496 : Int) ≤ (one64 : Int) := by decide +kernel
theorem own_k10 : val64 4652218415073722368 = .fin false (2 ^ 52) (-42) := by decide +kernel
theorem own_nn0 (a : Int64) : dIsNaN (ddiv (l2d a) 4652218415073722368) = false := ddiv_out (l2d_notNaN a) ⟨_, _, _, own_k10⟩ (by rw [zero_bits2]; decide)
theorem own_nn1 (a : Int64) : dIsNaN (dmul (l2d a) 1) = false := dmul_out (l2d_fin a) ⟨false, 1, b64.qmin, by decide +kernel⟩
theorem own_a1 {a : Int64} (h : ¬ a < (0 : Int64)) : fres (ddiv (l2d a) 4652218415073722368) = 1 := by
  have m := ddiv_mag (a := l2d a) (b := 4652218415073722368) (K := 1088) (L := 1033) (l2d_mag a) (by decide) (by decide) (by decide) (by decide)
  refine own_res1 (fin_of_lt m (by decide)) ?_
  have z : rho 0 = 0 := zval64_zero
  have q := (own_div (x := l2d a) (V := 0) (l2d_fin a) own_k10 (by decide) (by decide) (by decide +kernel)).2
  rw [z, Int.zero_mul] at q
  exact q (Int.mul_nonneg (own_l0 h) (Int.natCast_nonneg _))
theorem own_a0 {a : Int64} (h : a < (0 : Int64)) : fres (ddiv (l2d a) 4652218415073722368) = 0 := by
  refine own_res0 ((notNaN_iff _).mp (own_nn0 a)) ?_
  have e : rho 9223372036854775809 = -1 := by decide +kernel
  have q := (own_div (x := l2d a) (V := 9223372036854775809) (l2d_fin a) own_k10 (by decide) (by decide) (by decide +kernel)).1
  rw [e, show ((2 ^ (-(-42 : Int)).toNat : Nat) : Int) = 4398046511104 by decide, show ((2 ^ 52 : Nat) : Int) = 4503599627370496 by decide] at q
  have l := own_lm h
  have o := own_one
  have q' := q (by omega)
  omega
theorem own_r1 : rho 1 = 1 := by decide +kernel
theorem own_b1 {a : Int64} (h : ¬ a < (0 : Int64)) : fres (dmul (l2d a) 1) = 1 := by
  have m := dmul_mag (a := l2d a) (b := 1) (Ka := 1088) (Kb := 1) (l2d_mag a) (by decide) (by decide) (by decide)
  refine own_res1 (fin_of_lt m (by decide)) ?_
  have z : rho 0 = 0 := zval64_zero
  have q := (own_mul (x := l2d a) (y := 1) (V := 0) (l2d_fin a) ⟨false, 1, b64.qmin, by decide +kernel⟩ (by decide +kernel)).2
  rw [z, Int.zero_mul, own_r1, Int.mul_one] at q
  exact q (own_l0 h)
theorem own_b0 {a : Int64} (h : a < (0 : Int64)) : fres (dmul (l2d a) 1) = 0 := by
  refine own_res0 ((notNaN_iff _).mp (own_nn1 a)) ?_
  have e : rho 9223372036854775809 = -1 := by decide +kernel
  have q := (own_mul (x := l2d a) (y := 1) (V := 9223372036854775809) (l2d_fin a) ⟨false, 1, b64.qmin, by decide +kernel⟩ (by decide +kernel)).1
  rw [e, own_r1, Int.mul_one] at q
  have q' := q (by have l := own_lm h; omega)
  omega
theorem own_c1 {a : Int64} (h : ¬ a < (0 : Int64)) : fres (l2d a) = 1 := own_res1 (l2d_fin a) (own_l0 h)
theorem own_c0 {a : Int64} (h : a < (0 : Int64)) : fres (l2d a) = 0 := own_res0 (l2d_fin a).ne_nan (by have l := own_lm h; have o := own_one; omega)
end Res
theorem pd_0 : parseMethodDescriptor "(D)Z" = some ⟨[.double], some .boolean⟩ := by decide +kernel
theorem pn_1 : plainName "com/example/cliquefold/cliquefold/ModularityIsResolutionPinLaw" = true := by first | (simp [plainName, overriddenIn]; done) | decide +kernel
theorem ef_0 (m : MethodId) (x0 : Int32) (x1 : Int64) : entryFrame m #[(.int x0), (.long x1)] maxLocals = mkF m 0 #[.val (.int x0), .val (.long x1), .second, .unset, .unset, .unset, .unset, .unset, .unset] [] := by first | (simp [entryFrame, mkF, argsToLocals, Value.category, maxLocals]; done) | rfl
theorem dead0_0 (p0 : Int32) (q1 : Int64) (hc11_1 : (p0 &&& (7 : Int32)) = (0 : Int32)) (hc25_2 : q1 < (0 : Int64)) (hc177_4 : ¬ ((fres (FP.ddiv (FP.l2d q1) (4652218415073722368 : UInt64))) = (0 : Int32))) : False := by
  exact hc177_4 (own_a0 hc25_2)
theorem dead0_1 (p0 : Int32) (q1 : Int64) (hc11_1 : (p0 &&& (7 : Int32)) = (0 : Int32)) (hc25_2 : ¬ (q1 < (0 : Int64))) (hc177_6 : ¬ ((fres (FP.ddiv (FP.l2d q1) (4652218415073722368 : UInt64))) = (1 : Int32))) : False := by
  exact hc177_6 (own_a1 hc25_2)
theorem dead0_2 (p0 : Int32) (q1 : Int64) (hc11_1 : ¬ ((p0 &&& (7 : Int32)) = (0 : Int32))) (hc40_7 : (p0 &&& (7 : Int32)) = (1 : Int32)) (hc54_8 : q1 < (0 : Int64)) (hc177_10 : ¬ ((fres (FP.dmul (FP.l2d q1) (1 : UInt64))) = (0 : Int32))) : False := by
  exact hc177_10 (own_b0 hc54_8)
theorem dead0_3 (p0 : Int32) (q1 : Int64) (hc11_1 : ¬ ((p0 &&& (7 : Int32)) = (0 : Int32))) (hc40_7 : (p0 &&& (7 : Int32)) = (1 : Int32)) (hc54_8 : ¬ (q1 < (0 : Int64))) (hc177_12 : ¬ ((fres (FP.dmul (FP.l2d q1) (1 : UInt64))) = (1 : Int32))) : False := by
  exact hc177_12 (own_b1 hc54_8)
theorem dead0_4 (p0 : Int32) (q1 : Int64) (hc11_1 : ¬ ((p0 &&& (7 : Int32)) = (0 : Int32))) (hc40_7 : ¬ ((p0 &&& (7 : Int32)) = (1 : Int32))) (hc69_13 : (p0 &&& (7 : Int32)) = (2 : Int32)) (hc177_15 : ¬ ((fres (9223372036854775808 : UInt64)) = (1 : Int32))) : False := by
  apply hc177_15
  decide +kernel
theorem dead0_5 (p0 : Int32) (q1 : Int64) (hc11_1 : ¬ ((p0 &&& (7 : Int32)) = (0 : Int32))) (hc40_7 : ¬ ((p0 &&& (7 : Int32)) = (1 : Int32))) (hc69_13 : ¬ ((p0 &&& (7 : Int32)) = (2 : Int32))) (hc85_16 : (p0 &&& (7 : Int32)) = (3 : Int32)) (hc177_18 : ¬ ((fres (9218868437227405312 : UInt64)) = (0 : Int32))) : False := by
  apply hc177_18
  decide +kernel
theorem dead0_6 (p0 : Int32) (q1 : Int64) (hc11_1 : ¬ ((p0 &&& (7 : Int32)) = (0 : Int32))) (hc40_7 : ¬ ((p0 &&& (7 : Int32)) = (1 : Int32))) (hc69_13 : ¬ ((p0 &&& (7 : Int32)) = (2 : Int32))) (hc85_16 : ¬ ((p0 &&& (7 : Int32)) = (3 : Int32))) (hc103_19 : (p0 &&& (7 : Int32)) = (4 : Int32)) (hc177_21 : ¬ ((fres (18442240474082181120 : UInt64)) = (0 : Int32))) : False := by
  apply hc177_21
  decide +kernel
theorem dead0_7 (p0 : Int32) (q1 : Int64) (hc11_1 : ¬ ((p0 &&& (7 : Int32)) = (0 : Int32))) (hc40_7 : ¬ ((p0 &&& (7 : Int32)) = (1 : Int32))) (hc69_13 : ¬ ((p0 &&& (7 : Int32)) = (2 : Int32))) (hc85_16 : ¬ ((p0 &&& (7 : Int32)) = (3 : Int32))) (hc103_19 : ¬ ((p0 &&& (7 : Int32)) = (4 : Int32))) (hc122_22 : (p0 &&& (7 : Int32)) = (5 : Int32)) (hc177_24 : ¬ ((fres (9218868437227405311 : UInt64)) = (1 : Int32))) : False := by
  apply hc177_24
  decide +kernel
theorem dead0_8 (p0 : Int32) (q1 : Int64) (hc11_1 : ¬ ((p0 &&& (7 : Int32)) = (0 : Int32))) (hc40_7 : ¬ ((p0 &&& (7 : Int32)) = (1 : Int32))) (hc69_13 : ¬ ((p0 &&& (7 : Int32)) = (2 : Int32))) (hc85_16 : ¬ ((p0 &&& (7 : Int32)) = (3 : Int32))) (hc103_19 : ¬ ((p0 &&& (7 : Int32)) = (4 : Int32))) (hc122_22 : ¬ ((p0 &&& (7 : Int32)) = (5 : Int32))) (hc139_25 : (p0 &&& (7 : Int32)) = (6 : Int32)) (hc177_27 : ¬ ((fres (18442240474082181119 : UInt64)) = (0 : Int32))) : False := by
  apply hc177_27
  decide +kernel
theorem dead0_9 (p0 : Int32) (q1 : Int64) (hc11_1 : ¬ ((p0 &&& (7 : Int32)) = (0 : Int32))) (hc40_7 : ¬ ((p0 &&& (7 : Int32)) = (1 : Int32))) (hc69_13 : ¬ ((p0 &&& (7 : Int32)) = (2 : Int32))) (hc85_16 : ¬ ((p0 &&& (7 : Int32)) = (3 : Int32))) (hc103_19 : ¬ ((p0 &&& (7 : Int32)) = (4 : Int32))) (hc122_22 : ¬ ((p0 &&& (7 : Int32)) = (5 : Int32))) (hc139_25 : ¬ ((p0 &&& (7 : Int32)) = (6 : Int32))) (hc160_28 : q1 < (0 : Int64)) (hc177_30 : ¬ ((fres (FP.l2d q1)) = (0 : Int32))) : False := by
  exact hc177_30 (own_c0 hc160_28)
theorem dead0_10 (p0 : Int32) (q1 : Int64) (hc11_1 : ¬ ((p0 &&& (7 : Int32)) = (0 : Int32))) (hc40_7 : ¬ ((p0 &&& (7 : Int32)) = (1 : Int32))) (hc69_13 : ¬ ((p0 &&& (7 : Int32)) = (2 : Int32))) (hc85_16 : ¬ ((p0 &&& (7 : Int32)) = (3 : Int32))) (hc103_19 : ¬ ((p0 &&& (7 : Int32)) = (4 : Int32))) (hc122_22 : ¬ ((p0 &&& (7 : Int32)) = (5 : Int32))) (hc139_25 : ¬ ((p0 &&& (7 : Int32)) = (6 : Int32))) (hc160_28 : ¬ (q1 < (0 : Int64))) (hc177_32 : ¬ ((fres (FP.l2d q1)) = (1 : Int32))) : False := by
  exact hc177_32 (own_c1 hc160_28)
def Q0 (Z : State) (p0 : Int32) (q1 : Int64) (h0 : Heap) (n0 : Nat) (v : Option Value) (h : Heap) (L : List Loc) : Prop := v = some (.int 1) ∧ Fr n0 L
set_option maxRecDepth 65536 in
set_option maxHeartbeats 40000000 in
theorem rm0 (l : Launch) (Z : State) (a0 : Array Value) (hw : ∀ d ∈ tables_1, d.before a0 Z = true) (ws : List Jvm.Cond) (p0 : Int32) (q1 : Int64) (h0 : Heap) (n0 : Nat) (Z0 : n0 ≤ h0.size) :
    MetFree l x (head1 (Jvm.Cond.code x code maxLocals ret :: ws) room_1) (fun a U => a = #[(.int p0), (.long q1)] ∧ Z.Warmed39 U.vm ∧ U.heap = h0) (fun _ _ _ _ _ => True) (fun _ U o U' => ∃ v L, o = .returned v ∧ Q0 Z p0 q1 h0 n0 v U'.heap L ∧ FrameEnd U o U' L 0 0) := by
  refine MetFree.of_bodySF (plainFor_of_name pn_1) hisR ?_
  intro p e s m args below meth c s₁ Bd hml0 hP hK
  obtain ⟨rfl, hZ, hh⟩ := hP
  have hx := Bd.exec
  have hby := Bd.bytes
  have hml : c.maxLocals = 9 := hml0
  have hown : s.vm.findClass "com/example/cliquefold/cliquefold/ModularityIsResolutionPinLaw" = some m.cls := findClass_of_methodNamed Bd.named
  have hnm := (name_of_methodNamed Bd.named Bd.method).1
  have X0 : Stand p l e room_1 s m #[(.int p0), (.long q1)] below meth c s₁ [] 0 0 := Stand.of_body Bd
  have e0 : s₁.heap = h0 := by rw [← hh, Bd.state]; rfl
  have N0 := Fr.nil n0
  have hret := Bd.returns
  have hlk := BodyLoose.notSynchronized Bd
  show own_Out p e below (fun o U' => ∃ v L, o = .returned v ∧ Q0 Z p0 q1 h0 n0 v U'.heap L ∧ FrameEnd s o U' L 0 0) (s₁.setTop (entryFrame m #[(.int p0), (.long q1)] maxLocals))
  refine own_of (fun t k => castTop (ef_0 m p0 q1) k) ?_
  show own_Out p e below _ (s₁.setTop (mkF m 0 #[iv p0, .val (.long q1), .second, .unset, .unset, .unset, .unset, .unset, .unset] []))
  refine o_iloadN X0 hx hby at_0 rfl (q := 1) rfl ?_
  refine o_bipush X0 hx hby at_1 (z := 7) rfl (q := 3) rfl ?_
  refine o_iand X0 hx hby at_3 rfl (q := 4) rfl ?_
  refine o_istoreN X0 hx hby at_4 (l' := #[iv p0, .val (.long q1), .second, iv (p0 &&& (7 : Int32)), .unset, .unset, .unset, .unset, .unset]) rfl (q := 5) rfl ?_
  refine own_of (X0.ldc2DoubleC hx hown (mvT hZ (w_ hw 0 rfl)) (g := (mkF m 5 #[iv p0, .val (.long q1), .second, iv (p0 &&& (7 : Int32)), .unset, .unset, .unset, .unset, .unset] [])) rfl (hb hby at_5)) ?_
  show own_Out p e below _ (s₁.setTop (mkF m 8 #[iv p0, .val (.long q1), .second, iv (p0 &&& (7 : Int32)), .unset, .unset, .unset, .unset, .unset] [.double (9094988921128908188 : UInt64)]))
  refine o_dstore X0 hx hby at_8 (l' := #[iv p0, .val (.long q1), .second, iv (p0 &&& (7 : Int32)), .val (.double (9094988921128908188 : UInt64)), .second, .unset, .unset, .unset]) rfl (q := 10) rfl ?_
  refine o_iloadN X0 hx hby at_10 rfl (q := 11) rfl ?_
  by_cases hc11_1 : (p0 &&& (7 : Int32)) = (0 : Int32)
  · skip
    refine o_ifN X0 hx hby at_11 ((if0 _ _).trans (teq hc11_1).2) (q := 14) rfl ?_
    refine o_lloadN X0 hx hby at_14 rfl (q := 15) rfl ?_
    refine own_of (fun _ k => XS.l2dS X0.here hx rfl (v := (FP.l2d q1)) (hb hby at_15) rfl rfl k) ?_
    show own_Out p e below _ (s₁.setTop (mkF m 16 #[iv p0, .val (.long q1), .second, iv (p0 &&& (7 : Int32)), .val (.double (9094988921128908188 : UInt64)), .second, .unset, .unset, .unset] [.double (FP.l2d q1)]))
    refine own_of (X0.ldc2DoubleC hx hown (mvT hZ (w_ hw 1 rfl)) (g := (mkF m 16 #[iv p0, .val (.long q1), .second, iv (p0 &&& (7 : Int32)), .val (.double (9094988921128908188 : UInt64)), .second, .unset, .unset, .unset] [.double (FP.l2d q1)])) rfl (hb hby at_16)) ?_
    show own_Out p e below _ (s₁.setTop (mkF m 19 #[iv p0, .val (.long q1), .second, iv (p0 &&& (7 : Int32)), .val (.double (9094988921128908188 : UInt64)), .second, .unset, .unset, .unset] [.double (4652218415073722368 : UInt64), .double (FP.l2d q1)]))
    refine own_of (fun _ k => XS.ddivS X0.here hx rfl (v := (FP.ddiv (FP.l2d q1) (4652218415073722368 : UInt64))) (hb hby at_19) rfl (Jvm.Free.Fl.noNaN64_no.mpr (own_nn0 q1)) rfl k) ?_
    show own_Out p e below _ (s₁.setTop (mkF m 20 #[iv p0, .val (.long q1), .second, iv (p0 &&& (7 : Int32)), .val (.double (9094988921128908188 : UInt64)), .second, .unset, .unset, .unset] [.double (FP.ddiv (FP.l2d q1) (4652218415073722368 : UInt64))]))
    refine o_dstore X0 hx hby at_20 (l' := #[iv p0, .val (.long q1), .second, iv (p0 &&& (7 : Int32)), .val (.double (9094988921128908188 : UInt64)), .second, .val (.double (FP.ddiv (FP.l2d q1) (4652218415073722368 : UInt64))), .second, .unset]) rfl (q := 22) rfl ?_
    refine o_lloadN X0 hx hby at_22 rfl (q := 23) rfl ?_
    refine o_lconst X0 hx hby at_23 (z := 0) rfl (q := 24) rfl ?_
    refine o_lcmp X0 hx hby at_24 (q := 25) rfl ?_
    by_cases hc25_2 : q1 < (0 : Int64)
    · skip
      refine o_ifY X0 hx hby at_25 (own_ltlt hc25_2).1 (by decide) (q := 32) (by decide) ?_
      refine o_iconst X0 hx hby at_32 (z := 0) rfl (q := 33) rfl ?_
      refine o_istore X0 hx hby at_33 (l' := #[iv p0, .val (.long q1), .second, iv (p0 &&& (7 : Int32)), .val (.double (9094988921128908188 : UInt64)), .second, .val (.double (FP.ddiv (FP.l2d q1) (4652218415073722368 : UInt64))), .second, iv 0]) rfl (q := 35) rfl ?_
      refine o_goto X0 hx hby at_35 (by decide) (q := 170) (by decide) ?_
      refine o_dload X0 hx hby at_170 rfl (q := 172) rfl ?_
      obtain ⟨_, _, ⟨T3, L3, k3, n3⟩, -, X3, ⟨Lc3, hQ3, l3, y3, z3⟩, st3⟩ := Jvm.LawKit.callS X0 hx (y := (⟨"com/example/cliquefold/cliquefold/Modularity", "isResolution", "(D)Z"⟩ : MethodName)) hown (mvT hZ (w_ hw 2 rfl)) (mvT hZ (w_ hw 3 rfl)) (mvT hZ (w_ hw 4 rfl)) (mvT hZ (w_ hw 5 rfl)) (by decide) (backOf (W := 0) (rm1 l Z a0 hw [] (FP.ddiv (FP.l2d q1) (4652218415073722368 : UInt64)) h0 n0 Z0 ) hZ (w_ hw 5 rfl) (w_ hw 4 rfl) (by decide) (by decide)) (g := (mkF m 172 #[iv p0, .val (.long q1), .second, iv (p0 &&& (7 : Int32)), .val (.double (9094988921128908188 : UInt64)), .second, .val (.double (FP.ddiv (FP.l2d q1) (4652218415073722368 : UInt64))), .second, iv 0] [.double (FP.ddiv (FP.l2d q1) (4652218415073722368 : UInt64))])) rfl (by rw [hml]; rfl) (argsL := [(.double (FP.ddiv (FP.l2d q1) (4652218415073722368 : UInt64)))]) (rest := []) (lenOf pd_0 rfl) rfl (by show 2 * 0 + _ ≤ _; exact Nat.le_of_eq rfl) (hb hby at_172) (fun _ _ => ⟨rfl, e0, (by decide : 0 + 0 ≤ _), (by decide : 0 + 0 ≤ _)⟩)
      dsimp only [Pt.U, Pt.locs, Pt.cells, Pt.slots] at X3 l3 y3 z3 st3 hQ3
      subst l3 y3 z3
      obtain ⟨rfl, N3q, hh3⟩ := hQ3
      have N3 := Fr.app N0 N3q
      refine own_of st3 ?_
      show own_Out p e below _ (T3.setTop (mkF m 175 #[iv p0, .val (.long q1), .second, iv (p0 &&& (7 : Int32)), .val (.double (9094988921128908188 : UInt64)), .second, .val (.double (FP.ddiv (FP.l2d q1) (4652218415073722368 : UInt64))), .second, iv 0] [.int (fres (FP.ddiv (FP.l2d q1) (4652218415073722368 : UInt64)))]))
      refine o_iload X3 hx hby at_175 rfl (q := 177) rfl ?_
      by_cases hc177_4 : (fres (FP.ddiv (FP.l2d q1) (4652218415073722368 : UInt64))) = (0 : Int32)
      · skip
        refine o_icN X3 hx hby at_177 (teq hc177_4).2 (q := 180) rfl ?_
        refine o_iconst X3 hx hby at_180 (z := 1) rfl (q := 181) rfl ?_
        refine o_goto X3 hx hby at_181 (by decide) (q := 185) (by decide) ?_
        exact own_outN X3 hx hlk (t := .boolean) hret (by simp) (hb hby at_185) (z' := (1 : Int32)) rfl (Q := Q0 Z p0 q1 h0 n0) ⟨rfl, N3⟩ (by decide) (by decide)
      · skip
        refine o_icY X3 hx hby at_177 (feq hc177_4).2 (by decide) (q := 184) (by decide) ?_
        refine o_iconst X3 hx hby at_184 (z := 0) rfl (q := 185) rfl ?_
        exact (dead0_0 p0 q1 hc11_1 hc25_2 hc177_4).elim
    · skip
      refine o_ifN X0 hx hby at_25 (own_lflt hc25_2).1 (q := 28) rfl ?_
      refine o_iconst X0 hx hby at_28 (z := 1) rfl (q := 29) rfl ?_
      refine o_goto X0 hx hby at_29 (by decide) (q := 33) (by decide) ?_
      refine o_istore X0 hx hby at_33 (l' := #[iv p0, .val (.long q1), .second, iv (p0 &&& (7 : Int32)), .val (.double (9094988921128908188 : UInt64)), .second, .val (.double (FP.ddiv (FP.l2d q1) (4652218415073722368 : UInt64))), .second, iv 1]) rfl (q := 35) rfl ?_
      refine o_goto X0 hx hby at_35 (by decide) (q := 170) (by decide) ?_
      refine o_dload X0 hx hby at_170 rfl (q := 172) rfl ?_
      obtain ⟨_, _, ⟨T5, L5, k5, n5⟩, -, X5, ⟨Lc5, hQ5, l5, y5, z5⟩, st5⟩ := Jvm.LawKit.callS X0 hx (y := (⟨"com/example/cliquefold/cliquefold/Modularity", "isResolution", "(D)Z"⟩ : MethodName)) hown (mvT hZ (w_ hw 2 rfl)) (mvT hZ (w_ hw 3 rfl)) (mvT hZ (w_ hw 4 rfl)) (mvT hZ (w_ hw 5 rfl)) (by decide) (backOf (W := 0) (rm1 l Z a0 hw [] (FP.ddiv (FP.l2d q1) (4652218415073722368 : UInt64)) h0 n0 Z0 ) hZ (w_ hw 5 rfl) (w_ hw 4 rfl) (by decide) (by decide)) (g := (mkF m 172 #[iv p0, .val (.long q1), .second, iv (p0 &&& (7 : Int32)), .val (.double (9094988921128908188 : UInt64)), .second, .val (.double (FP.ddiv (FP.l2d q1) (4652218415073722368 : UInt64))), .second, iv 1] [.double (FP.ddiv (FP.l2d q1) (4652218415073722368 : UInt64))])) rfl (by rw [hml]; rfl) (argsL := [(.double (FP.ddiv (FP.l2d q1) (4652218415073722368 : UInt64)))]) (rest := []) (lenOf pd_0 rfl) rfl (by show 2 * 0 + _ ≤ _; exact Nat.le_of_eq rfl) (hb hby at_172) (fun _ _ => ⟨rfl, e0, (by decide : 0 + 0 ≤ _), (by decide : 0 + 0 ≤ _)⟩)
      dsimp only [Pt.U, Pt.locs, Pt.cells, Pt.slots] at X5 l5 y5 z5 st5 hQ5
      subst l5 y5 z5
      obtain ⟨rfl, N5q, hh5⟩ := hQ5
      have N5 := Fr.app N0 N5q
      refine own_of st5 ?_
      show own_Out p e below _ (T5.setTop (mkF m 175 #[iv p0, .val (.long q1), .second, iv (p0 &&& (7 : Int32)), .val (.double (9094988921128908188 : UInt64)), .second, .val (.double (FP.ddiv (FP.l2d q1) (4652218415073722368 : UInt64))), .second, iv 1] [.int (fres (FP.ddiv (FP.l2d q1) (4652218415073722368 : UInt64)))]))
      refine o_iload X5 hx hby at_175 rfl (q := 177) rfl ?_
      by_cases hc177_6 : (fres (FP.ddiv (FP.l2d q1) (4652218415073722368 : UInt64))) = (1 : Int32)
      · skip
        refine o_icN X5 hx hby at_177 (teq hc177_6).2 (q := 180) rfl ?_
        refine o_iconst X5 hx hby at_180 (z := 1) rfl (q := 181) rfl ?_
        refine o_goto X5 hx hby at_181 (by decide) (q := 185) (by decide) ?_
        exact own_outN X5 hx hlk (t := .boolean) hret (by simp) (hb hby at_185) (z' := (1 : Int32)) rfl (Q := Q0 Z p0 q1 h0 n0) ⟨rfl, N5⟩ (by decide) (by decide)
      · skip
        refine o_icY X5 hx hby at_177 (feq hc177_6).2 (by decide) (q := 184) (by decide) ?_
        refine o_iconst X5 hx hby at_184 (z := 0) rfl (q := 185) rfl ?_
        exact (dead0_1 p0 q1 hc11_1 hc25_2 hc177_6).elim
  · skip
    refine o_ifY X0 hx hby at_11 ((if0 _ _).trans (feq hc11_1).2) (by decide) (q := 38) (by decide) ?_
    refine o_iloadN X0 hx hby at_38 rfl (q := 39) rfl ?_
    refine o_iconst X0 hx hby at_39 (z := 1) rfl (q := 40) rfl ?_
    by_cases hc40_7 : (p0 &&& (7 : Int32)) = (1 : Int32)
    · skip
      refine o_icN X0 hx hby at_40 (teq hc40_7).2 (q := 43) rfl ?_
      refine o_lloadN X0 hx hby at_43 rfl (q := 44) rfl ?_
      refine own_of (fun _ k => XS.l2dS X0.here hx rfl (v := (FP.l2d q1)) (hb hby at_44) rfl rfl k) ?_
      show own_Out p e below _ (s₁.setTop (mkF m 45 #[iv p0, .val (.long q1), .second, iv (p0 &&& (7 : Int32)), .val (.double (9094988921128908188 : UInt64)), .second, .unset, .unset, .unset] [.double (FP.l2d q1)]))
      refine own_of (X0.ldc2DoubleC hx hown (mvT hZ (w_ hw 7 rfl)) (g := (mkF m 45 #[iv p0, .val (.long q1), .second, iv (p0 &&& (7 : Int32)), .val (.double (9094988921128908188 : UInt64)), .second, .unset, .unset, .unset] [.double (FP.l2d q1)])) rfl (hb hby at_45)) ?_
      show own_Out p e below _ (s₁.setTop (mkF m 48 #[iv p0, .val (.long q1), .second, iv (p0 &&& (7 : Int32)), .val (.double (9094988921128908188 : UInt64)), .second, .unset, .unset, .unset] [.double (1 : UInt64), .double (FP.l2d q1)]))
      refine own_of (fun _ k => XS.dmulS X0.here hx rfl (v := (FP.dmul (FP.l2d q1) (1 : UInt64))) (hb hby at_48) rfl (Jvm.Free.Fl.noNaN64_no.mpr (own_nn1 q1)) rfl k) ?_
      show own_Out p e below _ (s₁.setTop (mkF m 49 #[iv p0, .val (.long q1), .second, iv (p0 &&& (7 : Int32)), .val (.double (9094988921128908188 : UInt64)), .second, .unset, .unset, .unset] [.double (FP.dmul (FP.l2d q1) (1 : UInt64))]))
      refine o_dstore X0 hx hby at_49 (l' := #[iv p0, .val (.long q1), .second, iv (p0 &&& (7 : Int32)), .val (.double (9094988921128908188 : UInt64)), .second, .val (.double (FP.dmul (FP.l2d q1) (1 : UInt64))), .second, .unset]) rfl (q := 51) rfl ?_
      refine o_lloadN X0 hx hby at_51 rfl (q := 52) rfl ?_
      refine o_lconst X0 hx hby at_52 (z := 0) rfl (q := 53) rfl ?_
      refine o_lcmp X0 hx hby at_53 (q := 54) rfl ?_
      by_cases hc54_8 : q1 < (0 : Int64)
      · skip
        refine o_ifY X0 hx hby at_54 (own_ltlt hc54_8).1 (by decide) (q := 61) (by decide) ?_
        refine o_iconst X0 hx hby at_61 (z := 0) rfl (q := 62) rfl ?_
        refine o_istore X0 hx hby at_62 (l' := #[iv p0, .val (.long q1), .second, iv (p0 &&& (7 : Int32)), .val (.double (9094988921128908188 : UInt64)), .second, .val (.double (FP.dmul (FP.l2d q1) (1 : UInt64))), .second, iv 0]) rfl (q := 64) rfl ?_
        refine o_goto X0 hx hby at_64 (by decide) (q := 170) (by decide) ?_
        refine o_dload X0 hx hby at_170 rfl (q := 172) rfl ?_
        obtain ⟨_, _, ⟨T9, L9, k9, n9⟩, -, X9, ⟨Lc9, hQ9, l9, y9, z9⟩, st9⟩ := Jvm.LawKit.callS X0 hx (y := (⟨"com/example/cliquefold/cliquefold/Modularity", "isResolution", "(D)Z"⟩ : MethodName)) hown (mvT hZ (w_ hw 2 rfl)) (mvT hZ (w_ hw 3 rfl)) (mvT hZ (w_ hw 4 rfl)) (mvT hZ (w_ hw 5 rfl)) (by decide) (backOf (W := 0) (rm1 l Z a0 hw [] (FP.dmul (FP.l2d q1) (1 : UInt64)) h0 n0 Z0 ) hZ (w_ hw 5 rfl) (w_ hw 4 rfl) (by decide) (by decide)) (g := (mkF m 172 #[iv p0, .val (.long q1), .second, iv (p0 &&& (7 : Int32)), .val (.double (9094988921128908188 : UInt64)), .second, .val (.double (FP.dmul (FP.l2d q1) (1 : UInt64))), .second, iv 0] [.double (FP.dmul (FP.l2d q1) (1 : UInt64))])) rfl (by rw [hml]; rfl) (argsL := [(.double (FP.dmul (FP.l2d q1) (1 : UInt64)))]) (rest := []) (lenOf pd_0 rfl) rfl (by show 2 * 0 + _ ≤ _; exact Nat.le_of_eq rfl) (hb hby at_172) (fun _ _ => ⟨rfl, e0, (by decide : 0 + 0 ≤ _), (by decide : 0 + 0 ≤ _)⟩)
        dsimp only [Pt.U, Pt.locs, Pt.cells, Pt.slots] at X9 l9 y9 z9 st9 hQ9
        subst l9 y9 z9
        obtain ⟨rfl, N9q, hh9⟩ := hQ9
        have N9 := Fr.app N0 N9q
        refine own_of st9 ?_
        show own_Out p e below _ (T9.setTop (mkF m 175 #[iv p0, .val (.long q1), .second, iv (p0 &&& (7 : Int32)), .val (.double (9094988921128908188 : UInt64)), .second, .val (.double (FP.dmul (FP.l2d q1) (1 : UInt64))), .second, iv 0] [.int (fres (FP.dmul (FP.l2d q1) (1 : UInt64)))]))
        refine o_iload X9 hx hby at_175 rfl (q := 177) rfl ?_
        by_cases hc177_10 : (fres (FP.dmul (FP.l2d q1) (1 : UInt64))) = (0 : Int32)
        · skip
          refine o_icN X9 hx hby at_177 (teq hc177_10).2 (q := 180) rfl ?_
          refine o_iconst X9 hx hby at_180 (z := 1) rfl (q := 181) rfl ?_
          refine o_goto X9 hx hby at_181 (by decide) (q := 185) (by decide) ?_
          exact own_outN X9 hx hlk (t := .boolean) hret (by simp) (hb hby at_185) (z' := (1 : Int32)) rfl (Q := Q0 Z p0 q1 h0 n0) ⟨rfl, N9⟩ (by decide) (by decide)
        · skip
          refine o_icY X9 hx hby at_177 (feq hc177_10).2 (by decide) (q := 184) (by decide) ?_
          refine o_iconst X9 hx hby at_184 (z := 0) rfl (q := 185) rfl ?_
          exact (dead0_2 p0 q1 hc11_1 hc40_7 hc54_8 hc177_10).elim
      · skip
        refine o_ifN X0 hx hby at_54 (own_lflt hc54_8).1 (q := 57) rfl ?_
        refine o_iconst X0 hx hby at_57 (z := 1) rfl (q := 58) rfl ?_
        refine o_goto X0 hx hby at_58 (by decide) (q := 62) (by decide) ?_
        refine o_istore X0 hx hby at_62 (l' := #[iv p0, .val (.long q1), .second, iv (p0 &&& (7 : Int32)), .val (.double (9094988921128908188 : UInt64)), .second, .val (.double (FP.dmul (FP.l2d q1) (1 : UInt64))), .second, iv 1]) rfl (q := 64) rfl ?_
        refine o_goto X0 hx hby at_64 (by decide) (q := 170) (by decide) ?_
        refine o_dload X0 hx hby at_170 rfl (q := 172) rfl ?_
        obtain ⟨_, _, ⟨T11, L11, k11, n11⟩, -, X11, ⟨Lc11, hQ11, l11, y11, z11⟩, st11⟩ := Jvm.LawKit.callS X0 hx (y := (⟨"com/example/cliquefold/cliquefold/Modularity", "isResolution", "(D)Z"⟩ : MethodName)) hown (mvT hZ (w_ hw 2 rfl)) (mvT hZ (w_ hw 3 rfl)) (mvT hZ (w_ hw 4 rfl)) (mvT hZ (w_ hw 5 rfl)) (by decide) (backOf (W := 0) (rm1 l Z a0 hw [] (FP.dmul (FP.l2d q1) (1 : UInt64)) h0 n0 Z0 ) hZ (w_ hw 5 rfl) (w_ hw 4 rfl) (by decide) (by decide)) (g := (mkF m 172 #[iv p0, .val (.long q1), .second, iv (p0 &&& (7 : Int32)), .val (.double (9094988921128908188 : UInt64)), .second, .val (.double (FP.dmul (FP.l2d q1) (1 : UInt64))), .second, iv 1] [.double (FP.dmul (FP.l2d q1) (1 : UInt64))])) rfl (by rw [hml]; rfl) (argsL := [(.double (FP.dmul (FP.l2d q1) (1 : UInt64)))]) (rest := []) (lenOf pd_0 rfl) rfl (by show 2 * 0 + _ ≤ _; exact Nat.le_of_eq rfl) (hb hby at_172) (fun _ _ => ⟨rfl, e0, (by decide : 0 + 0 ≤ _), (by decide : 0 + 0 ≤ _)⟩)
        dsimp only [Pt.U, Pt.locs, Pt.cells, Pt.slots] at X11 l11 y11 z11 st11 hQ11
        subst l11 y11 z11
        obtain ⟨rfl, N11q, hh11⟩ := hQ11
        have N11 := Fr.app N0 N11q
        refine own_of st11 ?_
        show own_Out p e below _ (T11.setTop (mkF m 175 #[iv p0, .val (.long q1), .second, iv (p0 &&& (7 : Int32)), .val (.double (9094988921128908188 : UInt64)), .second, .val (.double (FP.dmul (FP.l2d q1) (1 : UInt64))), .second, iv 1] [.int (fres (FP.dmul (FP.l2d q1) (1 : UInt64)))]))
        refine o_iload X11 hx hby at_175 rfl (q := 177) rfl ?_
        by_cases hc177_12 : (fres (FP.dmul (FP.l2d q1) (1 : UInt64))) = (1 : Int32)
        · skip
          refine o_icN X11 hx hby at_177 (teq hc177_12).2 (q := 180) rfl ?_
          refine o_iconst X11 hx hby at_180 (z := 1) rfl (q := 181) rfl ?_
          refine o_goto X11 hx hby at_181 (by decide) (q := 185) (by decide) ?_
          exact own_outN X11 hx hlk (t := .boolean) hret (by simp) (hb hby at_185) (z' := (1 : Int32)) rfl (Q := Q0 Z p0 q1 h0 n0) ⟨rfl, N11⟩ (by decide) (by decide)
        · skip
          refine o_icY X11 hx hby at_177 (feq hc177_12).2 (by decide) (q := 184) (by decide) ?_
          refine o_iconst X11 hx hby at_184 (z := 0) rfl (q := 185) rfl ?_
          exact (dead0_3 p0 q1 hc11_1 hc40_7 hc54_8 hc177_12).elim
    · skip
      refine o_icY X0 hx hby at_40 (feq hc40_7).2 (by decide) (q := 67) (by decide) ?_
      refine o_iloadN X0 hx hby at_67 rfl (q := 68) rfl ?_
      refine o_iconst X0 hx hby at_68 (z := 2) rfl (q := 69) rfl ?_
      by_cases hc69_13 : (p0 &&& (7 : Int32)) = (2 : Int32)
      · skip
        refine o_icN X0 hx hby at_69 (teq hc69_13).2 (q := 72) rfl ?_
        refine own_of (X0.ldc2DoubleC hx hown (mvT hZ (w_ hw 8 rfl)) (g := (mkF m 72 #[iv p0, .val (.long q1), .second, iv (p0 &&& (7 : Int32)), .val (.double (9094988921128908188 : UInt64)), .second, .unset, .unset, .unset] [])) rfl (hb hby at_72)) ?_
        show own_Out p e below _ (s₁.setTop (mkF m 75 #[iv p0, .val (.long q1), .second, iv (p0 &&& (7 : Int32)), .val (.double (9094988921128908188 : UInt64)), .second, .unset, .unset, .unset] [.double (9223372036854775808 : UInt64)]))
        refine o_dstore X0 hx hby at_75 (l' := #[iv p0, .val (.long q1), .second, iv (p0 &&& (7 : Int32)), .val (.double (9094988921128908188 : UInt64)), .second, .val (.double (9223372036854775808 : UInt64)), .second, .unset]) rfl (q := 77) rfl ?_
        refine o_iconst X0 hx hby at_77 (z := 1) rfl (q := 78) rfl ?_
        refine o_istore X0 hx hby at_78 (l' := #[iv p0, .val (.long q1), .second, iv (p0 &&& (7 : Int32)), .val (.double (9094988921128908188 : UInt64)), .second, .val (.double (9223372036854775808 : UInt64)), .second, iv 1]) rfl (q := 80) rfl ?_
        refine o_goto X0 hx hby at_80 (by decide) (q := 170) (by decide) ?_
        refine o_dload X0 hx hby at_170 rfl (q := 172) rfl ?_
        obtain ⟨_, _, ⟨T14, L14, k14, n14⟩, -, X14, ⟨Lc14, hQ14, l14, y14, z14⟩, st14⟩ := Jvm.LawKit.callS X0 hx (y := (⟨"com/example/cliquefold/cliquefold/Modularity", "isResolution", "(D)Z"⟩ : MethodName)) hown (mvT hZ (w_ hw 2 rfl)) (mvT hZ (w_ hw 3 rfl)) (mvT hZ (w_ hw 4 rfl)) (mvT hZ (w_ hw 5 rfl)) (by decide) (backOf (W := 0) (rm1 l Z a0 hw [] (9223372036854775808 : UInt64) h0 n0 Z0 ) hZ (w_ hw 5 rfl) (w_ hw 4 rfl) (by decide) (by decide)) (g := (mkF m 172 #[iv p0, .val (.long q1), .second, iv (p0 &&& (7 : Int32)), .val (.double (9094988921128908188 : UInt64)), .second, .val (.double (9223372036854775808 : UInt64)), .second, iv 1] [.double (9223372036854775808 : UInt64)])) rfl (by rw [hml]; rfl) (argsL := [(.double (9223372036854775808 : UInt64))]) (rest := []) (lenOf pd_0 rfl) rfl (by show 2 * 0 + _ ≤ _; exact Nat.le_of_eq rfl) (hb hby at_172) (fun _ _ => ⟨rfl, e0, (by decide : 0 + 0 ≤ _), (by decide : 0 + 0 ≤ _)⟩)
        dsimp only [Pt.U, Pt.locs, Pt.cells, Pt.slots] at X14 l14 y14 z14 st14 hQ14
        subst l14 y14 z14
        obtain ⟨rfl, N14q, hh14⟩ := hQ14
        have N14 := Fr.app N0 N14q
        refine own_of st14 ?_
        show own_Out p e below _ (T14.setTop (mkF m 175 #[iv p0, .val (.long q1), .second, iv (p0 &&& (7 : Int32)), .val (.double (9094988921128908188 : UInt64)), .second, .val (.double (9223372036854775808 : UInt64)), .second, iv 1] [.int (fres (9223372036854775808 : UInt64))]))
        refine o_iload X14 hx hby at_175 rfl (q := 177) rfl ?_
        by_cases hc177_15 : (fres (9223372036854775808 : UInt64)) = (1 : Int32)
        · skip
          refine o_icN X14 hx hby at_177 (teq hc177_15).2 (q := 180) rfl ?_
          refine o_iconst X14 hx hby at_180 (z := 1) rfl (q := 181) rfl ?_
          refine o_goto X14 hx hby at_181 (by decide) (q := 185) (by decide) ?_
          exact own_outN X14 hx hlk (t := .boolean) hret (by simp) (hb hby at_185) (z' := (1 : Int32)) rfl (Q := Q0 Z p0 q1 h0 n0) ⟨rfl, N14⟩ (by decide) (by decide)
        · skip
          refine o_icY X14 hx hby at_177 (feq hc177_15).2 (by decide) (q := 184) (by decide) ?_
          refine o_iconst X14 hx hby at_184 (z := 0) rfl (q := 185) rfl ?_
          exact (dead0_4 p0 q1 hc11_1 hc40_7 hc69_13 hc177_15).elim
      · skip
        refine o_icY X0 hx hby at_69 (feq hc69_13).2 (by decide) (q := 83) (by decide) ?_
        refine o_iloadN X0 hx hby at_83 rfl (q := 84) rfl ?_
        refine o_iconst X0 hx hby at_84 (z := 3) rfl (q := 85) rfl ?_
        by_cases hc85_16 : (p0 &&& (7 : Int32)) = (3 : Int32)
        · skip
          refine o_icN X0 hx hby at_85 (teq hc85_16).2 (q := 88) rfl ?_
          refine o_dload X0 hx hby at_88 rfl (q := 90) rfl ?_
          refine o_dload X0 hx hby at_90 rfl (q := 92) rfl ?_
          refine own_of (fun _ k => XS.dmulS X0.here hx rfl (v := (9218868437227405312 : UInt64)) (hb hby at_92) rfl (Jvm.Free.Fl.noNaN64_no.mpr (by decide +kernel)) (by decide +kernel) k) ?_
          show own_Out p e below _ (s₁.setTop (mkF m 93 #[iv p0, .val (.long q1), .second, iv (p0 &&& (7 : Int32)), .val (.double (9094988921128908188 : UInt64)), .second, .unset, .unset, .unset] [.double (9218868437227405312 : UInt64)]))
          refine o_dstore X0 hx hby at_93 (l' := #[iv p0, .val (.long q1), .second, iv (p0 &&& (7 : Int32)), .val (.double (9094988921128908188 : UInt64)), .second, .val (.double (9218868437227405312 : UInt64)), .second, .unset]) rfl (q := 95) rfl ?_
          refine o_iconst X0 hx hby at_95 (z := 0) rfl (q := 96) rfl ?_
          refine o_istore X0 hx hby at_96 (l' := #[iv p0, .val (.long q1), .second, iv (p0 &&& (7 : Int32)), .val (.double (9094988921128908188 : UInt64)), .second, .val (.double (9218868437227405312 : UInt64)), .second, iv 0]) rfl (q := 98) rfl ?_
          refine o_goto X0 hx hby at_98 (by decide) (q := 170) (by decide) ?_
          refine o_dload X0 hx hby at_170 rfl (q := 172) rfl ?_
          obtain ⟨_, _, ⟨T17, L17, k17, n17⟩, -, X17, ⟨Lc17, hQ17, l17, y17, z17⟩, st17⟩ := Jvm.LawKit.callS X0 hx (y := (⟨"com/example/cliquefold/cliquefold/Modularity", "isResolution", "(D)Z"⟩ : MethodName)) hown (mvT hZ (w_ hw 2 rfl)) (mvT hZ (w_ hw 3 rfl)) (mvT hZ (w_ hw 4 rfl)) (mvT hZ (w_ hw 5 rfl)) (by decide) (backOf (W := 0) (rm1 l Z a0 hw [] (9218868437227405312 : UInt64) h0 n0 Z0 ) hZ (w_ hw 5 rfl) (w_ hw 4 rfl) (by decide) (by decide)) (g := (mkF m 172 #[iv p0, .val (.long q1), .second, iv (p0 &&& (7 : Int32)), .val (.double (9094988921128908188 : UInt64)), .second, .val (.double (9218868437227405312 : UInt64)), .second, iv 0] [.double (9218868437227405312 : UInt64)])) rfl (by rw [hml]; rfl) (argsL := [(.double (9218868437227405312 : UInt64))]) (rest := []) (lenOf pd_0 rfl) rfl (by show 2 * 0 + _ ≤ _; exact Nat.le_of_eq rfl) (hb hby at_172) (fun _ _ => ⟨rfl, e0, (by decide : 0 + 0 ≤ _), (by decide : 0 + 0 ≤ _)⟩)
          dsimp only [Pt.U, Pt.locs, Pt.cells, Pt.slots] at X17 l17 y17 z17 st17 hQ17
          subst l17 y17 z17
          obtain ⟨rfl, N17q, hh17⟩ := hQ17
          have N17 := Fr.app N0 N17q
          refine own_of st17 ?_
          show own_Out p e below _ (T17.setTop (mkF m 175 #[iv p0, .val (.long q1), .second, iv (p0 &&& (7 : Int32)), .val (.double (9094988921128908188 : UInt64)), .second, .val (.double (9218868437227405312 : UInt64)), .second, iv 0] [.int (fres (9218868437227405312 : UInt64))]))
          refine o_iload X17 hx hby at_175 rfl (q := 177) rfl ?_
          by_cases hc177_18 : (fres (9218868437227405312 : UInt64)) = (0 : Int32)
          · skip
            refine o_icN X17 hx hby at_177 (teq hc177_18).2 (q := 180) rfl ?_
            refine o_iconst X17 hx hby at_180 (z := 1) rfl (q := 181) rfl ?_
            refine o_goto X17 hx hby at_181 (by decide) (q := 185) (by decide) ?_
            exact own_outN X17 hx hlk (t := .boolean) hret (by simp) (hb hby at_185) (z' := (1 : Int32)) rfl (Q := Q0 Z p0 q1 h0 n0) ⟨rfl, N17⟩ (by decide) (by decide)
          · skip
            refine o_icY X17 hx hby at_177 (feq hc177_18).2 (by decide) (q := 184) (by decide) ?_
            refine o_iconst X17 hx hby at_184 (z := 0) rfl (q := 185) rfl ?_
            exact (dead0_5 p0 q1 hc11_1 hc40_7 hc69_13 hc85_16 hc177_18).elim
        · skip
          refine o_icY X0 hx hby at_85 (feq hc85_16).2 (by decide) (q := 101) (by decide) ?_
          refine o_iloadN X0 hx hby at_101 rfl (q := 102) rfl ?_
          refine o_iconst X0 hx hby at_102 (z := 4) rfl (q := 103) rfl ?_
          by_cases hc103_19 : (p0 &&& (7 : Int32)) = (4 : Int32)
          · skip
            refine o_icN X0 hx hby at_103 (teq hc103_19).2 (q := 106) rfl ?_
            refine o_dload X0 hx hby at_106 rfl (q := 108) rfl ?_
            refine o_dload X0 hx hby at_108 rfl (q := 110) rfl ?_
            refine own_of (fun _ k => XS.dmulS X0.here hx rfl (v := (9218868437227405312 : UInt64)) (hb hby at_110) rfl (Jvm.Free.Fl.noNaN64_no.mpr (by decide +kernel)) (by decide +kernel) k) ?_
            show own_Out p e below _ (s₁.setTop (mkF m 111 #[iv p0, .val (.long q1), .second, iv (p0 &&& (7 : Int32)), .val (.double (9094988921128908188 : UInt64)), .second, .unset, .unset, .unset] [.double (9218868437227405312 : UInt64)]))
            refine own_of (fun _ k => XS.dnegS X0.here hx rfl (v := (18442240474082181120 : UInt64)) (hb hby at_111) rfl (by decide +kernel) k) ?_
            show own_Out p e below _ (s₁.setTop (mkF m 112 #[iv p0, .val (.long q1), .second, iv (p0 &&& (7 : Int32)), .val (.double (9094988921128908188 : UInt64)), .second, .unset, .unset, .unset] [.double (18442240474082181120 : UInt64)]))
            refine o_dstore X0 hx hby at_112 (l' := #[iv p0, .val (.long q1), .second, iv (p0 &&& (7 : Int32)), .val (.double (9094988921128908188 : UInt64)), .second, .val (.double (18442240474082181120 : UInt64)), .second, .unset]) rfl (q := 114) rfl ?_
            refine o_iconst X0 hx hby at_114 (z := 0) rfl (q := 115) rfl ?_
            refine o_istore X0 hx hby at_115 (l' := #[iv p0, .val (.long q1), .second, iv (p0 &&& (7 : Int32)), .val (.double (9094988921128908188 : UInt64)), .second, .val (.double (18442240474082181120 : UInt64)), .second, iv 0]) rfl (q := 117) rfl ?_
            refine o_goto X0 hx hby at_117 (by decide) (q := 170) (by decide) ?_
            refine o_dload X0 hx hby at_170 rfl (q := 172) rfl ?_
            obtain ⟨_, _, ⟨T20, L20, k20, n20⟩, -, X20, ⟨Lc20, hQ20, l20, y20, z20⟩, st20⟩ := Jvm.LawKit.callS X0 hx (y := (⟨"com/example/cliquefold/cliquefold/Modularity", "isResolution", "(D)Z"⟩ : MethodName)) hown (mvT hZ (w_ hw 2 rfl)) (mvT hZ (w_ hw 3 rfl)) (mvT hZ (w_ hw 4 rfl)) (mvT hZ (w_ hw 5 rfl)) (by decide) (backOf (W := 0) (rm1 l Z a0 hw [] (18442240474082181120 : UInt64) h0 n0 Z0 ) hZ (w_ hw 5 rfl) (w_ hw 4 rfl) (by decide) (by decide)) (g := (mkF m 172 #[iv p0, .val (.long q1), .second, iv (p0 &&& (7 : Int32)), .val (.double (9094988921128908188 : UInt64)), .second, .val (.double (18442240474082181120 : UInt64)), .second, iv 0] [.double (18442240474082181120 : UInt64)])) rfl (by rw [hml]; rfl) (argsL := [(.double (18442240474082181120 : UInt64))]) (rest := []) (lenOf pd_0 rfl) rfl (by show 2 * 0 + _ ≤ _; exact Nat.le_of_eq rfl) (hb hby at_172) (fun _ _ => ⟨rfl, e0, (by decide : 0 + 0 ≤ _), (by decide : 0 + 0 ≤ _)⟩)
            dsimp only [Pt.U, Pt.locs, Pt.cells, Pt.slots] at X20 l20 y20 z20 st20 hQ20
            subst l20 y20 z20
            obtain ⟨rfl, N20q, hh20⟩ := hQ20
            have N20 := Fr.app N0 N20q
            refine own_of st20 ?_
            show own_Out p e below _ (T20.setTop (mkF m 175 #[iv p0, .val (.long q1), .second, iv (p0 &&& (7 : Int32)), .val (.double (9094988921128908188 : UInt64)), .second, .val (.double (18442240474082181120 : UInt64)), .second, iv 0] [.int (fres (18442240474082181120 : UInt64))]))
            refine o_iload X20 hx hby at_175 rfl (q := 177) rfl ?_
            by_cases hc177_21 : (fres (18442240474082181120 : UInt64)) = (0 : Int32)
            · skip
              refine o_icN X20 hx hby at_177 (teq hc177_21).2 (q := 180) rfl ?_
              refine o_iconst X20 hx hby at_180 (z := 1) rfl (q := 181) rfl ?_
              refine o_goto X20 hx hby at_181 (by decide) (q := 185) (by decide) ?_
              exact own_outN X20 hx hlk (t := .boolean) hret (by simp) (hb hby at_185) (z' := (1 : Int32)) rfl (Q := Q0 Z p0 q1 h0 n0) ⟨rfl, N20⟩ (by decide) (by decide)
            · skip
              refine o_icY X20 hx hby at_177 (feq hc177_21).2 (by decide) (q := 184) (by decide) ?_
              refine o_iconst X20 hx hby at_184 (z := 0) rfl (q := 185) rfl ?_
              exact (dead0_6 p0 q1 hc11_1 hc40_7 hc69_13 hc85_16 hc103_19 hc177_21).elim
          · skip
            refine o_icY X0 hx hby at_103 (feq hc103_19).2 (by decide) (q := 120) (by decide) ?_
            refine o_iloadN X0 hx hby at_120 rfl (q := 121) rfl ?_
            refine o_iconst X0 hx hby at_121 (z := 5) rfl (q := 122) rfl ?_
            by_cases hc122_22 : (p0 &&& (7 : Int32)) = (5 : Int32)
            · skip
              refine o_icN X0 hx hby at_122 (teq hc122_22).2 (q := 125) rfl ?_
              refine own_of (X0.ldc2DoubleC hx hown (mvT hZ (w_ hw 9 rfl)) (g := (mkF m 125 #[iv p0, .val (.long q1), .second, iv (p0 &&& (7 : Int32)), .val (.double (9094988921128908188 : UInt64)), .second, .unset, .unset, .unset] [])) rfl (hb hby at_125)) ?_
              show own_Out p e below _ (s₁.setTop (mkF m 128 #[iv p0, .val (.long q1), .second, iv (p0 &&& (7 : Int32)), .val (.double (9094988921128908188 : UInt64)), .second, .unset, .unset, .unset] [.double (9218868437227405311 : UInt64)]))
              refine o_dstore X0 hx hby at_128 (l' := #[iv p0, .val (.long q1), .second, iv (p0 &&& (7 : Int32)), .val (.double (9094988921128908188 : UInt64)), .second, .val (.double (9218868437227405311 : UInt64)), .second, .unset]) rfl (q := 130) rfl ?_
              refine o_iconst X0 hx hby at_130 (z := 1) rfl (q := 131) rfl ?_
              refine o_istore X0 hx hby at_131 (l' := #[iv p0, .val (.long q1), .second, iv (p0 &&& (7 : Int32)), .val (.double (9094988921128908188 : UInt64)), .second, .val (.double (9218868437227405311 : UInt64)), .second, iv 1]) rfl (q := 133) rfl ?_
              refine o_goto X0 hx hby at_133 (by decide) (q := 170) (by decide) ?_
              refine o_dload X0 hx hby at_170 rfl (q := 172) rfl ?_
              obtain ⟨_, _, ⟨T23, L23, k23, n23⟩, -, X23, ⟨Lc23, hQ23, l23, y23, z23⟩, st23⟩ := Jvm.LawKit.callS X0 hx (y := (⟨"com/example/cliquefold/cliquefold/Modularity", "isResolution", "(D)Z"⟩ : MethodName)) hown (mvT hZ (w_ hw 2 rfl)) (mvT hZ (w_ hw 3 rfl)) (mvT hZ (w_ hw 4 rfl)) (mvT hZ (w_ hw 5 rfl)) (by decide) (backOf (W := 0) (rm1 l Z a0 hw [] (9218868437227405311 : UInt64) h0 n0 Z0 ) hZ (w_ hw 5 rfl) (w_ hw 4 rfl) (by decide) (by decide)) (g := (mkF m 172 #[iv p0, .val (.long q1), .second, iv (p0 &&& (7 : Int32)), .val (.double (9094988921128908188 : UInt64)), .second, .val (.double (9218868437227405311 : UInt64)), .second, iv 1] [.double (9218868437227405311 : UInt64)])) rfl (by rw [hml]; rfl) (argsL := [(.double (9218868437227405311 : UInt64))]) (rest := []) (lenOf pd_0 rfl) rfl (by show 2 * 0 + _ ≤ _; exact Nat.le_of_eq rfl) (hb hby at_172) (fun _ _ => ⟨rfl, e0, (by decide : 0 + 0 ≤ _), (by decide : 0 + 0 ≤ _)⟩)
              dsimp only [Pt.U, Pt.locs, Pt.cells, Pt.slots] at X23 l23 y23 z23 st23 hQ23
              subst l23 y23 z23
              obtain ⟨rfl, N23q, hh23⟩ := hQ23
              have N23 := Fr.app N0 N23q
              refine own_of st23 ?_
              show own_Out p e below _ (T23.setTop (mkF m 175 #[iv p0, .val (.long q1), .second, iv (p0 &&& (7 : Int32)), .val (.double (9094988921128908188 : UInt64)), .second, .val (.double (9218868437227405311 : UInt64)), .second, iv 1] [.int (fres (9218868437227405311 : UInt64))]))
              refine o_iload X23 hx hby at_175 rfl (q := 177) rfl ?_
              by_cases hc177_24 : (fres (9218868437227405311 : UInt64)) = (1 : Int32)
              · skip
                refine o_icN X23 hx hby at_177 (teq hc177_24).2 (q := 180) rfl ?_
                refine o_iconst X23 hx hby at_180 (z := 1) rfl (q := 181) rfl ?_
                refine o_goto X23 hx hby at_181 (by decide) (q := 185) (by decide) ?_
                exact own_outN X23 hx hlk (t := .boolean) hret (by simp) (hb hby at_185) (z' := (1 : Int32)) rfl (Q := Q0 Z p0 q1 h0 n0) ⟨rfl, N23⟩ (by decide) (by decide)
              · skip
                refine o_icY X23 hx hby at_177 (feq hc177_24).2 (by decide) (q := 184) (by decide) ?_
                refine o_iconst X23 hx hby at_184 (z := 0) rfl (q := 185) rfl ?_
                exact (dead0_7 p0 q1 hc11_1 hc40_7 hc69_13 hc85_16 hc103_19 hc122_22 hc177_24).elim
            · skip
              refine o_icY X0 hx hby at_122 (feq hc122_22).2 (by decide) (q := 136) (by decide) ?_
              refine o_iloadN X0 hx hby at_136 rfl (q := 137) rfl ?_
              refine o_bipush X0 hx hby at_137 (z := 6) rfl (q := 139) rfl ?_
              by_cases hc139_25 : (p0 &&& (7 : Int32)) = (6 : Int32)
              · skip
                refine o_icN X0 hx hby at_139 (teq hc139_25).2 (q := 142) rfl ?_
                refine own_of (X0.ldc2DoubleC hx hown (mvT hZ (w_ hw 10 rfl)) (g := (mkF m 142 #[iv p0, .val (.long q1), .second, iv (p0 &&& (7 : Int32)), .val (.double (9094988921128908188 : UInt64)), .second, .unset, .unset, .unset] [])) rfl (hb hby at_142)) ?_
                show own_Out p e below _ (s₁.setTop (mkF m 145 #[iv p0, .val (.long q1), .second, iv (p0 &&& (7 : Int32)), .val (.double (9094988921128908188 : UInt64)), .second, .unset, .unset, .unset] [.double (18442240474082181119 : UInt64)]))
                refine o_dstore X0 hx hby at_145 (l' := #[iv p0, .val (.long q1), .second, iv (p0 &&& (7 : Int32)), .val (.double (9094988921128908188 : UInt64)), .second, .val (.double (18442240474082181119 : UInt64)), .second, .unset]) rfl (q := 147) rfl ?_
                refine o_iconst X0 hx hby at_147 (z := 0) rfl (q := 148) rfl ?_
                refine o_istore X0 hx hby at_148 (l' := #[iv p0, .val (.long q1), .second, iv (p0 &&& (7 : Int32)), .val (.double (9094988921128908188 : UInt64)), .second, .val (.double (18442240474082181119 : UInt64)), .second, iv 0]) rfl (q := 150) rfl ?_
                refine o_goto X0 hx hby at_150 (by decide) (q := 170) (by decide) ?_
                refine o_dload X0 hx hby at_170 rfl (q := 172) rfl ?_
                obtain ⟨_, _, ⟨T26, L26, k26, n26⟩, -, X26, ⟨Lc26, hQ26, l26, y26, z26⟩, st26⟩ := Jvm.LawKit.callS X0 hx (y := (⟨"com/example/cliquefold/cliquefold/Modularity", "isResolution", "(D)Z"⟩ : MethodName)) hown (mvT hZ (w_ hw 2 rfl)) (mvT hZ (w_ hw 3 rfl)) (mvT hZ (w_ hw 4 rfl)) (mvT hZ (w_ hw 5 rfl)) (by decide) (backOf (W := 0) (rm1 l Z a0 hw [] (18442240474082181119 : UInt64) h0 n0 Z0 ) hZ (w_ hw 5 rfl) (w_ hw 4 rfl) (by decide) (by decide)) (g := (mkF m 172 #[iv p0, .val (.long q1), .second, iv (p0 &&& (7 : Int32)), .val (.double (9094988921128908188 : UInt64)), .second, .val (.double (18442240474082181119 : UInt64)), .second, iv 0] [.double (18442240474082181119 : UInt64)])) rfl (by rw [hml]; rfl) (argsL := [(.double (18442240474082181119 : UInt64))]) (rest := []) (lenOf pd_0 rfl) rfl (by show 2 * 0 + _ ≤ _; exact Nat.le_of_eq rfl) (hb hby at_172) (fun _ _ => ⟨rfl, e0, (by decide : 0 + 0 ≤ _), (by decide : 0 + 0 ≤ _)⟩)
                dsimp only [Pt.U, Pt.locs, Pt.cells, Pt.slots] at X26 l26 y26 z26 st26 hQ26
                subst l26 y26 z26
                obtain ⟨rfl, N26q, hh26⟩ := hQ26
                have N26 := Fr.app N0 N26q
                refine own_of st26 ?_
                show own_Out p e below _ (T26.setTop (mkF m 175 #[iv p0, .val (.long q1), .second, iv (p0 &&& (7 : Int32)), .val (.double (9094988921128908188 : UInt64)), .second, .val (.double (18442240474082181119 : UInt64)), .second, iv 0] [.int (fres (18442240474082181119 : UInt64))]))
                refine o_iload X26 hx hby at_175 rfl (q := 177) rfl ?_
                by_cases hc177_27 : (fres (18442240474082181119 : UInt64)) = (0 : Int32)
                · skip
                  refine o_icN X26 hx hby at_177 (teq hc177_27).2 (q := 180) rfl ?_
                  refine o_iconst X26 hx hby at_180 (z := 1) rfl (q := 181) rfl ?_
                  refine o_goto X26 hx hby at_181 (by decide) (q := 185) (by decide) ?_
                  exact own_outN X26 hx hlk (t := .boolean) hret (by simp) (hb hby at_185) (z' := (1 : Int32)) rfl (Q := Q0 Z p0 q1 h0 n0) ⟨rfl, N26⟩ (by decide) (by decide)
                · skip
                  refine o_icY X26 hx hby at_177 (feq hc177_27).2 (by decide) (q := 184) (by decide) ?_
                  refine o_iconst X26 hx hby at_184 (z := 0) rfl (q := 185) rfl ?_
                  exact (dead0_8 p0 q1 hc11_1 hc40_7 hc69_13 hc85_16 hc103_19 hc122_22 hc139_25 hc177_27).elim
              · skip
                refine o_icY X0 hx hby at_139 (feq hc139_25).2 (by decide) (q := 153) (by decide) ?_
                refine o_lloadN X0 hx hby at_153 rfl (q := 154) rfl ?_
                refine own_of (fun _ k => XS.l2dS X0.here hx rfl (v := (FP.l2d q1)) (hb hby at_154) rfl rfl k) ?_
                show own_Out p e below _ (s₁.setTop (mkF m 155 #[iv p0, .val (.long q1), .second, iv (p0 &&& (7 : Int32)), .val (.double (9094988921128908188 : UInt64)), .second, .unset, .unset, .unset] [.double (FP.l2d q1)]))
                refine o_dstore X0 hx hby at_155 (l' := #[iv p0, .val (.long q1), .second, iv (p0 &&& (7 : Int32)), .val (.double (9094988921128908188 : UInt64)), .second, .val (.double (FP.l2d q1)), .second, .unset]) rfl (q := 157) rfl ?_
                refine o_lloadN X0 hx hby at_157 rfl (q := 158) rfl ?_
                refine o_lconst X0 hx hby at_158 (z := 0) rfl (q := 159) rfl ?_
                refine o_lcmp X0 hx hby at_159 (q := 160) rfl ?_
                by_cases hc160_28 : q1 < (0 : Int64)
                · skip
                  refine o_ifY X0 hx hby at_160 (own_ltlt hc160_28).1 (by decide) (q := 167) (by decide) ?_
                  refine o_iconst X0 hx hby at_167 (z := 0) rfl (q := 168) rfl ?_
                  refine o_istore X0 hx hby at_168 (l' := #[iv p0, .val (.long q1), .second, iv (p0 &&& (7 : Int32)), .val (.double (9094988921128908188 : UInt64)), .second, .val (.double (FP.l2d q1)), .second, iv 0]) rfl (q := 170) rfl ?_
                  refine o_dload X0 hx hby at_170 rfl (q := 172) rfl ?_
                  obtain ⟨_, _, ⟨T29, L29, k29, n29⟩, -, X29, ⟨Lc29, hQ29, l29, y29, z29⟩, st29⟩ := Jvm.LawKit.callS X0 hx (y := (⟨"com/example/cliquefold/cliquefold/Modularity", "isResolution", "(D)Z"⟩ : MethodName)) hown (mvT hZ (w_ hw 2 rfl)) (mvT hZ (w_ hw 3 rfl)) (mvT hZ (w_ hw 4 rfl)) (mvT hZ (w_ hw 5 rfl)) (by decide) (backOf (W := 0) (rm1 l Z a0 hw [] (FP.l2d q1) h0 n0 Z0 ) hZ (w_ hw 5 rfl) (w_ hw 4 rfl) (by decide) (by decide)) (g := (mkF m 172 #[iv p0, .val (.long q1), .second, iv (p0 &&& (7 : Int32)), .val (.double (9094988921128908188 : UInt64)), .second, .val (.double (FP.l2d q1)), .second, iv 0] [.double (FP.l2d q1)])) rfl (by rw [hml]; rfl) (argsL := [(.double (FP.l2d q1))]) (rest := []) (lenOf pd_0 rfl) rfl (by show 2 * 0 + _ ≤ _; exact Nat.le_of_eq rfl) (hb hby at_172) (fun _ _ => ⟨rfl, e0, (by decide : 0 + 0 ≤ _), (by decide : 0 + 0 ≤ _)⟩)
                  dsimp only [Pt.U, Pt.locs, Pt.cells, Pt.slots] at X29 l29 y29 z29 st29 hQ29
                  subst l29 y29 z29
                  obtain ⟨rfl, N29q, hh29⟩ := hQ29
                  have N29 := Fr.app N0 N29q
                  refine own_of st29 ?_
                  show own_Out p e below _ (T29.setTop (mkF m 175 #[iv p0, .val (.long q1), .second, iv (p0 &&& (7 : Int32)), .val (.double (9094988921128908188 : UInt64)), .second, .val (.double (FP.l2d q1)), .second, iv 0] [.int (fres (FP.l2d q1))]))
                  refine o_iload X29 hx hby at_175 rfl (q := 177) rfl ?_
                  by_cases hc177_30 : (fres (FP.l2d q1)) = (0 : Int32)
                  · skip
                    refine o_icN X29 hx hby at_177 (teq hc177_30).2 (q := 180) rfl ?_
                    refine o_iconst X29 hx hby at_180 (z := 1) rfl (q := 181) rfl ?_
                    refine o_goto X29 hx hby at_181 (by decide) (q := 185) (by decide) ?_
                    exact own_outN X29 hx hlk (t := .boolean) hret (by simp) (hb hby at_185) (z' := (1 : Int32)) rfl (Q := Q0 Z p0 q1 h0 n0) ⟨rfl, N29⟩ (by decide) (by decide)
                  · skip
                    refine o_icY X29 hx hby at_177 (feq hc177_30).2 (by decide) (q := 184) (by decide) ?_
                    refine o_iconst X29 hx hby at_184 (z := 0) rfl (q := 185) rfl ?_
                    exact (dead0_9 p0 q1 hc11_1 hc40_7 hc69_13 hc85_16 hc103_19 hc122_22 hc139_25 hc160_28 hc177_30).elim
                · skip
                  refine o_ifN X0 hx hby at_160 (own_lflt hc160_28).1 (q := 163) rfl ?_
                  refine o_iconst X0 hx hby at_163 (z := 1) rfl (q := 164) rfl ?_
                  refine o_goto X0 hx hby at_164 (by decide) (q := 168) (by decide) ?_
                  refine o_istore X0 hx hby at_168 (l' := #[iv p0, .val (.long q1), .second, iv (p0 &&& (7 : Int32)), .val (.double (9094988921128908188 : UInt64)), .second, .val (.double (FP.l2d q1)), .second, iv 1]) rfl (q := 170) rfl ?_
                  refine o_dload X0 hx hby at_170 rfl (q := 172) rfl ?_
                  obtain ⟨_, _, ⟨T31, L31, k31, n31⟩, -, X31, ⟨Lc31, hQ31, l31, y31, z31⟩, st31⟩ := Jvm.LawKit.callS X0 hx (y := (⟨"com/example/cliquefold/cliquefold/Modularity", "isResolution", "(D)Z"⟩ : MethodName)) hown (mvT hZ (w_ hw 2 rfl)) (mvT hZ (w_ hw 3 rfl)) (mvT hZ (w_ hw 4 rfl)) (mvT hZ (w_ hw 5 rfl)) (by decide) (backOf (W := 0) (rm1 l Z a0 hw [] (FP.l2d q1) h0 n0 Z0 ) hZ (w_ hw 5 rfl) (w_ hw 4 rfl) (by decide) (by decide)) (g := (mkF m 172 #[iv p0, .val (.long q1), .second, iv (p0 &&& (7 : Int32)), .val (.double (9094988921128908188 : UInt64)), .second, .val (.double (FP.l2d q1)), .second, iv 1] [.double (FP.l2d q1)])) rfl (by rw [hml]; rfl) (argsL := [(.double (FP.l2d q1))]) (rest := []) (lenOf pd_0 rfl) rfl (by show 2 * 0 + _ ≤ _; exact Nat.le_of_eq rfl) (hb hby at_172) (fun _ _ => ⟨rfl, e0, (by decide : 0 + 0 ≤ _), (by decide : 0 + 0 ≤ _)⟩)
                  dsimp only [Pt.U, Pt.locs, Pt.cells, Pt.slots] at X31 l31 y31 z31 st31 hQ31
                  subst l31 y31 z31
                  obtain ⟨rfl, N31q, hh31⟩ := hQ31
                  have N31 := Fr.app N0 N31q
                  refine own_of st31 ?_
                  show own_Out p e below _ (T31.setTop (mkF m 175 #[iv p0, .val (.long q1), .second, iv (p0 &&& (7 : Int32)), .val (.double (9094988921128908188 : UInt64)), .second, .val (.double (FP.l2d q1)), .second, iv 1] [.int (fres (FP.l2d q1))]))
                  refine o_iload X31 hx hby at_175 rfl (q := 177) rfl ?_
                  by_cases hc177_32 : (fres (FP.l2d q1)) = (1 : Int32)
                  · skip
                    refine o_icN X31 hx hby at_177 (teq hc177_32).2 (q := 180) rfl ?_
                    refine o_iconst X31 hx hby at_180 (z := 1) rfl (q := 181) rfl ?_
                    refine o_goto X31 hx hby at_181 (by decide) (q := 185) (by decide) ?_
                    exact own_outN X31 hx hlk (t := .boolean) hret (by simp) (hb hby at_185) (z' := (1 : Int32)) rfl (Q := Q0 Z p0 q1 h0 n0) ⟨rfl, N31⟩ (by decide) (by decide)
                  · skip
                    refine o_icY X31 hx hby at_177 (feq hc177_32).2 (by decide) (q := 184) (by decide) ?_
                    refine o_iconst X31 hx hby at_184 (z := 0) rfl (q := 185) rfl ?_
                    exact (dead0_10 p0 q1 hc11_1 hc40_7 hc69_13 hc85_16 hc103_19 hc122_22 hc139_25 hc160_28 hc177_32).elim
set_option maxRecDepth 65536 in
set_option maxHeartbeats 40000000 in
theorem comes_1 {Post : Tables → Env → Array Value → State → Outcome → State → Prop} (hpost : ∀ tb e args s v u, (limb_1_1.after args s (.returned v) u = true ∧ limb_1_2.after args s (.returned v) u = true ∧ True) → FrameEnd s (.returned v) u (Jvm.fieldLocs frame_1_writes args s ++ Jvm.arrayLocs frame_1_arrays args s ++ Jvm.staticLocs frame_1_statics s) 0 0 → Post tb e args s (.returned v) u) :
    ArmFor flags0 classFile x code maxLocals ret World_1 tables_1 room_1 Calls_1 rest_1 Pre_1 Post := by
  intro l hfl _ _ p e ha hc hk s m args below hf hA hF happ hP
  obtain ⟨hcalls, hrest, hpre⟩ := hP
  obtain ⟨-, -, -, hnamed, -, -, -, hat⟩ := (Spec.applies_iff hf).mp happ
  obtain ⟨hg, hn⟩ := and_e (Cond.before_iff.mp (show (Jvm.Cond.and given_1 narrow_1).before args s = true from hpre))
  obtain ⟨g1, g2⟩ := and_e hg
  obtain ⟨g3, g4⟩ := and_e g2
  obtain ⟨w0, w1, rfl⟩ : ∃ w0 w1 : Value, args = #[w0, w1] := by
    have hs : args.size = 2 := by simpa [Cond.value, given_1] using g1
    obtain ⟨L⟩ := args
    match L, hs with
    | [w0, w1], _ => exact ⟨w0, w1, rfl⟩
  have hw := fun d (hd : d ∈ tables_1) => atoms_spec (ws := Jvm.Cond.code x code maxLocals ret :: tables_1) hat d (List.mem_cons_of_mem _ hd)
  have hfit : Fit s := fun {y c} hc i hi => by
    obtain ⟨ha, rfl⟩ := Array.getElem?_eq_some_iff.mp hc
    have q := List.all_eq_true.mp ((Array.all_eq_true_iff_forall_mem.mp hF) _ (Array.getElem_mem ha)) i (List.mem_range.mpr hi)
    simpa [Array.getElem?_eq_getElem hi] using q
  obtain ⟨i0, ei0⟩ := is_v g3
  obtain rfl : w0 = (.int i0) := Option.some.inj ei0
  obtain ⟨i1, ei1⟩ := isL_v g4
  obtain rfl : w1 = (.long i1) := Option.some.inj ei1
  obtain ⟨n, o, h1, h2, h3, _, L, rfl, ⟨rfl, N⟩, hq⟩ := rm0 l s _ hw tables_1 i0 i1 s.heap s.heap.size (Nat.le_refl _)  p e ha hc hk s m _ below hf ((Spec.applies_iff_loose hf).mp happ).1 ⟨rfl, State.Warmed39.refl s, rfl⟩ trivial
  refine ⟨n, _, h1, h2, h3, hpost _ _ _ _ _ _ ⟨Cond.after_iff.mpr rfl, Cond.after_iff.mpr (eq_i res_at (Term.int_eval (1)) rfl), trivial⟩ ⟨hq.1, hq.2.1, (hq.2.2.sift fun y hy => Or.inr (N y hy)).mono (by decide) (by decide)⟩⟩
theorem main_1_1 : Claimed_1_1 := comes_1 fun _ _ _ _ _ _ h hF => ⟨h.1, hF⟩
theorem main_1_2 : Claimed_1_2 := comes_1 fun _ _ _ _ _ _ h hF => ⟨h.2.1, hF⟩
end Jvm.Pilot.@@N@@
namespace Jvm.Pilot.@@N@@
open Jvm Jvm.ClassFile Sem Op Lib Jvm.Free Jvm.Stand Jvm.Pilot.@@N@@.Jvm.D
/-! MADE BY PROGRAM (witnessworld.py) out of the Statement's table words and the real class files: 9 classes; the members and pool entries that the words name. The judged class is class 1, her method 1. -/
namespace start1
open Jvm.ClassFile
def u (s : String) : CpInfo := .utf8 (stringToUtf16 s)
/-- a pool by its gaps: so many unusable entries, then the entry; so many at the end -/
def gap : Nat → List CpInfo → List CpInfo
  | 0, r => r
  | n + 1, r => .unusable :: gap n r
def poolList (es : List (Nat × CpInfo)) (last : Nat) : List CpInfo := es.foldr (fun e r => gap e.1 (e.2 :: r)) (gap last [])
def pool (es : List (Nat × CpInfo)) (last : Nat) : Array CpInfo := ⟨poolList es last⟩
def fileOf (pool : Array CpInfo) (this : Nat) (attrs : Array Attribute := #[]) (ms : Array MethodInfo := #[]) (fl : Nat := 33) (sup : Nat := 0) (ifs : Array Nat := #[]) (fds : Array FieldInfo := #[]) : ClassFile where
  minorVersion := 0
  majorVersion := 65
  constantPool := pool
  accessFlags := fl
  thisClass := this
  superClass := sup
  interfaces := ifs
  fields := fds
  methods := ms
  attributes := attrs
def plain (name : String) (sup : Option ClassId) : Class where
  name := name
  kind := .ordinary
  loader := none
  accessFlags := 33
  super := sup
  interfaces := #[]
  cf := none
  fields := #[]
  methods := #[]
  instanceTypes := #[]
  staticTypes := #[]
  resolved := #[]
  callSites := []
  init := .initialized
  statics := none
  mirror := none

def pool0 : Array CpInfo := pool [(5, u "<init>"), (0, u "()V"), (1, .class_ 10), (1, u "java/lang/Object")] 113

def k0m0 : Method := { name := "<init>", desc := "()V", sig := { parameters := [], returnType := none }, accessFlags := 1, code := none }
/-- java/lang/Object -/
def k0 : Class := { plain "java/lang/Object" none with
  accessFlags := 33
  interfaces := #[]
  cf := some (fileOf pool0 8 #[] #[{ accessFlags := 1, nameIndex := 5, descriptorIndex := 6, attributes := #[] }] 33 0 #[] #[])
  fields := #[]
  methods := #[k0m0]
  instanceTypes := #[]
  staticTypes := #[]
  resolved := Array.replicate 124 none
  statics := none }

def pool1 : Array CpInfo := pool [(2, .class_ 4), (1, u "java/lang/Object"), (0, u "<init>"), (0, u "()V"), (0, .double 9094988921128908188), (1, .double 4652218415073722368), (1, .double 1), (1, .double 9223372036854775808), (1, .double 9218868437227405311), (1, .double 18442240474082181119), (1, .methodref 20 21), (0, .class_ 22), (0, .nameAndType 23 24), (0, u "com/example/cliquefold/cliquefold/Modularity"), (0, u "isResolution"), (0, u "(D)Z"), (0, .class_ 26), (0, u "com/example/cliquefold/cliquefold/ModularityIsResolutionPinLaw"), (2, u "law"), (0, u "(IJ)Z")] 3

def k1m0 : Method := { name := "<init>", desc := "()V", sig := { parameters := [], returnType := none }, accessFlags := 2, code := none }
def k1c1 : Code := { maxStack := 4, maxLocals := 9, code := code, exceptionTable := #[], attributes := #[] }
def k1m1 : Method := { name := "law", desc := "(IJ)Z", sig := { parameters := [.int, .long], returnType := some .boolean }, accessFlags := 9, code := some k1c1 }
/-- com/example/cliquefold/cliquefold/ModularityIsResolutionPinLaw -/
def k1 : Class := { plain "com/example/cliquefold/cliquefold/ModularityIsResolutionPinLaw" (some 0) with
  accessFlags := 49
  interfaces := #[]
  cf := some (fileOf pool1 25 #[] #[{ accessFlags := 2, nameIndex := 5, descriptorIndex := 6, attributes := #[] }, { accessFlags := 9, nameIndex := 29, descriptorIndex := 30, attributes := #[] }] 49 2 #[] #[])
  fields := #[]
  methods := #[k1m0, k1m1]
  instanceTypes := #[]
  staticTypes := #[]
  resolved := Array.replicate 34 none
  statics := none }

def pool2 : Array CpInfo := pool [(2, .class_ 4), (1, u "java/lang/Object"), (0, u "<init>"), (0, u "()V"), (1, .class_ 10), (1, u "com/example/cliquefold/cliquefold/Modularity"), (58, .double 9218868437227405312), (11, u "isResolution"), (0, u "(D)Z"), (3, u "DEFAULT_RESOLUTION"), (0, u "D")] 29

def k2m0 : Method := { name := "<init>", desc := "()V", sig := { parameters := [], returnType := none }, accessFlags := 2, code := none }
def k2c1 : Code := { maxStack := 4, maxLocals := 2, code := prog_43_method_3_code, exceptionTable := #[], attributes := #[] }
def k2m1 : Method := { name := "isResolution", desc := "(D)Z", sig := { parameters := [.double], returnType := some .boolean }, accessFlags := 9, code := some k2c1 }
/-- com/example/cliquefold/cliquefold/Modularity -/
def k2 : Class := { plain "com/example/cliquefold/cliquefold/Modularity" (some 0) with
  accessFlags := 49
  interfaces := #[]
  cf := some (fileOf pool2 8 #[] #[{ accessFlags := 2, nameIndex := 5, descriptorIndex := 6, attributes := #[] }, { accessFlags := 9, nameIndex := 81, descriptorIndex := 82, attributes := #[] }] 49 2 #[] #[{ accessFlags := 25, nameIndex := 86, descriptorIndex := 87, attributes := #[] }])
  fields := #[{ name := "DEFAULT_RESOLUTION", type := .double, accessFlags := 25, slot := 0, constantValue := 0 }]
  methods := #[k2m0, k2m1]
  instanceTypes := #[]
  staticTypes := #[.double]
  resolved := Array.replicate 117 none
  statics := none }

def pool3 : Array CpInfo := pool [(1, u "java/lang/Cloneable"), (0, .class_ 1), (0, u "java/lang/Object"), (0, .class_ 3)] 3

/-- java/lang/Cloneable -/
def k3 : Class := { plain "java/lang/Cloneable" (some 0) with
  accessFlags := 1537
  interfaces := #[]
  cf := some (fileOf pool3 2 #[] #[] 1537 4 #[] #[])
  fields := #[]
  methods := #[]
  instanceTypes := #[]
  staticTypes := #[]
  resolved := Array.replicate 8 none
  statics := none }

def pool4 : Array CpInfo := pool [(1, u "java/io/Serializable"), (0, .class_ 1), (0, u "java/lang/Object"), (0, .class_ 3)] 3

/-- java/io/Serializable -/
def k4 : Class := { plain "java/io/Serializable" (some 0) with
  accessFlags := 1537
  interfaces := #[]
  cf := some (fileOf pool4 2 #[] #[] 1537 4 #[] #[])
  fields := #[]
  methods := #[]
  instanceTypes := #[]
  staticTypes := #[]
  resolved := Array.replicate 8 none
  statics := none }

/-- the primitive byte -/
def k5 : Class := { plain "byte" none with kind := .primitive 'B', accessFlags := 0x411 }
/-- [B -/
def k6 : Class := { plain "[B" (some 0) with kind := .array 5 .byte, interfaces := #[3, 4], accessFlags := 1041 }

/-- the primitive int -/
def k7 : Class := { plain "int" none with kind := .primitive 'I', accessFlags := 0x411 }
/-- [I -/
def k8 : Class := { plain "[I" (some 0) with kind := .array 7 .int, interfaces := #[3, 4], accessFlags := 1041 }

def heap : Heap := #[]
def classes : Array Class := #[k0, k1, k2, k3, k4, k5, k6, k7, k8]
def interned : List (Array UInt16 × Addr) := []
def slotsUsed : Nat := 0
def theMethod : MethodId := ⟨1, 1⟩
def args0 : Array Value := #[.int 5, .long 5]
def aboutOver (below : List Frame) : State where
  vm := { classes := classes, interned := interned.toArray }
  heap := heap
  slotsUsed := slotsUsed
  threads := #[{ frames := .invoking theMethod args0 :: below }]
def below0 : List Frame := [.native { method := ⟨0, 0⟩, args := #[] }]
def about1 : State := aboutOver below0
def p0 : Program := .bare "" "" ""
def e0 : Env := launch0.env 0 0 0
theorem w_frames : about1.frames = Frame.invoking theMethod args0 :: below0 := rfl
set_option maxRecDepth 65536 in
theorem w_args : argsFit about1.vm theMethod args0 = true := by decide +kernel
set_option maxRecDepth 65536 in
theorem w_heap : heapFits about1 = true := by decide +kernel
set_option maxRecDepth 65536 in
theorem w_runnable : about1.curStatus? = some .runnable := by decide +kernel
set_option maxRecDepth 65536 in
theorem w_alone : about1.alone = true := by decide +kernel
set_option maxRecDepth 65536 in
theorem w_named : about1.methodNamed? x = some theMethod := by decide +kernel
set_option maxRecDepth 65536 in
theorem w_hears : about1.hears theMethod below0 = true := by decide +kernel
set_option maxRecDepth 65536 in
theorem w_ripe : about1.ripe theMethod args0 below0 = true := by decide +kernel
theorem w_running : about1.status = .running := rfl
set_option maxRecDepth 65536 in
theorem w_room : about1.hasRoom e0.platform room_1 = true :=
  launch0.hasRoom_least _ room_1 (by decide +kernel) (by decide +kernel) (by decide +kernel) (by decide +kernel) (by decide +kernel) (by decide +kernel)
theorem allAtoms_all (ts : List Jvm.Cond) (a : Array Jvm.Value) (st : Jvm.State) : (allAtoms ts).before a st = ts.all (fun c => c.before a st) := by
  induction ts with
  | nil => rfl
  | cons c t ih =>
    show (Jvm.Cond.and c (allAtoms t)).before a st = _
    rw [Jvm.Cond.before_and, ih, List.all_cons]
def words1 : List Jvm.Cond := Jvm.Cond.code x code maxLocals ret :: tables_1
/-- a 'code' word, met by the world's own term for the bytes: nothing is compared byte by byte -/
theorem code_word {y : MethodName} {bytes : ByteArray} {mx : Nat} {rt : Option FieldType} {a : Array Value} {s : State} {m : MethodId} {meth : Method} {c : Code} (h1 : s.methodNamed? y = some m) (h2 : s.vm.method? m = some meth) (h3 : meth.code = some c) (h4 : c.code = bytes)
    (h5 : (c.maxLocals == mx && c.exceptionTable.isEmpty && decide (c.maxStack ≤ mostOperands) && decide (meth.sig.returnType = rt) && !meth.locks && decide (parseMethodDescriptor y.desc = some meth.sig)) = true) : (Jvm.Cond.code y bytes mx rt).before a s = true := by
  simp only [Bool.and_eq_true, beq_iff_eq, Bool.not_eq_true', decide_eq_true_eq] at h5
  obtain ⟨⟨⟨⟨⟨g1, g2⟩, g3⟩, g4⟩, g5⟩, g6⟩ := h5
  simp [Cond.before, Cond.holds, Cond.value, h1, h2, h3, h4, g1, g2, g3, g4, g5, g6]
def isCode : Jvm.Cond → Bool
  | .code _ _ _ _ => true
  | _ => false
theorem all_split {L : List Jvm.Cond} {P : Jvm.Cond → Bool} (h1 : L.all (fun c => isCode c || P c) = true) (h2 : ∀ c ∈ L.filter isCode, P c = true) : L.all P = true := by
  refine List.all_eq_true.mpr fun c hc => ?_
  have h := List.all_eq_true.mp h1 c hc
  rcases Bool.eq_false_or_eq_true (isCode c) with hi | hi
  · exact h2 c (List.mem_filter.mpr ⟨hc, hi⟩)
  · simpa [hi] using h
set_option maxRecDepth 65536 in
theorem w_c0 : (Jvm.Cond.code x code maxLocals ret).before args0 about1 = true := code_word (m := ⟨1, 1⟩) (meth := k1m1) (c := k1c1) (by decide +kernel) rfl rfl rfl (by decide +kernel)
set_option maxRecDepth 65536 in
theorem w_c1 : (Jvm.Cond.code ({ cls := "com/example/cliquefold/cliquefold/Modularity", name := "isResolution", desc := "(D)Z" } : Jvm.MethodName) prog_43_method_3_code (2 : Nat) (Option.some Jvm.ClassFile.FieldType.boolean)).before args0 about1 = true := code_word (m := ⟨2, 1⟩) (meth := k2m1) (c := k2c1) (by decide +kernel) rfl rfl rfl (by decide +kernel)
def codes1 : List Jvm.Cond := [Jvm.Cond.code x code maxLocals ret, Jvm.Cond.code ({ cls := "com/example/cliquefold/cliquefold/Modularity", name := "isResolution", desc := "(D)Z" } : Jvm.MethodName) prog_43_method_3_code (2 : Nat) (Option.some Jvm.ClassFile.FieldType.boolean)]
set_option maxRecDepth 65536 in
theorem codes_eq : words1.filter isCode = codes1 := rfl
theorem w_codes : ∀ c ∈ words1.filter isCode, c.before args0 about1 = true := by
  rw [codes_eq]
  intro c hc
  simp only [codes1, List.mem_cons, List.not_mem_nil, or_false] at hc
  rcases hc with rfl | rfl
  · exact w_c0
  · exact w_c1
set_option maxRecDepth 65536 in
theorem w_t1 : words1.all (fun c => isCode c || c.before args0 about1) = true := by decide +kernel
theorem w_tables : (allAtoms (Jvm.Cond.code x code maxLocals ret :: tables_1)).before args0 about1 = true := by
  rw [allAtoms_all]
  show words1.all (fun c => c.before args0 about1) = true
  refine all_split ?_ w_codes
  rw [w_t1]
set_option maxRecDepth 65536 in
theorem w_case : (Jvm.Cond.and given_1 narrow_1).before args0 about1 = true := by decide +kernel
theorem w_applies : (headSpec (Jvm.Cond.code x code maxLocals ret :: tables_1) room_1).applies x e0.platform about1 = true :=
  (Spec.applies_iff w_frames).mpr ⟨w_running, w_runnable, w_alone, w_named, w_hears, w_ripe, w_room, w_tables⟩
theorem atStart : AtStart classFile x code maxLocals ret World_1 tables_1 room_1 Calls_1 rest_1 Pre_1 launch0 p0 e0 about1 theMethod args0 below0 :=
  ⟨lists_1, trivial, launch0.admits_env _ _ _, launch0.least_env, fairChoices_fair.cas, fairChoices_fair.clock, w_frames, w_args, w_heap, w_applies, trivial, trivial, w_case⟩
end start1
theorem witness_1 : WitnessClaimed_1 := ⟨start1.p0, start1.e0, start1.about1, start1.theMethod, start1.args0, start1.below0, start1.atStart⟩
end Jvm.Pilot.@@N@@
