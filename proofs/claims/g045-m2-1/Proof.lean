import JvmDerived
import JvmDerived.Pilot.@@N@@Statement
import JvmDerived.Pilot.@@N@@Code
set_option linter.unusedVariables false
set_option linter.unusedSimpArgs false
@@BLOCK:NumsL.lean.txt@@
namespace Jvm.Pilot.@@N@@
open Jvm Jvm.ClassFile Sem Op Lib Jvm.Free Jvm.Stand Jvm.LawKit Jvm.RoadKit Bundle Jvm.Pilot.@@N@@.Jvm.D
section OwnGo
variable {p : Program} {l : Launch} {e : Env} {R : Room} {s : State} {m : MethodId} {args : Array Value} {below : List Frame} {meth : Method} {c : Code} {T T' : State} {locs : List Loc} {cells slots K1 K2 : Nat} {Q : Option Value → Heap → List Loc → Prop}
/-- from T at the frame f the run comes to an end that meets Q -/
def Go (p : Program) (e : Env) (below : List Frame) (s : State) (K1 K2 : Nat) (Q : Option Value → Heap → List Loc → Prop) (T : State) (f : JFrame) : Prop :=
  ∃ s₂ o, Steps p.tables e below (T.setTop f) s₂ ∧ s₂.status = .running ∧ Ended s₂ below o ∧ ∃ v L, o = .returned v ∧ Q v s₂.heap L ∧ FrameEnd s o s₂ L K1 K2
theorem Go.on {f f' : JFrame} (h : ∀ t, Steps p.tables e below (T'.setTop f') t → Steps p.tables e below (T.setTop f) t) (g : Go p e below s K1 K2 Q T' f') : Go p e below s K1 K2 Q T f := by
  obtain ⟨s₂, o, h1, r⟩ := g
  exact ⟨s₂, o, h _ h1, r⟩
theorem Go.cast {f f' : JFrame} (h : f = f') (g : Go p e below s K1 K2 Q T f') : Go p e below s K1 K2 Q T f := h ▸ g
theorem Go.gen {f : JFrame} (h : ∀ k1 k2 q, k1 = K1 → k2 = K2 → Q = q → Go p e below s k1 k2 q T f) : Go p e below s K1 K2 Q T f := h _ _ _ rfl rfl rfl
theorem Go.retV (X : Stand p l e R s m args below meth c T locs cells slots) (hx : p.tables.exec = Jvm.exec) {pc : Nat} {Ls : Array Slot} {w : Value} {t : FieldType} {i : Instr} {rest : List Value} (hret : meth.sig.returnType = some t) (hn : narrow t w = w)
    (hi : (i = .ireturn ∧ (t = .int ∨ t = .boolean ∨ t = .byte ∨ t = .char ∨ t = .short) ∧ ∃ z, w = .int z) ∨ (i = .lreturn ∧ t = .long ∧ ∃ z, w = .long z) ∨ (i = .dreturn ∧ t = .double ∧ ∃ z, w = .double z) ∨ (i = .freturn ∧ t = .float ∧ ∃ z, w = .float z) ∨ (i = .areturn ∧ t.isReference = true ∧ w.isRef = true))
    (hd : decode c.code pc = .ok (i, 1)) (hq : Q (some w) T.heap locs) (hc : cells ≤ K1) (hs : slots ≤ K2) (hlk : meth.locks = false := by assumption) : Go p e below s K1 K2 Q T (mkF m pc Ls (w :: rest)) := by
  obtain ⟨fs, hr, hrun, hended, hW, hsame⟩ := X.leave (v := some w) (fun h => by rw [hret] at h; cases h) hlk
  exact ⟨_, _, retOut X hx hret hn hi hd hr, hrun, hended, _, _, rfl, hq, ⟨_, rfl⟩, hW, hsame.mono hc hs⟩
theorem Go.retN (X : Stand p l e R s m args below meth c T locs cells slots) (hx : p.tables.exec = Jvm.exec) {pc : Nat} {Ls : Array Slot} {z : Int32} {t : FieldType} {rest : List Value} (hret : meth.sig.returnType = some t) (ht : t = .boolean ∨ t = .byte ∨ t = .char ∨ t = .short)
    (hd : decode c.code pc = .ok (.ireturn, 1)) (hq : Q (some (.int (nar t z))) T.heap locs) (hc : cells ≤ K1) (hs : slots ≤ K2) (hlk : meth.locks = false := by assumption) : Go p e below s K1 K2 Q T (mkF m pc Ls (.int z :: rest)) := by
  obtain ⟨fs, hr, hrun, hended, hW, hsame⟩ := X.leave (v := some (.int (nar t z))) (fun h => by rw [hret] at h; cases h) hlk
  exact ⟨_, _, Jvm.RoadKit.retN X hx hret ht hd hr, hrun, hended, _, _, rfl, hq, ⟨_, rfl⟩, hW, hsame.mono hc hs⟩
theorem Go.ret0 (X : Stand p l e R s m args below meth c T locs cells slots) (hx : p.tables.exec = Jvm.exec) {pc : Nat} {Ls : Array Slot} (hret : meth.sig.returnType = none)
    (hd : decode c.code pc = .ok (.return_, 1)) (hq : Q none T.heap locs) (hc : cells ≤ K1) (hs : slots ≤ K2) (hlk : meth.locks = false := by assumption) : Go p e below s K1 K2 Q T (mkF m pc Ls []) := by
  obtain ⟨fs, hr, hrun, hended, hW, hsame⟩ := X.leave (v := none) (fun _ => rfl) hlk
  exact ⟨_, _, X.returnOut hx hret hd hr, hrun, hended, _, _, rfl, hq, ⟨_, rfl⟩, hW, hsame.mono hc hs⟩
theorem own_lc_lt {a b : Int64} : lcmpW a b < 0 ↔ a < b := by rw [lcW]; exact lc_lt a b
theorem own_lc_gt {a b : Int64} : 0 < lcmpW a b ↔ b < a := by rw [lcW]; exact lc_gt a b
theorem own_lc_eq {a b : Int64} : lcmpW a b = 0 ↔ a = b := by rw [lcW]; exact lc_eq a b
theorem own_lremM {g : JFrame} {target : State} (X : Stand p l e R s m args below meth c T locs cells slots) (hx : p.tables.exec = Jvm.exec) (hg : g.method = m) {x y : Int64} {rest : List Value} (hd : decode c.code g.pc = .ok (.lrem, 1)) (hs : g.stack = .long y :: .long x :: rest) (hy : y ≠ 0)
    (hr : Steps p.tables e below (T.setTop { g with pc := g.pc + 1, stack := .long (x % y) :: rest }) target) : Steps p.tables e below (T.setTop g) target := by
  have q : x - x / y * y = x % y := by
    apply Int64.toInt_inj.mp
    have h1 := Int64.le_toInt (x % y)
    have h2 := Int64.toInt_lt (x % y)
    rw [Int64.toInt_sub, Int64.toInt_mul, Int64.toInt_div, Int.bmod_mul_bmod, Int.sub_bmod_bmod, Int.mul_comm (x.toInt.tdiv y.toInt), ← Int.tmod_def, ← Int64.toInt_mod]
    exact Int.bmod_eq_of_le_mul_two (by omega) (by omega)
  exact XS.lrem X.here hx hg hd hs hy (by rw [q]; exact hr)
theorem own_cl_gt {o : Option Ordering} : 0 < cmpValue o .l ↔ o = some .gt := by rcases o with _ | (_ | _ | _) <;> decide
theorem own_cl_lt {o : Option Ordering} : cmpValue o .l < 0 ↔ ¬ (o = some .gt ∨ o = some .eq) := by rcases o with _ | (_ | _ | _) <;> decide
theorem own_cg_lt {o : Option Ordering} : cmpValue o .g < 0 ↔ o = some .lt := by rcases o with _ | (_ | _ | _) <;> decide
theorem own_cg_gt {o : Option Ordering} : 0 < cmpValue o .g ↔ ¬ (o = some .lt ∨ o = some .eq) := by rcases o with _ | (_ | _ | _) <;> decide
theorem own_c_eq {o : Option Ordering} {k : CmpOp} : cmpValue o k = 0 ↔ o = some .eq := by cases k <;> rcases o with _ | (_ | _ | _) <;> decide
end OwnGo
section OwnFp
open Jvm.FP.Core
variable {a b V : UInt64} {x y z v : Int}
/-- the double a is finite and worth x units of 2^-1074 -/
def ZV (a : UInt64) (x : Int) : Prop := DFin a ∧ zval b64 (val64 a) = x
theorem ZV.ne (h : ZV a x) : val64 a ≠ .nan := h.1.ne_nan
theorem ZV.nn (h : ZV a x) : Jvm.Free.Fl.NoNaN64 a := Jvm.Free.Fl.noNaN64_no.mpr h.1.notNaN
theorem ZV.cmp (ha : ZV a x) (hb : ZV b y) : FP.dcmp a b = some (compare x y) := by
  show FP.Core.dcmp a b = _
  rw [dcmp_zval ha.ne hb.ne, ha.2, hb.2]
theorem ZV.uniq (ha : ZV a x) (hb : ZV a y) : x = y := ha.2.symm.trans hb.2
theorem own_fin_of {W : UInt64} (hn : val64 a ≠ .nan) (hW : DFin W) (h : zmag b64 (val64 a) ≤ zmag b64 (val64 W)) : DFin a := by
  cases h2 : val64 a with
  | nan => exact absurd h2 hn
  | inf s =>
    rw [h2] at h
    have := hW.zval_lt
    have e : zmag b64 (.inf s) = b64.tails * 2 ^ (b64.exps - 2) := rfl
    rw [e] at h
    omega
  | fin s c q => exact ⟨s, c, q, h2⟩
theorem own_natAbs (d : Datum) : (zval b64 d).natAbs = zmag b64 d := natAbs_signed _ _
theorem own_fin_of_z {W : UInt64} (hn : val64 a ≠ .nan) (hW : DFin W) (h : (zval b64 (val64 a)).natAbs ≤ (zval b64 (val64 W)).natAbs) : DFin a := by
  rw [own_natAbs, own_natAbs] at h; exact own_fin_of hn hW h
theorem ZV.add (ha : ZV a x) (hb : ZV b y) (hv : ZV V (x + y)) : ZV (FP.dadd a b) (x + y) := by
  have hn : val64 (FP.Core.dadd a b) ≠ .nan := (notNaN_iff _).mp (FP.Core.dadd_out ha.1.notNaN hb.1)
  have e : zval b64 (val64 (FP.Core.dadd a b)) = x + y := by
    have h1 := sum_le good_b64 ha.1 hb.1 (val64_fits a) (val64_fits b) (val64_fits V) hv.ne (by rw [ha.2, hb.2, hv.2]; exact Int.le_refl _)
    have h2 := sum_ge good_b64 ha.1 hb.1 (val64_fits a) (val64_fits b) (val64_fits V) hv.ne (by rw [ha.2, hb.2, hv.2]; exact Int.le_refl _)
    rw [← val64_dadd, hv.2] at h1 h2
    exact Int.le_antisymm h1 h2
  exact ⟨own_fin_of_z hn hv.1 (by rw [e, hv.2]; exact Nat.le_refl _), e⟩
theorem own_neg_fin {d : Datum} (h : ∃ s c q, d = .fin s c q) : ∃ s c q, negate d = .fin s c q := by
  obtain ⟨s, c, q, rfl⟩ := h; exact ⟨_, _, _, rfl⟩
theorem ZV.sub (ha : ZV a x) (hb : ZV b y) (hv : ZV V (x - y)) : ZV (FP.dsub a b) (x - y) := by
  have hn : val64 (FP.Core.dsub a b) ≠ .nan := (notNaN_iff _).mp (FP.Core.dsub_out ha.1.notNaN hb.1)
  have e : zval b64 (val64 (FP.Core.dsub a b)) = x - y := by
    have h1 := sum_le good_b64 ha.1 (own_neg_fin hb.1) (val64_fits a) (negate_fits (val64_fits b)) (val64_fits V) hv.ne (by rw [ha.2, zval_negate, hb.2, hv.2]; omega)
    have h2 := sum_ge good_b64 ha.1 (own_neg_fin hb.1) (val64_fits a) (negate_fits (val64_fits b)) (val64_fits V) hv.ne (by rw [ha.2, zval_negate, hb.2, hv.2]; omega)
    rw [← val64_dsub, hv.2] at h1 h2
    exact Int.le_antisymm h1 h2
  exact ⟨own_fin_of_z hn hv.1 (by rw [e, hv.2]; exact Nat.le_refl _), e⟩
/-- a sum or a difference lies between what bounds it -/
theorem ZV.add_le (ha : ZV a x) (hb : ZV b y) (hv : ZV V v) (h : x + y ≤ v) : zval b64 (val64 (FP.dadd a b)) ≤ v := by
  have h1 := sum_le good_b64 ha.1 hb.1 (val64_fits a) (val64_fits b) (val64_fits V) hv.ne (by rw [ha.2, hb.2, hv.2]; exact h)
  rw [← val64_dadd, hv.2] at h1; exact h1
theorem ZV.add_ge (ha : ZV a x) (hb : ZV b y) (hv : ZV V v) (h : v ≤ x + y) : v ≤ zval b64 (val64 (FP.dadd a b)) := by
  have h1 := sum_ge good_b64 ha.1 hb.1 (val64_fits a) (val64_fits b) (val64_fits V) hv.ne (by rw [ha.2, hb.2, hv.2]; exact h)
  rw [← val64_dadd, hv.2] at h1; exact h1
theorem ZV.sub_le (ha : ZV a x) (hb : ZV b y) (hv : ZV V v) (h : x - y ≤ v) : zval b64 (val64 (FP.dsub a b)) ≤ v := by
  have h1 := sum_le good_b64 ha.1 (own_neg_fin hb.1) (val64_fits a) (negate_fits (val64_fits b)) (val64_fits V) hv.ne (by rw [ha.2, zval_negate, hb.2, hv.2]; omega)
  rw [← val64_dsub, hv.2] at h1; exact h1
theorem ZV.sub_ge (ha : ZV a x) (hb : ZV b y) (hv : ZV V v) (h : v ≤ x - y) : v ≤ zval b64 (val64 (FP.dsub a b)) := by
  have h1 := sum_ge good_b64 ha.1 (own_neg_fin hb.1) (val64_fits a) (negate_fits (val64_fits b)) (val64_fits V) hv.ne (by rw [ha.2, zval_negate, hb.2, hv.2]; omega)
  rw [← val64_dsub, hv.2] at h1; exact h1
/-- the product's bounds -/
theorem own_mul_le (ha : ZV a x) (hb : ZV b y) (hv : ZV V v) (h : x * y ≤ v * (one64 : Int)) : zval b64 (val64 (FP.dmul a b)) ≤ v := by
  obtain ⟨⟨s, c, q, h1⟩, ex⟩ := ha
  obtain ⟨⟨t, d, r, h2⟩, ey⟩ := hb
  have f1 := val64_fits a; have f2 := val64_fits b
  rw [h1] at f1 ex; rw [h2] at f2 ey
  obtain ⟨p1, p2, p3⟩ := product_units f1 f2
  show zval b64 (val64 (FP.Core.dmul a b)) ≤ v
  rw [val64_dmul, h1, h2, p1, ← hv.2]
  refine zval_round_le good_b64 (val64_fits V) hv.ne (e0 := 2 * b64.qmin) (by decide) p2 ?_
  rw [p3, show (b64.qmin - 2 * b64.qmin).toNat = (-b64.qmin).toNat from by decide, pow_qmin64, hv.2, signed_xor]
  have : zval b64 (.fin s c q) * zval b64 (.fin t d r) ≤ v * (one64 : Int) := by rw [ex, ey]; exact h
  exact this
theorem own_mul_ge (ha : ZV a x) (hb : ZV b y) (hv : ZV V v) (h : v * (one64 : Int) ≤ x * y) : v ≤ zval b64 (val64 (FP.dmul a b)) := by
  obtain ⟨⟨s, c, q, h1⟩, ex⟩ := ha
  obtain ⟨⟨t, d, r, h2⟩, ey⟩ := hb
  have f1 := val64_fits a; have f2 := val64_fits b
  rw [h1] at f1 ex; rw [h2] at f2 ey
  obtain ⟨p1, p2, p3⟩ := product_units f1 f2
  show v ≤ zval b64 (val64 (FP.Core.dmul a b))
  rw [val64_dmul, h1, h2, p1, ← hv.2]
  refine zval_round_ge good_b64 (val64_fits V) hv.ne (e0 := 2 * b64.qmin) (by decide) p2 ?_
  rw [p3, show (b64.qmin - 2 * b64.qmin).toNat = (-b64.qmin).toNat from by decide, pow_qmin64, hv.2, signed_xor]
  have : v * (one64 : Int) ≤ zval b64 (.fin s c q) * zval b64 (.fin t d r) := by rw [ex, ey]; exact h
  exact this
theorem ZV.mul (ha : ZV a x) (hb : ZV b y) (hv : ZV V z) (h : x * y = z * (one64 : Int)) : ZV (FP.dmul a b) z := by
  have hn : val64 (FP.Core.dmul a b) ≠ .nan := (notNaN_iff _).mp (FP.Core.dmul_out ha.1 hb.1)
  have e : zval b64 (val64 (FP.Core.dmul a b)) = z := Int.le_antisymm (own_mul_le ha hb hv (Int.le_of_eq h)) (own_mul_ge ha hb hv (Int.le_of_eq h.symm))
  exact ⟨own_fin_of_z hn hv.1 (by rw [e, hv.2]; exact Nat.le_refl _), e⟩
/-- the quotient of finite doubles, the divisor not nought: its datum -/
theorem own_quot (ha : ZV a x) (hb : ZV b y) (hy : y ≠ 0) : ∃ s c q t d r, val64 a = .fin s c q ∧ val64 b = .fin t d r ∧ 0 < d ∧ val64 (FP.ddiv a b) = roundRatio b64 (s != t) c d (q - r) ∧ FP.Core.fits b64 (.fin s c q) ∧ FP.Core.fits b64 (.fin t d r) := by
  obtain ⟨⟨s, c, q, h1⟩, ex⟩ := ha
  obtain ⟨⟨t, d, r, h2⟩, ey⟩ := hb
  have f1 := val64_fits a; have f2 := val64_fits b
  rw [h1] at f1; rw [h2] at f2
  have hd : d ≠ 0 := fun q => by
    subst q
    rw [h2] at ey
    apply hy; rw [← ey]; show signed t (inUnits 0 r _) = 0
    unfold inUnits; rw [Nat.zero_mul, signed_zero]
  refine ⟨s, c, q, t, d, r, h1, h2, Nat.pos_of_ne_zero hd, ?_, f1, f2⟩
  show val64 (FP.Core.ddiv a b) = _
  rw [val64_ddiv, h1, h2]
  show (if d = 0 then _ else _) = _
  rw [if_neg hd]
theorem own_div_mag_le {c d : Nat} {q r : Int} {s t sg : Bool} (f1 : FP.Core.fits b64 (.fin s c q)) (f2 : FP.Core.fits b64 (.fin t d r)) (hd : 0 < d) {W : Datum} (fW : FP.Core.fits b64 W) (hW : W ≠ .nan)
    (h : inUnits c q b64.qmin * one64 ≤ zmag b64 W * inUnits d r b64.qmin) : zmag b64 (roundRatio b64 sg c d (q - r)) ≤ zmag b64 W := by
  have h1 := f1.2.1
  have h2 := f2.2.1
  have hq : b64.qmin < 0 := by decide
  refine zmag_roundRatio_le good_b64 hd fW hW (e0 := 2 * b64.qmin - r) (by omega) (by omega) ?_
  have e1 : (b64.qmin - (2 * b64.qmin - r)).toNat = (r - b64.qmin).toNat := by congr 1; omega
  rw [e1]
  have e2 : inUnits c (q - r) (2 * b64.qmin - r) = inUnits c q b64.qmin * one64 := by
    unfold inUnits
    rw [← pow_qmin64, Nat.mul_assoc, ← Nat.pow_add]
    congr 2; omega
  rw [e2]
  refine Nat.le_trans h (Nat.le_of_eq ?_)
  unfold inUnits
  rw [Nat.mul_comm d, Nat.mul_assoc]
theorem own_div_mag_ge {c d : Nat} {q r : Int} {s t sg : Bool} (f1 : FP.Core.fits b64 (.fin s c q)) (f2 : FP.Core.fits b64 (.fin t d r)) (hd : 0 < d) {W : Datum} (fW : FP.Core.fits b64 W)
    (h : zmag b64 W * inUnits d r b64.qmin ≤ inUnits c q b64.qmin * one64) : zmag b64 W ≤ zmag b64 (roundRatio b64 sg c d (q - r)) := by
  have h1 := f1.2.1
  have h2 := f2.2.1
  have hq : b64.qmin < 0 := by decide
  refine zmag_roundRatio_ge good_b64 hd fW (e0 := 2 * b64.qmin - r) (by omega) (by omega) ?_
  have e1 : (b64.qmin - (2 * b64.qmin - r)).toNat = (r - b64.qmin).toNat := by congr 1; omega
  rw [e1]
  have e2 : inUnits c (q - r) (2 * b64.qmin - r) = inUnits c q b64.qmin * one64 := by
    unfold inUnits
    rw [← pow_qmin64, Nat.mul_assoc, ← Nat.pow_add]
    congr 2; omega
  rw [e2]
  refine Nat.le_trans (Nat.le_of_eq ?_) h
  unfold inUnits
  rw [Nat.mul_comm d, Nat.mul_assoc]
/-- what is said of a quotient: r its units -/
def Quo (x y r : Int) : Prop := ∀ (V : UInt64) (v : Int), ZV V v → (x * (one64 : Int) ≤ v * y → r ≤ v) ∧ (v * y ≤ x * (one64 : Int) → v ≤ r)
theorem own_sgn_z (s : Bool) (m : Nat) : signed s m = if s then -(m : Int) else m := rfl
theorem ZV.neg_ex (h : ZV a x) : ∃ V, ZV V (-x) := by
  refine ⟨FP.Core.dneg a, ?_, ?_⟩
  · obtain ⟨⟨s, c, q, h1⟩, -⟩ := h; exact ⟨!s, c, q, by rw [val64_dneg, h1]; rfl⟩
  · rw [val64_dneg, zval_negate, h.2]
theorem own_mag {s : Bool} {c : Nat} {q : Int} : zval b64 (.fin s c q) = signed s (inUnits c q b64.qmin) := rfl
/-- the quotient by a positive double of at least one -/
theorem ZV.div (ha : ZV a x) (hb : ZV b y) (hy : (one64 : Int) ≤ y) : ∃ r, ZV (FP.ddiv a b) r ∧ Quo x y r := by
  have o1 := one64_pos
  obtain ⟨s, c, q, t, d, r, h1, h2, hd, h3, f1, f2⟩ := own_quot ha hb (by omega)
  have ey := hb.2; rw [h2, own_mag] at ey
  have ex := ha.2; rw [h1, own_mag] at ex
  have t0 : t = false := by
    cases t
    · rfl
    · simp only [own_sgn_z, if_true] at ey; omega
  subst t0
  have hy0 : (0 : Int) < y := by omega
  have ey' : ((inUnits d r b64.qmin : Nat) : Int) = y := ey
  generalize hu : inUnits d r b64.qmin = u at *
  generalize hc : inUnits c q b64.qmin = k at *
  have hsg : sgn (val64 (FP.ddiv a b)) = s := by rw [h3, sgn_roundRatio]; cases s <;> rfl
  have hne : val64 (FP.ddiv a b) ≠ .nan := by rw [h3]; exact roundRatio_ne_nan _ _ _ _ _
  have hz : zval b64 (val64 (FP.ddiv a b)) = signed s (zmag b64 (val64 (FP.ddiv a b))) := by rw [zval, hsg]
  have up : ∀ W : UInt64, val64 W ≠ .nan → k * one64 ≤ zmag b64 (val64 W) * u → zmag b64 (val64 (FP.ddiv a b)) ≤ zmag b64 (val64 W) := fun W hW h => by
    rw [h3]; exact own_div_mag_le f1 f2 hd (val64_fits W) hW (by rw [hu, hc]; exact h)
  have dn : ∀ W : UInt64, zmag b64 (val64 W) * u ≤ k * one64 → zmag b64 (val64 W) ≤ zmag b64 (val64 (FP.ddiv a b)) := fun W h => by
    rw [h3]; exact own_div_mag_ge f1 f2 hd (val64_fits W) (by rw [hu, hc]; exact h)
  have hk : k = zmag b64 (val64 a) := by rw [h1]; exact hc.symm
  have hfin : DFin (FP.ddiv a b) := own_fin_of hne ha.1 (up a ha.ne (by rw [← hk]; exact Nat.mul_le_mul_left _ (by omega)))
  refine ⟨_, ⟨hfin, rfl⟩, fun V v hv => ?_⟩
  rw [hz]
  generalize hm : zmag b64 (val64 (FP.ddiv a b)) = m at *
  have hV := own_natAbs (val64 V)
  rw [hv.2] at hV
  have upV := up V hv.ne
  have dnV := dn V
  rw [← hV] at upV dnV
  clear up dn
  have cast : ∀ p q : Nat, ((p * q : Nat) : Int) = (p : Int) * q := fun p q => by simp
  cases s
  · have ex' : (k : Int) = x := ex
    have em : signed false m = (m : Int) := rfl
    rw [em]
    constructor
    · intro h
      by_cases hv0 : 0 ≤ v
      · have e1 : (v.natAbs : Int) = v := Int.natAbs_of_nonneg hv0
        have : k * one64 ≤ v.natAbs * u := by apply Int.ofNat_le.mp; rw [cast, cast, ex', e1, ey']; exact h
        have := upV this; omega
      · exfalso
        have h5 : v * y < 0 := Int.mul_neg_of_neg_of_pos (by omega) hy0
        have h6 : 0 ≤ x * (one64 : Int) := Int.mul_nonneg (by omega) (by omega)
        omega
    · intro h
      by_cases hv0 : 0 ≤ v
      · have e1 : (v.natAbs : Int) = v := Int.natAbs_of_nonneg hv0
        have : v.natAbs * u ≤ k * one64 := by apply Int.ofNat_le.mp; rw [cast, cast, ex', e1, ey']; exact h
        have := dnV this; omega
      · omega
  · have ex' : -(k : Int) = x := ex
    have em : signed true m = -(m : Int) := rfl
    rw [em]
    have ek : (k : Int) = -x := by omega
    constructor
    · intro h
      by_cases hv0 : 0 ≤ v
      · omega
      · have e1 : (v.natAbs : Int) = -v := by omega
        have : v.natAbs * u ≤ k * one64 := by
          apply Int.ofNat_le.mp; rw [cast, cast, ek, e1, ey', Int.neg_mul, Int.neg_mul]; omega
        have := dnV this; omega
    · intro h
      by_cases hv0 : v ≤ 0
      · have e1 : (v.natAbs : Int) = -v := by omega
        have : k * one64 ≤ v.natAbs * u := by
          apply Int.ofNat_le.mp; rw [cast, cast, ek, e1, ey', Int.neg_mul, Int.neg_mul]; omega
        have := upV this; omega
      · exfalso
        have h5 : 0 < v * y := Int.mul_pos (by omega) hy0
        have h6 : x * (one64 : Int) ≤ 0 := by
          have : 0 ≤ (k : Int) * (one64 : Int) := Int.mul_nonneg (by omega) (by omega)
          rw [ek, Int.neg_mul] at this; omega
        omega
theorem ZV.div_exact (ha : ZV a x) (hb : ZV b y) (hy : (one64 : Int) ≤ y) (hv : ZV V z) (h : x * (one64 : Int) = z * y) : ZV (FP.ddiv a b) z := by
  obtain ⟨r, h1, h2⟩ := ha.div hb hy
  have h3 := h2 V z hv
  have : r = z := Int.le_antisymm (h3.1 (Int.le_of_eq h)) (h3.2 (Int.le_of_eq h.symm))
  exact this ▸ h1
/-- i * 2^k units are a double -/
theorem own_rep (i : Int) (k : Nat) (hi : i.natAbs < 2 ^ 53) (hk : k ≤ 2045) : ∃ V, ZV V (i * ((2 ^ k : Nat) : Int)) := by
  obtain ⟨c', q', h1, h2⟩ := round_exact good_b64 (decide (i < 0)) (c := i.natAbs) (q := (k : Int) + b64.qmin) hi (by omega) (by rw [show b64.qmax = 971 from by decide, qmin_b64]; omega)
  have hf : FP.Core.fits b64 (.fin (decide (i < 0)) c' q') := by rw [← h1]; exact round_fits good_b64 _
  refine ⟨of64 (.fin (decide (i < 0)) c' q'), ⟨_, _, _, val64_of64 hf⟩, ?_⟩
  rw [val64_of64 hf, own_mag, h2]
  unfold inUnits
  rw [show ((k : Int) + b64.qmin - b64.qmin).toNat = k from by omega, signed_mul, own_sgn_z]
  congr 1
  by_cases h : i < 0
  · simp only [h, decide_true, if_true]; omega
  · simp only [h, decide_false]; simp only [Bool.false_eq_true, if_false]; omega
theorem own_one64 : (one64 : Int) = ((2 ^ 1074 : Nat) : Int) := rfl
theorem ZV.of_int {i : Int} (h : DInt i a) : ZV a (i * (one64 : Int)) := by
  refine ⟨?_, DInt_zval h⟩
  unfold DInt at h
  cases h2 : val64 a with
  | nan => rw [h2] at h; exact h.elim
  | inf s => rw [h2] at h; exact h.elim
  | fin s c q => exact ⟨s, c, q, h2⟩
theorem own_i2d (n : Int32) : ZV (FP.i2d n) (n.toInt * (one64 : Int)) := ZV.of_int (i2d_int n)
theorem own_l2d {n : Int64} (h : n.toInt.natAbs ≤ 2 ^ 53) : ZV (FP.l2d n) (n.toInt * (one64 : Int)) := ZV.of_int (l2d_int h)
theorem own_ddiv_nn (ha : DFin a) (hb : DFin b) : FP.ddiv (FP.Core.dneg a) (FP.Core.dneg b) = FP.ddiv a b ∨ val64 (FP.ddiv a b) = .nan := by
  by_cases hn : val64 (FP.ddiv a b) = .nan
  · exact Or.inr hn
  · refine Or.inl (val64_inj hn ?_).symm
    obtain ⟨s, c, q, h1⟩ := ha
    obtain ⟨t, d, r, h2⟩ := hb
    show val64 (FP.Core.ddiv a b) = val64 (FP.Core.ddiv _ _)
    rw [val64_ddiv, val64_ddiv, val64_dneg, val64_dneg, h1, h2]
    show quotient b64 (.fin s c q) (.fin t d r) = quotient b64 (.fin (!s) c q) (.fin (!t) d r)
    simp only [quotient]
    have : ((!s) != (!t)) = (s != t) := by cases s <;> cases t <;> rfl
    rw [this]
theorem ZV.dneg (h : ZV a x) : ZV (FP.Core.dneg a) (-x) := by
  refine ⟨?_, by rw [val64_dneg, zval_negate, h.2]⟩
  obtain ⟨⟨s, c, q, h1⟩, -⟩ := h; exact ⟨!s, c, q, by rw [val64_dneg, h1]; rfl⟩
/-- the quotient by a negative double of at most minus one -/
theorem ZV.div_neg (ha : ZV a x) (hb : ZV b y) (hy : y ≤ -(one64 : Int)) : ∃ r, ZV (FP.ddiv a b) r ∧ Quo (-x) (-y) r := by
  obtain ⟨r, h1, h2⟩ := ha.dneg.div hb.dneg (by omega)
  have o1 := one64_pos
  obtain ⟨s, c, q, t, d, r', -, -, -, h3, -⟩ := own_quot ha hb (by omega)
  rcases own_ddiv_nn ha.1 hb.1 with h | h
  · exact ⟨r, h ▸ h1, h2⟩
  · rw [h3] at h; exact absurd h (roundRatio_ne_nan _ _ _ _ _)
/-- n / D against i / 2^j -/
theorem own_quo_int {n D r : Int} (h : Quo (n * (one64 : Int)) (D * (one64 : Int)) r) (i : Int) (j : Nat) (hj : j ≤ 1074) (hi : i.natAbs < 2 ^ 53) :
    (n * ((2 ^ j : Nat) : Int) ≤ i * D → r ≤ i * ((2 ^ (1074 - j) : Nat) : Int)) ∧ (i * D ≤ n * ((2 ^ j : Nat) : Int) → i * ((2 ^ (1074 - j) : Nat) : Int) ≤ r) := by
  obtain ⟨V, hV⟩ := own_rep i (1074 - j) hi (by omega)
  have q := h V _ hV
  have e : (one64 : Int) = ((2 ^ j : Nat) : Int) * ((2 ^ (1074 - j) : Nat) : Int) := by
    rw [own_one64, ← Int.natCast_mul, ← Nat.pow_add]; congr 2; omega
  have hu : (0 : Int) ≤ ((2 ^ (1074 - j) : Nat) : Int) * (one64 : Int) := Int.mul_nonneg (Int.natCast_nonneg _) (Int.natCast_nonneg _)
  have e1 : n * (one64 : Int) * (one64 : Int) = n * ((2 ^ j : Nat) : Int) * (((2 ^ (1074 - j) : Nat) : Int) * (one64 : Int)) := by
    conv => lhs; arg 1; rw [e]
    rw [← Int.mul_assoc n, Int.mul_assoc (n * _)]
  have e2 : i * ((2 ^ (1074 - j) : Nat) : Int) * (D * (one64 : Int)) = i * D * (((2 ^ (1074 - j) : Nat) : Int) * (one64 : Int)) := by rw [Int.mul_assoc i, Int.mul_left_comm _ D, ← Int.mul_assoc i D]
  rw [e1, e2] at q
  exact ⟨fun z => q.1 (Int.mul_le_mul_of_nonneg_right z hu), fun z => q.2 (Int.mul_le_mul_of_nonneg_right z hu)⟩
theorem own_zero : ZV (0 : UInt64) 0 := ⟨⟨_, _, _, val64_zero⟩, zval64_zero⟩
theorem own_one : ZV (4607182418800017408 : UInt64) (one64 : Int) := by
  have := ZV.of_int dint_one; rwa [Int.one_mul] at this
theorem own_cmp_gt {x y : Int} : some (compare x y) = some Ordering.gt ↔ y < x := by rw [Option.some.injEq]; exact compare_gt_iff x y
theorem own_cmp_lt {x y : Int} : some (compare x y) = some Ordering.lt ↔ x < y := by rw [Option.some.injEq]; exact compare_lt_iff x y
theorem own_cmp_eq {x y : Int} : some (compare x y) = some Ordering.eq ↔ x = y := by rw [Option.some.injEq]; exact compare_eq_iff x y
theorem own_dnn {i : Int} {a : UInt64} (h : DInt i a) : Jvm.Free.Fl.NoNaN64 a := (ZV.of_int h).nn
theorem own_nnd' {a : UInt64} (ha : DFin a) (n : Int32) (hn : n ≠ 0) : Jvm.Free.Fl.NoNaN64 (FP.ddiv a (FP.i2d n)) :=
  Jvm.Free.Fl.noNaN64_no.mpr (FP.Core.ddiv_out ha.notNaN (i2d_fin n) (fun q => i2d_ne_zero hn (by rwa [zero_bits2] at q)))
theorem own_nnd (s : Int64) (n : Int32) (hn : n ≠ 0) : Jvm.Free.Fl.NoNaN64 (FP.ddiv (FP.l2d s) (FP.i2d n)) := own_nnd' (l2d_fin s) n hn
theorem own_dz : DInt 0 (0 : UInt64) := by
  have : (0 : UInt64) = FP.l2d 0 := FP.Core.l2d_zero.symm
  rw [this]; exact l2d_int (a := 0) (by decide)
theorem own_div_eq {S S' : UInt64} {s : Int} (h : DInt s S) (h' : DInt s S') (n : Int32) (hn : 1 ≤ n.toInt) : FP.dcmp (FP.ddiv S (FP.i2d n)) (FP.ddiv S' (FP.i2d n)) = some .eq := by
  have hy : (one64 : Int) ≤ n.toInt * (one64 : Int) := by
    have := Int.mul_le_mul_of_nonneg_right hn (show (0 : Int) ≤ (one64 : Int) by omega)
    rwa [Int.one_mul] at this
  by_cases hs : s = 0
  · subst hs
    have z1 := ZV.of_int h
    have z2 := ZV.of_int h'
    rw [Int.zero_mul] at z1 z2
    have q1 := z1.div_exact (own_i2d n) hy own_zero (by rw [Int.zero_mul, Int.zero_mul])
    have q2 := z2.div_exact (own_i2d n) hy own_zero (by rw [Int.zero_mul, Int.zero_mul])
    rw [q1.cmp q2, own_cmp_eq]
  · have e := dint_unique hs h h'
    subst e
    have hz : n ≠ 0 := fun q => by subst q; revert hn; decide
    exact dcmp_refl (Jvm.Free.Fl.noNaN64_no.mp (own_nnd' (ZV.of_int h).1 n hz))
theorem own_ib (x : Int32) : x.toInt.natAbs ≤ 2147483648 := by have := x.le_toInt; have := x.toInt_lt; omega
end OwnFp
def containsV (c lo up : UInt64) : Int32 := if (cmpValue (FP.dcmp c lo) .l) < (0 : Int32) then (0 : Int32) else (if (0 : Int32) < (cmpValue (FP.dcmp c up) .g) then (0 : Int32) else (1 : Int32))
section OwnBounds
open Jvm.FP.Core
theorem own_cmpI (x y : Int) : compare (x * (one64 : Int)) (y * (one64 : Int)) = compare x y := compare_mul_pos x y _ (by have := one64_pos; omega)
theorem own_minmax (a b : Int32) : ¬ ((0 : Int32) < (cmpValue (FP.dcmp (FP.i2d (if b < a then b else a)) (FP.i2d (if a < b then b else a))) .g)) := by
  rw [(own_i2d _).cmp (own_i2d _), own_cmpI, own_cg_gt, own_cmp_lt, own_cmp_eq]
  simp only [Int32.lt_iff_toInt_lt]
  split <;> split <;> omega
/-- a whole number against two whole bounds -/
theorem own_contains {c lo up : UInt64} {x l u : Int} (hc : ZV c (x * (one64 : Int))) (hl : ZV lo (l * (one64 : Int))) (hu : ZV up (u * (one64 : Int))) : containsV c lo up = if x < l then 0 else if u < x then 0 else 1 := by
  unfold containsV
  simp only [hc.cmp hl, hc.cmp hu, own_cmpI, own_cl_lt, own_cg_gt, own_cmp_gt, own_cmp_eq, own_cmp_lt]
  by_cases h1 : x < l
  · rw [if_pos (by omega), if_pos h1]
  · rw [if_neg (by omega), if_neg h1]
    by_cases h2 : u < x
    · rw [if_pos (by omega), if_pos h2]
    · rw [if_neg (by omega), if_neg h2]
end OwnBounds
theorem d1_0 : decode jdk_29_method_69_code 0 = .ok (.iload_n 0, 1) := by decide +kernel
theorem d1_1 : decode jdk_29_method_69_code 1 = .ok (.iload_n 1, 1) := by decide +kernel
theorem d1_2 : decode jdk_29_method_69_code 2 = .ok (.if_icmp .gt 7, 3) := by decide +kernel
theorem d1_5 : decode jdk_29_method_69_code 5 = .ok (.iload_n 0, 1) := by decide +kernel
theorem d1_6 : decode jdk_29_method_69_code 6 = .ok (.goto 4, 3) := by decide +kernel
theorem d1_9 : decode jdk_29_method_69_code 9 = .ok (.iload_n 1, 1) := by decide +kernel
theorem d1_10 : decode jdk_29_method_69_code 10 = .ok (.ireturn, 1) := by decide +kernel
theorem ef_rm1 (m : MethodId) (i0 : Int32) (i1 : Int32) : entryFrame m #[(.int i0), (.int i1)] 2 = mkF m 0 #[.val (.int i0), .val (.int i1)] [] := by first | (simp [entryFrame, mkF, argsToLocals, Value.category]; done) | rfl
def Q_rm1 (Z : State) (i0 : Int32) (i1 : Int32) (h0 : Heap) (n0 : Nat) (v : Option Value) (h : Heap) (L : List Loc) : Prop := v = some (.int (if i1 < i0 then i1 else i0)) ∧ Fr n0 L ∧ h = h0
set_option maxRecDepth 65536 in
set_option maxHeartbeats 40000000 in
theorem rm1 (l : Launch) (Z : State) (aw : Array Value) (hw : ∀ d ∈ tables_1, d.before aw Z = true) (ws : List Jvm.Cond) (i0 : Int32) (i1 : Int32) (h0 : Heap) (n0 : Nat) (Z0 : n0 ≤ h0.size) :
    MetFree l (⟨"java/lang/Math", "min", "(II)I"⟩ : MethodName) (head1 (Jvm.Cond.code (⟨"java/lang/Math", "min", "(II)I"⟩ : MethodName) jdk_29_method_69_code 2 (some .int) :: ws) ({ frames := 0, cells := 0, slots := 0, locals := 0 } : Room)) (fun a U => a = #[(.int i0), (.int i1)] ∧ Z.Warmed39 U.vm ∧ U.heap = h0) (fun _ _ _ _ _ => True) (fun _ U o U' => ∃ v L, o = .returned v ∧ Q_rm1 Z i0 i1 h0 n0 v U'.heap L ∧ FrameEnd U o U' L ({ frames := 0, cells := 0, slots := 0, locals := 0 } : Room).cells ({ frames := 0, cells := 0, slots := 0, locals := 0 } : Room).slots) := by
  refine MetFree.of_bodySF (Jvm.Free.JP.mathPlain rfl (by decide +kernel)) hisR ?_
  intro p e s m args below meth c s₁ Bd hml0 hP hK
  obtain ⟨rfl, hZ, hh⟩ := hP
  have hx := Bd.exec
  have hby := Bd.bytes
  have hml : c.maxLocals = 2 := hml0
  have hown : s.vm.findClass "java/lang/Math" = some m.cls := findClass_of_methodNamed Bd.named
  have hnm := (name_of_methodNamed Bd.named Bd.method).1
  have hlk : meth.locks = false := BodyLoose.notSynchronized Bd
  have X0 : Stand p l e ({ frames := 0, cells := 0, slots := 0, locals := 0 } : Room) s m #[(.int i0), (.int i1)] below meth c s₁ [] 0 0 := Stand.of_body Bd
  have e0 : s₁.heap = h0 := by rw [← hh, Bd.state]; rfl
  have N0 := Fr.nil n0
  have ZZ := Z0
  show Go p e below s ({ frames := 0, cells := 0, slots := 0, locals := 0 } : Room).cells ({ frames := 0, cells := 0, slots := 0, locals := 0 } : Room).slots (fun v h L => Q_rm1 Z i0 i1 h0 n0 v h L) s₁ (entryFrame m #[(.int i0), (.int i1)] 2)
  refine Go.cast (ef_rm1 m i0 i1) ?_
  refine Go.gen ?_
  intro K1 K2 QQ hK1 hK2 hQQ
  refine Go.on (fun _ k => XS.iloadN X0.here hx rfl (hb hby d1_0) rfl k) ?_
  show Go _ _ _ _ _ _ _ _ (mkF m 1 #[.val (.int i0), .val (.int i1)] [(.int i0)])
  refine Go.on (fun _ k => XS.iloadN X0.here hx rfl (hb hby d1_1) rfl k) ?_
  show Go _ _ _ _ _ _ _ _ (mkF m 2 #[.val (.int i0), .val (.int i1)] [(.int i1), (.int i0)])
  suffices hJ2 : ∀ (v1 : Int32), v1 = (if i1 < i0 then i1 else i0) → Go p e below s K1 K2 QQ s₁ (mkF m 10 #[.val (.int i0), .val (.int i1)] [(.int v1)]) by
    by_cases hc3 : i1 < i0
    · -- pc 2 yes
      refine Go.on (fun _ k => XS.icmpYes X0.here hx rfl (pc0 := 2) (pc' := 9) rfl (hb hby d1_2) rfl (tlt hc3).2.2.1 (by decide) (by decide) k) ?_
      show Go _ _ _ _ _ _ _ _ (mkF m 9 #[.val (.int i0), .val (.int i1)] [])
      refine Go.on (fun _ k => XS.iloadN X0.here hx rfl (hb hby d1_9) rfl k) ?_
      show Go _ _ _ _ _ _ _ _ (mkF m 10 #[.val (.int i0), .val (.int i1)] [(.int i1)])
      exact hJ2 _ (by rw [if_pos hc3])
    · -- pc 2 no
      refine Go.on (fun _ k => XS.icmpNo X0.here hx rfl (hb hby d1_2) rfl (flt hc3).2.2.1 k) ?_
      show Go _ _ _ _ _ _ _ _ (mkF m 5 #[.val (.int i0), .val (.int i1)] [])
      refine Go.on (fun _ k => XS.iloadN X0.here hx rfl (hb hby d1_5) rfl k) ?_
      show Go _ _ _ _ _ _ _ _ (mkF m 6 #[.val (.int i0), .val (.int i1)] [(.int i0)])
      refine Go.on (fun _ k => XS.goto X0.here hx rfl (pc0 := 6) (pc' := 10) rfl (hb hby d1_6) (by decide) (by decide) k) ?_
      show Go _ _ _ _ _ _ _ _ (mkF m 10 #[.val (.int i0), .val (.int i1)] [(.int i0)])
      exact hJ2 _ (by rw [if_neg hc3])
  intro v1 hv1
  refine Go.retV X0 hx Bd.returns rfl (Or.inl ⟨rfl, Or.inl rfl, _, rfl⟩) (hb hby d1_10) ?_ (by rw [hK1]; decide) (by rw [hK2]; decide)
  rw [e0, ← hQQ]
  refine ⟨?_, N0, rfl⟩
  rw [hv1]
theorem d2_0 : decode jdk_29_method_65_code 0 = .ok (.iload_n 0, 1) := by decide +kernel
theorem d2_1 : decode jdk_29_method_65_code 1 = .ok (.iload_n 1, 1) := by decide +kernel
theorem d2_2 : decode jdk_29_method_65_code 2 = .ok (.if_icmp .lt 7, 3) := by decide +kernel
theorem d2_5 : decode jdk_29_method_65_code 5 = .ok (.iload_n 0, 1) := by decide +kernel
theorem d2_6 : decode jdk_29_method_65_code 6 = .ok (.goto 4, 3) := by decide +kernel
theorem d2_9 : decode jdk_29_method_65_code 9 = .ok (.iload_n 1, 1) := by decide +kernel
theorem d2_10 : decode jdk_29_method_65_code 10 = .ok (.ireturn, 1) := by decide +kernel
theorem ef_rm2 (m : MethodId) (i0 : Int32) (i1 : Int32) : entryFrame m #[(.int i0), (.int i1)] 2 = mkF m 0 #[.val (.int i0), .val (.int i1)] [] := by first | (simp [entryFrame, mkF, argsToLocals, Value.category]; done) | rfl
def Q_rm2 (Z : State) (i0 : Int32) (i1 : Int32) (h0 : Heap) (n0 : Nat) (v : Option Value) (h : Heap) (L : List Loc) : Prop := v = some (.int (if i0 < i1 then i1 else i0)) ∧ Fr n0 L ∧ h = h0
set_option maxRecDepth 65536 in
set_option maxHeartbeats 40000000 in
theorem rm2 (l : Launch) (Z : State) (aw : Array Value) (hw : ∀ d ∈ tables_1, d.before aw Z = true) (ws : List Jvm.Cond) (i0 : Int32) (i1 : Int32) (h0 : Heap) (n0 : Nat) (Z0 : n0 ≤ h0.size) :
    MetFree l (⟨"java/lang/Math", "max", "(II)I"⟩ : MethodName) (head1 (Jvm.Cond.code (⟨"java/lang/Math", "max", "(II)I"⟩ : MethodName) jdk_29_method_65_code 2 (some .int) :: ws) ({ frames := 0, cells := 0, slots := 0, locals := 0 } : Room)) (fun a U => a = #[(.int i0), (.int i1)] ∧ Z.Warmed39 U.vm ∧ U.heap = h0) (fun _ _ _ _ _ => True) (fun _ U o U' => ∃ v L, o = .returned v ∧ Q_rm2 Z i0 i1 h0 n0 v U'.heap L ∧ FrameEnd U o U' L ({ frames := 0, cells := 0, slots := 0, locals := 0 } : Room).cells ({ frames := 0, cells := 0, slots := 0, locals := 0 } : Room).slots) := by
  refine MetFree.of_bodySF (Jvm.Free.JP.mathPlain rfl (by decide +kernel)) hisR ?_
  intro p e s m args below meth c s₁ Bd hml0 hP hK
  obtain ⟨rfl, hZ, hh⟩ := hP
  have hx := Bd.exec
  have hby := Bd.bytes
  have hml : c.maxLocals = 2 := hml0
  have hown : s.vm.findClass "java/lang/Math" = some m.cls := findClass_of_methodNamed Bd.named
  have hnm := (name_of_methodNamed Bd.named Bd.method).1
  have hlk : meth.locks = false := BodyLoose.notSynchronized Bd
  have X0 : Stand p l e ({ frames := 0, cells := 0, slots := 0, locals := 0 } : Room) s m #[(.int i0), (.int i1)] below meth c s₁ [] 0 0 := Stand.of_body Bd
  have e0 : s₁.heap = h0 := by rw [← hh, Bd.state]; rfl
  have N0 := Fr.nil n0
  have ZZ := Z0
  show Go p e below s ({ frames := 0, cells := 0, slots := 0, locals := 0 } : Room).cells ({ frames := 0, cells := 0, slots := 0, locals := 0 } : Room).slots (fun v h L => Q_rm2 Z i0 i1 h0 n0 v h L) s₁ (entryFrame m #[(.int i0), (.int i1)] 2)
  refine Go.cast (ef_rm2 m i0 i1) ?_
  refine Go.gen ?_
  intro K1 K2 QQ hK1 hK2 hQQ
  refine Go.on (fun _ k => XS.iloadN X0.here hx rfl (hb hby d2_0) rfl k) ?_
  show Go _ _ _ _ _ _ _ _ (mkF m 1 #[.val (.int i0), .val (.int i1)] [(.int i0)])
  refine Go.on (fun _ k => XS.iloadN X0.here hx rfl (hb hby d2_1) rfl k) ?_
  show Go _ _ _ _ _ _ _ _ (mkF m 2 #[.val (.int i0), .val (.int i1)] [(.int i1), (.int i0)])
  suffices hJ2 : ∀ (v1 : Int32), v1 = (if i0 < i1 then i1 else i0) → Go p e below s K1 K2 QQ s₁ (mkF m 10 #[.val (.int i0), .val (.int i1)] [(.int v1)]) by
    by_cases hc3 : i0 < i1
    · -- pc 2 yes
      refine Go.on (fun _ k => XS.icmpYes X0.here hx rfl (pc0 := 2) (pc' := 9) rfl (hb hby d2_2) rfl (tlt hc3).1 (by decide) (by decide) k) ?_
      show Go _ _ _ _ _ _ _ _ (mkF m 9 #[.val (.int i0), .val (.int i1)] [])
      refine Go.on (fun _ k => XS.iloadN X0.here hx rfl (hb hby d2_9) rfl k) ?_
      show Go _ _ _ _ _ _ _ _ (mkF m 10 #[.val (.int i0), .val (.int i1)] [(.int i1)])
      exact hJ2 _ (by rw [if_pos hc3])
    · -- pc 2 no
      refine Go.on (fun _ k => XS.icmpNo X0.here hx rfl (hb hby d2_2) rfl (flt hc3).1 k) ?_
      show Go _ _ _ _ _ _ _ _ (mkF m 5 #[.val (.int i0), .val (.int i1)] [])
      refine Go.on (fun _ k => XS.iloadN X0.here hx rfl (hb hby d2_5) rfl k) ?_
      show Go _ _ _ _ _ _ _ _ (mkF m 6 #[.val (.int i0), .val (.int i1)] [(.int i0)])
      refine Go.on (fun _ k => XS.goto X0.here hx rfl (pc0 := 6) (pc' := 10) rfl (hb hby d2_6) (by decide) (by decide) k) ?_
      show Go _ _ _ _ _ _ _ _ (mkF m 10 #[.val (.int i0), .val (.int i1)] [(.int i0)])
      exact hJ2 _ (by rw [if_neg hc3])
  intro v1 hv1
  refine Go.retV X0 hx Bd.returns rfl (Or.inl ⟨rfl, Or.inl rfl, _, rfl⟩) (hb hby d2_10) ?_ (by rw [hK1]; decide) (by rw [hK2]; decide)
  rw [e0, ← hQQ]
  refine ⟨?_, N0, rfl⟩
  rw [hv1]
theorem d3_0 : decode prog_14_method_1_code 0 = .ok (.aload_n 0, 1) := by decide +kernel
theorem d3_1 : decode prog_14_method_1_code 1 = .ok (.invokespecial 1, 3) := by decide +kernel
theorem d3_4 : decode prog_14_method_1_code 4 = .ok (.iconst 0, 1) := by decide +kernel
theorem d3_5 : decode prog_14_method_1_code 5 = .ok (.istore_n 3, 1) := by decide +kernel
theorem d3_6 : decode prog_14_method_1_code 6 = .ok (.iload_n 3, 1) := by decide +kernel
theorem d3_7 : decode prog_14_method_1_code 7 = .ok (.aload_n 1, 1) := by decide +kernel
theorem d3_8 : decode prog_14_method_1_code 8 = .ok (.arraylength, 1) := by decide +kernel
theorem d3_9 : decode prog_14_method_1_code 9 = .ok (.if_icmp .ge 41, 3) := by decide +kernel
theorem d3_12 : decode prog_14_method_1_code 12 = .ok (.aload_n 1, 1) := by decide +kernel
theorem d3_13 : decode prog_14_method_1_code 13 = .ok (.iload_n 3, 1) := by decide +kernel
theorem d3_14 : decode prog_14_method_1_code 14 = .ok (.daload, 1) := by decide +kernel
theorem d3_15 : decode prog_14_method_1_code 15 = .ok (.aload_n 2, 1) := by decide +kernel
theorem d3_16 : decode prog_14_method_1_code 16 = .ok (.iload_n 3, 1) := by decide +kernel
theorem d3_17 : decode prog_14_method_1_code 17 = .ok (.daload, 1) := by decide +kernel
theorem d3_18 : decode prog_14_method_1_code 18 = .ok (.dcmp .g, 1) := by decide +kernel
theorem d3_19 : decode prog_14_method_1_code 19 = .ok (.ifCond .le 25, 3) := by decide +kernel
theorem d3_44 : decode prog_14_method_1_code 44 = .ok (.iinc 3 1, 3) := by decide +kernel
theorem d3_47 : decode prog_14_method_1_code 47 = .ok (.goto (-41), 3) := by decide +kernel
theorem d3_50 : decode prog_14_method_1_code 50 = .ok (.aload_n 0, 1) := by decide +kernel
theorem d3_51 : decode prog_14_method_1_code 51 = .ok (.aload_n 1, 1) := by decide +kernel
theorem d3_52 : decode prog_14_method_1_code 52 = .ok (.putfield 16, 3) := by decide +kernel
theorem d3_55 : decode prog_14_method_1_code 55 = .ok (.aload_n 0, 1) := by decide +kernel
theorem d3_56 : decode prog_14_method_1_code 56 = .ok (.aload_n 2, 1) := by decide +kernel
theorem d3_57 : decode prog_14_method_1_code 57 = .ok (.putfield 22, 3) := by decide +kernel
theorem d3_60 : decode prog_14_method_1_code 60 = .ok (.return_, 1) := by decide +kernel
theorem pn_0 : plainName "com/example/driftswarm/driftswarm/algorithms/Bounds" = true := by first | (simp [plainName, overriddenIn]; done) | decide +kernel
theorem ef_rm3 (m : MethodId) (a0 : Addr) (a1 : Addr) (a2 : Addr) : entryFrame m #[(.ref a0), (.ref a1), (.ref a2)] 4 = mkF m 0 #[.val (.ref a0), .val (.ref a1), .val (.ref a2), .unset] [] := by first | (simp [entryFrame, mkF, argsToLocals, Value.category]; done) | rfl
def Q_rm3 (Z : State) (a0 : Addr) (a1 : Addr) (a2 : Addr) (u0 : Value) (u1 : Value) (k_a1 : ClassId) (x0 : UInt64) (x1 : UInt64) (k_a2 : ClassId) (y0 : UInt64) (y1 : UInt64) (h0 : Heap) (n0 : Nat) (v : Option Value) (h : Heap) (L : List Loc) : Prop := v = none ∧ Fr n0 L ∧ Keep h0 h [a0] ∧ Exa Z h a0 "com/example/driftswarm/driftswarm/algorithms/Bounds" ∧ Fld Z h a0 "com/example/driftswarm/driftswarm/algorithms/Bounds" "lower" "[D" (.ref a1) ∧ Fld Z h a0 "com/example/driftswarm/driftswarm/algorithms/Bounds" "upper" "[D" (.ref a2)
set_option maxRecDepth 65536 in
set_option maxHeartbeats 40000000 in
theorem rm3 (l : Launch) (Z : State) (aw : Array Value) (hw : ∀ d ∈ tables_1, d.before aw Z = true) (ws : List Jvm.Cond) (a0 : Addr) (a1 : Addr) (a2 : Addr) (u0 : Value) (u1 : Value) (k_a1 : ClassId) (x0 : UInt64) (x1 : UInt64) (k_a2 : ClassId) (y0 : UInt64) (y1 : UInt64) (h0 : Heap) (n0 : Nat) (Z0 : n0 ≤ h0.size) (E_a0 : Exa Z h0 a0 "com/example/driftswarm/driftswarm/algorithms/Bounds") (F_lower_a0 : Fld Z h0 a0 "com/example/driftswarm/driftswarm/algorithms/Bounds" "lower" "[D" u0) (F_upper_a0 : Fld Z h0 a0 "com/example/driftswarm/driftswarm/algorithms/Bounds" "upper" "[D" u1) (V_a1 : Arv Z h0 a1 k_a1 .double (2 : Int32) [(.double x0), (.double x1)] (.double (0 : UInt64))) (V_a2 : Arv Z h0 a2 k_a2 .double (2 : Int32) [(.double y0), (.double y1)] (.double (0 : UInt64))) (g_a0 : n0 ≤ a0) (hle0 : ¬ ((0 : Int32) < (cmpValue (FP.dcmp x0 y0) .g))) (hle1 : ¬ ((0 : Int32) < (cmpValue (FP.dcmp x1 y1) .g))) (ne_a1_a0 : a1 ≠ a0) (ne_a2_a0 : a2 ≠ a0) :
    MetFree l (⟨"com/example/driftswarm/driftswarm/algorithms/Bounds", "<init>", "([D[D)V"⟩ : MethodName) (head1 (Jvm.Cond.code (⟨"com/example/driftswarm/driftswarm/algorithms/Bounds", "<init>", "([D[D)V"⟩ : MethodName) prog_14_method_1_code 4 none :: ws) ({ frames := 1, cells := 0, slots := 0, locals := 12 } : Room)) (fun a U => a = #[(.ref a0), (.ref a1), (.ref a2)] ∧ Z.Warmed39 U.vm ∧ U.heap = h0) (fun _ _ _ _ _ => True) (fun _ U o U' => ∃ v L, o = .returned v ∧ Q_rm3 Z a0 a1 a2 u0 u1 k_a1 x0 x1 k_a2 y0 y1 h0 n0 v U'.heap L ∧ FrameEnd U o U' L ({ frames := 1, cells := 0, slots := 0, locals := 12 } : Room).cells ({ frames := 1, cells := 0, slots := 0, locals := 12 } : Room).slots) := by
  refine MetFree.of_bodySF (plainFor_of_name pn_0) hisR ?_
  intro p e s m args below meth c s₁ Bd hml0 hP hK
  obtain ⟨rfl, hZ, hh⟩ := hP
  have hx := Bd.exec
  have hby := Bd.bytes
  have hml : c.maxLocals = 4 := hml0
  have hown : s.vm.findClass "com/example/driftswarm/driftswarm/algorithms/Bounds" = some m.cls := findClass_of_methodNamed Bd.named
  have hnm := (name_of_methodNamed Bd.named Bd.method).1
  have hlk : meth.locks = false := BodyLoose.notSynchronized Bd
  have X0 : Stand p l e ({ frames := 1, cells := 0, slots := 0, locals := 12 } : Room) s m #[(.ref a0), (.ref a1), (.ref a2)] below meth c s₁ [] 0 0 := Stand.of_body Bd
  have e0 : s₁.heap = h0 := by rw [← hh, Bd.state]; rfl
  have N0 := Fr.nil n0
  have ZZ := Z0
  show Go p e below s ({ frames := 1, cells := 0, slots := 0, locals := 12 } : Room).cells ({ frames := 1, cells := 0, slots := 0, locals := 12 } : Room).slots (fun v h L => Q_rm3 Z a0 a1 a2 u0 u1 k_a1 x0 x1 k_a2 y0 y1 h0 n0 v h L) s₁ (entryFrame m #[(.ref a0), (.ref a1), (.ref a2)] 4)
  refine Go.cast (ef_rm3 m a0 a1 a2) ?_
  refine Go.gen ?_
  intro K1 K2 QQ hK1 hK2 hQQ
  have KP : Keep h0 h0 [a0] := Keep.refl _ _
  refine Go.on (fun _ k => XS.aloadN X0.here hx rfl (hb hby d3_0) rfl rfl k) ?_
  show Go _ _ _ _ _ _ _ _ (mkF m 1 #[.val (.ref a0), .val (.ref a1), .val (.ref a2), .unset] [(.ref a0)])
  obtain ⟨T1, X1, e1, st1⟩ := initO X0 hx hZ hown (hw _ (List.mem_of_getElem? (i := 15) rfl)) (hw _ (List.mem_of_getElem? (i := 16) rfl)) (hw _ (List.mem_of_getElem? (i := 17) rfl)) e0 (g := (mkF m 1 #[.val (.ref a0), .val (.ref a1), .val (.ref a2), .unset] [(.ref a0)])) rfl (by rw [hml]; rfl) rfl (hb hby d3_1) (by decide) (W := 0) (by show 2 * 0 + _ ≤ _; exact Nat.le_of_eq rfl) (by decide)
  refine Go.on st1 ?_
  show Go _ _ _ _ _ _ _ _ (mkF m 4 #[.val (.ref a0), .val (.ref a1), .val (.ref a2), .unset] [])
  refine Go.on (fun _ k => XS.iconst X1.here hx rfl (hb hby d3_4) k) ?_
  show Go _ _ _ _ _ _ _ _ (mkF m 5 #[.val (.ref a0), .val (.ref a1), .val (.ref a2), .unset] [(.int (0 : Int32))])
  refine Go.on (fun _ k => XS.istoreN X1.here hx rfl (hb hby d3_5) rfl (l' := #[.val (.ref a0), .val (.ref a1), .val (.ref a2), .val (.int (0 : Int32))]) rfl k) ?_
  show Go _ _ _ _ _ _ _ _ (mkF m 6 #[.val (.ref a0), .val (.ref a1), .val (.ref a2), .val (.int (0 : Int32))] [])
  refine Go.on (fun _ k => XS.iloadN X1.here hx rfl (hb hby d3_6) rfl k) ?_
  show Go _ _ _ _ _ _ _ _ (mkF m 7 #[.val (.ref a0), .val (.ref a1), .val (.ref a2), .val (.int (0 : Int32))] [(.int (0 : Int32))])
  refine Go.on (fun _ k => XS.aloadN X1.here hx rfl (hb hby d3_7) rfl rfl k) ?_
  show Go _ _ _ _ _ _ _ _ (mkF m 8 #[.val (.ref a0), .val (.ref a1), .val (.ref a2), .val (.int (0 : Int32))] [(.ref a1), (.int (0 : Int32))])
  obtain ⟨cl2, Ar2, -, S2, N2n, -, -⟩ := id V_a1
  refine Go.on (X1.arraylength hx (by rw [e1]; exact Ar2.1) (State.isArrayOf_alike hZ.alike Ar2.2.1) (g := (mkF m 8 #[.val (.ref a0), .val (.ref a1), .val (.ref a2), .val (.int (0 : Int32))] [(.ref a1), (.int (0 : Int32))])) rfl rfl (hb hby d3_8)) ?_
  rw [len_of S2 N2n]
  show Go _ _ _ _ _ _ _ _ (mkF m 9 #[.val (.ref a0), .val (.ref a1), .val (.ref a2), .val (.int (0 : Int32))] [(.int (2 : Int32)), (.int (0 : Int32))])
  have hc3 : (0 : Int32) < (2 : Int32) := by decide
  refine Go.on (fun _ k => XS.icmpNo X1.here hx rfl (hb hby d3_9) rfl (tlt hc3).2.1 k) ?_
  show Go _ _ _ _ _ _ _ _ (mkF m 12 #[.val (.ref a0), .val (.ref a1), .val (.ref a2), .val (.int (0 : Int32))] [])
  refine Go.on (fun _ k => XS.aloadN X1.here hx rfl (hb hby d3_12) rfl rfl k) ?_
  show Go _ _ _ _ _ _ _ _ (mkF m 13 #[.val (.ref a0), .val (.ref a1), .val (.ref a2), .val (.int (0 : Int32))] [(.ref a1)])
  refine Go.on (fun _ k => XS.iloadN X1.here hx rfl (hb hby d3_13) rfl k) ?_
  show Go _ _ _ _ _ _ _ _ (mkF m 14 #[.val (.ref a0), .val (.ref a1), .val (.ref a2), .val (.int (0 : Int32))] [(.int (0 : Int32)), (.ref a1)])
  obtain ⟨cl4, Ar4, -, S4, -, H4, -⟩ := id V_a1
  have hin4 : ¬ ((0 : Int32) < 0 ∨ cl4.slots.size ≤ ((0 : Int32)).toNatClampNeg) := inb_of S4 ⟨by decide, by decide⟩
  refine Go.on (X1.daload hx (j := (0 : Int32)) (v := (.double x0)) (by rw [e1]; exact Ar4.1) (State.isArrayOf_alike hZ.alike Ar4.2.1) Ar4.2.2 hin4 (H4.at hin4 (rfl)) (g := (mkF m 14 #[.val (.ref a0), .val (.ref a1), .val (.ref a2), .val (.int (0 : Int32))] [(.int (0 : Int32)), (.ref a1)])) rfl rfl (hb hby d3_14)) ?_
  show Go _ _ _ _ _ _ _ _ (mkF m 15 #[.val (.ref a0), .val (.ref a1), .val (.ref a2), .val (.int (0 : Int32))] [(.double x0)])
  refine Go.on (fun _ k => XS.aloadN X1.here hx rfl (hb hby d3_15) rfl rfl k) ?_
  show Go _ _ _ _ _ _ _ _ (mkF m 16 #[.val (.ref a0), .val (.ref a1), .val (.ref a2), .val (.int (0 : Int32))] [(.ref a2), (.double x0)])
  refine Go.on (fun _ k => XS.iloadN X1.here hx rfl (hb hby d3_16) rfl k) ?_
  show Go _ _ _ _ _ _ _ _ (mkF m 17 #[.val (.ref a0), .val (.ref a1), .val (.ref a2), .val (.int (0 : Int32))] [(.int (0 : Int32)), (.ref a2), (.double x0)])
  obtain ⟨cl5, Ar5, -, S5, -, H5, -⟩ := id V_a2
  have hin5 : ¬ ((0 : Int32) < 0 ∨ cl5.slots.size ≤ ((0 : Int32)).toNatClampNeg) := inb_of S5 ⟨by decide, by decide⟩
  refine Go.on (X1.daload hx (j := (0 : Int32)) (v := (.double y0)) (by rw [e1]; exact Ar5.1) (State.isArrayOf_alike hZ.alike Ar5.2.1) Ar5.2.2 hin5 (H5.at hin5 (rfl)) (g := (mkF m 17 #[.val (.ref a0), .val (.ref a1), .val (.ref a2), .val (.int (0 : Int32))] [(.int (0 : Int32)), (.ref a2), (.double x0)])) rfl rfl (hb hby d3_17)) ?_
  show Go _ _ _ _ _ _ _ _ (mkF m 18 #[.val (.ref a0), .val (.ref a1), .val (.ref a2), .val (.int (0 : Int32))] [(.double y0), (.double x0)])
  refine Go.on (fun _ k => XS.dcmpS X1.here hx rfl (hb hby d3_18) rfl rfl k) ?_
  show Go _ _ _ _ _ _ _ _ (mkF m 19 #[.val (.ref a0), .val (.ref a1), .val (.ref a2), .val (.int (0 : Int32))] [(.int (cmpValue (FP.dcmp x0 y0) .g))])
  have hc6 : ¬ ((0 : Int32) < (cmpValue (FP.dcmp x0 y0) .g)) := hle0
  refine Go.on (fun _ k => XS.ifYes X1.here hx rfl (pc0 := 19) (pc' := 44) rfl (hb hby d3_19) rfl ((if0 _ _).trans (flt hc6).2.2.2) (by decide) (by decide) k) ?_
  show Go _ _ _ _ _ _ _ _ (mkF m 44 #[.val (.ref a0), .val (.ref a1), .val (.ref a2), .val (.int (0 : Int32))] [])
  refine Go.on (fun _ k => XS.iinc X1.here hx rfl (hb hby d3_44) rfl (l' := #[.val (.ref a0), .val (.ref a1), .val (.ref a2), .val (.int (1 : Int32))]) rfl k) ?_
  show Go _ _ _ _ _ _ _ _ (mkF m 47 #[.val (.ref a0), .val (.ref a1), .val (.ref a2), .val (.int (1 : Int32))] [])
  refine Go.on (fun _ k => XS.goto X1.here hx rfl (pc0 := 47) (pc' := 6) rfl (hb hby d3_47) (by decide) (by decide) k) ?_
  show Go _ _ _ _ _ _ _ _ (mkF m 6 #[.val (.ref a0), .val (.ref a1), .val (.ref a2), .val (.int (1 : Int32))] [])
  refine Go.on (fun _ k => XS.iloadN X1.here hx rfl (hb hby d3_6) rfl k) ?_
  show Go _ _ _ _ _ _ _ _ (mkF m 7 #[.val (.ref a0), .val (.ref a1), .val (.ref a2), .val (.int (1 : Int32))] [(.int (1 : Int32))])
  refine Go.on (fun _ k => XS.aloadN X1.here hx rfl (hb hby d3_7) rfl rfl k) ?_
  show Go _ _ _ _ _ _ _ _ (mkF m 8 #[.val (.ref a0), .val (.ref a1), .val (.ref a2), .val (.int (1 : Int32))] [(.ref a1), (.int (1 : Int32))])
  obtain ⟨cl7, Ar7, -, S7, N7n, -, -⟩ := id V_a1
  refine Go.on (X1.arraylength hx (by rw [e1]; exact Ar7.1) (State.isArrayOf_alike hZ.alike Ar7.2.1) (g := (mkF m 8 #[.val (.ref a0), .val (.ref a1), .val (.ref a2), .val (.int (1 : Int32))] [(.ref a1), (.int (1 : Int32))])) rfl rfl (hb hby d3_8)) ?_
  rw [len_of S7 N7n]
  show Go _ _ _ _ _ _ _ _ (mkF m 9 #[.val (.ref a0), .val (.ref a1), .val (.ref a2), .val (.int (1 : Int32))] [(.int (2 : Int32)), (.int (1 : Int32))])
  have hc8 : (1 : Int32) < (2 : Int32) := by decide
  refine Go.on (fun _ k => XS.icmpNo X1.here hx rfl (hb hby d3_9) rfl (tlt hc8).2.1 k) ?_
  show Go _ _ _ _ _ _ _ _ (mkF m 12 #[.val (.ref a0), .val (.ref a1), .val (.ref a2), .val (.int (1 : Int32))] [])
  refine Go.on (fun _ k => XS.aloadN X1.here hx rfl (hb hby d3_12) rfl rfl k) ?_
  show Go _ _ _ _ _ _ _ _ (mkF m 13 #[.val (.ref a0), .val (.ref a1), .val (.ref a2), .val (.int (1 : Int32))] [(.ref a1)])
  refine Go.on (fun _ k => XS.iloadN X1.here hx rfl (hb hby d3_13) rfl k) ?_
  show Go _ _ _ _ _ _ _ _ (mkF m 14 #[.val (.ref a0), .val (.ref a1), .val (.ref a2), .val (.int (1 : Int32))] [(.int (1 : Int32)), (.ref a1)])
  obtain ⟨cl9, Ar9, -, S9, -, H9, -⟩ := id V_a1
  have hin9 : ¬ ((1 : Int32) < 0 ∨ cl9.slots.size ≤ ((1 : Int32)).toNatClampNeg) := inb_of S9 ⟨by decide, by decide⟩
  refine Go.on (X1.daload hx (j := (1 : Int32)) (v := (.double x1)) (by rw [e1]; exact Ar9.1) (State.isArrayOf_alike hZ.alike Ar9.2.1) Ar9.2.2 hin9 (H9.at hin9 (rfl)) (g := (mkF m 14 #[.val (.ref a0), .val (.ref a1), .val (.ref a2), .val (.int (1 : Int32))] [(.int (1 : Int32)), (.ref a1)])) rfl rfl (hb hby d3_14)) ?_
  show Go _ _ _ _ _ _ _ _ (mkF m 15 #[.val (.ref a0), .val (.ref a1), .val (.ref a2), .val (.int (1 : Int32))] [(.double x1)])
  refine Go.on (fun _ k => XS.aloadN X1.here hx rfl (hb hby d3_15) rfl rfl k) ?_
  show Go _ _ _ _ _ _ _ _ (mkF m 16 #[.val (.ref a0), .val (.ref a1), .val (.ref a2), .val (.int (1 : Int32))] [(.ref a2), (.double x1)])
  refine Go.on (fun _ k => XS.iloadN X1.here hx rfl (hb hby d3_16) rfl k) ?_
  show Go _ _ _ _ _ _ _ _ (mkF m 17 #[.val (.ref a0), .val (.ref a1), .val (.ref a2), .val (.int (1 : Int32))] [(.int (1 : Int32)), (.ref a2), (.double x1)])
  obtain ⟨cl10, Ar10, -, S10, -, H10, -⟩ := id V_a2
  have hin10 : ¬ ((1 : Int32) < 0 ∨ cl10.slots.size ≤ ((1 : Int32)).toNatClampNeg) := inb_of S10 ⟨by decide, by decide⟩
  refine Go.on (X1.daload hx (j := (1 : Int32)) (v := (.double y1)) (by rw [e1]; exact Ar10.1) (State.isArrayOf_alike hZ.alike Ar10.2.1) Ar10.2.2 hin10 (H10.at hin10 (rfl)) (g := (mkF m 17 #[.val (.ref a0), .val (.ref a1), .val (.ref a2), .val (.int (1 : Int32))] [(.int (1 : Int32)), (.ref a2), (.double x1)])) rfl rfl (hb hby d3_17)) ?_
  show Go _ _ _ _ _ _ _ _ (mkF m 18 #[.val (.ref a0), .val (.ref a1), .val (.ref a2), .val (.int (1 : Int32))] [(.double y1), (.double x1)])
  refine Go.on (fun _ k => XS.dcmpS X1.here hx rfl (hb hby d3_18) rfl rfl k) ?_
  show Go _ _ _ _ _ _ _ _ (mkF m 19 #[.val (.ref a0), .val (.ref a1), .val (.ref a2), .val (.int (1 : Int32))] [(.int (cmpValue (FP.dcmp x1 y1) .g))])
  have hc11 : ¬ ((0 : Int32) < (cmpValue (FP.dcmp x1 y1) .g)) := hle1
  refine Go.on (fun _ k => XS.ifYes X1.here hx rfl (pc0 := 19) (pc' := 44) rfl (hb hby d3_19) rfl ((if0 _ _).trans (flt hc11).2.2.2) (by decide) (by decide) k) ?_
  show Go _ _ _ _ _ _ _ _ (mkF m 44 #[.val (.ref a0), .val (.ref a1), .val (.ref a2), .val (.int (1 : Int32))] [])
  refine Go.on (fun _ k => XS.iinc X1.here hx rfl (hb hby d3_44) rfl (l' := #[.val (.ref a0), .val (.ref a1), .val (.ref a2), .val (.int (2 : Int32))]) rfl k) ?_
  show Go _ _ _ _ _ _ _ _ (mkF m 47 #[.val (.ref a0), .val (.ref a1), .val (.ref a2), .val (.int (2 : Int32))] [])
  refine Go.on (fun _ k => XS.goto X1.here hx rfl (pc0 := 47) (pc' := 6) rfl (hb hby d3_47) (by decide) (by decide) k) ?_
  show Go _ _ _ _ _ _ _ _ (mkF m 6 #[.val (.ref a0), .val (.ref a1), .val (.ref a2), .val (.int (2 : Int32))] [])
  refine Go.on (fun _ k => XS.iloadN X1.here hx rfl (hb hby d3_6) rfl k) ?_
  show Go _ _ _ _ _ _ _ _ (mkF m 7 #[.val (.ref a0), .val (.ref a1), .val (.ref a2), .val (.int (2 : Int32))] [(.int (2 : Int32))])
  refine Go.on (fun _ k => XS.aloadN X1.here hx rfl (hb hby d3_7) rfl rfl k) ?_
  show Go _ _ _ _ _ _ _ _ (mkF m 8 #[.val (.ref a0), .val (.ref a1), .val (.ref a2), .val (.int (2 : Int32))] [(.ref a1), (.int (2 : Int32))])
  obtain ⟨cl12, Ar12, -, S12, N12n, -, -⟩ := id V_a1
  refine Go.on (X1.arraylength hx (by rw [e1]; exact Ar12.1) (State.isArrayOf_alike hZ.alike Ar12.2.1) (g := (mkF m 8 #[.val (.ref a0), .val (.ref a1), .val (.ref a2), .val (.int (2 : Int32))] [(.ref a1), (.int (2 : Int32))])) rfl rfl (hb hby d3_8)) ?_
  rw [len_of S12 N12n]
  show Go _ _ _ _ _ _ _ _ (mkF m 9 #[.val (.ref a0), .val (.ref a1), .val (.ref a2), .val (.int (2 : Int32))] [(.int (2 : Int32)), (.int (2 : Int32))])
  have hc13 : ¬ ((2 : Int32) < (2 : Int32)) := by decide
  refine Go.on (fun _ k => XS.icmpYes X1.here hx rfl (pc0 := 9) (pc' := 50) rfl (hb hby d3_9) rfl (flt hc13).2.1 (by decide) (by decide) k) ?_
  show Go _ _ _ _ _ _ _ _ (mkF m 50 #[.val (.ref a0), .val (.ref a1), .val (.ref a2), .val (.int (2 : Int32))] [])
  refine Go.on (fun _ k => XS.aloadN X1.here hx rfl (hb hby d3_50) rfl rfl k) ?_
  show Go _ _ _ _ _ _ _ _ (mkF m 51 #[.val (.ref a0), .val (.ref a1), .val (.ref a2), .val (.int (2 : Int32))] [(.ref a0)])
  refine Go.on (fun _ k => XS.aloadN X1.here hx rfl (hb hby d3_51) rfl rfl k) ?_
  show Go _ _ _ _ _ _ _ _ (mkF m 52 #[.val (.ref a0), .val (.ref a1), .val (.ref a2), .val (.int (2 : Int32))] [(.ref a1), (.ref a0)])
  obtain ⟨T14, h14, X14, e14, W14, st14⟩ := putF X1 hx hZ hown (host := "") (Or.inl (hw _ (List.mem_of_getElem? (i := 18) rfl))) Via.refl e1 F_lower_a0 E_a0 (Or.inr ⟨(hw _ (List.mem_of_getElem? (i := 19) rfl)), rfl, hnm⟩) (hw _ (List.mem_of_getElem? (i := 10) rfl)) (ty := (.array .double)) (by decide) rfl rfl (g := (mkF m 52 #[.val (.ref a0), .val (.ref a1), .val (.ref a2), .val (.int (2 : Int32))] [(.ref a1), (.ref a0)])) rfl rfl (hb hby d3_52)
  refine Go.on st14 ?_
  replace F_lower_a0 := F_lower_a0.same W14
  replace E_a0 := E_a0.wr W14
  replace F_upper_a0 := F_upper_a0.other W14 (Or.inr (slot_ne (Or.inr (hw _ (List.mem_of_getElem? (i := 21) rfl))) (Or.inr (hw _ (List.mem_of_getElem? (i := 19) rfl))) (by decide) (t := (.array .double)) (t' := (.array .double)) (by decide) (by decide)))
  replace V_a1 := V_a1.other W14 ne_a1_a0
  replace V_a2 := V_a2.other W14 ne_a2_a0
  have N14 := Fr.snoc X14 N0 g_a0
  replace ZZ := Nat.le_trans ZZ (Keep.of_wr W14).1
  replace KP := KP.wr W14 (Or.inl (List.mem_of_getElem? (i := 0) rfl))
  show Go _ _ _ _ _ _ _ _ (mkF m 55 #[.val (.ref a0), .val (.ref a1), .val (.ref a2), .val (.int (2 : Int32))] [])
  refine Go.on (fun _ k => XS.aloadN X14.here hx rfl (hb hby d3_55) rfl rfl k) ?_
  show Go _ _ _ _ _ _ _ _ (mkF m 56 #[.val (.ref a0), .val (.ref a1), .val (.ref a2), .val (.int (2 : Int32))] [(.ref a0)])
  refine Go.on (fun _ k => XS.aloadN X14.here hx rfl (hb hby d3_56) rfl rfl k) ?_
  show Go _ _ _ _ _ _ _ _ (mkF m 57 #[.val (.ref a0), .val (.ref a1), .val (.ref a2), .val (.int (2 : Int32))] [(.ref a2), (.ref a0)])
  obtain ⟨T15, h15, X15, e15, W15, st15⟩ := putF X14 hx hZ hown (host := "") (Or.inl (hw _ (List.mem_of_getElem? (i := 20) rfl))) Via.refl e14 F_upper_a0 E_a0 (Or.inr ⟨(hw _ (List.mem_of_getElem? (i := 21) rfl)), rfl, hnm⟩) (hw _ (List.mem_of_getElem? (i := 10) rfl)) (ty := (.array .double)) (by decide) rfl rfl (g := (mkF m 57 #[.val (.ref a0), .val (.ref a1), .val (.ref a2), .val (.int (2 : Int32))] [(.ref a2), (.ref a0)])) rfl rfl (hb hby d3_57)
  refine Go.on st15 ?_
  replace F_upper_a0 := F_upper_a0.same W15
  replace E_a0 := E_a0.wr W15
  replace F_lower_a0 := F_lower_a0.other W15 (Or.inr (slot_ne (Or.inr (hw _ (List.mem_of_getElem? (i := 19) rfl))) (Or.inr (hw _ (List.mem_of_getElem? (i := 21) rfl))) (by decide) (t := (.array .double)) (t' := (.array .double)) (by decide) (by decide)))
  replace V_a1 := V_a1.other W15 ne_a1_a0
  replace V_a2 := V_a2.other W15 ne_a2_a0
  have N15 := Fr.snoc X15 N14 g_a0
  replace ZZ := Nat.le_trans ZZ (Keep.of_wr W15).1
  replace KP := KP.wr W15 (Or.inl (List.mem_of_getElem? (i := 0) rfl))
  show Go _ _ _ _ _ _ _ _ (mkF m 60 #[.val (.ref a0), .val (.ref a1), .val (.ref a2), .val (.int (2 : Int32))] [])
  refine Go.ret0 X15 hx Bd.returns (hb hby d3_60) ?_ (by rw [hK1]; decide) (by rw [hK2]; decide)
  rw [e15, ← hQQ]
  exact ⟨rfl, N15, KP, E_a0, F_lower_a0, F_upper_a0⟩
theorem d6_0 : decode prog_14_method_3_code 0 = .ok (.dload_n 2, 1) := by decide +kernel
theorem d6_1 : decode prog_14_method_3_code 1 = .ok (.aload_n 0, 1) := by decide +kernel
theorem d6_2 : decode prog_14_method_3_code 2 = .ok (.getfield 16, 3) := by decide +kernel
theorem d6_5 : decode prog_14_method_3_code 5 = .ok (.iload_n 1, 1) := by decide +kernel
theorem d6_6 : decode prog_14_method_3_code 6 = .ok (.daload, 1) := by decide +kernel
theorem d6_7 : decode prog_14_method_3_code 7 = .ok (.dcmp .l, 1) := by decide +kernel
theorem d6_8 : decode prog_14_method_3_code 8 = .ok (.ifCond .lt 18, 3) := by decide +kernel
theorem d6_11 : decode prog_14_method_3_code 11 = .ok (.dload_n 2, 1) := by decide +kernel
theorem d6_12 : decode prog_14_method_3_code 12 = .ok (.aload_n 0, 1) := by decide +kernel
theorem d6_13 : decode prog_14_method_3_code 13 = .ok (.getfield 22, 3) := by decide +kernel
theorem d6_16 : decode prog_14_method_3_code 16 = .ok (.iload_n 1, 1) := by decide +kernel
theorem d6_17 : decode prog_14_method_3_code 17 = .ok (.daload, 1) := by decide +kernel
theorem d6_18 : decode prog_14_method_3_code 18 = .ok (.dcmp .g, 1) := by decide +kernel
theorem d6_19 : decode prog_14_method_3_code 19 = .ok (.ifCond .gt 7, 3) := by decide +kernel
theorem d6_22 : decode prog_14_method_3_code 22 = .ok (.iconst 1, 1) := by decide +kernel
theorem d6_23 : decode prog_14_method_3_code 23 = .ok (.goto 4, 3) := by decide +kernel
theorem d6_26 : decode prog_14_method_3_code 26 = .ok (.iconst 0, 1) := by decide +kernel
theorem d6_27 : decode prog_14_method_3_code 27 = .ok (.ireturn, 1) := by decide +kernel
theorem ef_rm6 (m : MethodId) (a0 : Addr) (i1 : Int32) (d2 : UInt64) : entryFrame m #[(.ref a0), (.int i1), (.double d2)] 4 = mkF m 0 #[.val (.ref a0), .val (.int i1), .val (.double d2), .second] [] := by first | (simp [entryFrame, mkF, argsToLocals, Value.category]; done) | rfl
def Q_rm6 (Z : State) (a0 : Addr) (i1 : Int32) (d2 : UInt64) (al : Addr) (au : Addr) (k_al : ClassId) (x0 : UInt64) (x1 : UInt64) (k_au : ClassId) (y0 : UInt64) (y1 : UInt64) (h0 : Heap) (n0 : Nat) (v : Option Value) (h : Heap) (L : List Loc) : Prop := v = some (.int (containsV d2 (if i1 = (0 : Int32) then x0 else x1) (if i1 = (0 : Int32) then y0 else y1))) ∧ Fr n0 L ∧ h = h0
set_option maxRecDepth 65536 in
set_option maxHeartbeats 40000000 in
theorem rm6 (l : Launch) (Z : State) (aw : Array Value) (hw : ∀ d ∈ tables_1, d.before aw Z = true) (ws : List Jvm.Cond) (a0 : Addr) (i1 : Int32) (d2 : UInt64) (al : Addr) (au : Addr) (k_al : ClassId) (x0 : UInt64) (x1 : UInt64) (k_au : ClassId) (y0 : UInt64) (y1 : UInt64) (h0 : Heap) (n0 : Nat) (Z0 : n0 ≤ h0.size) (F_lower_a0 : Fld Z h0 a0 "com/example/driftswarm/driftswarm/algorithms/Bounds" "lower" "[D" (.ref al)) (F_upper_a0 : Fld Z h0 a0 "com/example/driftswarm/driftswarm/algorithms/Bounds" "upper" "[D" (.ref au)) (V_al : Arv Z h0 al k_al .double (2 : Int32) [(.double x0), (.double x1)] (.double (0 : UInt64))) (V_au : Arv Z h0 au k_au .double (2 : Int32) [(.double y0), (.double y1)] (.double (0 : UInt64))) (hi : i1 = (0 : Int32) ∨ i1 = (1 : Int32)) :
    MetFree l (⟨"com/example/driftswarm/driftswarm/algorithms/Bounds", "contains", "(ID)Z"⟩ : MethodName) (head1 (Jvm.Cond.code (⟨"com/example/driftswarm/driftswarm/algorithms/Bounds", "contains", "(ID)Z"⟩ : MethodName) prog_14_method_3_code 4 (some .boolean) :: ws) ({ frames := 0, cells := 0, slots := 0, locals := 0 } : Room)) (fun a U => a = #[(.ref a0), (.int i1), (.double d2)] ∧ Z.Warmed39 U.vm ∧ U.heap = h0) (fun _ _ _ _ _ => True) (fun _ U o U' => ∃ v L, o = .returned v ∧ Q_rm6 Z a0 i1 d2 al au k_al x0 x1 k_au y0 y1 h0 n0 v U'.heap L ∧ FrameEnd U o U' L ({ frames := 0, cells := 0, slots := 0, locals := 0 } : Room).cells ({ frames := 0, cells := 0, slots := 0, locals := 0 } : Room).slots) := by
  refine MetFree.of_bodySF (plainFor_of_name pn_0) hisR ?_
  intro p e s m args below meth c s₁ Bd hml0 hP hK
  obtain ⟨rfl, hZ, hh⟩ := hP
  have hx := Bd.exec
  have hby := Bd.bytes
  have hml : c.maxLocals = 4 := hml0
  have hown : s.vm.findClass "com/example/driftswarm/driftswarm/algorithms/Bounds" = some m.cls := findClass_of_methodNamed Bd.named
  have hnm := (name_of_methodNamed Bd.named Bd.method).1
  have hlk : meth.locks = false := BodyLoose.notSynchronized Bd
  have X0 : Stand p l e ({ frames := 0, cells := 0, slots := 0, locals := 0 } : Room) s m #[(.ref a0), (.int i1), (.double d2)] below meth c s₁ [] 0 0 := Stand.of_body Bd
  have e0 : s₁.heap = h0 := by rw [← hh, Bd.state]; rfl
  have N0 := Fr.nil n0
  have ZZ := Z0
  show Go p e below s ({ frames := 0, cells := 0, slots := 0, locals := 0 } : Room).cells ({ frames := 0, cells := 0, slots := 0, locals := 0 } : Room).slots (fun v h L => Q_rm6 Z a0 i1 d2 al au k_al x0 x1 k_au y0 y1 h0 n0 v h L) s₁ (entryFrame m #[(.ref a0), (.int i1), (.double d2)] 4)
  refine Go.cast (ef_rm6 m a0 i1 d2) ?_
  refine Go.gen ?_
  intro K1 K2 QQ hK1 hK2 hQQ
  rcases hi with hi | hi
  · -- variable 0
    subst hi
    show Go _ _ _ _ _ _ _ _ (mkF m 0 #[.val (.ref a0), .val (.int (0 : Int32)), .val (.double d2), .second] [])
    refine Go.on (fun _ k => XS.dloadN X0.here hx rfl (hb hby d6_0) rfl k) ?_
    show Go _ _ _ _ _ _ _ _ (mkF m 1 #[.val (.ref a0), .val (.int (0 : Int32)), .val (.double d2), .second] [(.double d2)])
    refine Go.on (fun _ k => XS.aloadN X0.here hx rfl (hb hby d6_1) rfl rfl k) ?_
    show Go _ _ _ _ _ _ _ _ (mkF m 2 #[.val (.ref a0), .val (.int (0 : Int32)), .val (.double d2), .second] [(.ref a0), (.double d2)])
    obtain ⟨T1, X1, e1, st1⟩ := getF X0 hx hZ hown (host := "") (Or.inl (hw _ (List.mem_of_getElem? (i := 18) rfl))) Via.refl e0 F_lower_a0 (g := (mkF m 2 #[.val (.ref a0), .val (.int (0 : Int32)), .val (.double d2), .second] [(.ref a0), (.double d2)])) rfl rfl (hb hby d6_2)
    refine Go.on st1 ?_
    show Go _ _ _ _ _ _ _ _ (mkF m 5 #[.val (.ref a0), .val (.int (0 : Int32)), .val (.double d2), .second] [(.ref al), (.double d2)])
    refine Go.on (fun _ k => XS.iloadN X1.here hx rfl (hb hby d6_5) rfl k) ?_
    show Go _ _ _ _ _ _ _ _ (mkF m 6 #[.val (.ref a0), .val (.int (0 : Int32)), .val (.double d2), .second] [(.int (0 : Int32)), (.ref al), (.double d2)])
    obtain ⟨cl2, Ar2, -, S2, -, H2, -⟩ := id V_al
    have hin2 : ¬ ((0 : Int32) < 0 ∨ cl2.slots.size ≤ ((0 : Int32)).toNatClampNeg) := inb_of S2 ⟨by decide, by decide⟩
    refine Go.on (X1.daload hx (j := (0 : Int32)) (v := (.double x0)) (by rw [e1]; exact Ar2.1) (State.isArrayOf_alike hZ.alike Ar2.2.1) Ar2.2.2 hin2 (H2.at hin2 (rfl)) (g := (mkF m 6 #[.val (.ref a0), .val (.int (0 : Int32)), .val (.double d2), .second] [(.int (0 : Int32)), (.ref al), (.double d2)])) rfl rfl (hb hby d6_6)) ?_
    show Go _ _ _ _ _ _ _ _ (mkF m 7 #[.val (.ref a0), .val (.int (0 : Int32)), .val (.double d2), .second] [(.double x0), (.double d2)])
    refine Go.on (fun _ k => XS.dcmpS X1.here hx rfl (hb hby d6_7) rfl rfl k) ?_
    show Go _ _ _ _ _ _ _ _ (mkF m 8 #[.val (.ref a0), .val (.int (0 : Int32)), .val (.double d2), .second] [(.int (cmpValue (FP.dcmp d2 x0) .l))])
    by_cases hc3 : (cmpValue (FP.dcmp d2 x0) .l) < (0 : Int32)
    · -- pc 8 yes
      refine Go.on (fun _ k => XS.ifYes X1.here hx rfl (pc0 := 8) (pc' := 26) rfl (hb hby d6_8) rfl ((if0 _ _).trans (tlt hc3).1) (by decide) (by decide) k) ?_
      show Go _ _ _ _ _ _ _ _ (mkF m 26 #[.val (.ref a0), .val (.int (0 : Int32)), .val (.double d2), .second] [])
      refine Go.on (fun _ k => XS.iconst X1.here hx rfl (hb hby d6_26) k) ?_
      show Go _ _ _ _ _ _ _ _ (mkF m 27 #[.val (.ref a0), .val (.int (0 : Int32)), .val (.double d2), .second] [(.int (0 : Int32))])
      refine Go.retN X1 hx (t := .boolean) Bd.returns (by simp) (hb hby d6_27) ?_ (by rw [hK1]; decide) (by rw [hK2]; decide)
      rw [e1, ← hQQ]
      refine ⟨?_, N0, rfl⟩
      rw [if_pos (rfl : (0 : Int32) = 0), if_pos (rfl : (0 : Int32) = 0)]; unfold containsV; rw [if_pos hc3]; rfl
    · -- pc 8 no
      refine Go.on (fun _ k => XS.ifNo X1.here hx rfl (hb hby d6_8) rfl ((if0 _ _).trans (flt hc3).1) k) ?_
      show Go _ _ _ _ _ _ _ _ (mkF m 11 #[.val (.ref a0), .val (.int (0 : Int32)), .val (.double d2), .second] [])
      refine Go.on (fun _ k => XS.dloadN X1.here hx rfl (hb hby d6_11) rfl k) ?_
      show Go _ _ _ _ _ _ _ _ (mkF m 12 #[.val (.ref a0), .val (.int (0 : Int32)), .val (.double d2), .second] [(.double d2)])
      refine Go.on (fun _ k => XS.aloadN X1.here hx rfl (hb hby d6_12) rfl rfl k) ?_
      show Go _ _ _ _ _ _ _ _ (mkF m 13 #[.val (.ref a0), .val (.int (0 : Int32)), .val (.double d2), .second] [(.ref a0), (.double d2)])
      obtain ⟨T4, X4, e4, st4⟩ := getF X1 hx hZ hown (host := "") (Or.inl (hw _ (List.mem_of_getElem? (i := 20) rfl))) Via.refl e1 F_upper_a0 (g := (mkF m 13 #[.val (.ref a0), .val (.int (0 : Int32)), .val (.double d2), .second] [(.ref a0), (.double d2)])) rfl rfl (hb hby d6_13)
      refine Go.on st4 ?_
      show Go _ _ _ _ _ _ _ _ (mkF m 16 #[.val (.ref a0), .val (.int (0 : Int32)), .val (.double d2), .second] [(.ref au), (.double d2)])
      refine Go.on (fun _ k => XS.iloadN X4.here hx rfl (hb hby d6_16) rfl k) ?_
      show Go _ _ _ _ _ _ _ _ (mkF m 17 #[.val (.ref a0), .val (.int (0 : Int32)), .val (.double d2), .second] [(.int (0 : Int32)), (.ref au), (.double d2)])
      obtain ⟨cl5, Ar5, -, S5, -, H5, -⟩ := id V_au
      have hin5 : ¬ ((0 : Int32) < 0 ∨ cl5.slots.size ≤ ((0 : Int32)).toNatClampNeg) := inb_of S5 ⟨by decide, by decide⟩
      refine Go.on (X4.daload hx (j := (0 : Int32)) (v := (.double y0)) (by rw [e4]; exact Ar5.1) (State.isArrayOf_alike hZ.alike Ar5.2.1) Ar5.2.2 hin5 (H5.at hin5 (rfl)) (g := (mkF m 17 #[.val (.ref a0), .val (.int (0 : Int32)), .val (.double d2), .second] [(.int (0 : Int32)), (.ref au), (.double d2)])) rfl rfl (hb hby d6_17)) ?_
      show Go _ _ _ _ _ _ _ _ (mkF m 18 #[.val (.ref a0), .val (.int (0 : Int32)), .val (.double d2), .second] [(.double y0), (.double d2)])
      refine Go.on (fun _ k => XS.dcmpS X4.here hx rfl (hb hby d6_18) rfl rfl k) ?_
      show Go _ _ _ _ _ _ _ _ (mkF m 19 #[.val (.ref a0), .val (.int (0 : Int32)), .val (.double d2), .second] [(.int (cmpValue (FP.dcmp d2 y0) .g))])
      suffices hJ7 : ∀ (v6 : Int32), v6 = (if (0 : Int32) < (cmpValue (FP.dcmp d2 y0) .g) then (0 : Int32) else (1 : Int32)) → Go p e below s K1 K2 QQ T4 (mkF m 27 #[.val (.ref a0), .val (.int (0 : Int32)), .val (.double d2), .second] [(.int v6)]) by
        by_cases hc8 : (0 : Int32) < (cmpValue (FP.dcmp d2 y0) .g)
        · -- pc 19 yes
          refine Go.on (fun _ k => XS.ifYes X4.here hx rfl (pc0 := 19) (pc' := 26) rfl (hb hby d6_19) rfl ((if0 _ _).trans (tlt hc8).2.2.1) (by decide) (by decide) k) ?_
          show Go _ _ _ _ _ _ _ _ (mkF m 26 #[.val (.ref a0), .val (.int (0 : Int32)), .val (.double d2), .second] [])
          refine Go.on (fun _ k => XS.iconst X4.here hx rfl (hb hby d6_26) k) ?_
          show Go _ _ _ _ _ _ _ _ (mkF m 27 #[.val (.ref a0), .val (.int (0 : Int32)), .val (.double d2), .second] [(.int (0 : Int32))])
          exact hJ7 _ (by rw [if_pos hc8])
        · -- pc 19 no
          refine Go.on (fun _ k => XS.ifNo X4.here hx rfl (hb hby d6_19) rfl ((if0 _ _).trans (flt hc8).2.2.1) k) ?_
          show Go _ _ _ _ _ _ _ _ (mkF m 22 #[.val (.ref a0), .val (.int (0 : Int32)), .val (.double d2), .second] [])
          refine Go.on (fun _ k => XS.iconst X4.here hx rfl (hb hby d6_22) k) ?_
          show Go _ _ _ _ _ _ _ _ (mkF m 23 #[.val (.ref a0), .val (.int (0 : Int32)), .val (.double d2), .second] [(.int (1 : Int32))])
          refine Go.on (fun _ k => XS.goto X4.here hx rfl (pc0 := 23) (pc' := 27) rfl (hb hby d6_23) (by decide) (by decide) k) ?_
          show Go _ _ _ _ _ _ _ _ (mkF m 27 #[.val (.ref a0), .val (.int (0 : Int32)), .val (.double d2), .second] [(.int (1 : Int32))])
          exact hJ7 _ (by rw [if_neg hc8])
      intro v6 hv6
      refine Go.retN X4 hx (t := .boolean) Bd.returns (by simp) (hb hby d6_27) ?_ (by rw [hK1]; decide) (by rw [hK2]; decide)
      rw [e4, ← hQQ]
      refine ⟨?_, N0, rfl⟩
      rw [hv6, if_pos (rfl : (0 : Int32) = 0), if_pos (rfl : (0 : Int32) = 0)]; unfold containsV; rw [if_neg hc3]; (repeat' split) <;> rfl
  · -- variable 1
    subst hi
    show Go _ _ _ _ _ _ _ _ (mkF m 0 #[.val (.ref a0), .val (.int (1 : Int32)), .val (.double d2), .second] [])
    refine Go.on (fun _ k => XS.dloadN X0.here hx rfl (hb hby d6_0) rfl k) ?_
    show Go _ _ _ _ _ _ _ _ (mkF m 1 #[.val (.ref a0), .val (.int (1 : Int32)), .val (.double d2), .second] [(.double d2)])
    refine Go.on (fun _ k => XS.aloadN X0.here hx rfl (hb hby d6_1) rfl rfl k) ?_
    show Go _ _ _ _ _ _ _ _ (mkF m 2 #[.val (.ref a0), .val (.int (1 : Int32)), .val (.double d2), .second] [(.ref a0), (.double d2)])
    obtain ⟨T9, X9, e9, st9⟩ := getF X0 hx hZ hown (host := "") (Or.inl (hw _ (List.mem_of_getElem? (i := 18) rfl))) Via.refl e0 F_lower_a0 (g := (mkF m 2 #[.val (.ref a0), .val (.int (1 : Int32)), .val (.double d2), .second] [(.ref a0), (.double d2)])) rfl rfl (hb hby d6_2)
    refine Go.on st9 ?_
    show Go _ _ _ _ _ _ _ _ (mkF m 5 #[.val (.ref a0), .val (.int (1 : Int32)), .val (.double d2), .second] [(.ref al), (.double d2)])
    refine Go.on (fun _ k => XS.iloadN X9.here hx rfl (hb hby d6_5) rfl k) ?_
    show Go _ _ _ _ _ _ _ _ (mkF m 6 #[.val (.ref a0), .val (.int (1 : Int32)), .val (.double d2), .second] [(.int (1 : Int32)), (.ref al), (.double d2)])
    obtain ⟨cl10, Ar10, -, S10, -, H10, -⟩ := id V_al
    have hin10 : ¬ ((1 : Int32) < 0 ∨ cl10.slots.size ≤ ((1 : Int32)).toNatClampNeg) := inb_of S10 ⟨by decide, by decide⟩
    refine Go.on (X9.daload hx (j := (1 : Int32)) (v := (.double x1)) (by rw [e9]; exact Ar10.1) (State.isArrayOf_alike hZ.alike Ar10.2.1) Ar10.2.2 hin10 (H10.at hin10 (rfl)) (g := (mkF m 6 #[.val (.ref a0), .val (.int (1 : Int32)), .val (.double d2), .second] [(.int (1 : Int32)), (.ref al), (.double d2)])) rfl rfl (hb hby d6_6)) ?_
    show Go _ _ _ _ _ _ _ _ (mkF m 7 #[.val (.ref a0), .val (.int (1 : Int32)), .val (.double d2), .second] [(.double x1), (.double d2)])
    refine Go.on (fun _ k => XS.dcmpS X9.here hx rfl (hb hby d6_7) rfl rfl k) ?_
    show Go _ _ _ _ _ _ _ _ (mkF m 8 #[.val (.ref a0), .val (.int (1 : Int32)), .val (.double d2), .second] [(.int (cmpValue (FP.dcmp d2 x1) .l))])
    by_cases hc11 : (cmpValue (FP.dcmp d2 x1) .l) < (0 : Int32)
    · -- pc 8 yes
      refine Go.on (fun _ k => XS.ifYes X9.here hx rfl (pc0 := 8) (pc' := 26) rfl (hb hby d6_8) rfl ((if0 _ _).trans (tlt hc11).1) (by decide) (by decide) k) ?_
      show Go _ _ _ _ _ _ _ _ (mkF m 26 #[.val (.ref a0), .val (.int (1 : Int32)), .val (.double d2), .second] [])
      refine Go.on (fun _ k => XS.iconst X9.here hx rfl (hb hby d6_26) k) ?_
      show Go _ _ _ _ _ _ _ _ (mkF m 27 #[.val (.ref a0), .val (.int (1 : Int32)), .val (.double d2), .second] [(.int (0 : Int32))])
      refine Go.retN X9 hx (t := .boolean) Bd.returns (by simp) (hb hby d6_27) ?_ (by rw [hK1]; decide) (by rw [hK2]; decide)
      rw [e9, ← hQQ]
      refine ⟨?_, N0, rfl⟩
      rw [if_neg (by decide : ¬ (1 : Int32) = (0 : Int32)), if_neg (by decide : ¬ (1 : Int32) = (0 : Int32))]; unfold containsV; rw [if_pos hc11]; rfl
    · -- pc 8 no
      refine Go.on (fun _ k => XS.ifNo X9.here hx rfl (hb hby d6_8) rfl ((if0 _ _).trans (flt hc11).1) k) ?_
      show Go _ _ _ _ _ _ _ _ (mkF m 11 #[.val (.ref a0), .val (.int (1 : Int32)), .val (.double d2), .second] [])
      refine Go.on (fun _ k => XS.dloadN X9.here hx rfl (hb hby d6_11) rfl k) ?_
      show Go _ _ _ _ _ _ _ _ (mkF m 12 #[.val (.ref a0), .val (.int (1 : Int32)), .val (.double d2), .second] [(.double d2)])
      refine Go.on (fun _ k => XS.aloadN X9.here hx rfl (hb hby d6_12) rfl rfl k) ?_
      show Go _ _ _ _ _ _ _ _ (mkF m 13 #[.val (.ref a0), .val (.int (1 : Int32)), .val (.double d2), .second] [(.ref a0), (.double d2)])
      obtain ⟨T12, X12, e12, st12⟩ := getF X9 hx hZ hown (host := "") (Or.inl (hw _ (List.mem_of_getElem? (i := 20) rfl))) Via.refl e9 F_upper_a0 (g := (mkF m 13 #[.val (.ref a0), .val (.int (1 : Int32)), .val (.double d2), .second] [(.ref a0), (.double d2)])) rfl rfl (hb hby d6_13)
      refine Go.on st12 ?_
      show Go _ _ _ _ _ _ _ _ (mkF m 16 #[.val (.ref a0), .val (.int (1 : Int32)), .val (.double d2), .second] [(.ref au), (.double d2)])
      refine Go.on (fun _ k => XS.iloadN X12.here hx rfl (hb hby d6_16) rfl k) ?_
      show Go _ _ _ _ _ _ _ _ (mkF m 17 #[.val (.ref a0), .val (.int (1 : Int32)), .val (.double d2), .second] [(.int (1 : Int32)), (.ref au), (.double d2)])
      obtain ⟨cl13, Ar13, -, S13, -, H13, -⟩ := id V_au
      have hin13 : ¬ ((1 : Int32) < 0 ∨ cl13.slots.size ≤ ((1 : Int32)).toNatClampNeg) := inb_of S13 ⟨by decide, by decide⟩
      refine Go.on (X12.daload hx (j := (1 : Int32)) (v := (.double y1)) (by rw [e12]; exact Ar13.1) (State.isArrayOf_alike hZ.alike Ar13.2.1) Ar13.2.2 hin13 (H13.at hin13 (rfl)) (g := (mkF m 17 #[.val (.ref a0), .val (.int (1 : Int32)), .val (.double d2), .second] [(.int (1 : Int32)), (.ref au), (.double d2)])) rfl rfl (hb hby d6_17)) ?_
      show Go _ _ _ _ _ _ _ _ (mkF m 18 #[.val (.ref a0), .val (.int (1 : Int32)), .val (.double d2), .second] [(.double y1), (.double d2)])
      refine Go.on (fun _ k => XS.dcmpS X12.here hx rfl (hb hby d6_18) rfl rfl k) ?_
      show Go _ _ _ _ _ _ _ _ (mkF m 19 #[.val (.ref a0), .val (.int (1 : Int32)), .val (.double d2), .second] [(.int (cmpValue (FP.dcmp d2 y1) .g))])
      suffices hJ15 : ∀ (v14 : Int32), v14 = (if (0 : Int32) < (cmpValue (FP.dcmp d2 y1) .g) then (0 : Int32) else (1 : Int32)) → Go p e below s K1 K2 QQ T12 (mkF m 27 #[.val (.ref a0), .val (.int (1 : Int32)), .val (.double d2), .second] [(.int v14)]) by
        by_cases hc16 : (0 : Int32) < (cmpValue (FP.dcmp d2 y1) .g)
        · -- pc 19 yes
          refine Go.on (fun _ k => XS.ifYes X12.here hx rfl (pc0 := 19) (pc' := 26) rfl (hb hby d6_19) rfl ((if0 _ _).trans (tlt hc16).2.2.1) (by decide) (by decide) k) ?_
          show Go _ _ _ _ _ _ _ _ (mkF m 26 #[.val (.ref a0), .val (.int (1 : Int32)), .val (.double d2), .second] [])
          refine Go.on (fun _ k => XS.iconst X12.here hx rfl (hb hby d6_26) k) ?_
          show Go _ _ _ _ _ _ _ _ (mkF m 27 #[.val (.ref a0), .val (.int (1 : Int32)), .val (.double d2), .second] [(.int (0 : Int32))])
          exact hJ15 _ (by rw [if_pos hc16])
        · -- pc 19 no
          refine Go.on (fun _ k => XS.ifNo X12.here hx rfl (hb hby d6_19) rfl ((if0 _ _).trans (flt hc16).2.2.1) k) ?_
          show Go _ _ _ _ _ _ _ _ (mkF m 22 #[.val (.ref a0), .val (.int (1 : Int32)), .val (.double d2), .second] [])
          refine Go.on (fun _ k => XS.iconst X12.here hx rfl (hb hby d6_22) k) ?_
          show Go _ _ _ _ _ _ _ _ (mkF m 23 #[.val (.ref a0), .val (.int (1 : Int32)), .val (.double d2), .second] [(.int (1 : Int32))])
          refine Go.on (fun _ k => XS.goto X12.here hx rfl (pc0 := 23) (pc' := 27) rfl (hb hby d6_23) (by decide) (by decide) k) ?_
          show Go _ _ _ _ _ _ _ _ (mkF m 27 #[.val (.ref a0), .val (.int (1 : Int32)), .val (.double d2), .second] [(.int (1 : Int32))])
          exact hJ15 _ (by rw [if_neg hc16])
      intro v14 hv14
      refine Go.retN X12 hx (t := .boolean) Bd.returns (by simp) (hb hby d6_27) ?_ (by rw [hK1]; decide) (by rw [hK2]; decide)
      rw [e12, ← hQQ]
      refine ⟨?_, N0, rfl⟩
      rw [hv14, if_neg (by decide : ¬ (1 : Int32) = (0 : Int32)), if_neg (by decide : ¬ (1 : Int32) = (0 : Int32))]; unfold containsV; rw [if_neg hc11]; (repeat' split) <;> rfl
theorem d5_0 : decode prog_14_method_4_code 0 = .ok (.iconst 0, 1) := by decide +kernel
theorem d5_1 : decode prog_14_method_4_code 1 = .ok (.istore_n 2, 1) := by decide +kernel
theorem d5_2 : decode prog_14_method_4_code 2 = .ok (.iload_n 2, 1) := by decide +kernel
theorem d5_3 : decode prog_14_method_4_code 3 = .ok (.aload_n 1, 1) := by decide +kernel
theorem d5_4 : decode prog_14_method_4_code 4 = .ok (.arraylength, 1) := by decide +kernel
theorem d5_5 : decode prog_14_method_4_code 5 = .ok (.if_icmp .ge 22, 3) := by decide +kernel
theorem d5_27 : decode prog_14_method_4_code 27 = .ok (.iconst 1, 1) := by decide +kernel
theorem d5_28 : decode prog_14_method_4_code 28 = .ok (.ireturn, 1) := by decide +kernel
theorem ef_all_0 (m : MethodId) (a0 : Addr) (a1 : Addr) : entryFrame m #[(.ref a0), (.ref a1)] 3 = mkF m 0 #[.val (.ref a0), .val (.ref a1), .unset] [] := by first | (simp [entryFrame, mkF, argsToLocals, Value.category]; done) | rfl
def Q_all_0 (Z : State) (a0 : Addr) (a1 : Addr) (al : Addr) (au : Addr) (k_al : ClassId) (x0 : UInt64) (x1 : UInt64) (k_au : ClassId) (y0 : UInt64) (y1 : UInt64) (k_a1 : ClassId) (h0 : Heap) (n0 : Nat) (v : Option Value) (h : Heap) (L : List Loc) : Prop := v = some (.int (1 : Int32)) ∧ Fr n0 L ∧ h = h0
set_option maxRecDepth 65536 in
set_option maxHeartbeats 40000000 in
theorem all_0 (l : Launch) (Z : State) (aw : Array Value) (hw : ∀ d ∈ tables_1, d.before aw Z = true) (ws : List Jvm.Cond) (a0 : Addr) (a1 : Addr) (al : Addr) (au : Addr) (k_al : ClassId) (x0 : UInt64) (x1 : UInt64) (k_au : ClassId) (y0 : UInt64) (y1 : UInt64) (k_a1 : ClassId) (h0 : Heap) (n0 : Nat) (Z0 : n0 ≤ h0.size) (E_a0 : Exa Z h0 a0 "com/example/driftswarm/driftswarm/algorithms/Bounds") (F_lower_a0 : Fld Z h0 a0 "com/example/driftswarm/driftswarm/algorithms/Bounds" "lower" "[D" (.ref al)) (F_upper_a0 : Fld Z h0 a0 "com/example/driftswarm/driftswarm/algorithms/Bounds" "upper" "[D" (.ref au)) (V_al : Arv Z h0 al k_al .double (2 : Int32) [(.double x0), (.double x1)] (.double (0 : UInt64))) (V_au : Arv Z h0 au k_au .double (2 : Int32) [(.double y0), (.double y1)] (.double (0 : UInt64))) (V_a1 : Arv Z h0 a1 k_a1 .double (0 : Int32) [] (.double (0 : UInt64))) :
    MetFree l (⟨"com/example/driftswarm/driftswarm/algorithms/Bounds", "contains", "([D)Z"⟩ : MethodName) (head1 (Jvm.Cond.code (⟨"com/example/driftswarm/driftswarm/algorithms/Bounds", "contains", "([D)Z"⟩ : MethodName) prog_14_method_4_code 3 (some .boolean) :: ws) ({ frames := 0, cells := 0, slots := 0, locals := 0 } : Room)) (fun a U => a = #[(.ref a0), (.ref a1)] ∧ Z.Warmed39 U.vm ∧ U.heap = h0) (fun _ _ _ _ _ => True) (fun _ U o U' => ∃ v L, o = .returned v ∧ Q_all_0 Z a0 a1 al au k_al x0 x1 k_au y0 y1 k_a1 h0 n0 v U'.heap L ∧ FrameEnd U o U' L ({ frames := 0, cells := 0, slots := 0, locals := 0 } : Room).cells ({ frames := 0, cells := 0, slots := 0, locals := 0 } : Room).slots) := by
  refine MetFree.of_bodySF (plainFor_of_name pn_0) hisR ?_
  intro p e s m args below meth c s₁ Bd hml0 hP hK
  obtain ⟨rfl, hZ, hh⟩ := hP
  have hx := Bd.exec
  have hby := Bd.bytes
  have hml : c.maxLocals = 3 := hml0
  have hown : s.vm.findClass "com/example/driftswarm/driftswarm/algorithms/Bounds" = some m.cls := findClass_of_methodNamed Bd.named
  have hnm := (name_of_methodNamed Bd.named Bd.method).1
  have hlk : meth.locks = false := BodyLoose.notSynchronized Bd
  have X0 : Stand p l e ({ frames := 0, cells := 0, slots := 0, locals := 0 } : Room) s m #[(.ref a0), (.ref a1)] below meth c s₁ [] 0 0 := Stand.of_body Bd
  have e0 : s₁.heap = h0 := by rw [← hh, Bd.state]; rfl
  have N0 := Fr.nil n0
  have ZZ := Z0
  show Go p e below s ({ frames := 0, cells := 0, slots := 0, locals := 0 } : Room).cells ({ frames := 0, cells := 0, slots := 0, locals := 0 } : Room).slots (fun v h L => Q_all_0 Z a0 a1 al au k_al x0 x1 k_au y0 y1 k_a1 h0 n0 v h L) s₁ (entryFrame m #[(.ref a0), (.ref a1)] 3)
  refine Go.cast (ef_all_0 m a0 a1) ?_
  refine Go.gen ?_
  intro K1 K2 QQ hK1 hK2 hQQ
  refine Go.on (fun _ k => XS.iconst X0.here hx rfl (hb hby d5_0) k) ?_
  show Go _ _ _ _ _ _ _ _ (mkF m 1 #[.val (.ref a0), .val (.ref a1), .unset] [(.int (0 : Int32))])
  refine Go.on (fun _ k => XS.istoreN X0.here hx rfl (hb hby d5_1) rfl (l' := #[.val (.ref a0), .val (.ref a1), .val (.int (0 : Int32))]) rfl k) ?_
  show Go _ _ _ _ _ _ _ _ (mkF m 2 #[.val (.ref a0), .val (.ref a1), .val (.int (0 : Int32))] [])
  refine Go.on (fun _ k => XS.iloadN X0.here hx rfl (hb hby d5_2) rfl k) ?_
  show Go _ _ _ _ _ _ _ _ (mkF m 3 #[.val (.ref a0), .val (.ref a1), .val (.int (0 : Int32))] [(.int (0 : Int32))])
  refine Go.on (fun _ k => XS.aloadN X0.here hx rfl (hb hby d5_3) rfl rfl k) ?_
  show Go _ _ _ _ _ _ _ _ (mkF m 4 #[.val (.ref a0), .val (.ref a1), .val (.int (0 : Int32))] [(.ref a1), (.int (0 : Int32))])
  obtain ⟨cl1, Ar1, -, S1, N1n, -, -⟩ := id V_a1
  refine Go.on (X0.arraylength hx (by rw [e0]; exact Ar1.1) (State.isArrayOf_alike hZ.alike Ar1.2.1) (g := (mkF m 4 #[.val (.ref a0), .val (.ref a1), .val (.int (0 : Int32))] [(.ref a1), (.int (0 : Int32))])) rfl rfl (hb hby d5_4)) ?_
  rw [len_of S1 N1n]
  show Go _ _ _ _ _ _ _ _ (mkF m 5 #[.val (.ref a0), .val (.ref a1), .val (.int (0 : Int32))] [(.int (0 : Int32)), (.int (0 : Int32))])
  have hc2 : ¬ ((0 : Int32) < (0 : Int32)) := by decide
  refine Go.on (fun _ k => XS.icmpYes X0.here hx rfl (pc0 := 5) (pc' := 27) rfl (hb hby d5_5) rfl (flt hc2).2.1 (by decide) (by decide) k) ?_
  show Go _ _ _ _ _ _ _ _ (mkF m 27 #[.val (.ref a0), .val (.ref a1), .val (.int (0 : Int32))] [])
  refine Go.on (fun _ k => XS.iconst X0.here hx rfl (hb hby d5_27) k) ?_
  show Go _ _ _ _ _ _ _ _ (mkF m 28 #[.val (.ref a0), .val (.ref a1), .val (.int (0 : Int32))] [(.int (1 : Int32))])
  refine Go.retN X0 hx (t := .boolean) Bd.returns (by simp) (hb hby d5_28) ?_ (by rw [hK1]; decide) (by rw [hK2]; decide)
  rw [e0, ← hQQ]
  refine ⟨?_, N0, rfl⟩
  rfl
theorem pd_0 : parseMethodDescriptor "(ID)Z" = some ⟨[.int, .double], some .boolean⟩ := by decide +kernel
theorem d5_8 : decode prog_14_method_4_code 8 = .ok (.aload_n 0, 1) := by decide +kernel
theorem d5_9 : decode prog_14_method_4_code 9 = .ok (.iload_n 2, 1) := by decide +kernel
theorem d5_10 : decode prog_14_method_4_code 10 = .ok (.aload_n 1, 1) := by decide +kernel
theorem d5_11 : decode prog_14_method_4_code 11 = .ok (.iload_n 2, 1) := by decide +kernel
theorem d5_12 : decode prog_14_method_4_code 12 = .ok (.daload, 1) := by decide +kernel
theorem d5_13 : decode prog_14_method_4_code 13 = .ok (.invokevirtual 41, 3) := by decide +kernel
theorem d5_16 : decode prog_14_method_4_code 16 = .ok (.ifCond .ne 5, 3) := by decide +kernel
theorem d5_19 : decode prog_14_method_4_code 19 = .ok (.iconst 0, 1) := by decide +kernel
theorem d5_20 : decode prog_14_method_4_code 20 = .ok (.ireturn, 1) := by decide +kernel
theorem d5_21 : decode prog_14_method_4_code 21 = .ok (.iinc 2 1, 3) := by decide +kernel
theorem d5_24 : decode prog_14_method_4_code 24 = .ok (.goto (-22), 3) := by decide +kernel
theorem ef_all_1 (m : MethodId) (a0 : Addr) (a1 : Addr) : entryFrame m #[(.ref a0), (.ref a1)] 3 = mkF m 0 #[.val (.ref a0), .val (.ref a1), .unset] [] := by first | (simp [entryFrame, mkF, argsToLocals, Value.category]; done) | rfl
def Q_all_1 (Z : State) (a0 : Addr) (a1 : Addr) (al : Addr) (au : Addr) (k_al : ClassId) (x0 : UInt64) (x1 : UInt64) (k_au : ClassId) (y0 : UInt64) (y1 : UInt64) (k_a1 : ClassId) (p0 : UInt64) (h0 : Heap) (n0 : Nat) (v : Option Value) (h : Heap) (L : List Loc) : Prop := v = some (.int (if (containsV p0 (if (0 : Int32) = (0 : Int32) then x0 else x1) (if (0 : Int32) = (0 : Int32) then y0 else y1)) = (0 : Int32) then (0 : Int32) else (1 : Int32))) ∧ Fr n0 L ∧ h = h0
set_option maxRecDepth 65536 in
set_option maxHeartbeats 40000000 in
theorem all_1 (l : Launch) (Z : State) (aw : Array Value) (hw : ∀ d ∈ tables_1, d.before aw Z = true) (ws : List Jvm.Cond) (a0 : Addr) (a1 : Addr) (al : Addr) (au : Addr) (k_al : ClassId) (x0 : UInt64) (x1 : UInt64) (k_au : ClassId) (y0 : UInt64) (y1 : UInt64) (k_a1 : ClassId) (p0 : UInt64) (h0 : Heap) (n0 : Nat) (Z0 : n0 ≤ h0.size) (E_a0 : Exa Z h0 a0 "com/example/driftswarm/driftswarm/algorithms/Bounds") (F_lower_a0 : Fld Z h0 a0 "com/example/driftswarm/driftswarm/algorithms/Bounds" "lower" "[D" (.ref al)) (F_upper_a0 : Fld Z h0 a0 "com/example/driftswarm/driftswarm/algorithms/Bounds" "upper" "[D" (.ref au)) (V_al : Arv Z h0 al k_al .double (2 : Int32) [(.double x0), (.double x1)] (.double (0 : UInt64))) (V_au : Arv Z h0 au k_au .double (2 : Int32) [(.double y0), (.double y1)] (.double (0 : UInt64))) (V_a1 : Arv Z h0 a1 k_a1 .double (1 : Int32) [(.double p0)] (.double (0 : UInt64))) :
    MetFree l (⟨"com/example/driftswarm/driftswarm/algorithms/Bounds", "contains", "([D)Z"⟩ : MethodName) (head1 (Jvm.Cond.code (⟨"com/example/driftswarm/driftswarm/algorithms/Bounds", "contains", "([D)Z"⟩ : MethodName) prog_14_method_4_code 3 (some .boolean) :: ws) ({ frames := 1, cells := 0, slots := 0, locals := 15 } : Room)) (fun a U => a = #[(.ref a0), (.ref a1)] ∧ Z.Warmed39 U.vm ∧ U.heap = h0) (fun _ _ _ _ _ => True) (fun _ U o U' => ∃ v L, o = .returned v ∧ Q_all_1 Z a0 a1 al au k_al x0 x1 k_au y0 y1 k_a1 p0 h0 n0 v U'.heap L ∧ FrameEnd U o U' L ({ frames := 1, cells := 0, slots := 0, locals := 15 } : Room).cells ({ frames := 1, cells := 0, slots := 0, locals := 15 } : Room).slots) := by
  refine MetFree.of_bodySF (plainFor_of_name pn_0) hisR ?_
  intro p e s m args below meth c s₁ Bd hml0 hP hK
  obtain ⟨rfl, hZ, hh⟩ := hP
  have hx := Bd.exec
  have hby := Bd.bytes
  have hml : c.maxLocals = 3 := hml0
  have hown : s.vm.findClass "com/example/driftswarm/driftswarm/algorithms/Bounds" = some m.cls := findClass_of_methodNamed Bd.named
  have hnm := (name_of_methodNamed Bd.named Bd.method).1
  have hlk : meth.locks = false := BodyLoose.notSynchronized Bd
  have X0 : Stand p l e ({ frames := 1, cells := 0, slots := 0, locals := 15 } : Room) s m #[(.ref a0), (.ref a1)] below meth c s₁ [] 0 0 := Stand.of_body Bd
  have e0 : s₁.heap = h0 := by rw [← hh, Bd.state]; rfl
  have N0 := Fr.nil n0
  have ZZ := Z0
  show Go p e below s ({ frames := 1, cells := 0, slots := 0, locals := 15 } : Room).cells ({ frames := 1, cells := 0, slots := 0, locals := 15 } : Room).slots (fun v h L => Q_all_1 Z a0 a1 al au k_al x0 x1 k_au y0 y1 k_a1 p0 h0 n0 v h L) s₁ (entryFrame m #[(.ref a0), (.ref a1)] 3)
  refine Go.cast (ef_all_1 m a0 a1) ?_
  refine Go.gen ?_
  intro K1 K2 QQ hK1 hK2 hQQ
  refine Go.on (fun _ k => XS.iconst X0.here hx rfl (hb hby d5_0) k) ?_
  show Go _ _ _ _ _ _ _ _ (mkF m 1 #[.val (.ref a0), .val (.ref a1), .unset] [(.int (0 : Int32))])
  refine Go.on (fun _ k => XS.istoreN X0.here hx rfl (hb hby d5_1) rfl (l' := #[.val (.ref a0), .val (.ref a1), .val (.int (0 : Int32))]) rfl k) ?_
  show Go _ _ _ _ _ _ _ _ (mkF m 2 #[.val (.ref a0), .val (.ref a1), .val (.int (0 : Int32))] [])
  refine Go.on (fun _ k => XS.iloadN X0.here hx rfl (hb hby d5_2) rfl k) ?_
  show Go _ _ _ _ _ _ _ _ (mkF m 3 #[.val (.ref a0), .val (.ref a1), .val (.int (0 : Int32))] [(.int (0 : Int32))])
  refine Go.on (fun _ k => XS.aloadN X0.here hx rfl (hb hby d5_3) rfl rfl k) ?_
  show Go _ _ _ _ _ _ _ _ (mkF m 4 #[.val (.ref a0), .val (.ref a1), .val (.int (0 : Int32))] [(.ref a1), (.int (0 : Int32))])
  obtain ⟨cl1, Ar1, -, S1, N1n, -, -⟩ := id V_a1
  refine Go.on (X0.arraylength hx (by rw [e0]; exact Ar1.1) (State.isArrayOf_alike hZ.alike Ar1.2.1) (g := (mkF m 4 #[.val (.ref a0), .val (.ref a1), .val (.int (0 : Int32))] [(.ref a1), (.int (0 : Int32))])) rfl rfl (hb hby d5_4)) ?_
  rw [len_of S1 N1n]
  show Go _ _ _ _ _ _ _ _ (mkF m 5 #[.val (.ref a0), .val (.ref a1), .val (.int (0 : Int32))] [(.int (1 : Int32)), (.int (0 : Int32))])
  have hc2 : (0 : Int32) < (1 : Int32) := by decide
  refine Go.on (fun _ k => XS.icmpNo X0.here hx rfl (hb hby d5_5) rfl (tlt hc2).2.1 k) ?_
  show Go _ _ _ _ _ _ _ _ (mkF m 8 #[.val (.ref a0), .val (.ref a1), .val (.int (0 : Int32))] [])
  refine Go.on (fun _ k => XS.aloadN X0.here hx rfl (hb hby d5_8) rfl rfl k) ?_
  show Go _ _ _ _ _ _ _ _ (mkF m 9 #[.val (.ref a0), .val (.ref a1), .val (.int (0 : Int32))] [(.ref a0)])
  refine Go.on (fun _ k => XS.iloadN X0.here hx rfl (hb hby d5_9) rfl k) ?_
  show Go _ _ _ _ _ _ _ _ (mkF m 10 #[.val (.ref a0), .val (.ref a1), .val (.int (0 : Int32))] [(.int (0 : Int32)), (.ref a0)])
  refine Go.on (fun _ k => XS.aloadN X0.here hx rfl (hb hby d5_10) rfl rfl k) ?_
  show Go _ _ _ _ _ _ _ _ (mkF m 11 #[.val (.ref a0), .val (.ref a1), .val (.int (0 : Int32))] [(.ref a1), (.int (0 : Int32)), (.ref a0)])
  refine Go.on (fun _ k => XS.iloadN X0.here hx rfl (hb hby d5_11) rfl k) ?_
  show Go _ _ _ _ _ _ _ _ (mkF m 12 #[.val (.ref a0), .val (.ref a1), .val (.int (0 : Int32))] [(.int (0 : Int32)), (.ref a1), (.int (0 : Int32)), (.ref a0)])
  obtain ⟨cl3, Ar3, -, S3, -, H3, -⟩ := id V_a1
  have hin3 : ¬ ((0 : Int32) < 0 ∨ cl3.slots.size ≤ ((0 : Int32)).toNatClampNeg) := inb_of S3 ⟨by decide, by decide⟩
  refine Go.on (X0.daload hx (j := (0 : Int32)) (v := (.double p0)) (by rw [e0]; exact Ar3.1) (State.isArrayOf_alike hZ.alike Ar3.2.1) Ar3.2.2 hin3 (H3.at hin3 (rfl)) (g := (mkF m 12 #[.val (.ref a0), .val (.ref a1), .val (.int (0 : Int32))] [(.int (0 : Int32)), (.ref a1), (.int (0 : Int32)), (.ref a0)])) rfl rfl (hb hby d5_12)) ?_
  show Go _ _ _ _ _ _ _ _ (mkF m 13 #[.val (.ref a0), .val (.ref a1), .val (.int (0 : Int32))] [(.double p0), (.int (0 : Int32)), (.ref a0)])
  obtain ⟨cq4, kq4, q4a, q4b, q4c⟩ := isOf hZ e0 E_a0
  obtain ⟨_, _, ⟨T4, L4, k4, n4⟩, -, X4, ⟨Lc4, hQ4, l4, y4, z4⟩, st4⟩ := X0.virtualBack hx (y := (⟨"com/example/driftswarm/driftswarm/algorithms/Bounds", "contains", "(ID)Z"⟩ : MethodName)) (z := (⟨"com/example/driftswarm/driftswarm/algorithms/Bounds", "contains", "(ID)Z"⟩ : MethodName)) hown (mvT hZ (hw _ (List.mem_of_getElem? (i := 27) rfl))) (mvT hZ (hw _ (List.mem_of_getElem? (i := 28) rfl))) (notFace_of_selects (args := #[]) (mvT hZ (hw _ (List.mem_of_getElem? (i := 30) rfl)))) (mvT hZ (hw _ (List.mem_of_getElem? (i := 30) rfl))) (mvT hZ (hw _ (List.mem_of_getElem? (i := 29) rfl))) (by decide) (backOf (W := 0) (rm6 l Z aw hw [] a0 (0 : Int32) p0 al au k_al x0 x1 k_au y0 y1 h0 n0 ZZ F_lower_a0 F_upper_a0 V_al V_au (by decide)) hZ (hw _ (List.mem_of_getElem? (i := 31) rfl)) (hw _ (List.mem_of_getElem? (i := 11) rfl)) (by decide) (by decide)) q4a q4c (g := (mkF m 13 #[.val (.ref a0), .val (.ref a1), .val (.int (0 : Int32))] [(.double p0), (.int (0 : Int32)), (.ref a0)])) rfl (by rw [hml]; rfl) (Steps.refl _) (argsL := [(.int (0 : Int32)), (.double p0)]) (rest := []) (lenOf pd_0 rfl) rfl (by show 2 * 0 + _ ≤ _; exact Nat.le_of_eq rfl) (hb hby d5_13) (fun _ _ => ⟨rfl, e0, (by decide : 0 + 0 ≤ _), (by decide : 0 + 0 ≤ _)⟩)
  dsimp only [Pt.U, Pt.locs, Pt.cells, Pt.slots] at X4 l4 y4 z4 st4 hQ4
  subst l4 y4 z4
  obtain ⟨rfl, N4q, e4⟩ := hQ4
  have N4 := Fr.app N0 N4q
  refine Go.on (fun _ k => st4.trans k) ?_
  show Go _ _ _ _ _ _ _ _ (mkF m 16 #[.val (.ref a0), .val (.ref a1), .val (.int (0 : Int32))] [(.int (containsV p0 (if (0 : Int32) = (0 : Int32) then x0 else x1) (if (0 : Int32) = (0 : Int32) then y0 else y1)))])
  by_cases hc5 : (containsV p0 (if (0 : Int32) = (0 : Int32) then x0 else x1) (if (0 : Int32) = (0 : Int32) then y0 else y1)) = (0 : Int32)
  · -- pc 16 yes
    refine Go.on (fun _ k => XS.ifNo X4.here hx rfl (hb hby d5_16) rfl ((if0 _ _).trans (teq hc5).2) k) ?_
    show Go _ _ _ _ _ _ _ _ (mkF m 19 #[.val (.ref a0), .val (.ref a1), .val (.int (0 : Int32))] [])
    refine Go.on (fun _ k => XS.iconst X4.here hx rfl (hb hby d5_19) k) ?_
    show Go _ _ _ _ _ _ _ _ (mkF m 20 #[.val (.ref a0), .val (.ref a1), .val (.int (0 : Int32))] [(.int (0 : Int32))])
    refine Go.retN X4 hx (t := .boolean) Bd.returns (by simp) (hb hby d5_20) ?_ (by rw [hK1]; decide) (by rw [hK2]; decide)
    rw [e4, ← hQQ]
    refine ⟨?_, N4, rfl⟩
    rw [if_pos hc5]; rfl
  · -- pc 16 no
    refine Go.on (fun _ k => XS.ifYes X4.here hx rfl (pc0 := 16) (pc' := 21) rfl (hb hby d5_16) rfl ((if0 _ _).trans (feq hc5).2) (by decide) (by decide) k) ?_
    show Go _ _ _ _ _ _ _ _ (mkF m 21 #[.val (.ref a0), .val (.ref a1), .val (.int (0 : Int32))] [])
    refine Go.on (fun _ k => XS.iinc X4.here hx rfl (hb hby d5_21) rfl (l' := #[.val (.ref a0), .val (.ref a1), .val (.int (1 : Int32))]) rfl k) ?_
    show Go _ _ _ _ _ _ _ _ (mkF m 24 #[.val (.ref a0), .val (.ref a1), .val (.int (1 : Int32))] [])
    refine Go.on (fun _ k => XS.goto X4.here hx rfl (pc0 := 24) (pc' := 2) rfl (hb hby d5_24) (by decide) (by decide) k) ?_
    show Go _ _ _ _ _ _ _ _ (mkF m 2 #[.val (.ref a0), .val (.ref a1), .val (.int (1 : Int32))] [])
    refine Go.on (fun _ k => XS.iloadN X4.here hx rfl (hb hby d5_2) rfl k) ?_
    show Go _ _ _ _ _ _ _ _ (mkF m 3 #[.val (.ref a0), .val (.ref a1), .val (.int (1 : Int32))] [(.int (1 : Int32))])
    refine Go.on (fun _ k => XS.aloadN X4.here hx rfl (hb hby d5_3) rfl rfl k) ?_
    show Go _ _ _ _ _ _ _ _ (mkF m 4 #[.val (.ref a0), .val (.ref a1), .val (.int (1 : Int32))] [(.ref a1), (.int (1 : Int32))])
    obtain ⟨cl6, Ar6, -, S6, N6n, -, -⟩ := id V_a1
    refine Go.on (X4.arraylength hx (by rw [e4]; exact Ar6.1) (State.isArrayOf_alike hZ.alike Ar6.2.1) (g := (mkF m 4 #[.val (.ref a0), .val (.ref a1), .val (.int (1 : Int32))] [(.ref a1), (.int (1 : Int32))])) rfl rfl (hb hby d5_4)) ?_
    rw [len_of S6 N6n]
    show Go _ _ _ _ _ _ _ _ (mkF m 5 #[.val (.ref a0), .val (.ref a1), .val (.int (1 : Int32))] [(.int (1 : Int32)), (.int (1 : Int32))])
    have hc7 : ¬ ((1 : Int32) < (1 : Int32)) := by decide
    refine Go.on (fun _ k => XS.icmpYes X4.here hx rfl (pc0 := 5) (pc' := 27) rfl (hb hby d5_5) rfl (flt hc7).2.1 (by decide) (by decide) k) ?_
    show Go _ _ _ _ _ _ _ _ (mkF m 27 #[.val (.ref a0), .val (.ref a1), .val (.int (1 : Int32))] [])
    refine Go.on (fun _ k => XS.iconst X4.here hx rfl (hb hby d5_27) k) ?_
    show Go _ _ _ _ _ _ _ _ (mkF m 28 #[.val (.ref a0), .val (.ref a1), .val (.int (1 : Int32))] [(.int (1 : Int32))])
    refine Go.retN X4 hx (t := .boolean) Bd.returns (by simp) (hb hby d5_28) ?_ (by rw [hK1]; decide) (by rw [hK2]; decide)
    rw [e4, ← hQQ]
    refine ⟨?_, N4, rfl⟩
    rw [if_neg hc5]; rfl
theorem ef_all_2 (m : MethodId) (a0 : Addr) (a1 : Addr) : entryFrame m #[(.ref a0), (.ref a1)] 3 = mkF m 0 #[.val (.ref a0), .val (.ref a1), .unset] [] := by first | (simp [entryFrame, mkF, argsToLocals, Value.category]; done) | rfl
def Q_all_2 (Z : State) (a0 : Addr) (a1 : Addr) (al : Addr) (au : Addr) (k_al : ClassId) (x0 : UInt64) (x1 : UInt64) (k_au : ClassId) (y0 : UInt64) (y1 : UInt64) (k_a1 : ClassId) (p0 : UInt64) (p1 : UInt64) (h0 : Heap) (n0 : Nat) (v : Option Value) (h : Heap) (L : List Loc) : Prop := v = some (.int (if (containsV p0 (if (0 : Int32) = (0 : Int32) then x0 else x1) (if (0 : Int32) = (0 : Int32) then y0 else y1)) = (0 : Int32) then (0 : Int32) else (if (containsV p1 (if (1 : Int32) = (0 : Int32) then x0 else x1) (if (1 : Int32) = (0 : Int32) then y0 else y1)) = (0 : Int32) then (0 : Int32) else (1 : Int32)))) ∧ Fr n0 L ∧ h = h0
set_option maxRecDepth 65536 in
set_option maxHeartbeats 40000000 in
theorem all_2 (l : Launch) (Z : State) (aw : Array Value) (hw : ∀ d ∈ tables_1, d.before aw Z = true) (ws : List Jvm.Cond) (a0 : Addr) (a1 : Addr) (al : Addr) (au : Addr) (k_al : ClassId) (x0 : UInt64) (x1 : UInt64) (k_au : ClassId) (y0 : UInt64) (y1 : UInt64) (k_a1 : ClassId) (p0 : UInt64) (p1 : UInt64) (h0 : Heap) (n0 : Nat) (Z0 : n0 ≤ h0.size) (E_a0 : Exa Z h0 a0 "com/example/driftswarm/driftswarm/algorithms/Bounds") (F_lower_a0 : Fld Z h0 a0 "com/example/driftswarm/driftswarm/algorithms/Bounds" "lower" "[D" (.ref al)) (F_upper_a0 : Fld Z h0 a0 "com/example/driftswarm/driftswarm/algorithms/Bounds" "upper" "[D" (.ref au)) (V_al : Arv Z h0 al k_al .double (2 : Int32) [(.double x0), (.double x1)] (.double (0 : UInt64))) (V_au : Arv Z h0 au k_au .double (2 : Int32) [(.double y0), (.double y1)] (.double (0 : UInt64))) (V_a1 : Arv Z h0 a1 k_a1 .double (2 : Int32) [(.double p0), (.double p1)] (.double (0 : UInt64))) :
    MetFree l (⟨"com/example/driftswarm/driftswarm/algorithms/Bounds", "contains", "([D)Z"⟩ : MethodName) (head1 (Jvm.Cond.code (⟨"com/example/driftswarm/driftswarm/algorithms/Bounds", "contains", "([D)Z"⟩ : MethodName) prog_14_method_4_code 3 (some .boolean) :: ws) ({ frames := 1, cells := 0, slots := 0, locals := 15 } : Room)) (fun a U => a = #[(.ref a0), (.ref a1)] ∧ Z.Warmed39 U.vm ∧ U.heap = h0) (fun _ _ _ _ _ => True) (fun _ U o U' => ∃ v L, o = .returned v ∧ Q_all_2 Z a0 a1 al au k_al x0 x1 k_au y0 y1 k_a1 p0 p1 h0 n0 v U'.heap L ∧ FrameEnd U o U' L ({ frames := 1, cells := 0, slots := 0, locals := 15 } : Room).cells ({ frames := 1, cells := 0, slots := 0, locals := 15 } : Room).slots) := by
  refine MetFree.of_bodySF (plainFor_of_name pn_0) hisR ?_
  intro p e s m args below meth c s₁ Bd hml0 hP hK
  obtain ⟨rfl, hZ, hh⟩ := hP
  have hx := Bd.exec
  have hby := Bd.bytes
  have hml : c.maxLocals = 3 := hml0
  have hown : s.vm.findClass "com/example/driftswarm/driftswarm/algorithms/Bounds" = some m.cls := findClass_of_methodNamed Bd.named
  have hnm := (name_of_methodNamed Bd.named Bd.method).1
  have hlk : meth.locks = false := BodyLoose.notSynchronized Bd
  have X0 : Stand p l e ({ frames := 1, cells := 0, slots := 0, locals := 15 } : Room) s m #[(.ref a0), (.ref a1)] below meth c s₁ [] 0 0 := Stand.of_body Bd
  have e0 : s₁.heap = h0 := by rw [← hh, Bd.state]; rfl
  have N0 := Fr.nil n0
  have ZZ := Z0
  show Go p e below s ({ frames := 1, cells := 0, slots := 0, locals := 15 } : Room).cells ({ frames := 1, cells := 0, slots := 0, locals := 15 } : Room).slots (fun v h L => Q_all_2 Z a0 a1 al au k_al x0 x1 k_au y0 y1 k_a1 p0 p1 h0 n0 v h L) s₁ (entryFrame m #[(.ref a0), (.ref a1)] 3)
  refine Go.cast (ef_all_2 m a0 a1) ?_
  refine Go.gen ?_
  intro K1 K2 QQ hK1 hK2 hQQ
  refine Go.on (fun _ k => XS.iconst X0.here hx rfl (hb hby d5_0) k) ?_
  show Go _ _ _ _ _ _ _ _ (mkF m 1 #[.val (.ref a0), .val (.ref a1), .unset] [(.int (0 : Int32))])
  refine Go.on (fun _ k => XS.istoreN X0.here hx rfl (hb hby d5_1) rfl (l' := #[.val (.ref a0), .val (.ref a1), .val (.int (0 : Int32))]) rfl k) ?_
  show Go _ _ _ _ _ _ _ _ (mkF m 2 #[.val (.ref a0), .val (.ref a1), .val (.int (0 : Int32))] [])
  refine Go.on (fun _ k => XS.iloadN X0.here hx rfl (hb hby d5_2) rfl k) ?_
  show Go _ _ _ _ _ _ _ _ (mkF m 3 #[.val (.ref a0), .val (.ref a1), .val (.int (0 : Int32))] [(.int (0 : Int32))])
  refine Go.on (fun _ k => XS.aloadN X0.here hx rfl (hb hby d5_3) rfl rfl k) ?_
  show Go _ _ _ _ _ _ _ _ (mkF m 4 #[.val (.ref a0), .val (.ref a1), .val (.int (0 : Int32))] [(.ref a1), (.int (0 : Int32))])
  obtain ⟨cl1, Ar1, -, S1, N1n, -, -⟩ := id V_a1
  refine Go.on (X0.arraylength hx (by rw [e0]; exact Ar1.1) (State.isArrayOf_alike hZ.alike Ar1.2.1) (g := (mkF m 4 #[.val (.ref a0), .val (.ref a1), .val (.int (0 : Int32))] [(.ref a1), (.int (0 : Int32))])) rfl rfl (hb hby d5_4)) ?_
  rw [len_of S1 N1n]
  show Go _ _ _ _ _ _ _ _ (mkF m 5 #[.val (.ref a0), .val (.ref a1), .val (.int (0 : Int32))] [(.int (2 : Int32)), (.int (0 : Int32))])
  have hc2 : (0 : Int32) < (2 : Int32) := by decide
  refine Go.on (fun _ k => XS.icmpNo X0.here hx rfl (hb hby d5_5) rfl (tlt hc2).2.1 k) ?_
  show Go _ _ _ _ _ _ _ _ (mkF m 8 #[.val (.ref a0), .val (.ref a1), .val (.int (0 : Int32))] [])
  refine Go.on (fun _ k => XS.aloadN X0.here hx rfl (hb hby d5_8) rfl rfl k) ?_
  show Go _ _ _ _ _ _ _ _ (mkF m 9 #[.val (.ref a0), .val (.ref a1), .val (.int (0 : Int32))] [(.ref a0)])
  refine Go.on (fun _ k => XS.iloadN X0.here hx rfl (hb hby d5_9) rfl k) ?_
  show Go _ _ _ _ _ _ _ _ (mkF m 10 #[.val (.ref a0), .val (.ref a1), .val (.int (0 : Int32))] [(.int (0 : Int32)), (.ref a0)])
  refine Go.on (fun _ k => XS.aloadN X0.here hx rfl (hb hby d5_10) rfl rfl k) ?_
  show Go _ _ _ _ _ _ _ _ (mkF m 11 #[.val (.ref a0), .val (.ref a1), .val (.int (0 : Int32))] [(.ref a1), (.int (0 : Int32)), (.ref a0)])
  refine Go.on (fun _ k => XS.iloadN X0.here hx rfl (hb hby d5_11) rfl k) ?_
  show Go _ _ _ _ _ _ _ _ (mkF m 12 #[.val (.ref a0), .val (.ref a1), .val (.int (0 : Int32))] [(.int (0 : Int32)), (.ref a1), (.int (0 : Int32)), (.ref a0)])
  obtain ⟨cl3, Ar3, -, S3, -, H3, -⟩ := id V_a1
  have hin3 : ¬ ((0 : Int32) < 0 ∨ cl3.slots.size ≤ ((0 : Int32)).toNatClampNeg) := inb_of S3 ⟨by decide, by decide⟩
  refine Go.on (X0.daload hx (j := (0 : Int32)) (v := (.double p0)) (by rw [e0]; exact Ar3.1) (State.isArrayOf_alike hZ.alike Ar3.2.1) Ar3.2.2 hin3 (H3.at hin3 (rfl)) (g := (mkF m 12 #[.val (.ref a0), .val (.ref a1), .val (.int (0 : Int32))] [(.int (0 : Int32)), (.ref a1), (.int (0 : Int32)), (.ref a0)])) rfl rfl (hb hby d5_12)) ?_
  show Go _ _ _ _ _ _ _ _ (mkF m 13 #[.val (.ref a0), .val (.ref a1), .val (.int (0 : Int32))] [(.double p0), (.int (0 : Int32)), (.ref a0)])
  obtain ⟨cq4, kq4, q4a, q4b, q4c⟩ := isOf hZ e0 E_a0
  obtain ⟨_, _, ⟨T4, L4, k4, n4⟩, -, X4, ⟨Lc4, hQ4, l4, y4, z4⟩, st4⟩ := X0.virtualBack hx (y := (⟨"com/example/driftswarm/driftswarm/algorithms/Bounds", "contains", "(ID)Z"⟩ : MethodName)) (z := (⟨"com/example/driftswarm/driftswarm/algorithms/Bounds", "contains", "(ID)Z"⟩ : MethodName)) hown (mvT hZ (hw _ (List.mem_of_getElem? (i := 27) rfl))) (mvT hZ (hw _ (List.mem_of_getElem? (i := 28) rfl))) (notFace_of_selects (args := #[]) (mvT hZ (hw _ (List.mem_of_getElem? (i := 30) rfl)))) (mvT hZ (hw _ (List.mem_of_getElem? (i := 30) rfl))) (mvT hZ (hw _ (List.mem_of_getElem? (i := 29) rfl))) (by decide) (backOf (W := 0) (rm6 l Z aw hw [] a0 (0 : Int32) p0 al au k_al x0 x1 k_au y0 y1 h0 n0 ZZ F_lower_a0 F_upper_a0 V_al V_au (by decide)) hZ (hw _ (List.mem_of_getElem? (i := 31) rfl)) (hw _ (List.mem_of_getElem? (i := 11) rfl)) (by decide) (by decide)) q4a q4c (g := (mkF m 13 #[.val (.ref a0), .val (.ref a1), .val (.int (0 : Int32))] [(.double p0), (.int (0 : Int32)), (.ref a0)])) rfl (by rw [hml]; rfl) (Steps.refl _) (argsL := [(.int (0 : Int32)), (.double p0)]) (rest := []) (lenOf pd_0 rfl) rfl (by show 2 * 0 + _ ≤ _; exact Nat.le_of_eq rfl) (hb hby d5_13) (fun _ _ => ⟨rfl, e0, (by decide : 0 + 0 ≤ _), (by decide : 0 + 0 ≤ _)⟩)
  dsimp only [Pt.U, Pt.locs, Pt.cells, Pt.slots] at X4 l4 y4 z4 st4 hQ4
  subst l4 y4 z4
  obtain ⟨rfl, N4q, e4⟩ := hQ4
  have N4 := Fr.app N0 N4q
  refine Go.on (fun _ k => st4.trans k) ?_
  show Go _ _ _ _ _ _ _ _ (mkF m 16 #[.val (.ref a0), .val (.ref a1), .val (.int (0 : Int32))] [(.int (containsV p0 (if (0 : Int32) = (0 : Int32) then x0 else x1) (if (0 : Int32) = (0 : Int32) then y0 else y1)))])
  by_cases hc5 : (containsV p0 (if (0 : Int32) = (0 : Int32) then x0 else x1) (if (0 : Int32) = (0 : Int32) then y0 else y1)) = (0 : Int32)
  · -- pc 16 yes
    refine Go.on (fun _ k => XS.ifNo X4.here hx rfl (hb hby d5_16) rfl ((if0 _ _).trans (teq hc5).2) k) ?_
    show Go _ _ _ _ _ _ _ _ (mkF m 19 #[.val (.ref a0), .val (.ref a1), .val (.int (0 : Int32))] [])
    refine Go.on (fun _ k => XS.iconst X4.here hx rfl (hb hby d5_19) k) ?_
    show Go _ _ _ _ _ _ _ _ (mkF m 20 #[.val (.ref a0), .val (.ref a1), .val (.int (0 : Int32))] [(.int (0 : Int32))])
    refine Go.retN X4 hx (t := .boolean) Bd.returns (by simp) (hb hby d5_20) ?_ (by rw [hK1]; decide) (by rw [hK2]; decide)
    rw [e4, ← hQQ]
    refine ⟨?_, N4, rfl⟩
    rw [if_pos hc5]; rfl
  · -- pc 16 no
    refine Go.on (fun _ k => XS.ifYes X4.here hx rfl (pc0 := 16) (pc' := 21) rfl (hb hby d5_16) rfl ((if0 _ _).trans (feq hc5).2) (by decide) (by decide) k) ?_
    show Go _ _ _ _ _ _ _ _ (mkF m 21 #[.val (.ref a0), .val (.ref a1), .val (.int (0 : Int32))] [])
    refine Go.on (fun _ k => XS.iinc X4.here hx rfl (hb hby d5_21) rfl (l' := #[.val (.ref a0), .val (.ref a1), .val (.int (1 : Int32))]) rfl k) ?_
    show Go _ _ _ _ _ _ _ _ (mkF m 24 #[.val (.ref a0), .val (.ref a1), .val (.int (1 : Int32))] [])
    refine Go.on (fun _ k => XS.goto X4.here hx rfl (pc0 := 24) (pc' := 2) rfl (hb hby d5_24) (by decide) (by decide) k) ?_
    show Go _ _ _ _ _ _ _ _ (mkF m 2 #[.val (.ref a0), .val (.ref a1), .val (.int (1 : Int32))] [])
    refine Go.on (fun _ k => XS.iloadN X4.here hx rfl (hb hby d5_2) rfl k) ?_
    show Go _ _ _ _ _ _ _ _ (mkF m 3 #[.val (.ref a0), .val (.ref a1), .val (.int (1 : Int32))] [(.int (1 : Int32))])
    refine Go.on (fun _ k => XS.aloadN X4.here hx rfl (hb hby d5_3) rfl rfl k) ?_
    show Go _ _ _ _ _ _ _ _ (mkF m 4 #[.val (.ref a0), .val (.ref a1), .val (.int (1 : Int32))] [(.ref a1), (.int (1 : Int32))])
    obtain ⟨cl6, Ar6, -, S6, N6n, -, -⟩ := id V_a1
    refine Go.on (X4.arraylength hx (by rw [e4]; exact Ar6.1) (State.isArrayOf_alike hZ.alike Ar6.2.1) (g := (mkF m 4 #[.val (.ref a0), .val (.ref a1), .val (.int (1 : Int32))] [(.ref a1), (.int (1 : Int32))])) rfl rfl (hb hby d5_4)) ?_
    rw [len_of S6 N6n]
    show Go _ _ _ _ _ _ _ _ (mkF m 5 #[.val (.ref a0), .val (.ref a1), .val (.int (1 : Int32))] [(.int (2 : Int32)), (.int (1 : Int32))])
    have hc7 : (1 : Int32) < (2 : Int32) := by decide
    refine Go.on (fun _ k => XS.icmpNo X4.here hx rfl (hb hby d5_5) rfl (tlt hc7).2.1 k) ?_
    show Go _ _ _ _ _ _ _ _ (mkF m 8 #[.val (.ref a0), .val (.ref a1), .val (.int (1 : Int32))] [])
    refine Go.on (fun _ k => XS.aloadN X4.here hx rfl (hb hby d5_8) rfl rfl k) ?_
    show Go _ _ _ _ _ _ _ _ (mkF m 9 #[.val (.ref a0), .val (.ref a1), .val (.int (1 : Int32))] [(.ref a0)])
    refine Go.on (fun _ k => XS.iloadN X4.here hx rfl (hb hby d5_9) rfl k) ?_
    show Go _ _ _ _ _ _ _ _ (mkF m 10 #[.val (.ref a0), .val (.ref a1), .val (.int (1 : Int32))] [(.int (1 : Int32)), (.ref a0)])
    refine Go.on (fun _ k => XS.aloadN X4.here hx rfl (hb hby d5_10) rfl rfl k) ?_
    show Go _ _ _ _ _ _ _ _ (mkF m 11 #[.val (.ref a0), .val (.ref a1), .val (.int (1 : Int32))] [(.ref a1), (.int (1 : Int32)), (.ref a0)])
    refine Go.on (fun _ k => XS.iloadN X4.here hx rfl (hb hby d5_11) rfl k) ?_
    show Go _ _ _ _ _ _ _ _ (mkF m 12 #[.val (.ref a0), .val (.ref a1), .val (.int (1 : Int32))] [(.int (1 : Int32)), (.ref a1), (.int (1 : Int32)), (.ref a0)])
    obtain ⟨cl8, Ar8, -, S8, -, H8, -⟩ := id V_a1
    have hin8 : ¬ ((1 : Int32) < 0 ∨ cl8.slots.size ≤ ((1 : Int32)).toNatClampNeg) := inb_of S8 ⟨by decide, by decide⟩
    refine Go.on (X4.daload hx (j := (1 : Int32)) (v := (.double p1)) (by rw [e4]; exact Ar8.1) (State.isArrayOf_alike hZ.alike Ar8.2.1) Ar8.2.2 hin8 (H8.at hin8 (rfl)) (g := (mkF m 12 #[.val (.ref a0), .val (.ref a1), .val (.int (1 : Int32))] [(.int (1 : Int32)), (.ref a1), (.int (1 : Int32)), (.ref a0)])) rfl rfl (hb hby d5_12)) ?_
    show Go _ _ _ _ _ _ _ _ (mkF m 13 #[.val (.ref a0), .val (.ref a1), .val (.int (1 : Int32))] [(.double p1), (.int (1 : Int32)), (.ref a0)])
    obtain ⟨cq9, kq9, q9a, q9b, q9c⟩ := isOf hZ e4 E_a0
    obtain ⟨_, _, ⟨T9, L9, k9, n9⟩, -, X9, ⟨Lc9, hQ9, l9, y9, z9⟩, st9⟩ := X4.virtualBack hx (y := (⟨"com/example/driftswarm/driftswarm/algorithms/Bounds", "contains", "(ID)Z"⟩ : MethodName)) (z := (⟨"com/example/driftswarm/driftswarm/algorithms/Bounds", "contains", "(ID)Z"⟩ : MethodName)) hown (mvT hZ (hw _ (List.mem_of_getElem? (i := 27) rfl))) (mvT hZ (hw _ (List.mem_of_getElem? (i := 28) rfl))) (notFace_of_selects (args := #[]) (mvT hZ (hw _ (List.mem_of_getElem? (i := 30) rfl)))) (mvT hZ (hw _ (List.mem_of_getElem? (i := 30) rfl))) (mvT hZ (hw _ (List.mem_of_getElem? (i := 29) rfl))) (by decide) (backOf (W := 0) (rm6 l Z aw hw [] a0 (1 : Int32) p1 al au k_al x0 x1 k_au y0 y1 h0 n0 ZZ F_lower_a0 F_upper_a0 V_al V_au (by decide)) hZ (hw _ (List.mem_of_getElem? (i := 31) rfl)) (hw _ (List.mem_of_getElem? (i := 11) rfl)) (by decide) (by decide)) q9a q9c (g := (mkF m 13 #[.val (.ref a0), .val (.ref a1), .val (.int (1 : Int32))] [(.double p1), (.int (1 : Int32)), (.ref a0)])) rfl (by rw [hml]; rfl) (Steps.refl _) (argsL := [(.int (1 : Int32)), (.double p1)]) (rest := []) (lenOf pd_0 rfl) rfl (by show 2 * 0 + _ ≤ _; exact Nat.le_of_eq rfl) (hb hby d5_13) (fun _ _ => ⟨rfl, e4, (by decide : 0 + 0 ≤ _), (by decide : 0 + 0 ≤ _)⟩)
    dsimp only [Pt.U, Pt.locs, Pt.cells, Pt.slots] at X9 l9 y9 z9 st9 hQ9
    subst l9 y9 z9
    obtain ⟨rfl, N9q, e9⟩ := hQ9
    have N9 := Fr.app N4 N9q
    refine Go.on (fun _ k => st9.trans k) ?_
    show Go _ _ _ _ _ _ _ _ (mkF m 16 #[.val (.ref a0), .val (.ref a1), .val (.int (1 : Int32))] [(.int (containsV p1 (if (1 : Int32) = (0 : Int32) then x0 else x1) (if (1 : Int32) = (0 : Int32) then y0 else y1)))])
    by_cases hc10 : (containsV p1 (if (1 : Int32) = (0 : Int32) then x0 else x1) (if (1 : Int32) = (0 : Int32) then y0 else y1)) = (0 : Int32)
    · -- pc 16 yes
      refine Go.on (fun _ k => XS.ifNo X9.here hx rfl (hb hby d5_16) rfl ((if0 _ _).trans (teq hc10).2) k) ?_
      show Go _ _ _ _ _ _ _ _ (mkF m 19 #[.val (.ref a0), .val (.ref a1), .val (.int (1 : Int32))] [])
      refine Go.on (fun _ k => XS.iconst X9.here hx rfl (hb hby d5_19) k) ?_
      show Go _ _ _ _ _ _ _ _ (mkF m 20 #[.val (.ref a0), .val (.ref a1), .val (.int (1 : Int32))] [(.int (0 : Int32))])
      refine Go.retN X9 hx (t := .boolean) Bd.returns (by simp) (hb hby d5_20) ?_ (by rw [hK1]; decide) (by rw [hK2]; decide)
      rw [e9, ← hQQ]
      refine ⟨?_, N9, rfl⟩
      rw [if_neg hc5, if_pos hc10]; rfl
    · -- pc 16 no
      refine Go.on (fun _ k => XS.ifYes X9.here hx rfl (pc0 := 16) (pc' := 21) rfl (hb hby d5_16) rfl ((if0 _ _).trans (feq hc10).2) (by decide) (by decide) k) ?_
      show Go _ _ _ _ _ _ _ _ (mkF m 21 #[.val (.ref a0), .val (.ref a1), .val (.int (1 : Int32))] [])
      refine Go.on (fun _ k => XS.iinc X9.here hx rfl (hb hby d5_21) rfl (l' := #[.val (.ref a0), .val (.ref a1), .val (.int (2 : Int32))]) rfl k) ?_
      show Go _ _ _ _ _ _ _ _ (mkF m 24 #[.val (.ref a0), .val (.ref a1), .val (.int (2 : Int32))] [])
      refine Go.on (fun _ k => XS.goto X9.here hx rfl (pc0 := 24) (pc' := 2) rfl (hb hby d5_24) (by decide) (by decide) k) ?_
      show Go _ _ _ _ _ _ _ _ (mkF m 2 #[.val (.ref a0), .val (.ref a1), .val (.int (2 : Int32))] [])
      refine Go.on (fun _ k => XS.iloadN X9.here hx rfl (hb hby d5_2) rfl k) ?_
      show Go _ _ _ _ _ _ _ _ (mkF m 3 #[.val (.ref a0), .val (.ref a1), .val (.int (2 : Int32))] [(.int (2 : Int32))])
      refine Go.on (fun _ k => XS.aloadN X9.here hx rfl (hb hby d5_3) rfl rfl k) ?_
      show Go _ _ _ _ _ _ _ _ (mkF m 4 #[.val (.ref a0), .val (.ref a1), .val (.int (2 : Int32))] [(.ref a1), (.int (2 : Int32))])
      obtain ⟨cl11, Ar11, -, S11, N11n, -, -⟩ := id V_a1
      refine Go.on (X9.arraylength hx (by rw [e9]; exact Ar11.1) (State.isArrayOf_alike hZ.alike Ar11.2.1) (g := (mkF m 4 #[.val (.ref a0), .val (.ref a1), .val (.int (2 : Int32))] [(.ref a1), (.int (2 : Int32))])) rfl rfl (hb hby d5_4)) ?_
      rw [len_of S11 N11n]
      show Go _ _ _ _ _ _ _ _ (mkF m 5 #[.val (.ref a0), .val (.ref a1), .val (.int (2 : Int32))] [(.int (2 : Int32)), (.int (2 : Int32))])
      have hc12 : ¬ ((2 : Int32) < (2 : Int32)) := by decide
      refine Go.on (fun _ k => XS.icmpYes X9.here hx rfl (pc0 := 5) (pc' := 27) rfl (hb hby d5_5) rfl (flt hc12).2.1 (by decide) (by decide) k) ?_
      show Go _ _ _ _ _ _ _ _ (mkF m 27 #[.val (.ref a0), .val (.ref a1), .val (.int (2 : Int32))] [])
      refine Go.on (fun _ k => XS.iconst X9.here hx rfl (hb hby d5_27) k) ?_
      show Go _ _ _ _ _ _ _ _ (mkF m 28 #[.val (.ref a0), .val (.ref a1), .val (.int (2 : Int32))] [(.int (1 : Int32))])
      refine Go.retN X9 hx (t := .boolean) Bd.returns (by simp) (hb hby d5_28) ?_ (by rw [hK1]; decide) (by rw [hK2]; decide)
      rw [e9, ← hQQ]
      refine ⟨?_, N9, rfl⟩
      rw [if_neg hc5, if_neg hc10]; rfl
section PureLaw
open Jvm.FP.Core
theorem own_mm {a b l u : Int32} (hl : (if b < a then b else a) = l) (hu : (if a < b then b else a) = u) : ¬ ((0 : Int32) < (cmpValue (FP.dcmp (FP.i2d l) (FP.i2d u)) .g)) := by
  rw [← hl, ← hu]; exact own_minmax a b
theorem own_len {k n : Int32} (h : ((k &&& (2147483647 : Int32)) % (3 : Int32)) = n) : n = 0 ∨ n = 1 ∨ n = 2 := by
  have e1 : (k &&& 2147483647).toInt = k.toInt % 2 ^ 31 := Jvm.Kit.i32_mask k 2147483647 (k := 31) (by decide) (by decide)
  have l3 : (3 : Int32).toInt = 3 := by decide
  have e2 : n.toInt = k.toInt % 2 ^ 31 % 3 := by rw [← h, Int32.toInt_mod, e1, l3, Int.tmod_eq_emod_of_nonneg (by omega)]
  have k0 : (0 : Int32).toInt = 0 := by decide
  have k1 : (1 : Int32).toInt = 1 := by decide
  have k2 : (2 : Int32).toInt = 2 := by decide
  simp only [← Int32.toInt_inj, k0, k1, k2]; omega
theorem own_in {p l u : Int32} : containsV (FP.i2d p) (FP.i2d l) (FP.i2d u) = (if p < l then (0 : Int32) else (if u < p then (0 : Int32) else (1 : Int32))) := by
  rw [own_contains (own_i2d p) (own_i2d l) (own_i2d u)]
  simp only [Int32.lt_iff_toInt_lt]
theorem own_pure1 {p0 l0 u0 in0 ex r v : Int32} {A B : UInt64} (h0 : in0 = (if p0 < l0 then (0 : Int32) else (if u0 < p0 then (0 : Int32) else (1 : Int32)))) (hex : ex = (if in0 = (0 : Int32) then (0 : Int32) else (1 : Int32)))
    (hr : (if (containsV (FP.i2d p0) (if (0 : Int32) = (0 : Int32) then (FP.i2d l0) else A) (if (0 : Int32) = (0 : Int32) then (FP.i2d u0) else B)) = (0 : Int32) then (0 : Int32) else (1 : Int32)) = r)
    (hv : v = (if r = ex then (1 : Int32) else (0 : Int32))) : v = 1 := by
  rw [if_pos rfl, if_pos rfl, own_in, ← h0] at hr
  rw [hv, if_pos (by rw [← hr, hex])]
theorem own_pure2 {p0 l0 u0 p1 l1 u1 in0 in1 ex r v : Int32} (h0 : in0 = (if p0 < l0 then (0 : Int32) else (if u0 < p0 then (0 : Int32) else (1 : Int32)))) (h1 : in1 = (if p1 < l1 then (0 : Int32) else (if u1 < p1 then (0 : Int32) else (1 : Int32))))
    (hex : ex = (if in0 = (0 : Int32) then (0 : Int32) else (if in1 = (0 : Int32) then (0 : Int32) else (1 : Int32))))
    (hr : (if (containsV (FP.i2d p0) (if (0 : Int32) = (0 : Int32) then (FP.i2d l0) else (FP.i2d l1)) (if (0 : Int32) = (0 : Int32) then (FP.i2d u0) else (FP.i2d u1))) = (0 : Int32) then (0 : Int32) else (if (containsV (FP.i2d p1) (if (1 : Int32) = (0 : Int32) then (FP.i2d l0) else (FP.i2d l1)) (if (1 : Int32) = (0 : Int32) then (FP.i2d u0) else (FP.i2d u1))) = (0 : Int32) then (0 : Int32) else (1 : Int32))) = r)
    (hv : v = (if r = ex then (1 : Int32) else (0 : Int32))) : v = 1 := by
  have e1 : ¬ ((1 : Int32) = (0 : Int32)) := by decide
  simp only [if_neg e1, if_pos (rfl : (0 : Int32) = 0), if_true, own_in, ← h0, ← h1] at hr
  rw [hv, if_pos (by rw [← hr, hex])]
end PureLaw

theorem pd_1 : parseMethodDescriptor "(II)I" = some ⟨[.int, .int], some .int⟩ := by decide +kernel
theorem pd_2 : parseMethodDescriptor "([D[D)V" = some ⟨[(.array .double), (.array .double)], none⟩ := by decide +kernel
theorem pd_3 : parseMethodDescriptor "([D)Z" = some ⟨[(.array .double)], some .boolean⟩ := by decide +kernel
theorem pn_1 : plainName "com/example/driftswarm/driftswarm/algorithms/BoundsContains117PinLaw" = true := by first | (simp [plainName, overriddenIn]; done) | decide +kernel
theorem ef_rm0 (m : MethodId) (i0 : Int32) (i1 : Int32) (i2 : Int32) (i3 : Int32) (j4 : Int64) (i5 : Int32) : entryFrame m #[(.int i0), (.int i1), (.int i2), (.int i3), (.long j4), (.int i5)] maxLocals = mkF m 0 #[.val (.int i0), .val (.int i1), .val (.int i2), .val (.int i3), .val (.long j4), .second, .val (.int i5), .unset, .unset, .unset, .unset, .unset, .unset, .unset, .unset, .unset, .unset, .unset, .unset, .unset, .unset] [] := by first | (simp [entryFrame, mkF, argsToLocals, Value.category, maxLocals]; done) | rfl
def Q_rm0 (Z : State) (i0 : Int32) (i1 : Int32) (i2 : Int32) (i3 : Int32) (j4 : Int64) (i5 : Int32) (h0 : Heap) (n0 : Nat) (v : Option Value) (h : Heap) (L : List Loc) : Prop := v = some (.int 1) ∧ Fr n0 L
set_option maxRecDepth 65536 in
set_option maxHeartbeats 40000000 in
theorem rm0 (l : Launch) (Z : State) (aw : Array Value) (hw : ∀ d ∈ tables_1, d.before aw Z = true) (ws : List Jvm.Cond) (i0 : Int32) (i1 : Int32) (i2 : Int32) (i3 : Int32) (j4 : Int64) (i5 : Int32) (h0 : Heap) (n0 : Nat) (Z0 : n0 ≤ h0.size) :
    MetFree l x (head1 (Jvm.Cond.code x code maxLocals ret :: ws) room_1) (fun a U => a = #[(.int i0), (.int i1), (.int i2), (.int i3), (.long j4), (.int i5)] ∧ Z.Warmed39 U.vm ∧ U.heap = h0) (fun _ _ _ _ _ => True) (fun _ U o U' => ∃ v L, o = .returned v ∧ Q_rm0 Z i0 i1 i2 i3 j4 i5 h0 n0 v U'.heap L ∧ FrameEnd U o U' L 4 8) := by
  refine MetFree.of_bodySF (plainFor_of_name pn_1) hisR ?_
  intro p e s m args below meth c s₁ Bd hml0 hP hK
  obtain ⟨rfl, hZ, hh⟩ := hP
  have hx := Bd.exec
  have hby := Bd.bytes
  have hml : c.maxLocals = 21 := hml0
  have hown : s.vm.findClass "com/example/driftswarm/driftswarm/algorithms/BoundsContains117PinLaw" = some m.cls := findClass_of_methodNamed Bd.named
  have hnm := (name_of_methodNamed Bd.named Bd.method).1
  have hlk : meth.locks = false := BodyLoose.notSynchronized Bd
  have X0 : Stand p l e room_1 s m #[(.int i0), (.int i1), (.int i2), (.int i3), (.long j4), (.int i5)] below meth c s₁ [] 0 0 := Stand.of_body Bd
  have e0 : s₁.heap = h0 := by rw [← hh, Bd.state]; rfl
  have N0 := Fr.nil n0
  have ZZ := Z0
  show Go p e below s 4 8 (fun v h L => Q_rm0 Z i0 i1 i2 i3 j4 i5 h0 n0 v h L) s₁ (entryFrame m #[(.int i0), (.int i1), (.int i2), (.int i3), (.long j4), (.int i5)] maxLocals)
  refine Go.cast (ef_rm0 m i0 i1 i2 i3 j4 i5) ?_
  refine Go.gen ?_
  intro K1 K2 QQ hK1 hK2 hQQ
  refine Go.on (fun _ k => XS.iloadN X0.here hx rfl (hb hby at_0) rfl k) ?_
  show Go _ _ _ _ _ _ _ _ (mkF m 1 #[.val (.int i0), .val (.int i1), .val (.int i2), .val (.int i3), .val (.long j4), .second, .val (.int i5), .unset, .unset, .unset, .unset, .unset, .unset, .unset, .unset, .unset, .unset, .unset, .unset, .unset, .unset] [(.int i0)])
  refine Go.on (fun _ k => XS.iloadN X0.here hx rfl (hb hby at_1) rfl k) ?_
  show Go _ _ _ _ _ _ _ _ (mkF m 2 #[.val (.int i0), .val (.int i1), .val (.int i2), .val (.int i3), .val (.long j4), .second, .val (.int i5), .unset, .unset, .unset, .unset, .unset, .unset, .unset, .unset, .unset, .unset, .unset, .unset, .unset, .unset] [(.int i1), (.int i0)])
  obtain ⟨_, _, ⟨T1, L1, k1, n1⟩, -, X1, ⟨Lc1, hQ1, l1, y1, z1⟩, st1⟩ := Jvm.LawKit.callS X0 hx (y := (⟨"java/lang/Math", "min", "(II)I"⟩ : MethodName)) hown (mvT hZ (hw _ (List.mem_of_getElem? (i := 0) rfl))) (mvT hZ (hw _ (List.mem_of_getElem? (i := 1) rfl))) (mvT hZ (hw _ (List.mem_of_getElem? (i := 2) rfl))) (mvT hZ (hw _ (List.mem_of_getElem? (i := 3) rfl))) (by decide) (backOf (W := 0) (rm1 l Z aw hw [] i0 i1  h0 n0 ZZ ) hZ (hw _ (List.mem_of_getElem? (i := 3) rfl)) (hw _ (List.mem_of_getElem? (i := 2) rfl)) (by decide) (by decide)) (g := (mkF m 2 #[.val (.int i0), .val (.int i1), .val (.int i2), .val (.int i3), .val (.long j4), .second, .val (.int i5), .unset, .unset, .unset, .unset, .unset, .unset, .unset, .unset, .unset, .unset, .unset, .unset, .unset, .unset] [(.int i1), (.int i0)])) rfl (by rw [hml]; rfl) (argsL := [(.int i0), (.int i1)]) (rest := []) (lenOf pd_1 rfl) rfl (by show 2 * 0 + _ ≤ _; exact Nat.le_of_eq rfl) (hb hby at_2) (fun _ _ => ⟨rfl, e0, (by decide : 0 + 0 ≤ _), (by decide : 0 + 0 ≤ _)⟩)
  dsimp only [Pt.U, Pt.locs, Pt.cells, Pt.slots] at X1 l1 y1 z1 st1 hQ1
  subst l1 y1 z1
  obtain ⟨rfl, N1q, e1⟩ := hQ1
  have N1 := Fr.app N0 N1q
  refine Go.on st1 ?_
  show Go _ _ _ _ _ _ _ _ (mkF m 5 #[.val (.int i0), .val (.int i1), .val (.int i2), .val (.int i3), .val (.long j4), .second, .val (.int i5), .unset, .unset, .unset, .unset, .unset, .unset, .unset, .unset, .unset, .unset, .unset, .unset, .unset, .unset] [(.int (if i1 < i0 then i1 else i0))])
  generalize hl0 : (if i1 < i0 then i1 else i0) = l0
  show Go _ _ _ _ _ _ _ _ (mkF m 5 #[.val (.int i0), .val (.int i1), .val (.int i2), .val (.int i3), .val (.long j4), .second, .val (.int i5), .unset, .unset, .unset, .unset, .unset, .unset, .unset, .unset, .unset, .unset, .unset, .unset, .unset, .unset] [(.int l0)])
  refine Go.on (fun _ k => XS.istore X1.here hx rfl (hb hby at_5) rfl (l' := #[.val (.int i0), .val (.int i1), .val (.int i2), .val (.int i3), .val (.long j4), .second, .val (.int i5), .val (.int l0), .unset, .unset, .unset, .unset, .unset, .unset, .unset, .unset, .unset, .unset, .unset, .unset, .unset]) rfl k) ?_
  show Go _ _ _ _ _ _ _ _ (mkF m 7 #[.val (.int i0), .val (.int i1), .val (.int i2), .val (.int i3), .val (.long j4), .second, .val (.int i5), .val (.int l0), .unset, .unset, .unset, .unset, .unset, .unset, .unset, .unset, .unset, .unset, .unset, .unset, .unset] [])
  refine Go.on (fun _ k => XS.iloadN X1.here hx rfl (hb hby at_7) rfl k) ?_
  show Go _ _ _ _ _ _ _ _ (mkF m 8 #[.val (.int i0), .val (.int i1), .val (.int i2), .val (.int i3), .val (.long j4), .second, .val (.int i5), .val (.int l0), .unset, .unset, .unset, .unset, .unset, .unset, .unset, .unset, .unset, .unset, .unset, .unset, .unset] [(.int i0)])
  refine Go.on (fun _ k => XS.iloadN X1.here hx rfl (hb hby at_8) rfl k) ?_
  show Go _ _ _ _ _ _ _ _ (mkF m 9 #[.val (.int i0), .val (.int i1), .val (.int i2), .val (.int i3), .val (.long j4), .second, .val (.int i5), .val (.int l0), .unset, .unset, .unset, .unset, .unset, .unset, .unset, .unset, .unset, .unset, .unset, .unset, .unset] [(.int i1), (.int i0)])
  obtain ⟨_, _, ⟨T2, L2, k2, n2⟩, -, X2, ⟨Lc2, hQ2, l2, y2, z2⟩, st2⟩ := Jvm.LawKit.callS X1 hx (y := (⟨"java/lang/Math", "max", "(II)I"⟩ : MethodName)) hown (mvT hZ (hw _ (List.mem_of_getElem? (i := 4) rfl))) (mvT hZ (hw _ (List.mem_of_getElem? (i := 5) rfl))) (mvT hZ (hw _ (List.mem_of_getElem? (i := 2) rfl))) (mvT hZ (hw _ (List.mem_of_getElem? (i := 6) rfl))) (by decide) (backOf (W := 0) (rm2 l Z aw hw [] i0 i1  h0 n0 ZZ ) hZ (hw _ (List.mem_of_getElem? (i := 6) rfl)) (hw _ (List.mem_of_getElem? (i := 2) rfl)) (by decide) (by decide)) (g := (mkF m 9 #[.val (.int i0), .val (.int i1), .val (.int i2), .val (.int i3), .val (.long j4), .second, .val (.int i5), .val (.int l0), .unset, .unset, .unset, .unset, .unset, .unset, .unset, .unset, .unset, .unset, .unset, .unset, .unset] [(.int i1), (.int i0)])) rfl (by rw [hml]; rfl) (argsL := [(.int i0), (.int i1)]) (rest := []) (lenOf pd_1 rfl) rfl (by show 2 * 0 + _ ≤ _; exact Nat.le_of_eq rfl) (hb hby at_9) (fun _ _ => ⟨rfl, e1, (by decide : 0 + 0 ≤ _), (by decide : 0 + 0 ≤ _)⟩)
  dsimp only [Pt.U, Pt.locs, Pt.cells, Pt.slots] at X2 l2 y2 z2 st2 hQ2
  subst l2 y2 z2
  obtain ⟨rfl, N2q, e2⟩ := hQ2
  have N2 := Fr.app N1 N2q
  refine Go.on st2 ?_
  show Go _ _ _ _ _ _ _ _ (mkF m 12 #[.val (.int i0), .val (.int i1), .val (.int i2), .val (.int i3), .val (.long j4), .second, .val (.int i5), .val (.int l0), .unset, .unset, .unset, .unset, .unset, .unset, .unset, .unset, .unset, .unset, .unset, .unset, .unset] [(.int (if i0 < i1 then i1 else i0))])
  generalize hu0 : (if i0 < i1 then i1 else i0) = u0
  show Go _ _ _ _ _ _ _ _ (mkF m 12 #[.val (.int i0), .val (.int i1), .val (.int i2), .val (.int i3), .val (.long j4), .second, .val (.int i5), .val (.int l0), .unset, .unset, .unset, .unset, .unset, .unset, .unset, .unset, .unset, .unset, .unset, .unset, .unset] [(.int u0)])
  refine Go.on (fun _ k => XS.istore X2.here hx rfl (hb hby at_12) rfl (l' := #[.val (.int i0), .val (.int i1), .val (.int i2), .val (.int i3), .val (.long j4), .second, .val (.int i5), .val (.int l0), .val (.int u0), .unset, .unset, .unset, .unset, .unset, .unset, .unset, .unset, .unset, .unset, .unset, .unset]) rfl k) ?_
  show Go _ _ _ _ _ _ _ _ (mkF m 14 #[.val (.int i0), .val (.int i1), .val (.int i2), .val (.int i3), .val (.long j4), .second, .val (.int i5), .val (.int l0), .val (.int u0), .unset, .unset, .unset, .unset, .unset, .unset, .unset, .unset, .unset, .unset, .unset, .unset] [])
  refine Go.on (fun _ k => XS.iloadN X2.here hx rfl (hb hby at_14) rfl k) ?_
  show Go _ _ _ _ _ _ _ _ (mkF m 15 #[.val (.int i0), .val (.int i1), .val (.int i2), .val (.int i3), .val (.long j4), .second, .val (.int i5), .val (.int l0), .val (.int u0), .unset, .unset, .unset, .unset, .unset, .unset, .unset, .unset, .unset, .unset, .unset, .unset] [(.int i2)])
  refine Go.on (fun _ k => XS.iloadN X2.here hx rfl (hb hby at_15) rfl k) ?_
  show Go _ _ _ _ _ _ _ _ (mkF m 16 #[.val (.int i0), .val (.int i1), .val (.int i2), .val (.int i3), .val (.long j4), .second, .val (.int i5), .val (.int l0), .val (.int u0), .unset, .unset, .unset, .unset, .unset, .unset, .unset, .unset, .unset, .unset, .unset, .unset] [(.int i3), (.int i2)])
  obtain ⟨_, _, ⟨T3, L3, k3, n3⟩, -, X3, ⟨Lc3, hQ3, l3, y3, z3⟩, st3⟩ := Jvm.LawKit.callS X2 hx (y := (⟨"java/lang/Math", "min", "(II)I"⟩ : MethodName)) hown (mvT hZ (hw _ (List.mem_of_getElem? (i := 0) rfl))) (mvT hZ (hw _ (List.mem_of_getElem? (i := 1) rfl))) (mvT hZ (hw _ (List.mem_of_getElem? (i := 2) rfl))) (mvT hZ (hw _ (List.mem_of_getElem? (i := 3) rfl))) (by decide) (backOf (W := 0) (rm1 l Z aw hw [] i2 i3  h0 n0 ZZ ) hZ (hw _ (List.mem_of_getElem? (i := 3) rfl)) (hw _ (List.mem_of_getElem? (i := 2) rfl)) (by decide) (by decide)) (g := (mkF m 16 #[.val (.int i0), .val (.int i1), .val (.int i2), .val (.int i3), .val (.long j4), .second, .val (.int i5), .val (.int l0), .val (.int u0), .unset, .unset, .unset, .unset, .unset, .unset, .unset, .unset, .unset, .unset, .unset, .unset] [(.int i3), (.int i2)])) rfl (by rw [hml]; rfl) (argsL := [(.int i2), (.int i3)]) (rest := []) (lenOf pd_1 rfl) rfl (by show 2 * 0 + _ ≤ _; exact Nat.le_of_eq rfl) (hb hby at_16) (fun _ _ => ⟨rfl, e2, (by decide : 0 + 0 ≤ _), (by decide : 0 + 0 ≤ _)⟩)
  dsimp only [Pt.U, Pt.locs, Pt.cells, Pt.slots] at X3 l3 y3 z3 st3 hQ3
  subst l3 y3 z3
  obtain ⟨rfl, N3q, e3⟩ := hQ3
  have N3 := Fr.app N2 N3q
  refine Go.on st3 ?_
  show Go _ _ _ _ _ _ _ _ (mkF m 19 #[.val (.int i0), .val (.int i1), .val (.int i2), .val (.int i3), .val (.long j4), .second, .val (.int i5), .val (.int l0), .val (.int u0), .unset, .unset, .unset, .unset, .unset, .unset, .unset, .unset, .unset, .unset, .unset, .unset] [(.int (if i3 < i2 then i3 else i2))])
  generalize hl1 : (if i3 < i2 then i3 else i2) = l1
  show Go _ _ _ _ _ _ _ _ (mkF m 19 #[.val (.int i0), .val (.int i1), .val (.int i2), .val (.int i3), .val (.long j4), .second, .val (.int i5), .val (.int l0), .val (.int u0), .unset, .unset, .unset, .unset, .unset, .unset, .unset, .unset, .unset, .unset, .unset, .unset] [(.int l1)])
  refine Go.on (fun _ k => XS.istore X3.here hx rfl (hb hby at_19) rfl (l' := #[.val (.int i0), .val (.int i1), .val (.int i2), .val (.int i3), .val (.long j4), .second, .val (.int i5), .val (.int l0), .val (.int u0), .val (.int l1), .unset, .unset, .unset, .unset, .unset, .unset, .unset, .unset, .unset, .unset, .unset]) rfl k) ?_
  show Go _ _ _ _ _ _ _ _ (mkF m 21 #[.val (.int i0), .val (.int i1), .val (.int i2), .val (.int i3), .val (.long j4), .second, .val (.int i5), .val (.int l0), .val (.int u0), .val (.int l1), .unset, .unset, .unset, .unset, .unset, .unset, .unset, .unset, .unset, .unset, .unset] [])
  refine Go.on (fun _ k => XS.iloadN X3.here hx rfl (hb hby at_21) rfl k) ?_
  show Go _ _ _ _ _ _ _ _ (mkF m 22 #[.val (.int i0), .val (.int i1), .val (.int i2), .val (.int i3), .val (.long j4), .second, .val (.int i5), .val (.int l0), .val (.int u0), .val (.int l1), .unset, .unset, .unset, .unset, .unset, .unset, .unset, .unset, .unset, .unset, .unset] [(.int i2)])
  refine Go.on (fun _ k => XS.iloadN X3.here hx rfl (hb hby at_22) rfl k) ?_
  show Go _ _ _ _ _ _ _ _ (mkF m 23 #[.val (.int i0), .val (.int i1), .val (.int i2), .val (.int i3), .val (.long j4), .second, .val (.int i5), .val (.int l0), .val (.int u0), .val (.int l1), .unset, .unset, .unset, .unset, .unset, .unset, .unset, .unset, .unset, .unset, .unset] [(.int i3), (.int i2)])
  obtain ⟨_, _, ⟨T4, L4, k4, n4⟩, -, X4, ⟨Lc4, hQ4, l4, y4, z4⟩, st4⟩ := Jvm.LawKit.callS X3 hx (y := (⟨"java/lang/Math", "max", "(II)I"⟩ : MethodName)) hown (mvT hZ (hw _ (List.mem_of_getElem? (i := 4) rfl))) (mvT hZ (hw _ (List.mem_of_getElem? (i := 5) rfl))) (mvT hZ (hw _ (List.mem_of_getElem? (i := 2) rfl))) (mvT hZ (hw _ (List.mem_of_getElem? (i := 6) rfl))) (by decide) (backOf (W := 0) (rm2 l Z aw hw [] i2 i3  h0 n0 ZZ ) hZ (hw _ (List.mem_of_getElem? (i := 6) rfl)) (hw _ (List.mem_of_getElem? (i := 2) rfl)) (by decide) (by decide)) (g := (mkF m 23 #[.val (.int i0), .val (.int i1), .val (.int i2), .val (.int i3), .val (.long j4), .second, .val (.int i5), .val (.int l0), .val (.int u0), .val (.int l1), .unset, .unset, .unset, .unset, .unset, .unset, .unset, .unset, .unset, .unset, .unset] [(.int i3), (.int i2)])) rfl (by rw [hml]; rfl) (argsL := [(.int i2), (.int i3)]) (rest := []) (lenOf pd_1 rfl) rfl (by show 2 * 0 + _ ≤ _; exact Nat.le_of_eq rfl) (hb hby at_23) (fun _ _ => ⟨rfl, e3, (by decide : 0 + 0 ≤ _), (by decide : 0 + 0 ≤ _)⟩)
  dsimp only [Pt.U, Pt.locs, Pt.cells, Pt.slots] at X4 l4 y4 z4 st4 hQ4
  subst l4 y4 z4
  obtain ⟨rfl, N4q, e4⟩ := hQ4
  have N4 := Fr.app N3 N4q
  refine Go.on st4 ?_
  show Go _ _ _ _ _ _ _ _ (mkF m 26 #[.val (.int i0), .val (.int i1), .val (.int i2), .val (.int i3), .val (.long j4), .second, .val (.int i5), .val (.int l0), .val (.int u0), .val (.int l1), .unset, .unset, .unset, .unset, .unset, .unset, .unset, .unset, .unset, .unset, .unset] [(.int (if i2 < i3 then i3 else i2))])
  generalize hu1 : (if i2 < i3 then i3 else i2) = u1
  show Go _ _ _ _ _ _ _ _ (mkF m 26 #[.val (.int i0), .val (.int i1), .val (.int i2), .val (.int i3), .val (.long j4), .second, .val (.int i5), .val (.int l0), .val (.int u0), .val (.int l1), .unset, .unset, .unset, .unset, .unset, .unset, .unset, .unset, .unset, .unset, .unset] [(.int u1)])
  refine Go.on (fun _ k => XS.istore X4.here hx rfl (hb hby at_26) rfl (l' := #[.val (.int i0), .val (.int i1), .val (.int i2), .val (.int i3), .val (.long j4), .second, .val (.int i5), .val (.int l0), .val (.int u0), .val (.int l1), .val (.int u1), .unset, .unset, .unset, .unset, .unset, .unset, .unset, .unset, .unset, .unset]) rfl k) ?_
  show Go _ _ _ _ _ _ _ _ (mkF m 28 #[.val (.int i0), .val (.int i1), .val (.int i2), .val (.int i3), .val (.long j4), .second, .val (.int i5), .val (.int l0), .val (.int u0), .val (.int l1), .val (.int u1), .unset, .unset, .unset, .unset, .unset, .unset, .unset, .unset, .unset, .unset] [])
  refine Go.on (fun _ k => XS.lload X4.here hx rfl (hb hby at_28) rfl k) ?_
  show Go _ _ _ _ _ _ _ _ (mkF m 30 #[.val (.int i0), .val (.int i1), .val (.int i2), .val (.int i3), .val (.long j4), .second, .val (.int i5), .val (.int l0), .val (.int u0), .val (.int l1), .val (.int u1), .unset, .unset, .unset, .unset, .unset, .unset, .unset, .unset, .unset, .unset] [(.long j4)])
  refine Go.on (fun _ k => XS.l2i X4.here hx rfl (hb hby at_30) rfl k) ?_
  show Go _ _ _ _ _ _ _ _ (mkF m 31 #[.val (.int i0), .val (.int i1), .val (.int i2), .val (.int i3), .val (.long j4), .second, .val (.int i5), .val (.int l0), .val (.int u0), .val (.int l1), .val (.int u1), .unset, .unset, .unset, .unset, .unset, .unset, .unset, .unset, .unset, .unset] [(.int (j4.toInt32))])
  refine Go.on (fun _ k => XS.istore X4.here hx rfl (hb hby at_31) rfl (l' := #[.val (.int i0), .val (.int i1), .val (.int i2), .val (.int i3), .val (.long j4), .second, .val (.int i5), .val (.int l0), .val (.int u0), .val (.int l1), .val (.int u1), .val (.int (j4.toInt32)), .unset, .unset, .unset, .unset, .unset, .unset, .unset, .unset, .unset]) rfl k) ?_
  show Go _ _ _ _ _ _ _ _ (mkF m 33 #[.val (.int i0), .val (.int i1), .val (.int i2), .val (.int i3), .val (.long j4), .second, .val (.int i5), .val (.int l0), .val (.int u0), .val (.int l1), .val (.int u1), .val (.int (j4.toInt32)), .unset, .unset, .unset, .unset, .unset, .unset, .unset, .unset, .unset] [])
  generalize hp0 : (j4.toInt32) = p0
  show Go _ _ _ _ _ _ _ _ (mkF m 33 #[.val (.int i0), .val (.int i1), .val (.int i2), .val (.int i3), .val (.long j4), .second, .val (.int i5), .val (.int l0), .val (.int u0), .val (.int l1), .val (.int u1), .val (.int p0), .unset, .unset, .unset, .unset, .unset, .unset, .unset, .unset, .unset] [])
  refine Go.on (fun _ k => XS.lload X4.here hx rfl (hb hby at_33) rfl k) ?_
  show Go _ _ _ _ _ _ _ _ (mkF m 35 #[.val (.int i0), .val (.int i1), .val (.int i2), .val (.int i3), .val (.long j4), .second, .val (.int i5), .val (.int l0), .val (.int u0), .val (.int l1), .val (.int u1), .val (.int p0), .unset, .unset, .unset, .unset, .unset, .unset, .unset, .unset, .unset] [(.long j4)])
  refine Go.on (fun _ k => XS.bipush X4.here hx rfl (hb hby at_35) k) ?_
  show Go _ _ _ _ _ _ _ _ (mkF m 37 #[.val (.int i0), .val (.int i1), .val (.int i2), .val (.int i3), .val (.long j4), .second, .val (.int i5), .val (.int l0), .val (.int u0), .val (.int l1), .val (.int u1), .val (.int p0), .unset, .unset, .unset, .unset, .unset, .unset, .unset, .unset, .unset] [(.int (32 : Int32)), (.long j4)])
  refine Go.on (fun _ k => XS.lshr X4.here hx rfl (hb hby at_37) rfl k) ?_
  show Go _ _ _ _ _ _ _ _ (mkF m 38 #[.val (.int i0), .val (.int i1), .val (.int i2), .val (.int i3), .val (.long j4), .second, .val (.int i5), .val (.int l0), .val (.int u0), .val (.int l1), .val (.int u1), .val (.int p0), .unset, .unset, .unset, .unset, .unset, .unset, .unset, .unset, .unset] [(.long (j4 >>> ((32 : Int32) &&& 0x3f).toInt64))])
  refine Go.on (fun _ k => XS.l2i X4.here hx rfl (hb hby at_38) rfl k) ?_
  show Go _ _ _ _ _ _ _ _ (mkF m 39 #[.val (.int i0), .val (.int i1), .val (.int i2), .val (.int i3), .val (.long j4), .second, .val (.int i5), .val (.int l0), .val (.int u0), .val (.int l1), .val (.int u1), .val (.int p0), .unset, .unset, .unset, .unset, .unset, .unset, .unset, .unset, .unset] [(.int ((j4 >>> ((32 : Int32) &&& 0x3f).toInt64).toInt32))])
  refine Go.on (fun _ k => XS.istore X4.here hx rfl (hb hby at_39) rfl (l' := #[.val (.int i0), .val (.int i1), .val (.int i2), .val (.int i3), .val (.long j4), .second, .val (.int i5), .val (.int l0), .val (.int u0), .val (.int l1), .val (.int u1), .val (.int p0), .val (.int ((j4 >>> ((32 : Int32) &&& 0x3f).toInt64).toInt32)), .unset, .unset, .unset, .unset, .unset, .unset, .unset, .unset]) rfl k) ?_
  show Go _ _ _ _ _ _ _ _ (mkF m 41 #[.val (.int i0), .val (.int i1), .val (.int i2), .val (.int i3), .val (.long j4), .second, .val (.int i5), .val (.int l0), .val (.int u0), .val (.int l1), .val (.int u1), .val (.int p0), .val (.int ((j4 >>> ((32 : Int32) &&& 0x3f).toInt64).toInt32)), .unset, .unset, .unset, .unset, .unset, .unset, .unset, .unset] [])
  generalize hp1 : ((j4 >>> ((32 : Int32) &&& 0x3f).toInt64).toInt32) = p1
  show Go _ _ _ _ _ _ _ _ (mkF m 41 #[.val (.int i0), .val (.int i1), .val (.int i2), .val (.int i3), .val (.long j4), .second, .val (.int i5), .val (.int l0), .val (.int u0), .val (.int l1), .val (.int u1), .val (.int p0), .val (.int p1), .unset, .unset, .unset, .unset, .unset, .unset, .unset, .unset] [])
  refine Go.on (fun _ k => XS.iload X4.here hx rfl (hb hby at_41) rfl k) ?_
  show Go _ _ _ _ _ _ _ _ (mkF m 43 #[.val (.int i0), .val (.int i1), .val (.int i2), .val (.int i3), .val (.long j4), .second, .val (.int i5), .val (.int l0), .val (.int u0), .val (.int l1), .val (.int u1), .val (.int p0), .val (.int p1), .unset, .unset, .unset, .unset, .unset, .unset, .unset, .unset] [(.int i5)])
  refine Go.on (fun _ k => X4.ldcI hx hown (mvT hZ (hw _ (List.mem_of_getElem? (i := 7) rfl))) rfl (hb hby at_43) k) ?_
  show Go _ _ _ _ _ _ _ _ (mkF m 45 #[.val (.int i0), .val (.int i1), .val (.int i2), .val (.int i3), .val (.long j4), .second, .val (.int i5), .val (.int l0), .val (.int u0), .val (.int l1), .val (.int u1), .val (.int p0), .val (.int p1), .unset, .unset, .unset, .unset, .unset, .unset, .unset, .unset] [(.int (2147483647 : Int32)), (.int i5)])
  refine Go.on (fun _ k => XS.iand X4.here hx rfl (hb hby at_45) rfl k) ?_
  show Go _ _ _ _ _ _ _ _ (mkF m 46 #[.val (.int i0), .val (.int i1), .val (.int i2), .val (.int i3), .val (.long j4), .second, .val (.int i5), .val (.int l0), .val (.int u0), .val (.int l1), .val (.int u1), .val (.int p0), .val (.int p1), .unset, .unset, .unset, .unset, .unset, .unset, .unset, .unset] [(.int (i5 &&& (2147483647 : Int32)))])
  refine Go.on (fun _ k => XS.iconst X4.here hx rfl (hb hby at_46) k) ?_
  show Go _ _ _ _ _ _ _ _ (mkF m 47 #[.val (.int i0), .val (.int i1), .val (.int i2), .val (.int i3), .val (.long j4), .second, .val (.int i5), .val (.int l0), .val (.int u0), .val (.int l1), .val (.int u1), .val (.int p0), .val (.int p1), .unset, .unset, .unset, .unset, .unset, .unset, .unset, .unset] [(.int (3 : Int32)), (.int (i5 &&& (2147483647 : Int32)))])
  refine Go.on (fun _ k => iremM X4 hx rfl (hb hby at_47) rfl (by decide) k) ?_
  show Go _ _ _ _ _ _ _ _ (mkF m 48 #[.val (.int i0), .val (.int i1), .val (.int i2), .val (.int i3), .val (.long j4), .second, .val (.int i5), .val (.int l0), .val (.int u0), .val (.int l1), .val (.int u1), .val (.int p0), .val (.int p1), .unset, .unset, .unset, .unset, .unset, .unset, .unset, .unset] [(.int ((i5 &&& (2147483647 : Int32)) % (3 : Int32)))])
  refine Go.on (fun _ k => XS.istore X4.here hx rfl (hb hby at_48) rfl (l' := #[.val (.int i0), .val (.int i1), .val (.int i2), .val (.int i3), .val (.long j4), .second, .val (.int i5), .val (.int l0), .val (.int u0), .val (.int l1), .val (.int u1), .val (.int p0), .val (.int p1), .val (.int ((i5 &&& (2147483647 : Int32)) % (3 : Int32))), .unset, .unset, .unset, .unset, .unset, .unset, .unset]) rfl k) ?_
  show Go _ _ _ _ _ _ _ _ (mkF m 50 #[.val (.int i0), .val (.int i1), .val (.int i2), .val (.int i3), .val (.long j4), .second, .val (.int i5), .val (.int l0), .val (.int u0), .val (.int l1), .val (.int u1), .val (.int p0), .val (.int p1), .val (.int ((i5 &&& (2147483647 : Int32)) % (3 : Int32))), .unset, .unset, .unset, .unset, .unset, .unset, .unset] [])
  generalize hlen : ((i5 &&& (2147483647 : Int32)) % (3 : Int32)) = len
  show Go _ _ _ _ _ _ _ _ (mkF m 50 #[.val (.int i0), .val (.int i1), .val (.int i2), .val (.int i3), .val (.long j4), .second, .val (.int i5), .val (.int l0), .val (.int u0), .val (.int l1), .val (.int u1), .val (.int p0), .val (.int p1), .val (.int len), .unset, .unset, .unset, .unset, .unset, .unset, .unset] [])
  refine Go.on (fun _ k => XS.iconst X4.here hx rfl (hb hby at_50) k) ?_
  show Go _ _ _ _ _ _ _ _ (mkF m 51 #[.val (.int i0), .val (.int i1), .val (.int i2), .val (.int i3), .val (.long j4), .second, .val (.int i5), .val (.int l0), .val (.int u0), .val (.int l1), .val (.int u1), .val (.int p0), .val (.int p1), .val (.int len), .unset, .unset, .unset, .unset, .unset, .unset, .unset] [(.int (2 : Int32))])
  obtain ⟨T5, h5, k_lw, X5, e5, E5, A5, st5⟩ := newP X4 hx hZ (hw _ (List.mem_of_getElem? (i := 8) rfl)) e4 (g := (mkF m 51 #[.val (.int i0), .val (.int i1), .val (.int i2), .val (.int i3), .val (.long j4), .second, .val (.int i5), .val (.int l0), .val (.int u0), .val (.int l1), .val (.int u1), .val (.int p0), .val (.int p1), .val (.int len), .unset, .unset, .unset, .unset, .unset, .unset, .unset] [(.int (2 : Int32))])) rfl (hb hby at_51) rfl (by decide) (cap := 2) (by decide) (by decide) (by decide) (by decide)
  obtain ⟨lw, g5⟩ : ∃ z, z = h0.size := ⟨_, rfl⟩
  have g_lw : n0 ≤ lw := Nat.le_trans ZZ (Nat.le_of_eq g5.symm)
  rw [← g5] at A5 st5
  replace ZZ := Nat.le_trans ZZ E5.1
  have V_lw : Arv Z h5 lw k_lw .double (2 : Int32) [(.double (0 : UInt64)), (.double (0 : UInt64))] (.double (0 : UInt64)) := (Arv.new A5 (by decide)).pad (pad_rep [] (.double (0 : UInt64)) 2)
  refine Go.on st5 ?_
  show Go _ _ _ _ _ _ _ _ (mkF m 53 #[.val (.int i0), .val (.int i1), .val (.int i2), .val (.int i3), .val (.long j4), .second, .val (.int i5), .val (.int l0), .val (.int u0), .val (.int l1), .val (.int u1), .val (.int p0), .val (.int p1), .val (.int len), .unset, .unset, .unset, .unset, .unset, .unset, .unset] [(.ref lw)])
  refine Go.on (fun _ k => XS.dup X5.here hx rfl (hb hby at_53) rfl rfl k) ?_
  show Go _ _ _ _ _ _ _ _ (mkF m 54 #[.val (.int i0), .val (.int i1), .val (.int i2), .val (.int i3), .val (.long j4), .second, .val (.int i5), .val (.int l0), .val (.int u0), .val (.int l1), .val (.int u1), .val (.int p0), .val (.int p1), .val (.int len), .unset, .unset, .unset, .unset, .unset, .unset, .unset] [(.ref lw), (.ref lw)])
  refine Go.on (fun _ k => XS.iconst X5.here hx rfl (hb hby at_54) k) ?_
  show Go _ _ _ _ _ _ _ _ (mkF m 55 #[.val (.int i0), .val (.int i1), .val (.int i2), .val (.int i3), .val (.long j4), .second, .val (.int i5), .val (.int l0), .val (.int u0), .val (.int l1), .val (.int u1), .val (.int p0), .val (.int p1), .val (.int len), .unset, .unset, .unset, .unset, .unset, .unset, .unset] [(.int (0 : Int32)), (.ref lw), (.ref lw)])
  refine Go.on (fun _ k => XS.iload X5.here hx rfl (hb hby at_55) rfl k) ?_
  show Go _ _ _ _ _ _ _ _ (mkF m 57 #[.val (.int i0), .val (.int i1), .val (.int i2), .val (.int i3), .val (.long j4), .second, .val (.int i5), .val (.int l0), .val (.int u0), .val (.int l1), .val (.int u1), .val (.int p0), .val (.int p1), .val (.int len), .unset, .unset, .unset, .unset, .unset, .unset, .unset] [(.int l0), (.int (0 : Int32)), (.ref lw), (.ref lw)])
  refine Go.on (fun _ k => XS.i2dS X5.here hx rfl (hb hby at_57) rfl rfl k) ?_
  show Go _ _ _ _ _ _ _ _ (mkF m 58 #[.val (.int i0), .val (.int i1), .val (.int i2), .val (.int i3), .val (.long j4), .second, .val (.int i5), .val (.int l0), .val (.int u0), .val (.int l1), .val (.int u1), .val (.int p0), .val (.int p1), .val (.int len), .unset, .unset, .unset, .unset, .unset, .unset, .unset] [(.double (FP.i2d l0)), (.int (0 : Int32)), (.ref lw), (.ref lw)])
  obtain ⟨cl6, Ar6, q6, S6, N6n, H6, G6⟩ := id V_lw
  have hin6 : ¬ ((0 : Int32) < 0 ∨ cl6.slots.size ≤ ((0 : Int32)).toNatClampNeg) := inb_of S6 ⟨by decide, by decide⟩
  obtain ⟨T6, h6, X6, e6, W6, st6⟩ := stD X5 hx hZ e5 Ar6 (j := (0 : Int32)) hin6 (g := (mkF m 58 #[.val (.int i0), .val (.int i1), .val (.int i2), .val (.int i3), .val (.long j4), .second, .val (.int i5), .val (.int l0), .val (.int u0), .val (.int l1), .val (.int u1), .val (.int p0), .val (.int p1), .val (.int len), .unset, .unset, .unset, .unset, .unset, .unset, .unset] [(.double (FP.i2d l0)), (.int (0 : Int32)), (.ref lw), (.ref lw)])) rfl rfl (hb hby at_58)
  replace V_lw := Arv.set Ar6 q6 S6 N6n H6 G6 rfl W6 0 rfl (Nat.le_of_ble_eq_true rfl)
  refine Go.on st6 ?_
  have N6 := Fr.snoc X6 N4 g_lw
  replace ZZ := Nat.le_trans ZZ (Keep.of_wr W6).1
  change Arv Z h6 lw k_lw .double (2 : Int32) [(.double (FP.i2d l0)), (.double (0 : UInt64))] (.double (0 : UInt64)) at V_lw
  show Go _ _ _ _ _ _ _ _ (mkF m 59 #[.val (.int i0), .val (.int i1), .val (.int i2), .val (.int i3), .val (.long j4), .second, .val (.int i5), .val (.int l0), .val (.int u0), .val (.int l1), .val (.int u1), .val (.int p0), .val (.int p1), .val (.int len), .unset, .unset, .unset, .unset, .unset, .unset, .unset] [(.ref lw)])
  refine Go.on (fun _ k => XS.dup X6.here hx rfl (hb hby at_59) rfl rfl k) ?_
  show Go _ _ _ _ _ _ _ _ (mkF m 60 #[.val (.int i0), .val (.int i1), .val (.int i2), .val (.int i3), .val (.long j4), .second, .val (.int i5), .val (.int l0), .val (.int u0), .val (.int l1), .val (.int u1), .val (.int p0), .val (.int p1), .val (.int len), .unset, .unset, .unset, .unset, .unset, .unset, .unset] [(.ref lw), (.ref lw)])
  refine Go.on (fun _ k => XS.iconst X6.here hx rfl (hb hby at_60) k) ?_
  show Go _ _ _ _ _ _ _ _ (mkF m 61 #[.val (.int i0), .val (.int i1), .val (.int i2), .val (.int i3), .val (.long j4), .second, .val (.int i5), .val (.int l0), .val (.int u0), .val (.int l1), .val (.int u1), .val (.int p0), .val (.int p1), .val (.int len), .unset, .unset, .unset, .unset, .unset, .unset, .unset] [(.int (1 : Int32)), (.ref lw), (.ref lw)])
  refine Go.on (fun _ k => XS.iload X6.here hx rfl (hb hby at_61) rfl k) ?_
  show Go _ _ _ _ _ _ _ _ (mkF m 63 #[.val (.int i0), .val (.int i1), .val (.int i2), .val (.int i3), .val (.long j4), .second, .val (.int i5), .val (.int l0), .val (.int u0), .val (.int l1), .val (.int u1), .val (.int p0), .val (.int p1), .val (.int len), .unset, .unset, .unset, .unset, .unset, .unset, .unset] [(.int l1), (.int (1 : Int32)), (.ref lw), (.ref lw)])
  refine Go.on (fun _ k => XS.i2dS X6.here hx rfl (hb hby at_63) rfl rfl k) ?_
  show Go _ _ _ _ _ _ _ _ (mkF m 64 #[.val (.int i0), .val (.int i1), .val (.int i2), .val (.int i3), .val (.long j4), .second, .val (.int i5), .val (.int l0), .val (.int u0), .val (.int l1), .val (.int u1), .val (.int p0), .val (.int p1), .val (.int len), .unset, .unset, .unset, .unset, .unset, .unset, .unset] [(.double (FP.i2d l1)), (.int (1 : Int32)), (.ref lw), (.ref lw)])
  obtain ⟨cl7, Ar7, q7, S7, N7n, H7, G7⟩ := id V_lw
  have hin7 : ¬ ((1 : Int32) < 0 ∨ cl7.slots.size ≤ ((1 : Int32)).toNatClampNeg) := inb_of S7 ⟨by decide, by decide⟩
  obtain ⟨T7, h7, X7, e7, W7, st7⟩ := stD X6 hx hZ e6 Ar7 (j := (1 : Int32)) hin7 (g := (mkF m 64 #[.val (.int i0), .val (.int i1), .val (.int i2), .val (.int i3), .val (.long j4), .second, .val (.int i5), .val (.int l0), .val (.int u0), .val (.int l1), .val (.int u1), .val (.int p0), .val (.int p1), .val (.int len), .unset, .unset, .unset, .unset, .unset, .unset, .unset] [(.double (FP.i2d l1)), (.int (1 : Int32)), (.ref lw), (.ref lw)])) rfl rfl (hb hby at_64)
  replace V_lw := Arv.set Ar7 q7 S7 N7n H7 G7 rfl W7 1 rfl (Nat.le_of_ble_eq_true rfl)
  refine Go.on st7 ?_
  have N7 := Fr.snoc X7 N6 g_lw
  replace ZZ := Nat.le_trans ZZ (Keep.of_wr W7).1
  change Arv Z h7 lw k_lw .double (2 : Int32) [(.double (FP.i2d l0)), (.double (FP.i2d l1))] (.double (0 : UInt64)) at V_lw
  show Go _ _ _ _ _ _ _ _ (mkF m 65 #[.val (.int i0), .val (.int i1), .val (.int i2), .val (.int i3), .val (.long j4), .second, .val (.int i5), .val (.int l0), .val (.int u0), .val (.int l1), .val (.int u1), .val (.int p0), .val (.int p1), .val (.int len), .unset, .unset, .unset, .unset, .unset, .unset, .unset] [(.ref lw)])
  refine Go.on (fun _ k => XS.astore X7.here hx rfl (hb hby at_65) rfl rfl (l' := #[.val (.int i0), .val (.int i1), .val (.int i2), .val (.int i3), .val (.long j4), .second, .val (.int i5), .val (.int l0), .val (.int u0), .val (.int l1), .val (.int u1), .val (.int p0), .val (.int p1), .val (.int len), .val (.ref lw), .unset, .unset, .unset, .unset, .unset, .unset]) rfl k) ?_
  show Go _ _ _ _ _ _ _ _ (mkF m 67 #[.val (.int i0), .val (.int i1), .val (.int i2), .val (.int i3), .val (.long j4), .second, .val (.int i5), .val (.int l0), .val (.int u0), .val (.int l1), .val (.int u1), .val (.int p0), .val (.int p1), .val (.int len), .val (.ref lw), .unset, .unset, .unset, .unset, .unset, .unset] [])
  refine Go.on (fun _ k => XS.iconst X7.here hx rfl (hb hby at_67) k) ?_
  show Go _ _ _ _ _ _ _ _ (mkF m 68 #[.val (.int i0), .val (.int i1), .val (.int i2), .val (.int i3), .val (.long j4), .second, .val (.int i5), .val (.int l0), .val (.int u0), .val (.int l1), .val (.int u1), .val (.int p0), .val (.int p1), .val (.int len), .val (.ref lw), .unset, .unset, .unset, .unset, .unset, .unset] [(.int (2 : Int32))])
  obtain ⟨T8, h8, k_up, X8, e8, E8, A8, st8⟩ := newP X7 hx hZ (hw _ (List.mem_of_getElem? (i := 8) rfl)) e7 (g := (mkF m 68 #[.val (.int i0), .val (.int i1), .val (.int i2), .val (.int i3), .val (.long j4), .second, .val (.int i5), .val (.int l0), .val (.int u0), .val (.int l1), .val (.int u1), .val (.int p0), .val (.int p1), .val (.int len), .val (.ref lw), .unset, .unset, .unset, .unset, .unset, .unset] [(.int (2 : Int32))])) rfl (hb hby at_68) rfl (by decide) (cap := 2) (by decide) (by decide) (by decide) (by decide)
  obtain ⟨up, g8⟩ : ∃ z, z = h7.size := ⟨_, rfl⟩
  have ne_lw_up : lw ≠ up := Nat.ne_of_lt (Nat.lt_of_lt_of_le V_lw.lt (Nat.le_of_eq g8.symm))
  have g_up : n0 ≤ up := Nat.le_trans ZZ (Nat.le_of_eq g8.symm)
  rw [← g8] at A8 st8
  replace V_lw := V_lw.ext E8
  replace ZZ := Nat.le_trans ZZ E8.1
  have V_up : Arv Z h8 up k_up .double (2 : Int32) [(.double (0 : UInt64)), (.double (0 : UInt64))] (.double (0 : UInt64)) := (Arv.new A8 (by decide)).pad (pad_rep [] (.double (0 : UInt64)) 2)
  refine Go.on st8 ?_
  show Go _ _ _ _ _ _ _ _ (mkF m 70 #[.val (.int i0), .val (.int i1), .val (.int i2), .val (.int i3), .val (.long j4), .second, .val (.int i5), .val (.int l0), .val (.int u0), .val (.int l1), .val (.int u1), .val (.int p0), .val (.int p1), .val (.int len), .val (.ref lw), .unset, .unset, .unset, .unset, .unset, .unset] [(.ref up)])
  refine Go.on (fun _ k => XS.dup X8.here hx rfl (hb hby at_70) rfl rfl k) ?_
  show Go _ _ _ _ _ _ _ _ (mkF m 71 #[.val (.int i0), .val (.int i1), .val (.int i2), .val (.int i3), .val (.long j4), .second, .val (.int i5), .val (.int l0), .val (.int u0), .val (.int l1), .val (.int u1), .val (.int p0), .val (.int p1), .val (.int len), .val (.ref lw), .unset, .unset, .unset, .unset, .unset, .unset] [(.ref up), (.ref up)])
  refine Go.on (fun _ k => XS.iconst X8.here hx rfl (hb hby at_71) k) ?_
  show Go _ _ _ _ _ _ _ _ (mkF m 72 #[.val (.int i0), .val (.int i1), .val (.int i2), .val (.int i3), .val (.long j4), .second, .val (.int i5), .val (.int l0), .val (.int u0), .val (.int l1), .val (.int u1), .val (.int p0), .val (.int p1), .val (.int len), .val (.ref lw), .unset, .unset, .unset, .unset, .unset, .unset] [(.int (0 : Int32)), (.ref up), (.ref up)])
  refine Go.on (fun _ k => XS.iload X8.here hx rfl (hb hby at_72) rfl k) ?_
  show Go _ _ _ _ _ _ _ _ (mkF m 74 #[.val (.int i0), .val (.int i1), .val (.int i2), .val (.int i3), .val (.long j4), .second, .val (.int i5), .val (.int l0), .val (.int u0), .val (.int l1), .val (.int u1), .val (.int p0), .val (.int p1), .val (.int len), .val (.ref lw), .unset, .unset, .unset, .unset, .unset, .unset] [(.int u0), (.int (0 : Int32)), (.ref up), (.ref up)])
  refine Go.on (fun _ k => XS.i2dS X8.here hx rfl (hb hby at_74) rfl rfl k) ?_
  show Go _ _ _ _ _ _ _ _ (mkF m 75 #[.val (.int i0), .val (.int i1), .val (.int i2), .val (.int i3), .val (.long j4), .second, .val (.int i5), .val (.int l0), .val (.int u0), .val (.int l1), .val (.int u1), .val (.int p0), .val (.int p1), .val (.int len), .val (.ref lw), .unset, .unset, .unset, .unset, .unset, .unset] [(.double (FP.i2d u0)), (.int (0 : Int32)), (.ref up), (.ref up)])
  obtain ⟨cl9, Ar9, q9, S9, N9n, H9, G9⟩ := id V_up
  have hin9 : ¬ ((0 : Int32) < 0 ∨ cl9.slots.size ≤ ((0 : Int32)).toNatClampNeg) := inb_of S9 ⟨by decide, by decide⟩
  obtain ⟨T9, h9, X9, e9, W9, st9⟩ := stD X8 hx hZ e8 Ar9 (j := (0 : Int32)) hin9 (g := (mkF m 75 #[.val (.int i0), .val (.int i1), .val (.int i2), .val (.int i3), .val (.long j4), .second, .val (.int i5), .val (.int l0), .val (.int u0), .val (.int l1), .val (.int u1), .val (.int p0), .val (.int p1), .val (.int len), .val (.ref lw), .unset, .unset, .unset, .unset, .unset, .unset] [(.double (FP.i2d u0)), (.int (0 : Int32)), (.ref up), (.ref up)])) rfl rfl (hb hby at_75)
  replace V_up := Arv.set Ar9 q9 S9 N9n H9 G9 rfl W9 0 rfl (Nat.le_of_ble_eq_true rfl)
  replace V_lw := V_lw.other W9 ne_lw_up
  refine Go.on st9 ?_
  have N9 := Fr.snoc X9 N7 g_up
  replace ZZ := Nat.le_trans ZZ (Keep.of_wr W9).1
  change Arv Z h9 up k_up .double (2 : Int32) [(.double (FP.i2d u0)), (.double (0 : UInt64))] (.double (0 : UInt64)) at V_up
  show Go _ _ _ _ _ _ _ _ (mkF m 76 #[.val (.int i0), .val (.int i1), .val (.int i2), .val (.int i3), .val (.long j4), .second, .val (.int i5), .val (.int l0), .val (.int u0), .val (.int l1), .val (.int u1), .val (.int p0), .val (.int p1), .val (.int len), .val (.ref lw), .unset, .unset, .unset, .unset, .unset, .unset] [(.ref up)])
  refine Go.on (fun _ k => XS.dup X9.here hx rfl (hb hby at_76) rfl rfl k) ?_
  show Go _ _ _ _ _ _ _ _ (mkF m 77 #[.val (.int i0), .val (.int i1), .val (.int i2), .val (.int i3), .val (.long j4), .second, .val (.int i5), .val (.int l0), .val (.int u0), .val (.int l1), .val (.int u1), .val (.int p0), .val (.int p1), .val (.int len), .val (.ref lw), .unset, .unset, .unset, .unset, .unset, .unset] [(.ref up), (.ref up)])
  refine Go.on (fun _ k => XS.iconst X9.here hx rfl (hb hby at_77) k) ?_
  show Go _ _ _ _ _ _ _ _ (mkF m 78 #[.val (.int i0), .val (.int i1), .val (.int i2), .val (.int i3), .val (.long j4), .second, .val (.int i5), .val (.int l0), .val (.int u0), .val (.int l1), .val (.int u1), .val (.int p0), .val (.int p1), .val (.int len), .val (.ref lw), .unset, .unset, .unset, .unset, .unset, .unset] [(.int (1 : Int32)), (.ref up), (.ref up)])
  refine Go.on (fun _ k => XS.iload X9.here hx rfl (hb hby at_78) rfl k) ?_
  show Go _ _ _ _ _ _ _ _ (mkF m 80 #[.val (.int i0), .val (.int i1), .val (.int i2), .val (.int i3), .val (.long j4), .second, .val (.int i5), .val (.int l0), .val (.int u0), .val (.int l1), .val (.int u1), .val (.int p0), .val (.int p1), .val (.int len), .val (.ref lw), .unset, .unset, .unset, .unset, .unset, .unset] [(.int u1), (.int (1 : Int32)), (.ref up), (.ref up)])
  refine Go.on (fun _ k => XS.i2dS X9.here hx rfl (hb hby at_80) rfl rfl k) ?_
  show Go _ _ _ _ _ _ _ _ (mkF m 81 #[.val (.int i0), .val (.int i1), .val (.int i2), .val (.int i3), .val (.long j4), .second, .val (.int i5), .val (.int l0), .val (.int u0), .val (.int l1), .val (.int u1), .val (.int p0), .val (.int p1), .val (.int len), .val (.ref lw), .unset, .unset, .unset, .unset, .unset, .unset] [(.double (FP.i2d u1)), (.int (1 : Int32)), (.ref up), (.ref up)])
  obtain ⟨cl10, Ar10, q10, S10, N10n, H10, G10⟩ := id V_up
  have hin10 : ¬ ((1 : Int32) < 0 ∨ cl10.slots.size ≤ ((1 : Int32)).toNatClampNeg) := inb_of S10 ⟨by decide, by decide⟩
  obtain ⟨T10, h10, X10, e10, W10, st10⟩ := stD X9 hx hZ e9 Ar10 (j := (1 : Int32)) hin10 (g := (mkF m 81 #[.val (.int i0), .val (.int i1), .val (.int i2), .val (.int i3), .val (.long j4), .second, .val (.int i5), .val (.int l0), .val (.int u0), .val (.int l1), .val (.int u1), .val (.int p0), .val (.int p1), .val (.int len), .val (.ref lw), .unset, .unset, .unset, .unset, .unset, .unset] [(.double (FP.i2d u1)), (.int (1 : Int32)), (.ref up), (.ref up)])) rfl rfl (hb hby at_81)
  replace V_up := Arv.set Ar10 q10 S10 N10n H10 G10 rfl W10 1 rfl (Nat.le_of_ble_eq_true rfl)
  replace V_lw := V_lw.other W10 ne_lw_up
  refine Go.on st10 ?_
  have N10 := Fr.snoc X10 N9 g_up
  replace ZZ := Nat.le_trans ZZ (Keep.of_wr W10).1
  change Arv Z h10 up k_up .double (2 : Int32) [(.double (FP.i2d u0)), (.double (FP.i2d u1))] (.double (0 : UInt64)) at V_up
  show Go _ _ _ _ _ _ _ _ (mkF m 82 #[.val (.int i0), .val (.int i1), .val (.int i2), .val (.int i3), .val (.long j4), .second, .val (.int i5), .val (.int l0), .val (.int u0), .val (.int l1), .val (.int u1), .val (.int p0), .val (.int p1), .val (.int len), .val (.ref lw), .unset, .unset, .unset, .unset, .unset, .unset] [(.ref up)])
  refine Go.on (fun _ k => XS.astore X10.here hx rfl (hb hby at_82) rfl rfl (l' := #[.val (.int i0), .val (.int i1), .val (.int i2), .val (.int i3), .val (.long j4), .second, .val (.int i5), .val (.int l0), .val (.int u0), .val (.int l1), .val (.int u1), .val (.int p0), .val (.int p1), .val (.int len), .val (.ref lw), .val (.ref up), .unset, .unset, .unset, .unset, .unset]) rfl k) ?_
  show Go _ _ _ _ _ _ _ _ (mkF m 84 #[.val (.int i0), .val (.int i1), .val (.int i2), .val (.int i3), .val (.long j4), .second, .val (.int i5), .val (.int l0), .val (.int u0), .val (.int l1), .val (.int u1), .val (.int p0), .val (.int p1), .val (.int len), .val (.ref lw), .val (.ref up), .unset, .unset, .unset, .unset, .unset] [])
  rcases own_len hlen with hl | hl | hl
  · -- length 0
    subst hl
    show Go _ _ _ _ _ _ _ _ (mkF m 84 #[.val (.int i0), .val (.int i1), .val (.int i2), .val (.int i3), .val (.long j4), .second, .val (.int i5), .val (.int l0), .val (.int u0), .val (.int l1), .val (.int u1), .val (.int p0), .val (.int p1), .val (.int (0 : Int32)), .val (.ref lw), .val (.ref up), .unset, .unset, .unset, .unset, .unset] [])
    refine Go.on (fun _ k => XS.iload X10.here hx rfl (hb hby at_84) rfl k) ?_
    show Go _ _ _ _ _ _ _ _ (mkF m 86 #[.val (.int i0), .val (.int i1), .val (.int i2), .val (.int i3), .val (.long j4), .second, .val (.int i5), .val (.int l0), .val (.int u0), .val (.int l1), .val (.int u1), .val (.int p0), .val (.int p1), .val (.int (0 : Int32)), .val (.ref lw), .val (.ref up), .unset, .unset, .unset, .unset, .unset] [(.int (0 : Int32))])
    have hc11 : (0 : Int32) = (0 : Int32) := by decide
    refine Go.on (fun _ k => XS.ifNo X10.here hx rfl (hb hby at_86) rfl ((if0 _ _).trans (teq hc11).2) k) ?_
    show Go _ _ _ _ _ _ _ _ (mkF m 89 #[.val (.int i0), .val (.int i1), .val (.int i2), .val (.int i3), .val (.long j4), .second, .val (.int i5), .val (.int l0), .val (.int u0), .val (.int l1), .val (.int u1), .val (.int p0), .val (.int p1), .val (.int (0 : Int32)), .val (.ref lw), .val (.ref up), .unset, .unset, .unset, .unset, .unset] [])
    refine Go.on (fun _ k => XS.iconst X10.here hx rfl (hb hby at_89) k) ?_
    show Go _ _ _ _ _ _ _ _ (mkF m 90 #[.val (.int i0), .val (.int i1), .val (.int i2), .val (.int i3), .val (.long j4), .second, .val (.int i5), .val (.int l0), .val (.int u0), .val (.int l1), .val (.int u1), .val (.int p0), .val (.int p1), .val (.int (0 : Int32)), .val (.ref lw), .val (.ref up), .unset, .unset, .unset, .unset, .unset] [(.int (0 : Int32))])
    obtain ⟨T12, h12, k_ps, X12, e12, E12, A12, st12⟩ := newP X10 hx hZ (hw _ (List.mem_of_getElem? (i := 8) rfl)) e10 (g := (mkF m 90 #[.val (.int i0), .val (.int i1), .val (.int i2), .val (.int i3), .val (.long j4), .second, .val (.int i5), .val (.int l0), .val (.int u0), .val (.int l1), .val (.int u1), .val (.int p0), .val (.int p1), .val (.int (0 : Int32)), .val (.ref lw), .val (.ref up), .unset, .unset, .unset, .unset, .unset] [(.int (0 : Int32))])) rfl (hb hby at_90) rfl (by decide) (cap := 0) (by decide) (by decide) (by decide) (by decide)
    obtain ⟨ps, g12⟩ : ∃ z, z = h10.size := ⟨_, rfl⟩
    have ne_lw_ps : lw ≠ ps := Nat.ne_of_lt (Nat.lt_of_lt_of_le V_lw.lt (Nat.le_of_eq g12.symm))
    have ne_up_ps : up ≠ ps := Nat.ne_of_lt (Nat.lt_of_lt_of_le V_up.lt (Nat.le_of_eq g12.symm))
    have g_ps : n0 ≤ ps := Nat.le_trans ZZ (Nat.le_of_eq g12.symm)
    rw [← g12] at A12 st12
    replace V_lw := V_lw.ext E12
    replace V_up := V_up.ext E12
    replace ZZ := Nat.le_trans ZZ E12.1
    have V_ps : Arv Z h12 ps k_ps .double (0 : Int32) [] (.double (0 : UInt64)) := (Arv.new A12 (by decide)).pad (pad_rep [] (.double (0 : UInt64)) 0)
    refine Go.on st12 ?_
    show Go _ _ _ _ _ _ _ _ (mkF m 92 #[.val (.int i0), .val (.int i1), .val (.int i2), .val (.int i3), .val (.long j4), .second, .val (.int i5), .val (.int l0), .val (.int u0), .val (.int l1), .val (.int u1), .val (.int p0), .val (.int p1), .val (.int (0 : Int32)), .val (.ref lw), .val (.ref up), .unset, .unset, .unset, .unset, .unset] [(.ref ps)])
    refine Go.on (fun _ k => XS.astore X12.here hx rfl (hb hby at_92) rfl rfl (l' := #[.val (.int i0), .val (.int i1), .val (.int i2), .val (.int i3), .val (.long j4), .second, .val (.int i5), .val (.int l0), .val (.int u0), .val (.int l1), .val (.int u1), .val (.int p0), .val (.int p1), .val (.int (0 : Int32)), .val (.ref lw), .val (.ref up), .val (.ref ps), .unset, .unset, .unset, .unset]) rfl k) ?_
    show Go _ _ _ _ _ _ _ _ (mkF m 94 #[.val (.int i0), .val (.int i1), .val (.int i2), .val (.int i3), .val (.long j4), .second, .val (.int i5), .val (.int l0), .val (.int u0), .val (.int l1), .val (.int u1), .val (.int p0), .val (.int p1), .val (.int (0 : Int32)), .val (.ref lw), .val (.ref up), .val (.ref ps), .unset, .unset, .unset, .unset] [])
    refine Go.on (fun _ k => XS.goto X12.here hx rfl (pc0 := 94) (pc' := 134) rfl (hb hby at_94) (by decide) (by decide) k) ?_
    show Go _ _ _ _ _ _ _ _ (mkF m 134 #[.val (.int i0), .val (.int i1), .val (.int i2), .val (.int i3), .val (.long j4), .second, .val (.int i5), .val (.int l0), .val (.int u0), .val (.int l1), .val (.int u1), .val (.int p0), .val (.int p1), .val (.int (0 : Int32)), .val (.ref lw), .val (.ref up), .val (.ref ps), .unset, .unset, .unset, .unset] [])
    obtain ⟨T13, h13, X13, e13, E13, A13, D13, -, st13⟩ := newO X12 hx hZ hown (hw _ (List.mem_of_getElem? (i := 9) rfl)) (hw _ (List.mem_of_getElem? (i := 10) rfl)) (hw _ (List.mem_of_getElem? (i := 11) rfl)) e12 (g := (mkF m 134 #[.val (.int i0), .val (.int i1), .val (.int i2), .val (.int i3), .val (.long j4), .second, .val (.int i5), .val (.int l0), .val (.int u0), .val (.int l1), .val (.int u1), .val (.int p0), .val (.int p1), .val (.int (0 : Int32)), .val (.ref lw), .val (.ref up), .val (.ref ps), .unset, .unset, .unset, .unset] [])) rfl (hb hby at_134) (by decide) (by decide)
    obtain ⟨q, g13⟩ : ∃ z, z = h12.size := ⟨_, rfl⟩
    have ne_lw_q : lw ≠ q := Nat.ne_of_lt (Nat.lt_of_lt_of_le V_lw.lt (Nat.le_of_eq g13.symm))
    have ne_up_q : up ≠ q := Nat.ne_of_lt (Nat.lt_of_lt_of_le V_up.lt (Nat.le_of_eq g13.symm))
    have ne_ps_q : ps ≠ q := Nat.ne_of_lt (Nat.lt_of_lt_of_le V_ps.lt (Nat.le_of_eq g13.symm))
    have g_q : n0 ≤ q := Nat.le_trans ZZ (Nat.le_of_eq g13.symm)
    rw [← g13] at A13 D13 st13
    replace V_lw := V_lw.ext E13
    replace V_up := V_up.ext E13
    replace V_ps := V_ps.ext E13
    replace ZZ := Nat.le_trans ZZ E13.1
    have E_q := A13
    have F_lower_q : Fld Z h13 q "com/example/driftswarm/driftswarm/algorithms/Bounds" "lower" "[D" .null := D13 (Or.inr (hw _ (List.mem_of_getElem? (i := 19) rfl))) (ty := (.array .double)) (by decide)
    have F_upper_q : Fld Z h13 q "com/example/driftswarm/driftswarm/algorithms/Bounds" "upper" "[D" .null := D13 (Or.inr (hw _ (List.mem_of_getElem? (i := 21) rfl))) (ty := (.array .double)) (by decide)
    refine Go.on st13 ?_
    show Go _ _ _ _ _ _ _ _ (mkF m 137 #[.val (.int i0), .val (.int i1), .val (.int i2), .val (.int i3), .val (.long j4), .second, .val (.int i5), .val (.int l0), .val (.int u0), .val (.int l1), .val (.int u1), .val (.int p0), .val (.int p1), .val (.int (0 : Int32)), .val (.ref lw), .val (.ref up), .val (.ref ps), .unset, .unset, .unset, .unset] [(.ref q)])
    refine Go.on (fun _ k => XS.dup X13.here hx rfl (hb hby at_137) rfl rfl k) ?_
    show Go _ _ _ _ _ _ _ _ (mkF m 138 #[.val (.int i0), .val (.int i1), .val (.int i2), .val (.int i3), .val (.long j4), .second, .val (.int i5), .val (.int l0), .val (.int u0), .val (.int l1), .val (.int u1), .val (.int p0), .val (.int p1), .val (.int (0 : Int32)), .val (.ref lw), .val (.ref up), .val (.ref ps), .unset, .unset, .unset, .unset] [(.ref q), (.ref q)])
    refine Go.on (fun _ k => XS.aload X13.here hx rfl (hb hby at_138) rfl rfl k) ?_
    show Go _ _ _ _ _ _ _ _ (mkF m 140 #[.val (.int i0), .val (.int i1), .val (.int i2), .val (.int i3), .val (.long j4), .second, .val (.int i5), .val (.int l0), .val (.int u0), .val (.int l1), .val (.int u1), .val (.int p0), .val (.int p1), .val (.int (0 : Int32)), .val (.ref lw), .val (.ref up), .val (.ref ps), .unset, .unset, .unset, .unset] [(.ref lw), (.ref q), (.ref q)])
    refine Go.on (fun _ k => XS.aload X13.here hx rfl (hb hby at_140) rfl rfl k) ?_
    show Go _ _ _ _ _ _ _ _ (mkF m 142 #[.val (.int i0), .val (.int i1), .val (.int i2), .val (.int i3), .val (.long j4), .second, .val (.int i5), .val (.int l0), .val (.int u0), .val (.int l1), .val (.int u1), .val (.int p0), .val (.int p1), .val (.int (0 : Int32)), .val (.ref lw), .val (.ref up), .val (.ref ps), .unset, .unset, .unset, .unset] [(.ref up), (.ref lw), (.ref q), (.ref q)])
    obtain ⟨_, _, ⟨T14, L14, k14, n14⟩, -, X14, ⟨Lc14, hQ14, l14, y14, z14⟩, st14⟩ := X13.specialBack hx (y := (⟨"com/example/driftswarm/driftswarm/algorithms/Bounds", "<init>", "([D[D)V"⟩ : MethodName)) rfl hown (mvT hZ (hw _ (List.mem_of_getElem? (i := 12) rfl))) (mvT hZ (hw _ (List.mem_of_getElem? (i := 13) rfl))) (mvT hZ (hw _ (List.mem_of_getElem? (i := 14) rfl))) (by decide) (backOf (W := 1) (rm3 l Z aw hw [] q lw up .null .null k_lw (FP.i2d l0) (FP.i2d l1) k_up (FP.i2d u0) (FP.i2d u1) h13 n0 ZZ E_q F_lower_q F_upper_q V_lw V_up g_q (own_mm hl0 hu0) (own_mm hl1 hu1) (ne_lw_q) (ne_up_q)) hZ (hw _ (List.mem_of_getElem? (i := 14) rfl)) (hw _ (List.mem_of_getElem? (i := 11) rfl)) (by decide) (by decide)) (g := (mkF m 142 #[.val (.int i0), .val (.int i1), .val (.int i2), .val (.int i3), .val (.long j4), .second, .val (.int i5), .val (.int l0), .val (.int u0), .val (.int l1), .val (.int u1), .val (.int p0), .val (.int p1), .val (.int (0 : Int32)), .val (.ref lw), .val (.ref up), .val (.ref ps), .unset, .unset, .unset, .unset] [(.ref up), (.ref lw), (.ref q), (.ref q)])) rfl (by rw [hml]; rfl) (Steps.refl _) (a := q) (argsL := [(.ref lw), (.ref up)]) (rest := [(.ref q)]) (lenOf pd_2 rfl) rfl (by show 2 * 0 + _ ≤ _; exact Nat.le_of_eq rfl) (hb hby at_142) (fun _ _ => ⟨rfl, e13, (by decide : 4 + 0 ≤ _), (by decide : 6 + 0 ≤ _)⟩)
    dsimp only [Pt.U, Pt.locs, Pt.cells, Pt.slots] at X14 l14 y14 z14 st14 hQ14
    subst l14 y14 z14
    obtain ⟨h14, e14⟩ : ∃ q, T14.heap = q := ⟨_, rfl⟩
    rw [e14] at hQ14
    obtain ⟨rfl, N14q, K14q, E_q', F_lower_q', F_upper_q'⟩ := hQ14
    have N14 := Fr.app N10 N14q
    replace V_lw := V_lw.keep K14q (ninS ne_lw_q nin0)
    replace V_up := V_up.keep K14q (ninS ne_up_q nin0)
    replace V_ps := V_ps.keep K14q (ninS ne_ps_q nin0)
    replace E_q := E_q.keep K14q
    replace ZZ := Nat.le_trans ZZ K14q.1
    replace E_q := E_q'
    have F_lower_q := F_lower_q'
    have F_upper_q := F_upper_q'
    refine Go.on (fun _ k => st14.trans k) ?_
    show Go _ _ _ _ _ _ _ _ (mkF m 145 #[.val (.int i0), .val (.int i1), .val (.int i2), .val (.int i3), .val (.long j4), .second, .val (.int i5), .val (.int l0), .val (.int u0), .val (.int l1), .val (.int u1), .val (.int p0), .val (.int p1), .val (.int (0 : Int32)), .val (.ref lw), .val (.ref up), .val (.ref ps), .unset, .unset, .unset, .unset] [(.ref q)])
    refine Go.on (fun _ k => XS.astore X14.here hx rfl (hb hby at_145) rfl rfl (l' := #[.val (.int i0), .val (.int i1), .val (.int i2), .val (.int i3), .val (.long j4), .second, .val (.int i5), .val (.int l0), .val (.int u0), .val (.int l1), .val (.int u1), .val (.int p0), .val (.int p1), .val (.int (0 : Int32)), .val (.ref lw), .val (.ref up), .val (.ref ps), .val (.ref q), .unset, .unset, .unset]) rfl k) ?_
    show Go _ _ _ _ _ _ _ _ (mkF m 147 #[.val (.int i0), .val (.int i1), .val (.int i2), .val (.int i3), .val (.long j4), .second, .val (.int i5), .val (.int l0), .val (.int u0), .val (.int l1), .val (.int u1), .val (.int p0), .val (.int p1), .val (.int (0 : Int32)), .val (.ref lw), .val (.ref up), .val (.ref ps), .val (.ref q), .unset, .unset, .unset] [])
    refine Go.on (fun _ k => XS.iload X14.here hx rfl (hb hby at_147) rfl k) ?_
    show Go _ _ _ _ _ _ _ _ (mkF m 149 #[.val (.int i0), .val (.int i1), .val (.int i2), .val (.int i3), .val (.long j4), .second, .val (.int i5), .val (.int l0), .val (.int u0), .val (.int l1), .val (.int u1), .val (.int p0), .val (.int p1), .val (.int (0 : Int32)), .val (.ref lw), .val (.ref up), .val (.ref ps), .val (.ref q), .unset, .unset, .unset] [(.int l0)])
    refine Go.on (fun _ k => XS.iload X14.here hx rfl (hb hby at_149) rfl k) ?_
    show Go _ _ _ _ _ _ _ _ (mkF m 151 #[.val (.int i0), .val (.int i1), .val (.int i2), .val (.int i3), .val (.long j4), .second, .val (.int i5), .val (.int l0), .val (.int u0), .val (.int l1), .val (.int u1), .val (.int p0), .val (.int p1), .val (.int (0 : Int32)), .val (.ref lw), .val (.ref up), .val (.ref ps), .val (.ref q), .unset, .unset, .unset] [(.int p0), (.int l0)])
    suffices hJ15 : ∀ (in0 : Int32), in0 = (if p0 < l0 then (0 : Int32) else (if u0 < p0 then (0 : Int32) else (1 : Int32))) → Go p e below s K1 K2 QQ T14 (mkF m 166 #[.val (.int i0), .val (.int i1), .val (.int i2), .val (.int i3), .val (.long j4), .second, .val (.int i5), .val (.int l0), .val (.int u0), .val (.int l1), .val (.int u1), .val (.int p0), .val (.int p1), .val (.int (0 : Int32)), .val (.ref lw), .val (.ref up), .val (.ref ps), .val (.ref q), .unset, .unset, .unset] [(.int in0)]) by
      by_cases hc16 : p0 < l0
      · -- pc 151 yes
        refine Go.on (fun _ k => XS.icmpYes X14.here hx rfl (pc0 := 151) (pc' := 165) rfl (hb hby at_151) rfl (tlt hc16).2.2.1 (by decide) (by decide) k) ?_
        show Go _ _ _ _ _ _ _ _ (mkF m 165 #[.val (.int i0), .val (.int i1), .val (.int i2), .val (.int i3), .val (.long j4), .second, .val (.int i5), .val (.int l0), .val (.int u0), .val (.int l1), .val (.int u1), .val (.int p0), .val (.int p1), .val (.int (0 : Int32)), .val (.ref lw), .val (.ref up), .val (.ref ps), .val (.ref q), .unset, .unset, .unset] [])
        refine Go.on (fun _ k => XS.iconst X14.here hx rfl (hb hby at_165) k) ?_
        show Go _ _ _ _ _ _ _ _ (mkF m 166 #[.val (.int i0), .val (.int i1), .val (.int i2), .val (.int i3), .val (.long j4), .second, .val (.int i5), .val (.int l0), .val (.int u0), .val (.int l1), .val (.int u1), .val (.int p0), .val (.int p1), .val (.int (0 : Int32)), .val (.ref lw), .val (.ref up), .val (.ref ps), .val (.ref q), .unset, .unset, .unset] [(.int (0 : Int32))])
        exact hJ15 _ (by rw [if_pos hc16])
      · -- pc 151 no
        refine Go.on (fun _ k => XS.icmpNo X14.here hx rfl (hb hby at_151) rfl (flt hc16).2.2.1 k) ?_
        show Go _ _ _ _ _ _ _ _ (mkF m 154 #[.val (.int i0), .val (.int i1), .val (.int i2), .val (.int i3), .val (.long j4), .second, .val (.int i5), .val (.int l0), .val (.int u0), .val (.int l1), .val (.int u1), .val (.int p0), .val (.int p1), .val (.int (0 : Int32)), .val (.ref lw), .val (.ref up), .val (.ref ps), .val (.ref q), .unset, .unset, .unset] [])
        refine Go.on (fun _ k => XS.iload X14.here hx rfl (hb hby at_154) rfl k) ?_
        show Go _ _ _ _ _ _ _ _ (mkF m 156 #[.val (.int i0), .val (.int i1), .val (.int i2), .val (.int i3), .val (.long j4), .second, .val (.int i5), .val (.int l0), .val (.int u0), .val (.int l1), .val (.int u1), .val (.int p0), .val (.int p1), .val (.int (0 : Int32)), .val (.ref lw), .val (.ref up), .val (.ref ps), .val (.ref q), .unset, .unset, .unset] [(.int p0)])
        refine Go.on (fun _ k => XS.iload X14.here hx rfl (hb hby at_156) rfl k) ?_
        show Go _ _ _ _ _ _ _ _ (mkF m 158 #[.val (.int i0), .val (.int i1), .val (.int i2), .val (.int i3), .val (.long j4), .second, .val (.int i5), .val (.int l0), .val (.int u0), .val (.int l1), .val (.int u1), .val (.int p0), .val (.int p1), .val (.int (0 : Int32)), .val (.ref lw), .val (.ref up), .val (.ref ps), .val (.ref q), .unset, .unset, .unset] [(.int u0), (.int p0)])
        by_cases hc17 : u0 < p0
        · -- pc 158 yes
          refine Go.on (fun _ k => XS.icmpYes X14.here hx rfl (pc0 := 158) (pc' := 165) rfl (hb hby at_158) rfl (tlt hc17).2.2.1 (by decide) (by decide) k) ?_
          show Go _ _ _ _ _ _ _ _ (mkF m 165 #[.val (.int i0), .val (.int i1), .val (.int i2), .val (.int i3), .val (.long j4), .second, .val (.int i5), .val (.int l0), .val (.int u0), .val (.int l1), .val (.int u1), .val (.int p0), .val (.int p1), .val (.int (0 : Int32)), .val (.ref lw), .val (.ref up), .val (.ref ps), .val (.ref q), .unset, .unset, .unset] [])
          refine Go.on (fun _ k => XS.iconst X14.here hx rfl (hb hby at_165) k) ?_
          show Go _ _ _ _ _ _ _ _ (mkF m 166 #[.val (.int i0), .val (.int i1), .val (.int i2), .val (.int i3), .val (.long j4), .second, .val (.int i5), .val (.int l0), .val (.int u0), .val (.int l1), .val (.int u1), .val (.int p0), .val (.int p1), .val (.int (0 : Int32)), .val (.ref lw), .val (.ref up), .val (.ref ps), .val (.ref q), .unset, .unset, .unset] [(.int (0 : Int32))])
          exact hJ15 _ (by rw [if_neg hc16, if_pos hc17])
        · -- pc 158 no
          refine Go.on (fun _ k => XS.icmpNo X14.here hx rfl (hb hby at_158) rfl (flt hc17).2.2.1 k) ?_
          show Go _ _ _ _ _ _ _ _ (mkF m 161 #[.val (.int i0), .val (.int i1), .val (.int i2), .val (.int i3), .val (.long j4), .second, .val (.int i5), .val (.int l0), .val (.int u0), .val (.int l1), .val (.int u1), .val (.int p0), .val (.int p1), .val (.int (0 : Int32)), .val (.ref lw), .val (.ref up), .val (.ref ps), .val (.ref q), .unset, .unset, .unset] [])
          refine Go.on (fun _ k => XS.iconst X14.here hx rfl (hb hby at_161) k) ?_
          show Go _ _ _ _ _ _ _ _ (mkF m 162 #[.val (.int i0), .val (.int i1), .val (.int i2), .val (.int i3), .val (.long j4), .second, .val (.int i5), .val (.int l0), .val (.int u0), .val (.int l1), .val (.int u1), .val (.int p0), .val (.int p1), .val (.int (0 : Int32)), .val (.ref lw), .val (.ref up), .val (.ref ps), .val (.ref q), .unset, .unset, .unset] [(.int (1 : Int32))])
          refine Go.on (fun _ k => XS.goto X14.here hx rfl (pc0 := 162) (pc' := 166) rfl (hb hby at_162) (by decide) (by decide) k) ?_
          show Go _ _ _ _ _ _ _ _ (mkF m 166 #[.val (.int i0), .val (.int i1), .val (.int i2), .val (.int i3), .val (.long j4), .second, .val (.int i5), .val (.int l0), .val (.int u0), .val (.int l1), .val (.int u1), .val (.int p0), .val (.int p1), .val (.int (0 : Int32)), .val (.ref lw), .val (.ref up), .val (.ref ps), .val (.ref q), .unset, .unset, .unset] [(.int (1 : Int32))])
          exact hJ15 _ (by rw [if_neg hc16, if_neg hc17])
    intro in0 hin0
    refine Go.on (fun _ k => XS.istore X14.here hx rfl (hb hby at_166) rfl (l' := #[.val (.int i0), .val (.int i1), .val (.int i2), .val (.int i3), .val (.long j4), .second, .val (.int i5), .val (.int l0), .val (.int u0), .val (.int l1), .val (.int u1), .val (.int p0), .val (.int p1), .val (.int (0 : Int32)), .val (.ref lw), .val (.ref up), .val (.ref ps), .val (.ref q), .val (.int in0), .unset, .unset]) rfl k) ?_
    show Go _ _ _ _ _ _ _ _ (mkF m 168 #[.val (.int i0), .val (.int i1), .val (.int i2), .val (.int i3), .val (.long j4), .second, .val (.int i5), .val (.int l0), .val (.int u0), .val (.int l1), .val (.int u1), .val (.int p0), .val (.int p1), .val (.int (0 : Int32)), .val (.ref lw), .val (.ref up), .val (.ref ps), .val (.ref q), .val (.int in0), .unset, .unset] [])
    refine Go.on (fun _ k => XS.iload X14.here hx rfl (hb hby at_168) rfl k) ?_
    show Go _ _ _ _ _ _ _ _ (mkF m 170 #[.val (.int i0), .val (.int i1), .val (.int i2), .val (.int i3), .val (.long j4), .second, .val (.int i5), .val (.int l0), .val (.int u0), .val (.int l1), .val (.int u1), .val (.int p0), .val (.int p1), .val (.int (0 : Int32)), .val (.ref lw), .val (.ref up), .val (.ref ps), .val (.ref q), .val (.int in0), .unset, .unset] [(.int l1)])
    refine Go.on (fun _ k => XS.iload X14.here hx rfl (hb hby at_170) rfl k) ?_
    show Go _ _ _ _ _ _ _ _ (mkF m 172 #[.val (.int i0), .val (.int i1), .val (.int i2), .val (.int i3), .val (.long j4), .second, .val (.int i5), .val (.int l0), .val (.int u0), .val (.int l1), .val (.int u1), .val (.int p0), .val (.int p1), .val (.int (0 : Int32)), .val (.ref lw), .val (.ref up), .val (.ref ps), .val (.ref q), .val (.int in0), .unset, .unset] [(.int p1), (.int l1)])
    suffices hJ18 : ∀ (in1 : Int32), in1 = (if p1 < l1 then (0 : Int32) else (if u1 < p1 then (0 : Int32) else (1 : Int32))) → Go p e below s K1 K2 QQ T14 (mkF m 187 #[.val (.int i0), .val (.int i1), .val (.int i2), .val (.int i3), .val (.long j4), .second, .val (.int i5), .val (.int l0), .val (.int u0), .val (.int l1), .val (.int u1), .val (.int p0), .val (.int p1), .val (.int (0 : Int32)), .val (.ref lw), .val (.ref up), .val (.ref ps), .val (.ref q), .val (.int in0), .unset, .unset] [(.int in1)]) by
      by_cases hc19 : p1 < l1
      · -- pc 172 yes
        refine Go.on (fun _ k => XS.icmpYes X14.here hx rfl (pc0 := 172) (pc' := 186) rfl (hb hby at_172) rfl (tlt hc19).2.2.1 (by decide) (by decide) k) ?_
        show Go _ _ _ _ _ _ _ _ (mkF m 186 #[.val (.int i0), .val (.int i1), .val (.int i2), .val (.int i3), .val (.long j4), .second, .val (.int i5), .val (.int l0), .val (.int u0), .val (.int l1), .val (.int u1), .val (.int p0), .val (.int p1), .val (.int (0 : Int32)), .val (.ref lw), .val (.ref up), .val (.ref ps), .val (.ref q), .val (.int in0), .unset, .unset] [])
        refine Go.on (fun _ k => XS.iconst X14.here hx rfl (hb hby at_186) k) ?_
        show Go _ _ _ _ _ _ _ _ (mkF m 187 #[.val (.int i0), .val (.int i1), .val (.int i2), .val (.int i3), .val (.long j4), .second, .val (.int i5), .val (.int l0), .val (.int u0), .val (.int l1), .val (.int u1), .val (.int p0), .val (.int p1), .val (.int (0 : Int32)), .val (.ref lw), .val (.ref up), .val (.ref ps), .val (.ref q), .val (.int in0), .unset, .unset] [(.int (0 : Int32))])
        exact hJ18 _ (by rw [if_pos hc19])
      · -- pc 172 no
        refine Go.on (fun _ k => XS.icmpNo X14.here hx rfl (hb hby at_172) rfl (flt hc19).2.2.1 k) ?_
        show Go _ _ _ _ _ _ _ _ (mkF m 175 #[.val (.int i0), .val (.int i1), .val (.int i2), .val (.int i3), .val (.long j4), .second, .val (.int i5), .val (.int l0), .val (.int u0), .val (.int l1), .val (.int u1), .val (.int p0), .val (.int p1), .val (.int (0 : Int32)), .val (.ref lw), .val (.ref up), .val (.ref ps), .val (.ref q), .val (.int in0), .unset, .unset] [])
        refine Go.on (fun _ k => XS.iload X14.here hx rfl (hb hby at_175) rfl k) ?_
        show Go _ _ _ _ _ _ _ _ (mkF m 177 #[.val (.int i0), .val (.int i1), .val (.int i2), .val (.int i3), .val (.long j4), .second, .val (.int i5), .val (.int l0), .val (.int u0), .val (.int l1), .val (.int u1), .val (.int p0), .val (.int p1), .val (.int (0 : Int32)), .val (.ref lw), .val (.ref up), .val (.ref ps), .val (.ref q), .val (.int in0), .unset, .unset] [(.int p1)])
        refine Go.on (fun _ k => XS.iload X14.here hx rfl (hb hby at_177) rfl k) ?_
        show Go _ _ _ _ _ _ _ _ (mkF m 179 #[.val (.int i0), .val (.int i1), .val (.int i2), .val (.int i3), .val (.long j4), .second, .val (.int i5), .val (.int l0), .val (.int u0), .val (.int l1), .val (.int u1), .val (.int p0), .val (.int p1), .val (.int (0 : Int32)), .val (.ref lw), .val (.ref up), .val (.ref ps), .val (.ref q), .val (.int in0), .unset, .unset] [(.int u1), (.int p1)])
        by_cases hc20 : u1 < p1
        · -- pc 179 yes
          refine Go.on (fun _ k => XS.icmpYes X14.here hx rfl (pc0 := 179) (pc' := 186) rfl (hb hby at_179) rfl (tlt hc20).2.2.1 (by decide) (by decide) k) ?_
          show Go _ _ _ _ _ _ _ _ (mkF m 186 #[.val (.int i0), .val (.int i1), .val (.int i2), .val (.int i3), .val (.long j4), .second, .val (.int i5), .val (.int l0), .val (.int u0), .val (.int l1), .val (.int u1), .val (.int p0), .val (.int p1), .val (.int (0 : Int32)), .val (.ref lw), .val (.ref up), .val (.ref ps), .val (.ref q), .val (.int in0), .unset, .unset] [])
          refine Go.on (fun _ k => XS.iconst X14.here hx rfl (hb hby at_186) k) ?_
          show Go _ _ _ _ _ _ _ _ (mkF m 187 #[.val (.int i0), .val (.int i1), .val (.int i2), .val (.int i3), .val (.long j4), .second, .val (.int i5), .val (.int l0), .val (.int u0), .val (.int l1), .val (.int u1), .val (.int p0), .val (.int p1), .val (.int (0 : Int32)), .val (.ref lw), .val (.ref up), .val (.ref ps), .val (.ref q), .val (.int in0), .unset, .unset] [(.int (0 : Int32))])
          exact hJ18 _ (by rw [if_neg hc19, if_pos hc20])
        · -- pc 179 no
          refine Go.on (fun _ k => XS.icmpNo X14.here hx rfl (hb hby at_179) rfl (flt hc20).2.2.1 k) ?_
          show Go _ _ _ _ _ _ _ _ (mkF m 182 #[.val (.int i0), .val (.int i1), .val (.int i2), .val (.int i3), .val (.long j4), .second, .val (.int i5), .val (.int l0), .val (.int u0), .val (.int l1), .val (.int u1), .val (.int p0), .val (.int p1), .val (.int (0 : Int32)), .val (.ref lw), .val (.ref up), .val (.ref ps), .val (.ref q), .val (.int in0), .unset, .unset] [])
          refine Go.on (fun _ k => XS.iconst X14.here hx rfl (hb hby at_182) k) ?_
          show Go _ _ _ _ _ _ _ _ (mkF m 183 #[.val (.int i0), .val (.int i1), .val (.int i2), .val (.int i3), .val (.long j4), .second, .val (.int i5), .val (.int l0), .val (.int u0), .val (.int l1), .val (.int u1), .val (.int p0), .val (.int p1), .val (.int (0 : Int32)), .val (.ref lw), .val (.ref up), .val (.ref ps), .val (.ref q), .val (.int in0), .unset, .unset] [(.int (1 : Int32))])
          refine Go.on (fun _ k => XS.goto X14.here hx rfl (pc0 := 183) (pc' := 187) rfl (hb hby at_183) (by decide) (by decide) k) ?_
          show Go _ _ _ _ _ _ _ _ (mkF m 187 #[.val (.int i0), .val (.int i1), .val (.int i2), .val (.int i3), .val (.long j4), .second, .val (.int i5), .val (.int l0), .val (.int u0), .val (.int l1), .val (.int u1), .val (.int p0), .val (.int p1), .val (.int (0 : Int32)), .val (.ref lw), .val (.ref up), .val (.ref ps), .val (.ref q), .val (.int in0), .unset, .unset] [(.int (1 : Int32))])
          exact hJ18 _ (by rw [if_neg hc19, if_neg hc20])
    intro in1 hin1
    refine Go.on (fun _ k => XS.istore X14.here hx rfl (hb hby at_187) rfl (l' := #[.val (.int i0), .val (.int i1), .val (.int i2), .val (.int i3), .val (.long j4), .second, .val (.int i5), .val (.int l0), .val (.int u0), .val (.int l1), .val (.int u1), .val (.int p0), .val (.int p1), .val (.int (0 : Int32)), .val (.ref lw), .val (.ref up), .val (.ref ps), .val (.ref q), .val (.int in0), .val (.int in1), .unset]) rfl k) ?_
    show Go _ _ _ _ _ _ _ _ (mkF m 189 #[.val (.int i0), .val (.int i1), .val (.int i2), .val (.int i3), .val (.long j4), .second, .val (.int i5), .val (.int l0), .val (.int u0), .val (.int l1), .val (.int u1), .val (.int p0), .val (.int p1), .val (.int (0 : Int32)), .val (.ref lw), .val (.ref up), .val (.ref ps), .val (.ref q), .val (.int in0), .val (.int in1), .unset] [])
    refine Go.on (fun _ k => XS.iload X14.here hx rfl (hb hby at_189) rfl k) ?_
    show Go _ _ _ _ _ _ _ _ (mkF m 191 #[.val (.int i0), .val (.int i1), .val (.int i2), .val (.int i3), .val (.long j4), .second, .val (.int i5), .val (.int l0), .val (.int u0), .val (.int l1), .val (.int u1), .val (.int p0), .val (.int p1), .val (.int (0 : Int32)), .val (.ref lw), .val (.ref up), .val (.ref ps), .val (.ref q), .val (.int in0), .val (.int in1), .unset] [(.int (0 : Int32))])
    refine Go.on (fun _ k => XS.iconst X14.here hx rfl (hb hby at_191) k) ?_
    show Go _ _ _ _ _ _ _ _ (mkF m 192 #[.val (.int i0), .val (.int i1), .val (.int i2), .val (.int i3), .val (.long j4), .second, .val (.int i5), .val (.int l0), .val (.int u0), .val (.int l1), .val (.int u1), .val (.int p0), .val (.int p1), .val (.int (0 : Int32)), .val (.ref lw), .val (.ref up), .val (.ref ps), .val (.ref q), .val (.int in0), .val (.int in1), .unset] [(.int (1 : Int32)), (.int (0 : Int32))])
    have hc21 : (0 : Int32) < (1 : Int32) := by decide
    refine Go.on (fun _ k => XS.icmpYes X14.here hx rfl (pc0 := 192) (pc' := 200) rfl (hb hby at_192) rfl (tlt hc21).1 (by decide) (by decide) k) ?_
    show Go _ _ _ _ _ _ _ _ (mkF m 200 #[.val (.int i0), .val (.int i1), .val (.int i2), .val (.int i3), .val (.long j4), .second, .val (.int i5), .val (.int l0), .val (.int u0), .val (.int l1), .val (.int u1), .val (.int p0), .val (.int p1), .val (.int (0 : Int32)), .val (.ref lw), .val (.ref up), .val (.ref ps), .val (.ref q), .val (.int in0), .val (.int in1), .unset] [])
    refine Go.on (fun _ k => XS.iload X14.here hx rfl (hb hby at_200) rfl k) ?_
    show Go _ _ _ _ _ _ _ _ (mkF m 202 #[.val (.int i0), .val (.int i1), .val (.int i2), .val (.int i3), .val (.long j4), .second, .val (.int i5), .val (.int l0), .val (.int u0), .val (.int l1), .val (.int u1), .val (.int p0), .val (.int p1), .val (.int (0 : Int32)), .val (.ref lw), .val (.ref up), .val (.ref ps), .val (.ref q), .val (.int in0), .val (.int in1), .unset] [(.int (0 : Int32))])
    refine Go.on (fun _ k => XS.iconst X14.here hx rfl (hb hby at_202) k) ?_
    show Go _ _ _ _ _ _ _ _ (mkF m 203 #[.val (.int i0), .val (.int i1), .val (.int i2), .val (.int i3), .val (.long j4), .second, .val (.int i5), .val (.int l0), .val (.int u0), .val (.int l1), .val (.int u1), .val (.int p0), .val (.int p1), .val (.int (0 : Int32)), .val (.ref lw), .val (.ref up), .val (.ref ps), .val (.ref q), .val (.int in0), .val (.int in1), .unset] [(.int (2 : Int32)), (.int (0 : Int32))])
    have hc22 : (0 : Int32) < (2 : Int32) := by decide
    refine Go.on (fun _ k => XS.icmpYes X14.here hx rfl (pc0 := 203) (pc' := 211) rfl (hb hby at_203) rfl (tlt hc22).1 (by decide) (by decide) k) ?_
    show Go _ _ _ _ _ _ _ _ (mkF m 211 #[.val (.int i0), .val (.int i1), .val (.int i2), .val (.int i3), .val (.long j4), .second, .val (.int i5), .val (.int l0), .val (.int u0), .val (.int l1), .val (.int u1), .val (.int p0), .val (.int p1), .val (.int (0 : Int32)), .val (.ref lw), .val (.ref up), .val (.ref ps), .val (.ref q), .val (.int in0), .val (.int in1), .unset] [])
    refine Go.on (fun _ k => XS.iconst X14.here hx rfl (hb hby at_211) k) ?_
    show Go _ _ _ _ _ _ _ _ (mkF m 212 #[.val (.int i0), .val (.int i1), .val (.int i2), .val (.int i3), .val (.long j4), .second, .val (.int i5), .val (.int l0), .val (.int u0), .val (.int l1), .val (.int u1), .val (.int p0), .val (.int p1), .val (.int (0 : Int32)), .val (.ref lw), .val (.ref up), .val (.ref ps), .val (.ref q), .val (.int in0), .val (.int in1), .unset] [(.int (1 : Int32))])
    refine Go.on (fun _ k => XS.goto X14.here hx rfl (pc0 := 212) (pc' := 216) rfl (hb hby at_212) (by decide) (by decide) k) ?_
    show Go _ _ _ _ _ _ _ _ (mkF m 216 #[.val (.int i0), .val (.int i1), .val (.int i2), .val (.int i3), .val (.long j4), .second, .val (.int i5), .val (.int l0), .val (.int u0), .val (.int l1), .val (.int u1), .val (.int p0), .val (.int p1), .val (.int (0 : Int32)), .val (.ref lw), .val (.ref up), .val (.ref ps), .val (.ref q), .val (.int in0), .val (.int in1), .unset] [(.int (1 : Int32))])
    refine Go.on (fun _ k => XS.istore X14.here hx rfl (hb hby at_216) rfl (l' := #[.val (.int i0), .val (.int i1), .val (.int i2), .val (.int i3), .val (.long j4), .second, .val (.int i5), .val (.int l0), .val (.int u0), .val (.int l1), .val (.int u1), .val (.int p0), .val (.int p1), .val (.int (0 : Int32)), .val (.ref lw), .val (.ref up), .val (.ref ps), .val (.ref q), .val (.int in0), .val (.int in1), .val (.int (1 : Int32))]) rfl k) ?_
    show Go _ _ _ _ _ _ _ _ (mkF m 218 #[.val (.int i0), .val (.int i1), .val (.int i2), .val (.int i3), .val (.long j4), .second, .val (.int i5), .val (.int l0), .val (.int u0), .val (.int l1), .val (.int u1), .val (.int p0), .val (.int p1), .val (.int (0 : Int32)), .val (.ref lw), .val (.ref up), .val (.ref ps), .val (.ref q), .val (.int in0), .val (.int in1), .val (.int (1 : Int32))] [])
    refine Go.on (fun _ k => XS.aload X14.here hx rfl (hb hby at_218) rfl rfl k) ?_
    show Go _ _ _ _ _ _ _ _ (mkF m 220 #[.val (.int i0), .val (.int i1), .val (.int i2), .val (.int i3), .val (.long j4), .second, .val (.int i5), .val (.int l0), .val (.int u0), .val (.int l1), .val (.int u1), .val (.int p0), .val (.int p1), .val (.int (0 : Int32)), .val (.ref lw), .val (.ref up), .val (.ref ps), .val (.ref q), .val (.int in0), .val (.int in1), .val (.int (1 : Int32))] [(.ref q)])
    refine Go.on (fun _ k => XS.aload X14.here hx rfl (hb hby at_220) rfl rfl k) ?_
    show Go _ _ _ _ _ _ _ _ (mkF m 222 #[.val (.int i0), .val (.int i1), .val (.int i2), .val (.int i3), .val (.long j4), .second, .val (.int i5), .val (.int l0), .val (.int u0), .val (.int l1), .val (.int u1), .val (.int p0), .val (.int p1), .val (.int (0 : Int32)), .val (.ref lw), .val (.ref up), .val (.ref ps), .val (.ref q), .val (.int in0), .val (.int in1), .val (.int (1 : Int32))] [(.ref ps), (.ref q)])
    obtain ⟨cq23, kq23, q23a, q23b, q23c⟩ := isOf hZ e14 E_q
    obtain ⟨_, _, ⟨T23, L23, k23, n23⟩, -, X23, ⟨Lc23, hQ23, l23, y23, z23⟩, st23⟩ := X14.virtualBack hx (y := (⟨"com/example/driftswarm/driftswarm/algorithms/Bounds", "contains", "([D)Z"⟩ : MethodName)) (z := (⟨"com/example/driftswarm/driftswarm/algorithms/Bounds", "contains", "([D)Z"⟩ : MethodName)) hown (mvT hZ (hw _ (List.mem_of_getElem? (i := 22) rfl))) (mvT hZ (hw _ (List.mem_of_getElem? (i := 23) rfl))) (notFace_of_selects (args := #[]) (mvT hZ (hw _ (List.mem_of_getElem? (i := 25) rfl)))) (mvT hZ (hw _ (List.mem_of_getElem? (i := 25) rfl))) (mvT hZ (hw _ (List.mem_of_getElem? (i := 24) rfl))) (by decide) (backOf (W := 0) (all_0 l Z aw hw [] q ps lw up k_lw (FP.i2d l0) (FP.i2d l1) k_up (FP.i2d u0) (FP.i2d u1) k_ps h14 n0 ZZ E_q F_lower_q F_upper_q V_lw V_up V_ps) hZ (hw _ (List.mem_of_getElem? (i := 26) rfl)) (hw _ (List.mem_of_getElem? (i := 11) rfl)) (by decide) (by decide)) q23a q23c (g := (mkF m 222 #[.val (.int i0), .val (.int i1), .val (.int i2), .val (.int i3), .val (.long j4), .second, .val (.int i5), .val (.int l0), .val (.int u0), .val (.int l1), .val (.int u1), .val (.int p0), .val (.int p1), .val (.int (0 : Int32)), .val (.ref lw), .val (.ref up), .val (.ref ps), .val (.ref q), .val (.int in0), .val (.int in1), .val (.int (1 : Int32))] [(.ref ps), (.ref q)])) rfl (by rw [hml]; rfl) (Steps.refl _) (argsL := [(.ref ps)]) (rest := []) (lenOf pd_3 rfl) rfl (by show 2 * 0 + _ ≤ _; exact Nat.le_of_eq rfl) (hb hby at_222) (fun _ _ => ⟨rfl, e14, (by decide : 4 + 0 ≤ _), (by decide : 6 + 0 ≤ _)⟩)
    dsimp only [Pt.U, Pt.locs, Pt.cells, Pt.slots] at X23 l23 y23 z23 st23 hQ23
    subst l23 y23 z23
    obtain ⟨rfl, N23q, e23⟩ := hQ23
    have N23 := Fr.app N14 N23q
    refine Go.on (fun _ k => st23.trans k) ?_
    show Go _ _ _ _ _ _ _ _ (mkF m 225 #[.val (.int i0), .val (.int i1), .val (.int i2), .val (.int i3), .val (.long j4), .second, .val (.int i5), .val (.int l0), .val (.int u0), .val (.int l1), .val (.int u1), .val (.int p0), .val (.int p1), .val (.int (0 : Int32)), .val (.ref lw), .val (.ref up), .val (.ref ps), .val (.ref q), .val (.int in0), .val (.int in1), .val (.int (1 : Int32))] [(.int (1 : Int32))])
    refine Go.on (fun _ k => XS.iload X23.here hx rfl (hb hby at_225) rfl k) ?_
    show Go _ _ _ _ _ _ _ _ (mkF m 227 #[.val (.int i0), .val (.int i1), .val (.int i2), .val (.int i3), .val (.long j4), .second, .val (.int i5), .val (.int l0), .val (.int u0), .val (.int l1), .val (.int u1), .val (.int p0), .val (.int p1), .val (.int (0 : Int32)), .val (.ref lw), .val (.ref up), .val (.ref ps), .val (.ref q), .val (.int in0), .val (.int in1), .val (.int (1 : Int32))] [(.int (1 : Int32)), (.int (1 : Int32))])
    have hc24 : (1 : Int32) = (1 : Int32) := by decide
    refine Go.on (fun _ k => XS.icmpNo X23.here hx rfl (hb hby at_227) rfl (teq hc24).2 k) ?_
    show Go _ _ _ _ _ _ _ _ (mkF m 230 #[.val (.int i0), .val (.int i1), .val (.int i2), .val (.int i3), .val (.long j4), .second, .val (.int i5), .val (.int l0), .val (.int u0), .val (.int l1), .val (.int u1), .val (.int p0), .val (.int p1), .val (.int (0 : Int32)), .val (.ref lw), .val (.ref up), .val (.ref ps), .val (.ref q), .val (.int in0), .val (.int in1), .val (.int (1 : Int32))] [])
    refine Go.on (fun _ k => XS.iconst X23.here hx rfl (hb hby at_230) k) ?_
    show Go _ _ _ _ _ _ _ _ (mkF m 231 #[.val (.int i0), .val (.int i1), .val (.int i2), .val (.int i3), .val (.long j4), .second, .val (.int i5), .val (.int l0), .val (.int u0), .val (.int l1), .val (.int u1), .val (.int p0), .val (.int p1), .val (.int (0 : Int32)), .val (.ref lw), .val (.ref up), .val (.ref ps), .val (.ref q), .val (.int in0), .val (.int in1), .val (.int (1 : Int32))] [(.int (1 : Int32))])
    refine Go.on (fun _ k => XS.goto X23.here hx rfl (pc0 := 231) (pc' := 235) rfl (hb hby at_231) (by decide) (by decide) k) ?_
    show Go _ _ _ _ _ _ _ _ (mkF m 235 #[.val (.int i0), .val (.int i1), .val (.int i2), .val (.int i3), .val (.long j4), .second, .val (.int i5), .val (.int l0), .val (.int u0), .val (.int l1), .val (.int u1), .val (.int p0), .val (.int p1), .val (.int (0 : Int32)), .val (.ref lw), .val (.ref up), .val (.ref ps), .val (.ref q), .val (.int in0), .val (.int in1), .val (.int (1 : Int32))] [(.int (1 : Int32))])
    refine Go.retN X23 hx (t := .boolean) Bd.returns (by simp) (hb hby at_235) ?_ (by rw [hK1]; decide) (by rw [hK2]; decide)
    rw [e23, ← hQQ]
    exact ⟨rfl, N23⟩
  · -- length 1
    subst hl
    show Go _ _ _ _ _ _ _ _ (mkF m 84 #[.val (.int i0), .val (.int i1), .val (.int i2), .val (.int i3), .val (.long j4), .second, .val (.int i5), .val (.int l0), .val (.int u0), .val (.int l1), .val (.int u1), .val (.int p0), .val (.int p1), .val (.int (1 : Int32)), .val (.ref lw), .val (.ref up), .unset, .unset, .unset, .unset, .unset] [])
    refine Go.on (fun _ k => XS.iload X10.here hx rfl (hb hby at_84) rfl k) ?_
    show Go _ _ _ _ _ _ _ _ (mkF m 86 #[.val (.int i0), .val (.int i1), .val (.int i2), .val (.int i3), .val (.long j4), .second, .val (.int i5), .val (.int l0), .val (.int u0), .val (.int l1), .val (.int u1), .val (.int p0), .val (.int p1), .val (.int (1 : Int32)), .val (.ref lw), .val (.ref up), .unset, .unset, .unset, .unset, .unset] [(.int (1 : Int32))])
    have hc25 : ¬ ((1 : Int32) = (0 : Int32)) := by decide
    refine Go.on (fun _ k => XS.ifYes X10.here hx rfl (pc0 := 86) (pc' := 97) rfl (hb hby at_86) rfl ((if0 _ _).trans (feq hc25).2) (by decide) (by decide) k) ?_
    show Go _ _ _ _ _ _ _ _ (mkF m 97 #[.val (.int i0), .val (.int i1), .val (.int i2), .val (.int i3), .val (.long j4), .second, .val (.int i5), .val (.int l0), .val (.int u0), .val (.int l1), .val (.int u1), .val (.int p0), .val (.int p1), .val (.int (1 : Int32)), .val (.ref lw), .val (.ref up), .unset, .unset, .unset, .unset, .unset] [])
    refine Go.on (fun _ k => XS.iload X10.here hx rfl (hb hby at_97) rfl k) ?_
    show Go _ _ _ _ _ _ _ _ (mkF m 99 #[.val (.int i0), .val (.int i1), .val (.int i2), .val (.int i3), .val (.long j4), .second, .val (.int i5), .val (.int l0), .val (.int u0), .val (.int l1), .val (.int u1), .val (.int p0), .val (.int p1), .val (.int (1 : Int32)), .val (.ref lw), .val (.ref up), .unset, .unset, .unset, .unset, .unset] [(.int (1 : Int32))])
    refine Go.on (fun _ k => XS.iconst X10.here hx rfl (hb hby at_99) k) ?_
    show Go _ _ _ _ _ _ _ _ (mkF m 100 #[.val (.int i0), .val (.int i1), .val (.int i2), .val (.int i3), .val (.long j4), .second, .val (.int i5), .val (.int l0), .val (.int u0), .val (.int l1), .val (.int u1), .val (.int p0), .val (.int p1), .val (.int (1 : Int32)), .val (.ref lw), .val (.ref up), .unset, .unset, .unset, .unset, .unset] [(.int (1 : Int32)), (.int (1 : Int32))])
    have hc26 : (1 : Int32) = (1 : Int32) := by decide
    refine Go.on (fun _ k => XS.icmpNo X10.here hx rfl (hb hby at_100) rfl (teq hc26).2 k) ?_
    show Go _ _ _ _ _ _ _ _ (mkF m 103 #[.val (.int i0), .val (.int i1), .val (.int i2), .val (.int i3), .val (.long j4), .second, .val (.int i5), .val (.int l0), .val (.int u0), .val (.int l1), .val (.int u1), .val (.int p0), .val (.int p1), .val (.int (1 : Int32)), .val (.ref lw), .val (.ref up), .unset, .unset, .unset, .unset, .unset] [])
    refine Go.on (fun _ k => XS.iconst X10.here hx rfl (hb hby at_103) k) ?_
    show Go _ _ _ _ _ _ _ _ (mkF m 104 #[.val (.int i0), .val (.int i1), .val (.int i2), .val (.int i3), .val (.long j4), .second, .val (.int i5), .val (.int l0), .val (.int u0), .val (.int l1), .val (.int u1), .val (.int p0), .val (.int p1), .val (.int (1 : Int32)), .val (.ref lw), .val (.ref up), .unset, .unset, .unset, .unset, .unset] [(.int (1 : Int32))])
    obtain ⟨T27, h27, k_ps, X27, e27, E27, A27, st27⟩ := newP X10 hx hZ (hw _ (List.mem_of_getElem? (i := 8) rfl)) e10 (g := (mkF m 104 #[.val (.int i0), .val (.int i1), .val (.int i2), .val (.int i3), .val (.long j4), .second, .val (.int i5), .val (.int l0), .val (.int u0), .val (.int l1), .val (.int u1), .val (.int p0), .val (.int p1), .val (.int (1 : Int32)), .val (.ref lw), .val (.ref up), .unset, .unset, .unset, .unset, .unset] [(.int (1 : Int32))])) rfl (hb hby at_104) rfl (by decide) (cap := 1) (by decide) (by decide) (by decide) (by decide)
    obtain ⟨ps, g27⟩ : ∃ z, z = h10.size := ⟨_, rfl⟩
    have ne_lw_ps : lw ≠ ps := Nat.ne_of_lt (Nat.lt_of_lt_of_le V_lw.lt (Nat.le_of_eq g27.symm))
    have ne_up_ps : up ≠ ps := Nat.ne_of_lt (Nat.lt_of_lt_of_le V_up.lt (Nat.le_of_eq g27.symm))
    have g_ps : n0 ≤ ps := Nat.le_trans ZZ (Nat.le_of_eq g27.symm)
    rw [← g27] at A27 st27
    replace V_lw := V_lw.ext E27
    replace V_up := V_up.ext E27
    replace ZZ := Nat.le_trans ZZ E27.1
    have V_ps : Arv Z h27 ps k_ps .double (1 : Int32) [(.double (0 : UInt64))] (.double (0 : UInt64)) := (Arv.new A27 (by decide)).pad (pad_rep [] (.double (0 : UInt64)) 1)
    refine Go.on st27 ?_
    show Go _ _ _ _ _ _ _ _ (mkF m 106 #[.val (.int i0), .val (.int i1), .val (.int i2), .val (.int i3), .val (.long j4), .second, .val (.int i5), .val (.int l0), .val (.int u0), .val (.int l1), .val (.int u1), .val (.int p0), .val (.int p1), .val (.int (1 : Int32)), .val (.ref lw), .val (.ref up), .unset, .unset, .unset, .unset, .unset] [(.ref ps)])
    refine Go.on (fun _ k => XS.dup X27.here hx rfl (hb hby at_106) rfl rfl k) ?_
    show Go _ _ _ _ _ _ _ _ (mkF m 107 #[.val (.int i0), .val (.int i1), .val (.int i2), .val (.int i3), .val (.long j4), .second, .val (.int i5), .val (.int l0), .val (.int u0), .val (.int l1), .val (.int u1), .val (.int p0), .val (.int p1), .val (.int (1 : Int32)), .val (.ref lw), .val (.ref up), .unset, .unset, .unset, .unset, .unset] [(.ref ps), (.ref ps)])
    refine Go.on (fun _ k => XS.iconst X27.here hx rfl (hb hby at_107) k) ?_
    show Go _ _ _ _ _ _ _ _ (mkF m 108 #[.val (.int i0), .val (.int i1), .val (.int i2), .val (.int i3), .val (.long j4), .second, .val (.int i5), .val (.int l0), .val (.int u0), .val (.int l1), .val (.int u1), .val (.int p0), .val (.int p1), .val (.int (1 : Int32)), .val (.ref lw), .val (.ref up), .unset, .unset, .unset, .unset, .unset] [(.int (0 : Int32)), (.ref ps), (.ref ps)])
    refine Go.on (fun _ k => XS.iload X27.here hx rfl (hb hby at_108) rfl k) ?_
    show Go _ _ _ _ _ _ _ _ (mkF m 110 #[.val (.int i0), .val (.int i1), .val (.int i2), .val (.int i3), .val (.long j4), .second, .val (.int i5), .val (.int l0), .val (.int u0), .val (.int l1), .val (.int u1), .val (.int p0), .val (.int p1), .val (.int (1 : Int32)), .val (.ref lw), .val (.ref up), .unset, .unset, .unset, .unset, .unset] [(.int p0), (.int (0 : Int32)), (.ref ps), (.ref ps)])
    refine Go.on (fun _ k => XS.i2dS X27.here hx rfl (hb hby at_110) rfl rfl k) ?_
    show Go _ _ _ _ _ _ _ _ (mkF m 111 #[.val (.int i0), .val (.int i1), .val (.int i2), .val (.int i3), .val (.long j4), .second, .val (.int i5), .val (.int l0), .val (.int u0), .val (.int l1), .val (.int u1), .val (.int p0), .val (.int p1), .val (.int (1 : Int32)), .val (.ref lw), .val (.ref up), .unset, .unset, .unset, .unset, .unset] [(.double (FP.i2d p0)), (.int (0 : Int32)), (.ref ps), (.ref ps)])
    obtain ⟨cl28, Ar28, q28, S28, N28n, H28, G28⟩ := id V_ps
    have hin28 : ¬ ((0 : Int32) < 0 ∨ cl28.slots.size ≤ ((0 : Int32)).toNatClampNeg) := inb_of S28 ⟨by decide, by decide⟩
    obtain ⟨T28, h28, X28, e28, W28, st28⟩ := stD X27 hx hZ e27 Ar28 (j := (0 : Int32)) hin28 (g := (mkF m 111 #[.val (.int i0), .val (.int i1), .val (.int i2), .val (.int i3), .val (.long j4), .second, .val (.int i5), .val (.int l0), .val (.int u0), .val (.int l1), .val (.int u1), .val (.int p0), .val (.int p1), .val (.int (1 : Int32)), .val (.ref lw), .val (.ref up), .unset, .unset, .unset, .unset, .unset] [(.double (FP.i2d p0)), (.int (0 : Int32)), (.ref ps), (.ref ps)])) rfl rfl (hb hby at_111)
    replace V_ps := Arv.set Ar28 q28 S28 N28n H28 G28 rfl W28 0 rfl (Nat.le_of_ble_eq_true rfl)
    replace V_lw := V_lw.other W28 ne_lw_ps
    replace V_up := V_up.other W28 ne_up_ps
    refine Go.on st28 ?_
    have N28 := Fr.snoc X28 N10 g_ps
    replace ZZ := Nat.le_trans ZZ (Keep.of_wr W28).1
    change Arv Z h28 ps k_ps .double (1 : Int32) [(.double (FP.i2d p0))] (.double (0 : UInt64)) at V_ps
    show Go _ _ _ _ _ _ _ _ (mkF m 112 #[.val (.int i0), .val (.int i1), .val (.int i2), .val (.int i3), .val (.long j4), .second, .val (.int i5), .val (.int l0), .val (.int u0), .val (.int l1), .val (.int u1), .val (.int p0), .val (.int p1), .val (.int (1 : Int32)), .val (.ref lw), .val (.ref up), .unset, .unset, .unset, .unset, .unset] [(.ref ps)])
    refine Go.on (fun _ k => XS.astore X28.here hx rfl (hb hby at_112) rfl rfl (l' := #[.val (.int i0), .val (.int i1), .val (.int i2), .val (.int i3), .val (.long j4), .second, .val (.int i5), .val (.int l0), .val (.int u0), .val (.int l1), .val (.int u1), .val (.int p0), .val (.int p1), .val (.int (1 : Int32)), .val (.ref lw), .val (.ref up), .val (.ref ps), .unset, .unset, .unset, .unset]) rfl k) ?_
    show Go _ _ _ _ _ _ _ _ (mkF m 114 #[.val (.int i0), .val (.int i1), .val (.int i2), .val (.int i3), .val (.long j4), .second, .val (.int i5), .val (.int l0), .val (.int u0), .val (.int l1), .val (.int u1), .val (.int p0), .val (.int p1), .val (.int (1 : Int32)), .val (.ref lw), .val (.ref up), .val (.ref ps), .unset, .unset, .unset, .unset] [])
    refine Go.on (fun _ k => XS.goto X28.here hx rfl (pc0 := 114) (pc' := 134) rfl (hb hby at_114) (by decide) (by decide) k) ?_
    show Go _ _ _ _ _ _ _ _ (mkF m 134 #[.val (.int i0), .val (.int i1), .val (.int i2), .val (.int i3), .val (.long j4), .second, .val (.int i5), .val (.int l0), .val (.int u0), .val (.int l1), .val (.int u1), .val (.int p0), .val (.int p1), .val (.int (1 : Int32)), .val (.ref lw), .val (.ref up), .val (.ref ps), .unset, .unset, .unset, .unset] [])
    obtain ⟨T29, h29, X29, e29, E29, A29, D29, -, st29⟩ := newO X28 hx hZ hown (hw _ (List.mem_of_getElem? (i := 9) rfl)) (hw _ (List.mem_of_getElem? (i := 10) rfl)) (hw _ (List.mem_of_getElem? (i := 11) rfl)) e28 (g := (mkF m 134 #[.val (.int i0), .val (.int i1), .val (.int i2), .val (.int i3), .val (.long j4), .second, .val (.int i5), .val (.int l0), .val (.int u0), .val (.int l1), .val (.int u1), .val (.int p0), .val (.int p1), .val (.int (1 : Int32)), .val (.ref lw), .val (.ref up), .val (.ref ps), .unset, .unset, .unset, .unset] [])) rfl (hb hby at_134) (by decide) (by decide)
    obtain ⟨q, g29⟩ : ∃ z, z = h28.size := ⟨_, rfl⟩
    have ne_lw_q : lw ≠ q := Nat.ne_of_lt (Nat.lt_of_lt_of_le V_lw.lt (Nat.le_of_eq g29.symm))
    have ne_up_q : up ≠ q := Nat.ne_of_lt (Nat.lt_of_lt_of_le V_up.lt (Nat.le_of_eq g29.symm))
    have ne_ps_q : ps ≠ q := Nat.ne_of_lt (Nat.lt_of_lt_of_le V_ps.lt (Nat.le_of_eq g29.symm))
    have g_q : n0 ≤ q := Nat.le_trans ZZ (Nat.le_of_eq g29.symm)
    rw [← g29] at A29 D29 st29
    replace V_lw := V_lw.ext E29
    replace V_up := V_up.ext E29
    replace V_ps := V_ps.ext E29
    replace ZZ := Nat.le_trans ZZ E29.1
    have E_q := A29
    have F_lower_q : Fld Z h29 q "com/example/driftswarm/driftswarm/algorithms/Bounds" "lower" "[D" .null := D29 (Or.inr (hw _ (List.mem_of_getElem? (i := 19) rfl))) (ty := (.array .double)) (by decide)
    have F_upper_q : Fld Z h29 q "com/example/driftswarm/driftswarm/algorithms/Bounds" "upper" "[D" .null := D29 (Or.inr (hw _ (List.mem_of_getElem? (i := 21) rfl))) (ty := (.array .double)) (by decide)
    refine Go.on st29 ?_
    show Go _ _ _ _ _ _ _ _ (mkF m 137 #[.val (.int i0), .val (.int i1), .val (.int i2), .val (.int i3), .val (.long j4), .second, .val (.int i5), .val (.int l0), .val (.int u0), .val (.int l1), .val (.int u1), .val (.int p0), .val (.int p1), .val (.int (1 : Int32)), .val (.ref lw), .val (.ref up), .val (.ref ps), .unset, .unset, .unset, .unset] [(.ref q)])
    refine Go.on (fun _ k => XS.dup X29.here hx rfl (hb hby at_137) rfl rfl k) ?_
    show Go _ _ _ _ _ _ _ _ (mkF m 138 #[.val (.int i0), .val (.int i1), .val (.int i2), .val (.int i3), .val (.long j4), .second, .val (.int i5), .val (.int l0), .val (.int u0), .val (.int l1), .val (.int u1), .val (.int p0), .val (.int p1), .val (.int (1 : Int32)), .val (.ref lw), .val (.ref up), .val (.ref ps), .unset, .unset, .unset, .unset] [(.ref q), (.ref q)])
    refine Go.on (fun _ k => XS.aload X29.here hx rfl (hb hby at_138) rfl rfl k) ?_
    show Go _ _ _ _ _ _ _ _ (mkF m 140 #[.val (.int i0), .val (.int i1), .val (.int i2), .val (.int i3), .val (.long j4), .second, .val (.int i5), .val (.int l0), .val (.int u0), .val (.int l1), .val (.int u1), .val (.int p0), .val (.int p1), .val (.int (1 : Int32)), .val (.ref lw), .val (.ref up), .val (.ref ps), .unset, .unset, .unset, .unset] [(.ref lw), (.ref q), (.ref q)])
    refine Go.on (fun _ k => XS.aload X29.here hx rfl (hb hby at_140) rfl rfl k) ?_
    show Go _ _ _ _ _ _ _ _ (mkF m 142 #[.val (.int i0), .val (.int i1), .val (.int i2), .val (.int i3), .val (.long j4), .second, .val (.int i5), .val (.int l0), .val (.int u0), .val (.int l1), .val (.int u1), .val (.int p0), .val (.int p1), .val (.int (1 : Int32)), .val (.ref lw), .val (.ref up), .val (.ref ps), .unset, .unset, .unset, .unset] [(.ref up), (.ref lw), (.ref q), (.ref q)])
    obtain ⟨_, _, ⟨T30, L30, k30, n30⟩, -, X30, ⟨Lc30, hQ30, l30, y30, z30⟩, st30⟩ := X29.specialBack hx (y := (⟨"com/example/driftswarm/driftswarm/algorithms/Bounds", "<init>", "([D[D)V"⟩ : MethodName)) rfl hown (mvT hZ (hw _ (List.mem_of_getElem? (i := 12) rfl))) (mvT hZ (hw _ (List.mem_of_getElem? (i := 13) rfl))) (mvT hZ (hw _ (List.mem_of_getElem? (i := 14) rfl))) (by decide) (backOf (W := 1) (rm3 l Z aw hw [] q lw up .null .null k_lw (FP.i2d l0) (FP.i2d l1) k_up (FP.i2d u0) (FP.i2d u1) h29 n0 ZZ E_q F_lower_q F_upper_q V_lw V_up g_q (own_mm hl0 hu0) (own_mm hl1 hu1) (ne_lw_q) (ne_up_q)) hZ (hw _ (List.mem_of_getElem? (i := 14) rfl)) (hw _ (List.mem_of_getElem? (i := 11) rfl)) (by decide) (by decide)) (g := (mkF m 142 #[.val (.int i0), .val (.int i1), .val (.int i2), .val (.int i3), .val (.long j4), .second, .val (.int i5), .val (.int l0), .val (.int u0), .val (.int l1), .val (.int u1), .val (.int p0), .val (.int p1), .val (.int (1 : Int32)), .val (.ref lw), .val (.ref up), .val (.ref ps), .unset, .unset, .unset, .unset] [(.ref up), (.ref lw), (.ref q), (.ref q)])) rfl (by rw [hml]; rfl) (Steps.refl _) (a := q) (argsL := [(.ref lw), (.ref up)]) (rest := [(.ref q)]) (lenOf pd_2 rfl) rfl (by show 2 * 0 + _ ≤ _; exact Nat.le_of_eq rfl) (hb hby at_142) (fun _ _ => ⟨rfl, e29, (by decide : 4 + 0 ≤ _), (by decide : 7 + 0 ≤ _)⟩)
    dsimp only [Pt.U, Pt.locs, Pt.cells, Pt.slots] at X30 l30 y30 z30 st30 hQ30
    subst l30 y30 z30
    obtain ⟨h30, e30⟩ : ∃ q, T30.heap = q := ⟨_, rfl⟩
    rw [e30] at hQ30
    obtain ⟨rfl, N30q, K30q, E_q', F_lower_q', F_upper_q'⟩ := hQ30
    have N30 := Fr.app N28 N30q
    replace V_lw := V_lw.keep K30q (ninS ne_lw_q nin0)
    replace V_up := V_up.keep K30q (ninS ne_up_q nin0)
    replace V_ps := V_ps.keep K30q (ninS ne_ps_q nin0)
    replace E_q := E_q.keep K30q
    replace ZZ := Nat.le_trans ZZ K30q.1
    replace E_q := E_q'
    have F_lower_q := F_lower_q'
    have F_upper_q := F_upper_q'
    refine Go.on (fun _ k => st30.trans k) ?_
    show Go _ _ _ _ _ _ _ _ (mkF m 145 #[.val (.int i0), .val (.int i1), .val (.int i2), .val (.int i3), .val (.long j4), .second, .val (.int i5), .val (.int l0), .val (.int u0), .val (.int l1), .val (.int u1), .val (.int p0), .val (.int p1), .val (.int (1 : Int32)), .val (.ref lw), .val (.ref up), .val (.ref ps), .unset, .unset, .unset, .unset] [(.ref q)])
    refine Go.on (fun _ k => XS.astore X30.here hx rfl (hb hby at_145) rfl rfl (l' := #[.val (.int i0), .val (.int i1), .val (.int i2), .val (.int i3), .val (.long j4), .second, .val (.int i5), .val (.int l0), .val (.int u0), .val (.int l1), .val (.int u1), .val (.int p0), .val (.int p1), .val (.int (1 : Int32)), .val (.ref lw), .val (.ref up), .val (.ref ps), .val (.ref q), .unset, .unset, .unset]) rfl k) ?_
    show Go _ _ _ _ _ _ _ _ (mkF m 147 #[.val (.int i0), .val (.int i1), .val (.int i2), .val (.int i3), .val (.long j4), .second, .val (.int i5), .val (.int l0), .val (.int u0), .val (.int l1), .val (.int u1), .val (.int p0), .val (.int p1), .val (.int (1 : Int32)), .val (.ref lw), .val (.ref up), .val (.ref ps), .val (.ref q), .unset, .unset, .unset] [])
    refine Go.on (fun _ k => XS.iload X30.here hx rfl (hb hby at_147) rfl k) ?_
    show Go _ _ _ _ _ _ _ _ (mkF m 149 #[.val (.int i0), .val (.int i1), .val (.int i2), .val (.int i3), .val (.long j4), .second, .val (.int i5), .val (.int l0), .val (.int u0), .val (.int l1), .val (.int u1), .val (.int p0), .val (.int p1), .val (.int (1 : Int32)), .val (.ref lw), .val (.ref up), .val (.ref ps), .val (.ref q), .unset, .unset, .unset] [(.int l0)])
    refine Go.on (fun _ k => XS.iload X30.here hx rfl (hb hby at_149) rfl k) ?_
    show Go _ _ _ _ _ _ _ _ (mkF m 151 #[.val (.int i0), .val (.int i1), .val (.int i2), .val (.int i3), .val (.long j4), .second, .val (.int i5), .val (.int l0), .val (.int u0), .val (.int l1), .val (.int u1), .val (.int p0), .val (.int p1), .val (.int (1 : Int32)), .val (.ref lw), .val (.ref up), .val (.ref ps), .val (.ref q), .unset, .unset, .unset] [(.int p0), (.int l0)])
    suffices hJ31 : ∀ (in0 : Int32), in0 = (if p0 < l0 then (0 : Int32) else (if u0 < p0 then (0 : Int32) else (1 : Int32))) → Go p e below s K1 K2 QQ T30 (mkF m 166 #[.val (.int i0), .val (.int i1), .val (.int i2), .val (.int i3), .val (.long j4), .second, .val (.int i5), .val (.int l0), .val (.int u0), .val (.int l1), .val (.int u1), .val (.int p0), .val (.int p1), .val (.int (1 : Int32)), .val (.ref lw), .val (.ref up), .val (.ref ps), .val (.ref q), .unset, .unset, .unset] [(.int in0)]) by
      by_cases hc32 : p0 < l0
      · -- pc 151 yes
        refine Go.on (fun _ k => XS.icmpYes X30.here hx rfl (pc0 := 151) (pc' := 165) rfl (hb hby at_151) rfl (tlt hc32).2.2.1 (by decide) (by decide) k) ?_
        show Go _ _ _ _ _ _ _ _ (mkF m 165 #[.val (.int i0), .val (.int i1), .val (.int i2), .val (.int i3), .val (.long j4), .second, .val (.int i5), .val (.int l0), .val (.int u0), .val (.int l1), .val (.int u1), .val (.int p0), .val (.int p1), .val (.int (1 : Int32)), .val (.ref lw), .val (.ref up), .val (.ref ps), .val (.ref q), .unset, .unset, .unset] [])
        refine Go.on (fun _ k => XS.iconst X30.here hx rfl (hb hby at_165) k) ?_
        show Go _ _ _ _ _ _ _ _ (mkF m 166 #[.val (.int i0), .val (.int i1), .val (.int i2), .val (.int i3), .val (.long j4), .second, .val (.int i5), .val (.int l0), .val (.int u0), .val (.int l1), .val (.int u1), .val (.int p0), .val (.int p1), .val (.int (1 : Int32)), .val (.ref lw), .val (.ref up), .val (.ref ps), .val (.ref q), .unset, .unset, .unset] [(.int (0 : Int32))])
        exact hJ31 _ (by rw [if_pos hc32])
      · -- pc 151 no
        refine Go.on (fun _ k => XS.icmpNo X30.here hx rfl (hb hby at_151) rfl (flt hc32).2.2.1 k) ?_
        show Go _ _ _ _ _ _ _ _ (mkF m 154 #[.val (.int i0), .val (.int i1), .val (.int i2), .val (.int i3), .val (.long j4), .second, .val (.int i5), .val (.int l0), .val (.int u0), .val (.int l1), .val (.int u1), .val (.int p0), .val (.int p1), .val (.int (1 : Int32)), .val (.ref lw), .val (.ref up), .val (.ref ps), .val (.ref q), .unset, .unset, .unset] [])
        refine Go.on (fun _ k => XS.iload X30.here hx rfl (hb hby at_154) rfl k) ?_
        show Go _ _ _ _ _ _ _ _ (mkF m 156 #[.val (.int i0), .val (.int i1), .val (.int i2), .val (.int i3), .val (.long j4), .second, .val (.int i5), .val (.int l0), .val (.int u0), .val (.int l1), .val (.int u1), .val (.int p0), .val (.int p1), .val (.int (1 : Int32)), .val (.ref lw), .val (.ref up), .val (.ref ps), .val (.ref q), .unset, .unset, .unset] [(.int p0)])
        refine Go.on (fun _ k => XS.iload X30.here hx rfl (hb hby at_156) rfl k) ?_
        show Go _ _ _ _ _ _ _ _ (mkF m 158 #[.val (.int i0), .val (.int i1), .val (.int i2), .val (.int i3), .val (.long j4), .second, .val (.int i5), .val (.int l0), .val (.int u0), .val (.int l1), .val (.int u1), .val (.int p0), .val (.int p1), .val (.int (1 : Int32)), .val (.ref lw), .val (.ref up), .val (.ref ps), .val (.ref q), .unset, .unset, .unset] [(.int u0), (.int p0)])
        by_cases hc33 : u0 < p0
        · -- pc 158 yes
          refine Go.on (fun _ k => XS.icmpYes X30.here hx rfl (pc0 := 158) (pc' := 165) rfl (hb hby at_158) rfl (tlt hc33).2.2.1 (by decide) (by decide) k) ?_
          show Go _ _ _ _ _ _ _ _ (mkF m 165 #[.val (.int i0), .val (.int i1), .val (.int i2), .val (.int i3), .val (.long j4), .second, .val (.int i5), .val (.int l0), .val (.int u0), .val (.int l1), .val (.int u1), .val (.int p0), .val (.int p1), .val (.int (1 : Int32)), .val (.ref lw), .val (.ref up), .val (.ref ps), .val (.ref q), .unset, .unset, .unset] [])
          refine Go.on (fun _ k => XS.iconst X30.here hx rfl (hb hby at_165) k) ?_
          show Go _ _ _ _ _ _ _ _ (mkF m 166 #[.val (.int i0), .val (.int i1), .val (.int i2), .val (.int i3), .val (.long j4), .second, .val (.int i5), .val (.int l0), .val (.int u0), .val (.int l1), .val (.int u1), .val (.int p0), .val (.int p1), .val (.int (1 : Int32)), .val (.ref lw), .val (.ref up), .val (.ref ps), .val (.ref q), .unset, .unset, .unset] [(.int (0 : Int32))])
          exact hJ31 _ (by rw [if_neg hc32, if_pos hc33])
        · -- pc 158 no
          refine Go.on (fun _ k => XS.icmpNo X30.here hx rfl (hb hby at_158) rfl (flt hc33).2.2.1 k) ?_
          show Go _ _ _ _ _ _ _ _ (mkF m 161 #[.val (.int i0), .val (.int i1), .val (.int i2), .val (.int i3), .val (.long j4), .second, .val (.int i5), .val (.int l0), .val (.int u0), .val (.int l1), .val (.int u1), .val (.int p0), .val (.int p1), .val (.int (1 : Int32)), .val (.ref lw), .val (.ref up), .val (.ref ps), .val (.ref q), .unset, .unset, .unset] [])
          refine Go.on (fun _ k => XS.iconst X30.here hx rfl (hb hby at_161) k) ?_
          show Go _ _ _ _ _ _ _ _ (mkF m 162 #[.val (.int i0), .val (.int i1), .val (.int i2), .val (.int i3), .val (.long j4), .second, .val (.int i5), .val (.int l0), .val (.int u0), .val (.int l1), .val (.int u1), .val (.int p0), .val (.int p1), .val (.int (1 : Int32)), .val (.ref lw), .val (.ref up), .val (.ref ps), .val (.ref q), .unset, .unset, .unset] [(.int (1 : Int32))])
          refine Go.on (fun _ k => XS.goto X30.here hx rfl (pc0 := 162) (pc' := 166) rfl (hb hby at_162) (by decide) (by decide) k) ?_
          show Go _ _ _ _ _ _ _ _ (mkF m 166 #[.val (.int i0), .val (.int i1), .val (.int i2), .val (.int i3), .val (.long j4), .second, .val (.int i5), .val (.int l0), .val (.int u0), .val (.int l1), .val (.int u1), .val (.int p0), .val (.int p1), .val (.int (1 : Int32)), .val (.ref lw), .val (.ref up), .val (.ref ps), .val (.ref q), .unset, .unset, .unset] [(.int (1 : Int32))])
          exact hJ31 _ (by rw [if_neg hc32, if_neg hc33])
    intro in0 hin0
    refine Go.on (fun _ k => XS.istore X30.here hx rfl (hb hby at_166) rfl (l' := #[.val (.int i0), .val (.int i1), .val (.int i2), .val (.int i3), .val (.long j4), .second, .val (.int i5), .val (.int l0), .val (.int u0), .val (.int l1), .val (.int u1), .val (.int p0), .val (.int p1), .val (.int (1 : Int32)), .val (.ref lw), .val (.ref up), .val (.ref ps), .val (.ref q), .val (.int in0), .unset, .unset]) rfl k) ?_
    show Go _ _ _ _ _ _ _ _ (mkF m 168 #[.val (.int i0), .val (.int i1), .val (.int i2), .val (.int i3), .val (.long j4), .second, .val (.int i5), .val (.int l0), .val (.int u0), .val (.int l1), .val (.int u1), .val (.int p0), .val (.int p1), .val (.int (1 : Int32)), .val (.ref lw), .val (.ref up), .val (.ref ps), .val (.ref q), .val (.int in0), .unset, .unset] [])
    refine Go.on (fun _ k => XS.iload X30.here hx rfl (hb hby at_168) rfl k) ?_
    show Go _ _ _ _ _ _ _ _ (mkF m 170 #[.val (.int i0), .val (.int i1), .val (.int i2), .val (.int i3), .val (.long j4), .second, .val (.int i5), .val (.int l0), .val (.int u0), .val (.int l1), .val (.int u1), .val (.int p0), .val (.int p1), .val (.int (1 : Int32)), .val (.ref lw), .val (.ref up), .val (.ref ps), .val (.ref q), .val (.int in0), .unset, .unset] [(.int l1)])
    refine Go.on (fun _ k => XS.iload X30.here hx rfl (hb hby at_170) rfl k) ?_
    show Go _ _ _ _ _ _ _ _ (mkF m 172 #[.val (.int i0), .val (.int i1), .val (.int i2), .val (.int i3), .val (.long j4), .second, .val (.int i5), .val (.int l0), .val (.int u0), .val (.int l1), .val (.int u1), .val (.int p0), .val (.int p1), .val (.int (1 : Int32)), .val (.ref lw), .val (.ref up), .val (.ref ps), .val (.ref q), .val (.int in0), .unset, .unset] [(.int p1), (.int l1)])
    suffices hJ34 : ∀ (in1 : Int32), in1 = (if p1 < l1 then (0 : Int32) else (if u1 < p1 then (0 : Int32) else (1 : Int32))) → Go p e below s K1 K2 QQ T30 (mkF m 187 #[.val (.int i0), .val (.int i1), .val (.int i2), .val (.int i3), .val (.long j4), .second, .val (.int i5), .val (.int l0), .val (.int u0), .val (.int l1), .val (.int u1), .val (.int p0), .val (.int p1), .val (.int (1 : Int32)), .val (.ref lw), .val (.ref up), .val (.ref ps), .val (.ref q), .val (.int in0), .unset, .unset] [(.int in1)]) by
      by_cases hc35 : p1 < l1
      · -- pc 172 yes
        refine Go.on (fun _ k => XS.icmpYes X30.here hx rfl (pc0 := 172) (pc' := 186) rfl (hb hby at_172) rfl (tlt hc35).2.2.1 (by decide) (by decide) k) ?_
        show Go _ _ _ _ _ _ _ _ (mkF m 186 #[.val (.int i0), .val (.int i1), .val (.int i2), .val (.int i3), .val (.long j4), .second, .val (.int i5), .val (.int l0), .val (.int u0), .val (.int l1), .val (.int u1), .val (.int p0), .val (.int p1), .val (.int (1 : Int32)), .val (.ref lw), .val (.ref up), .val (.ref ps), .val (.ref q), .val (.int in0), .unset, .unset] [])
        refine Go.on (fun _ k => XS.iconst X30.here hx rfl (hb hby at_186) k) ?_
        show Go _ _ _ _ _ _ _ _ (mkF m 187 #[.val (.int i0), .val (.int i1), .val (.int i2), .val (.int i3), .val (.long j4), .second, .val (.int i5), .val (.int l0), .val (.int u0), .val (.int l1), .val (.int u1), .val (.int p0), .val (.int p1), .val (.int (1 : Int32)), .val (.ref lw), .val (.ref up), .val (.ref ps), .val (.ref q), .val (.int in0), .unset, .unset] [(.int (0 : Int32))])
        exact hJ34 _ (by rw [if_pos hc35])
      · -- pc 172 no
        refine Go.on (fun _ k => XS.icmpNo X30.here hx rfl (hb hby at_172) rfl (flt hc35).2.2.1 k) ?_
        show Go _ _ _ _ _ _ _ _ (mkF m 175 #[.val (.int i0), .val (.int i1), .val (.int i2), .val (.int i3), .val (.long j4), .second, .val (.int i5), .val (.int l0), .val (.int u0), .val (.int l1), .val (.int u1), .val (.int p0), .val (.int p1), .val (.int (1 : Int32)), .val (.ref lw), .val (.ref up), .val (.ref ps), .val (.ref q), .val (.int in0), .unset, .unset] [])
        refine Go.on (fun _ k => XS.iload X30.here hx rfl (hb hby at_175) rfl k) ?_
        show Go _ _ _ _ _ _ _ _ (mkF m 177 #[.val (.int i0), .val (.int i1), .val (.int i2), .val (.int i3), .val (.long j4), .second, .val (.int i5), .val (.int l0), .val (.int u0), .val (.int l1), .val (.int u1), .val (.int p0), .val (.int p1), .val (.int (1 : Int32)), .val (.ref lw), .val (.ref up), .val (.ref ps), .val (.ref q), .val (.int in0), .unset, .unset] [(.int p1)])
        refine Go.on (fun _ k => XS.iload X30.here hx rfl (hb hby at_177) rfl k) ?_
        show Go _ _ _ _ _ _ _ _ (mkF m 179 #[.val (.int i0), .val (.int i1), .val (.int i2), .val (.int i3), .val (.long j4), .second, .val (.int i5), .val (.int l0), .val (.int u0), .val (.int l1), .val (.int u1), .val (.int p0), .val (.int p1), .val (.int (1 : Int32)), .val (.ref lw), .val (.ref up), .val (.ref ps), .val (.ref q), .val (.int in0), .unset, .unset] [(.int u1), (.int p1)])
        by_cases hc36 : u1 < p1
        · -- pc 179 yes
          refine Go.on (fun _ k => XS.icmpYes X30.here hx rfl (pc0 := 179) (pc' := 186) rfl (hb hby at_179) rfl (tlt hc36).2.2.1 (by decide) (by decide) k) ?_
          show Go _ _ _ _ _ _ _ _ (mkF m 186 #[.val (.int i0), .val (.int i1), .val (.int i2), .val (.int i3), .val (.long j4), .second, .val (.int i5), .val (.int l0), .val (.int u0), .val (.int l1), .val (.int u1), .val (.int p0), .val (.int p1), .val (.int (1 : Int32)), .val (.ref lw), .val (.ref up), .val (.ref ps), .val (.ref q), .val (.int in0), .unset, .unset] [])
          refine Go.on (fun _ k => XS.iconst X30.here hx rfl (hb hby at_186) k) ?_
          show Go _ _ _ _ _ _ _ _ (mkF m 187 #[.val (.int i0), .val (.int i1), .val (.int i2), .val (.int i3), .val (.long j4), .second, .val (.int i5), .val (.int l0), .val (.int u0), .val (.int l1), .val (.int u1), .val (.int p0), .val (.int p1), .val (.int (1 : Int32)), .val (.ref lw), .val (.ref up), .val (.ref ps), .val (.ref q), .val (.int in0), .unset, .unset] [(.int (0 : Int32))])
          exact hJ34 _ (by rw [if_neg hc35, if_pos hc36])
        · -- pc 179 no
          refine Go.on (fun _ k => XS.icmpNo X30.here hx rfl (hb hby at_179) rfl (flt hc36).2.2.1 k) ?_
          show Go _ _ _ _ _ _ _ _ (mkF m 182 #[.val (.int i0), .val (.int i1), .val (.int i2), .val (.int i3), .val (.long j4), .second, .val (.int i5), .val (.int l0), .val (.int u0), .val (.int l1), .val (.int u1), .val (.int p0), .val (.int p1), .val (.int (1 : Int32)), .val (.ref lw), .val (.ref up), .val (.ref ps), .val (.ref q), .val (.int in0), .unset, .unset] [])
          refine Go.on (fun _ k => XS.iconst X30.here hx rfl (hb hby at_182) k) ?_
          show Go _ _ _ _ _ _ _ _ (mkF m 183 #[.val (.int i0), .val (.int i1), .val (.int i2), .val (.int i3), .val (.long j4), .second, .val (.int i5), .val (.int l0), .val (.int u0), .val (.int l1), .val (.int u1), .val (.int p0), .val (.int p1), .val (.int (1 : Int32)), .val (.ref lw), .val (.ref up), .val (.ref ps), .val (.ref q), .val (.int in0), .unset, .unset] [(.int (1 : Int32))])
          refine Go.on (fun _ k => XS.goto X30.here hx rfl (pc0 := 183) (pc' := 187) rfl (hb hby at_183) (by decide) (by decide) k) ?_
          show Go _ _ _ _ _ _ _ _ (mkF m 187 #[.val (.int i0), .val (.int i1), .val (.int i2), .val (.int i3), .val (.long j4), .second, .val (.int i5), .val (.int l0), .val (.int u0), .val (.int l1), .val (.int u1), .val (.int p0), .val (.int p1), .val (.int (1 : Int32)), .val (.ref lw), .val (.ref up), .val (.ref ps), .val (.ref q), .val (.int in0), .unset, .unset] [(.int (1 : Int32))])
          exact hJ34 _ (by rw [if_neg hc35, if_neg hc36])
    intro in1 hin1
    refine Go.on (fun _ k => XS.istore X30.here hx rfl (hb hby at_187) rfl (l' := #[.val (.int i0), .val (.int i1), .val (.int i2), .val (.int i3), .val (.long j4), .second, .val (.int i5), .val (.int l0), .val (.int u0), .val (.int l1), .val (.int u1), .val (.int p0), .val (.int p1), .val (.int (1 : Int32)), .val (.ref lw), .val (.ref up), .val (.ref ps), .val (.ref q), .val (.int in0), .val (.int in1), .unset]) rfl k) ?_
    show Go _ _ _ _ _ _ _ _ (mkF m 189 #[.val (.int i0), .val (.int i1), .val (.int i2), .val (.int i3), .val (.long j4), .second, .val (.int i5), .val (.int l0), .val (.int u0), .val (.int l1), .val (.int u1), .val (.int p0), .val (.int p1), .val (.int (1 : Int32)), .val (.ref lw), .val (.ref up), .val (.ref ps), .val (.ref q), .val (.int in0), .val (.int in1), .unset] [])
    refine Go.on (fun _ k => XS.iload X30.here hx rfl (hb hby at_189) rfl k) ?_
    show Go _ _ _ _ _ _ _ _ (mkF m 191 #[.val (.int i0), .val (.int i1), .val (.int i2), .val (.int i3), .val (.long j4), .second, .val (.int i5), .val (.int l0), .val (.int u0), .val (.int l1), .val (.int u1), .val (.int p0), .val (.int p1), .val (.int (1 : Int32)), .val (.ref lw), .val (.ref up), .val (.ref ps), .val (.ref q), .val (.int in0), .val (.int in1), .unset] [(.int (1 : Int32))])
    refine Go.on (fun _ k => XS.iconst X30.here hx rfl (hb hby at_191) k) ?_
    show Go _ _ _ _ _ _ _ _ (mkF m 192 #[.val (.int i0), .val (.int i1), .val (.int i2), .val (.int i3), .val (.long j4), .second, .val (.int i5), .val (.int l0), .val (.int u0), .val (.int l1), .val (.int u1), .val (.int p0), .val (.int p1), .val (.int (1 : Int32)), .val (.ref lw), .val (.ref up), .val (.ref ps), .val (.ref q), .val (.int in0), .val (.int in1), .unset] [(.int (1 : Int32)), (.int (1 : Int32))])
    have hc37 : ¬ ((1 : Int32) < (1 : Int32)) := by decide
    refine Go.on (fun _ k => XS.icmpNo X30.here hx rfl (hb hby at_192) rfl (flt hc37).1 k) ?_
    show Go _ _ _ _ _ _ _ _ (mkF m 195 #[.val (.int i0), .val (.int i1), .val (.int i2), .val (.int i3), .val (.long j4), .second, .val (.int i5), .val (.int l0), .val (.int u0), .val (.int l1), .val (.int u1), .val (.int p0), .val (.int p1), .val (.int (1 : Int32)), .val (.ref lw), .val (.ref up), .val (.ref ps), .val (.ref q), .val (.int in0), .val (.int in1), .unset] [])
    refine Go.on (fun _ k => XS.iload X30.here hx rfl (hb hby at_195) rfl k) ?_
    show Go _ _ _ _ _ _ _ _ (mkF m 197 #[.val (.int i0), .val (.int i1), .val (.int i2), .val (.int i3), .val (.long j4), .second, .val (.int i5), .val (.int l0), .val (.int u0), .val (.int l1), .val (.int u1), .val (.int p0), .val (.int p1), .val (.int (1 : Int32)), .val (.ref lw), .val (.ref up), .val (.ref ps), .val (.ref q), .val (.int in0), .val (.int in1), .unset] [(.int in0)])
    suffices hJ38 : ∀ (ex : Int32), ex = (if in0 = (0 : Int32) then (0 : Int32) else (1 : Int32)) → Go p e below s K1 K2 QQ T30 (mkF m 216 #[.val (.int i0), .val (.int i1), .val (.int i2), .val (.int i3), .val (.long j4), .second, .val (.int i5), .val (.int l0), .val (.int u0), .val (.int l1), .val (.int u1), .val (.int p0), .val (.int p1), .val (.int (1 : Int32)), .val (.ref lw), .val (.ref up), .val (.ref ps), .val (.ref q), .val (.int in0), .val (.int in1), .unset] [(.int ex)]) by
      by_cases hc39 : in0 = (0 : Int32)
      · -- pc 197 yes
        refine Go.on (fun _ k => XS.ifYes X30.here hx rfl (pc0 := 197) (pc' := 215) rfl (hb hby at_197) rfl ((if0 _ _).trans (teq hc39).1) (by decide) (by decide) k) ?_
        show Go _ _ _ _ _ _ _ _ (mkF m 215 #[.val (.int i0), .val (.int i1), .val (.int i2), .val (.int i3), .val (.long j4), .second, .val (.int i5), .val (.int l0), .val (.int u0), .val (.int l1), .val (.int u1), .val (.int p0), .val (.int p1), .val (.int (1 : Int32)), .val (.ref lw), .val (.ref up), .val (.ref ps), .val (.ref q), .val (.int in0), .val (.int in1), .unset] [])
        refine Go.on (fun _ k => XS.iconst X30.here hx rfl (hb hby at_215) k) ?_
        show Go _ _ _ _ _ _ _ _ (mkF m 216 #[.val (.int i0), .val (.int i1), .val (.int i2), .val (.int i3), .val (.long j4), .second, .val (.int i5), .val (.int l0), .val (.int u0), .val (.int l1), .val (.int u1), .val (.int p0), .val (.int p1), .val (.int (1 : Int32)), .val (.ref lw), .val (.ref up), .val (.ref ps), .val (.ref q), .val (.int in0), .val (.int in1), .unset] [(.int (0 : Int32))])
        exact hJ38 _ (by rw [if_pos hc39])
      · -- pc 197 no
        refine Go.on (fun _ k => XS.ifNo X30.here hx rfl (hb hby at_197) rfl ((if0 _ _).trans (feq hc39).1) k) ?_
        show Go _ _ _ _ _ _ _ _ (mkF m 200 #[.val (.int i0), .val (.int i1), .val (.int i2), .val (.int i3), .val (.long j4), .second, .val (.int i5), .val (.int l0), .val (.int u0), .val (.int l1), .val (.int u1), .val (.int p0), .val (.int p1), .val (.int (1 : Int32)), .val (.ref lw), .val (.ref up), .val (.ref ps), .val (.ref q), .val (.int in0), .val (.int in1), .unset] [])
        refine Go.on (fun _ k => XS.iload X30.here hx rfl (hb hby at_200) rfl k) ?_
        show Go _ _ _ _ _ _ _ _ (mkF m 202 #[.val (.int i0), .val (.int i1), .val (.int i2), .val (.int i3), .val (.long j4), .second, .val (.int i5), .val (.int l0), .val (.int u0), .val (.int l1), .val (.int u1), .val (.int p0), .val (.int p1), .val (.int (1 : Int32)), .val (.ref lw), .val (.ref up), .val (.ref ps), .val (.ref q), .val (.int in0), .val (.int in1), .unset] [(.int (1 : Int32))])
        refine Go.on (fun _ k => XS.iconst X30.here hx rfl (hb hby at_202) k) ?_
        show Go _ _ _ _ _ _ _ _ (mkF m 203 #[.val (.int i0), .val (.int i1), .val (.int i2), .val (.int i3), .val (.long j4), .second, .val (.int i5), .val (.int l0), .val (.int u0), .val (.int l1), .val (.int u1), .val (.int p0), .val (.int p1), .val (.int (1 : Int32)), .val (.ref lw), .val (.ref up), .val (.ref ps), .val (.ref q), .val (.int in0), .val (.int in1), .unset] [(.int (2 : Int32)), (.int (1 : Int32))])
        have hc40 : (1 : Int32) < (2 : Int32) := by decide
        refine Go.on (fun _ k => XS.icmpYes X30.here hx rfl (pc0 := 203) (pc' := 211) rfl (hb hby at_203) rfl (tlt hc40).1 (by decide) (by decide) k) ?_
        show Go _ _ _ _ _ _ _ _ (mkF m 211 #[.val (.int i0), .val (.int i1), .val (.int i2), .val (.int i3), .val (.long j4), .second, .val (.int i5), .val (.int l0), .val (.int u0), .val (.int l1), .val (.int u1), .val (.int p0), .val (.int p1), .val (.int (1 : Int32)), .val (.ref lw), .val (.ref up), .val (.ref ps), .val (.ref q), .val (.int in0), .val (.int in1), .unset] [])
        refine Go.on (fun _ k => XS.iconst X30.here hx rfl (hb hby at_211) k) ?_
        show Go _ _ _ _ _ _ _ _ (mkF m 212 #[.val (.int i0), .val (.int i1), .val (.int i2), .val (.int i3), .val (.long j4), .second, .val (.int i5), .val (.int l0), .val (.int u0), .val (.int l1), .val (.int u1), .val (.int p0), .val (.int p1), .val (.int (1 : Int32)), .val (.ref lw), .val (.ref up), .val (.ref ps), .val (.ref q), .val (.int in0), .val (.int in1), .unset] [(.int (1 : Int32))])
        refine Go.on (fun _ k => XS.goto X30.here hx rfl (pc0 := 212) (pc' := 216) rfl (hb hby at_212) (by decide) (by decide) k) ?_
        show Go _ _ _ _ _ _ _ _ (mkF m 216 #[.val (.int i0), .val (.int i1), .val (.int i2), .val (.int i3), .val (.long j4), .second, .val (.int i5), .val (.int l0), .val (.int u0), .val (.int l1), .val (.int u1), .val (.int p0), .val (.int p1), .val (.int (1 : Int32)), .val (.ref lw), .val (.ref up), .val (.ref ps), .val (.ref q), .val (.int in0), .val (.int in1), .unset] [(.int (1 : Int32))])
        exact hJ38 _ (by rw [if_neg hc39])
    intro ex hex
    refine Go.on (fun _ k => XS.istore X30.here hx rfl (hb hby at_216) rfl (l' := #[.val (.int i0), .val (.int i1), .val (.int i2), .val (.int i3), .val (.long j4), .second, .val (.int i5), .val (.int l0), .val (.int u0), .val (.int l1), .val (.int u1), .val (.int p0), .val (.int p1), .val (.int (1 : Int32)), .val (.ref lw), .val (.ref up), .val (.ref ps), .val (.ref q), .val (.int in0), .val (.int in1), .val (.int ex)]) rfl k) ?_
    show Go _ _ _ _ _ _ _ _ (mkF m 218 #[.val (.int i0), .val (.int i1), .val (.int i2), .val (.int i3), .val (.long j4), .second, .val (.int i5), .val (.int l0), .val (.int u0), .val (.int l1), .val (.int u1), .val (.int p0), .val (.int p1), .val (.int (1 : Int32)), .val (.ref lw), .val (.ref up), .val (.ref ps), .val (.ref q), .val (.int in0), .val (.int in1), .val (.int ex)] [])
    refine Go.on (fun _ k => XS.aload X30.here hx rfl (hb hby at_218) rfl rfl k) ?_
    show Go _ _ _ _ _ _ _ _ (mkF m 220 #[.val (.int i0), .val (.int i1), .val (.int i2), .val (.int i3), .val (.long j4), .second, .val (.int i5), .val (.int l0), .val (.int u0), .val (.int l1), .val (.int u1), .val (.int p0), .val (.int p1), .val (.int (1 : Int32)), .val (.ref lw), .val (.ref up), .val (.ref ps), .val (.ref q), .val (.int in0), .val (.int in1), .val (.int ex)] [(.ref q)])
    refine Go.on (fun _ k => XS.aload X30.here hx rfl (hb hby at_220) rfl rfl k) ?_
    show Go _ _ _ _ _ _ _ _ (mkF m 222 #[.val (.int i0), .val (.int i1), .val (.int i2), .val (.int i3), .val (.long j4), .second, .val (.int i5), .val (.int l0), .val (.int u0), .val (.int l1), .val (.int u1), .val (.int p0), .val (.int p1), .val (.int (1 : Int32)), .val (.ref lw), .val (.ref up), .val (.ref ps), .val (.ref q), .val (.int in0), .val (.int in1), .val (.int ex)] [(.ref ps), (.ref q)])
    obtain ⟨cq41, kq41, q41a, q41b, q41c⟩ := isOf hZ e30 E_q
    obtain ⟨_, _, ⟨T41, L41, k41, n41⟩, -, X41, ⟨Lc41, hQ41, l41, y41, z41⟩, st41⟩ := X30.virtualBack hx (y := (⟨"com/example/driftswarm/driftswarm/algorithms/Bounds", "contains", "([D)Z"⟩ : MethodName)) (z := (⟨"com/example/driftswarm/driftswarm/algorithms/Bounds", "contains", "([D)Z"⟩ : MethodName)) hown (mvT hZ (hw _ (List.mem_of_getElem? (i := 22) rfl))) (mvT hZ (hw _ (List.mem_of_getElem? (i := 23) rfl))) (notFace_of_selects (args := #[]) (mvT hZ (hw _ (List.mem_of_getElem? (i := 25) rfl)))) (mvT hZ (hw _ (List.mem_of_getElem? (i := 25) rfl))) (mvT hZ (hw _ (List.mem_of_getElem? (i := 24) rfl))) (by decide) (backOf (W := 0) (all_1 l Z aw hw [] q ps lw up k_lw (FP.i2d l0) (FP.i2d l1) k_up (FP.i2d u0) (FP.i2d u1) k_ps (FP.i2d p0) h30 n0 ZZ E_q F_lower_q F_upper_q V_lw V_up V_ps) hZ (hw _ (List.mem_of_getElem? (i := 26) rfl)) (hw _ (List.mem_of_getElem? (i := 11) rfl)) (by decide) (by decide)) q41a q41c (g := (mkF m 222 #[.val (.int i0), .val (.int i1), .val (.int i2), .val (.int i3), .val (.long j4), .second, .val (.int i5), .val (.int l0), .val (.int u0), .val (.int l1), .val (.int u1), .val (.int p0), .val (.int p1), .val (.int (1 : Int32)), .val (.ref lw), .val (.ref up), .val (.ref ps), .val (.ref q), .val (.int in0), .val (.int in1), .val (.int ex)] [(.ref ps), (.ref q)])) rfl (by rw [hml]; rfl) (Steps.refl _) (argsL := [(.ref ps)]) (rest := []) (lenOf pd_3 rfl) rfl (by show 2 * 0 + _ ≤ _; exact Nat.le_of_eq rfl) (hb hby at_222) (fun _ _ => ⟨rfl, e30, (by decide : 4 + 0 ≤ _), (by decide : 7 + 0 ≤ _)⟩)
    dsimp only [Pt.U, Pt.locs, Pt.cells, Pt.slots] at X41 l41 y41 z41 st41 hQ41
    subst l41 y41 z41
    obtain ⟨rfl, N41q, e41⟩ := hQ41
    have N41 := Fr.app N30 N41q
    refine Go.on (fun _ k => st41.trans k) ?_
    show Go _ _ _ _ _ _ _ _ (mkF m 225 #[.val (.int i0), .val (.int i1), .val (.int i2), .val (.int i3), .val (.long j4), .second, .val (.int i5), .val (.int l0), .val (.int u0), .val (.int l1), .val (.int u1), .val (.int p0), .val (.int p1), .val (.int (1 : Int32)), .val (.ref lw), .val (.ref up), .val (.ref ps), .val (.ref q), .val (.int in0), .val (.int in1), .val (.int ex)] [(.int (if (containsV (FP.i2d p0) (if (0 : Int32) = (0 : Int32) then (FP.i2d l0) else (FP.i2d l1)) (if (0 : Int32) = (0 : Int32) then (FP.i2d u0) else (FP.i2d u1))) = (0 : Int32) then (0 : Int32) else (1 : Int32)))])
    generalize hr : (if (containsV (FP.i2d p0) (if (0 : Int32) = (0 : Int32) then (FP.i2d l0) else (FP.i2d l1)) (if (0 : Int32) = (0 : Int32) then (FP.i2d u0) else (FP.i2d u1))) = (0 : Int32) then (0 : Int32) else (1 : Int32)) = r
    show Go _ _ _ _ _ _ _ _ (mkF m 225 #[.val (.int i0), .val (.int i1), .val (.int i2), .val (.int i3), .val (.long j4), .second, .val (.int i5), .val (.int l0), .val (.int u0), .val (.int l1), .val (.int u1), .val (.int p0), .val (.int p1), .val (.int (1 : Int32)), .val (.ref lw), .val (.ref up), .val (.ref ps), .val (.ref q), .val (.int in0), .val (.int in1), .val (.int ex)] [(.int r)])
    refine Go.on (fun _ k => XS.iload X41.here hx rfl (hb hby at_225) rfl k) ?_
    show Go _ _ _ _ _ _ _ _ (mkF m 227 #[.val (.int i0), .val (.int i1), .val (.int i2), .val (.int i3), .val (.long j4), .second, .val (.int i5), .val (.int l0), .val (.int u0), .val (.int l1), .val (.int u1), .val (.int p0), .val (.int p1), .val (.int (1 : Int32)), .val (.ref lw), .val (.ref up), .val (.ref ps), .val (.ref q), .val (.int in0), .val (.int in1), .val (.int ex)] [(.int ex), (.int r)])
    suffices hJ43 : ∀ (v42 : Int32), v42 = (if r = ex then (1 : Int32) else (0 : Int32)) → Go p e below s K1 K2 QQ T41 (mkF m 235 #[.val (.int i0), .val (.int i1), .val (.int i2), .val (.int i3), .val (.long j4), .second, .val (.int i5), .val (.int l0), .val (.int u0), .val (.int l1), .val (.int u1), .val (.int p0), .val (.int p1), .val (.int (1 : Int32)), .val (.ref lw), .val (.ref up), .val (.ref ps), .val (.ref q), .val (.int in0), .val (.int in1), .val (.int ex)] [(.int v42)]) by
      by_cases hc44 : r = ex
      · -- pc 227 yes
        refine Go.on (fun _ k => XS.icmpNo X41.here hx rfl (hb hby at_227) rfl (teq hc44).2 k) ?_
        show Go _ _ _ _ _ _ _ _ (mkF m 230 #[.val (.int i0), .val (.int i1), .val (.int i2), .val (.int i3), .val (.long j4), .second, .val (.int i5), .val (.int l0), .val (.int u0), .val (.int l1), .val (.int u1), .val (.int p0), .val (.int p1), .val (.int (1 : Int32)), .val (.ref lw), .val (.ref up), .val (.ref ps), .val (.ref q), .val (.int in0), .val (.int in1), .val (.int ex)] [])
        refine Go.on (fun _ k => XS.iconst X41.here hx rfl (hb hby at_230) k) ?_
        show Go _ _ _ _ _ _ _ _ (mkF m 231 #[.val (.int i0), .val (.int i1), .val (.int i2), .val (.int i3), .val (.long j4), .second, .val (.int i5), .val (.int l0), .val (.int u0), .val (.int l1), .val (.int u1), .val (.int p0), .val (.int p1), .val (.int (1 : Int32)), .val (.ref lw), .val (.ref up), .val (.ref ps), .val (.ref q), .val (.int in0), .val (.int in1), .val (.int ex)] [(.int (1 : Int32))])
        refine Go.on (fun _ k => XS.goto X41.here hx rfl (pc0 := 231) (pc' := 235) rfl (hb hby at_231) (by decide) (by decide) k) ?_
        show Go _ _ _ _ _ _ _ _ (mkF m 235 #[.val (.int i0), .val (.int i1), .val (.int i2), .val (.int i3), .val (.long j4), .second, .val (.int i5), .val (.int l0), .val (.int u0), .val (.int l1), .val (.int u1), .val (.int p0), .val (.int p1), .val (.int (1 : Int32)), .val (.ref lw), .val (.ref up), .val (.ref ps), .val (.ref q), .val (.int in0), .val (.int in1), .val (.int ex)] [(.int (1 : Int32))])
        exact hJ43 _ (by rw [if_pos hc44])
      · -- pc 227 no
        refine Go.on (fun _ k => XS.icmpYes X41.here hx rfl (pc0 := 227) (pc' := 234) rfl (hb hby at_227) rfl (feq hc44).2 (by decide) (by decide) k) ?_
        show Go _ _ _ _ _ _ _ _ (mkF m 234 #[.val (.int i0), .val (.int i1), .val (.int i2), .val (.int i3), .val (.long j4), .second, .val (.int i5), .val (.int l0), .val (.int u0), .val (.int l1), .val (.int u1), .val (.int p0), .val (.int p1), .val (.int (1 : Int32)), .val (.ref lw), .val (.ref up), .val (.ref ps), .val (.ref q), .val (.int in0), .val (.int in1), .val (.int ex)] [])
        refine Go.on (fun _ k => XS.iconst X41.here hx rfl (hb hby at_234) k) ?_
        show Go _ _ _ _ _ _ _ _ (mkF m 235 #[.val (.int i0), .val (.int i1), .val (.int i2), .val (.int i3), .val (.long j4), .second, .val (.int i5), .val (.int l0), .val (.int u0), .val (.int l1), .val (.int u1), .val (.int p0), .val (.int p1), .val (.int (1 : Int32)), .val (.ref lw), .val (.ref up), .val (.ref ps), .val (.ref q), .val (.int in0), .val (.int in1), .val (.int ex)] [(.int (0 : Int32))])
        exact hJ43 _ (by rw [if_neg hc44])
    intro v42 hv42
    refine Go.retN X41 hx (t := .boolean) Bd.returns (by simp) (hb hby at_235) ?_ (by rw [hK1]; decide) (by rw [hK2]; decide)
    rw [e41, ← hQQ]
    have hres : v42 = 1 := own_pure1 hin0 hex hr hv42
    rw [hres]
    exact ⟨rfl, N41⟩
  · -- length 2
    subst hl
    show Go _ _ _ _ _ _ _ _ (mkF m 84 #[.val (.int i0), .val (.int i1), .val (.int i2), .val (.int i3), .val (.long j4), .second, .val (.int i5), .val (.int l0), .val (.int u0), .val (.int l1), .val (.int u1), .val (.int p0), .val (.int p1), .val (.int (2 : Int32)), .val (.ref lw), .val (.ref up), .unset, .unset, .unset, .unset, .unset] [])
    refine Go.on (fun _ k => XS.iload X10.here hx rfl (hb hby at_84) rfl k) ?_
    show Go _ _ _ _ _ _ _ _ (mkF m 86 #[.val (.int i0), .val (.int i1), .val (.int i2), .val (.int i3), .val (.long j4), .second, .val (.int i5), .val (.int l0), .val (.int u0), .val (.int l1), .val (.int u1), .val (.int p0), .val (.int p1), .val (.int (2 : Int32)), .val (.ref lw), .val (.ref up), .unset, .unset, .unset, .unset, .unset] [(.int (2 : Int32))])
    have hc45 : ¬ ((2 : Int32) = (0 : Int32)) := by decide
    refine Go.on (fun _ k => XS.ifYes X10.here hx rfl (pc0 := 86) (pc' := 97) rfl (hb hby at_86) rfl ((if0 _ _).trans (feq hc45).2) (by decide) (by decide) k) ?_
    show Go _ _ _ _ _ _ _ _ (mkF m 97 #[.val (.int i0), .val (.int i1), .val (.int i2), .val (.int i3), .val (.long j4), .second, .val (.int i5), .val (.int l0), .val (.int u0), .val (.int l1), .val (.int u1), .val (.int p0), .val (.int p1), .val (.int (2 : Int32)), .val (.ref lw), .val (.ref up), .unset, .unset, .unset, .unset, .unset] [])
    refine Go.on (fun _ k => XS.iload X10.here hx rfl (hb hby at_97) rfl k) ?_
    show Go _ _ _ _ _ _ _ _ (mkF m 99 #[.val (.int i0), .val (.int i1), .val (.int i2), .val (.int i3), .val (.long j4), .second, .val (.int i5), .val (.int l0), .val (.int u0), .val (.int l1), .val (.int u1), .val (.int p0), .val (.int p1), .val (.int (2 : Int32)), .val (.ref lw), .val (.ref up), .unset, .unset, .unset, .unset, .unset] [(.int (2 : Int32))])
    refine Go.on (fun _ k => XS.iconst X10.here hx rfl (hb hby at_99) k) ?_
    show Go _ _ _ _ _ _ _ _ (mkF m 100 #[.val (.int i0), .val (.int i1), .val (.int i2), .val (.int i3), .val (.long j4), .second, .val (.int i5), .val (.int l0), .val (.int u0), .val (.int l1), .val (.int u1), .val (.int p0), .val (.int p1), .val (.int (2 : Int32)), .val (.ref lw), .val (.ref up), .unset, .unset, .unset, .unset, .unset] [(.int (1 : Int32)), (.int (2 : Int32))])
    have hc46 : ¬ ((2 : Int32) = (1 : Int32)) := by decide
    refine Go.on (fun _ k => XS.icmpYes X10.here hx rfl (pc0 := 100) (pc' := 117) rfl (hb hby at_100) rfl (feq hc46).2 (by decide) (by decide) k) ?_
    show Go _ _ _ _ _ _ _ _ (mkF m 117 #[.val (.int i0), .val (.int i1), .val (.int i2), .val (.int i3), .val (.long j4), .second, .val (.int i5), .val (.int l0), .val (.int u0), .val (.int l1), .val (.int u1), .val (.int p0), .val (.int p1), .val (.int (2 : Int32)), .val (.ref lw), .val (.ref up), .unset, .unset, .unset, .unset, .unset] [])
    refine Go.on (fun _ k => XS.iconst X10.here hx rfl (hb hby at_117) k) ?_
    show Go _ _ _ _ _ _ _ _ (mkF m 118 #[.val (.int i0), .val (.int i1), .val (.int i2), .val (.int i3), .val (.long j4), .second, .val (.int i5), .val (.int l0), .val (.int u0), .val (.int l1), .val (.int u1), .val (.int p0), .val (.int p1), .val (.int (2 : Int32)), .val (.ref lw), .val (.ref up), .unset, .unset, .unset, .unset, .unset] [(.int (2 : Int32))])
    obtain ⟨T47, h47, k_ps, X47, e47, E47, A47, st47⟩ := newP X10 hx hZ (hw _ (List.mem_of_getElem? (i := 8) rfl)) e10 (g := (mkF m 118 #[.val (.int i0), .val (.int i1), .val (.int i2), .val (.int i3), .val (.long j4), .second, .val (.int i5), .val (.int l0), .val (.int u0), .val (.int l1), .val (.int u1), .val (.int p0), .val (.int p1), .val (.int (2 : Int32)), .val (.ref lw), .val (.ref up), .unset, .unset, .unset, .unset, .unset] [(.int (2 : Int32))])) rfl (hb hby at_118) rfl (by decide) (cap := 2) (by decide) (by decide) (by decide) (by decide)
    obtain ⟨ps, g47⟩ : ∃ z, z = h10.size := ⟨_, rfl⟩
    have ne_lw_ps : lw ≠ ps := Nat.ne_of_lt (Nat.lt_of_lt_of_le V_lw.lt (Nat.le_of_eq g47.symm))
    have ne_up_ps : up ≠ ps := Nat.ne_of_lt (Nat.lt_of_lt_of_le V_up.lt (Nat.le_of_eq g47.symm))
    have g_ps : n0 ≤ ps := Nat.le_trans ZZ (Nat.le_of_eq g47.symm)
    rw [← g47] at A47 st47
    replace V_lw := V_lw.ext E47
    replace V_up := V_up.ext E47
    replace ZZ := Nat.le_trans ZZ E47.1
    have V_ps : Arv Z h47 ps k_ps .double (2 : Int32) [(.double (0 : UInt64)), (.double (0 : UInt64))] (.double (0 : UInt64)) := (Arv.new A47 (by decide)).pad (pad_rep [] (.double (0 : UInt64)) 2)
    refine Go.on st47 ?_
    show Go _ _ _ _ _ _ _ _ (mkF m 120 #[.val (.int i0), .val (.int i1), .val (.int i2), .val (.int i3), .val (.long j4), .second, .val (.int i5), .val (.int l0), .val (.int u0), .val (.int l1), .val (.int u1), .val (.int p0), .val (.int p1), .val (.int (2 : Int32)), .val (.ref lw), .val (.ref up), .unset, .unset, .unset, .unset, .unset] [(.ref ps)])
    refine Go.on (fun _ k => XS.dup X47.here hx rfl (hb hby at_120) rfl rfl k) ?_
    show Go _ _ _ _ _ _ _ _ (mkF m 121 #[.val (.int i0), .val (.int i1), .val (.int i2), .val (.int i3), .val (.long j4), .second, .val (.int i5), .val (.int l0), .val (.int u0), .val (.int l1), .val (.int u1), .val (.int p0), .val (.int p1), .val (.int (2 : Int32)), .val (.ref lw), .val (.ref up), .unset, .unset, .unset, .unset, .unset] [(.ref ps), (.ref ps)])
    refine Go.on (fun _ k => XS.iconst X47.here hx rfl (hb hby at_121) k) ?_
    show Go _ _ _ _ _ _ _ _ (mkF m 122 #[.val (.int i0), .val (.int i1), .val (.int i2), .val (.int i3), .val (.long j4), .second, .val (.int i5), .val (.int l0), .val (.int u0), .val (.int l1), .val (.int u1), .val (.int p0), .val (.int p1), .val (.int (2 : Int32)), .val (.ref lw), .val (.ref up), .unset, .unset, .unset, .unset, .unset] [(.int (0 : Int32)), (.ref ps), (.ref ps)])
    refine Go.on (fun _ k => XS.iload X47.here hx rfl (hb hby at_122) rfl k) ?_
    show Go _ _ _ _ _ _ _ _ (mkF m 124 #[.val (.int i0), .val (.int i1), .val (.int i2), .val (.int i3), .val (.long j4), .second, .val (.int i5), .val (.int l0), .val (.int u0), .val (.int l1), .val (.int u1), .val (.int p0), .val (.int p1), .val (.int (2 : Int32)), .val (.ref lw), .val (.ref up), .unset, .unset, .unset, .unset, .unset] [(.int p0), (.int (0 : Int32)), (.ref ps), (.ref ps)])
    refine Go.on (fun _ k => XS.i2dS X47.here hx rfl (hb hby at_124) rfl rfl k) ?_
    show Go _ _ _ _ _ _ _ _ (mkF m 125 #[.val (.int i0), .val (.int i1), .val (.int i2), .val (.int i3), .val (.long j4), .second, .val (.int i5), .val (.int l0), .val (.int u0), .val (.int l1), .val (.int u1), .val (.int p0), .val (.int p1), .val (.int (2 : Int32)), .val (.ref lw), .val (.ref up), .unset, .unset, .unset, .unset, .unset] [(.double (FP.i2d p0)), (.int (0 : Int32)), (.ref ps), (.ref ps)])
    obtain ⟨cl48, Ar48, q48, S48, N48n, H48, G48⟩ := id V_ps
    have hin48 : ¬ ((0 : Int32) < 0 ∨ cl48.slots.size ≤ ((0 : Int32)).toNatClampNeg) := inb_of S48 ⟨by decide, by decide⟩
    obtain ⟨T48, h48, X48, e48, W48, st48⟩ := stD X47 hx hZ e47 Ar48 (j := (0 : Int32)) hin48 (g := (mkF m 125 #[.val (.int i0), .val (.int i1), .val (.int i2), .val (.int i3), .val (.long j4), .second, .val (.int i5), .val (.int l0), .val (.int u0), .val (.int l1), .val (.int u1), .val (.int p0), .val (.int p1), .val (.int (2 : Int32)), .val (.ref lw), .val (.ref up), .unset, .unset, .unset, .unset, .unset] [(.double (FP.i2d p0)), (.int (0 : Int32)), (.ref ps), (.ref ps)])) rfl rfl (hb hby at_125)
    replace V_ps := Arv.set Ar48 q48 S48 N48n H48 G48 rfl W48 0 rfl (Nat.le_of_ble_eq_true rfl)
    replace V_lw := V_lw.other W48 ne_lw_ps
    replace V_up := V_up.other W48 ne_up_ps
    refine Go.on st48 ?_
    have N48 := Fr.snoc X48 N10 g_ps
    replace ZZ := Nat.le_trans ZZ (Keep.of_wr W48).1
    change Arv Z h48 ps k_ps .double (2 : Int32) [(.double (FP.i2d p0)), (.double (0 : UInt64))] (.double (0 : UInt64)) at V_ps
    show Go _ _ _ _ _ _ _ _ (mkF m 126 #[.val (.int i0), .val (.int i1), .val (.int i2), .val (.int i3), .val (.long j4), .second, .val (.int i5), .val (.int l0), .val (.int u0), .val (.int l1), .val (.int u1), .val (.int p0), .val (.int p1), .val (.int (2 : Int32)), .val (.ref lw), .val (.ref up), .unset, .unset, .unset, .unset, .unset] [(.ref ps)])
    refine Go.on (fun _ k => XS.dup X48.here hx rfl (hb hby at_126) rfl rfl k) ?_
    show Go _ _ _ _ _ _ _ _ (mkF m 127 #[.val (.int i0), .val (.int i1), .val (.int i2), .val (.int i3), .val (.long j4), .second, .val (.int i5), .val (.int l0), .val (.int u0), .val (.int l1), .val (.int u1), .val (.int p0), .val (.int p1), .val (.int (2 : Int32)), .val (.ref lw), .val (.ref up), .unset, .unset, .unset, .unset, .unset] [(.ref ps), (.ref ps)])
    refine Go.on (fun _ k => XS.iconst X48.here hx rfl (hb hby at_127) k) ?_
    show Go _ _ _ _ _ _ _ _ (mkF m 128 #[.val (.int i0), .val (.int i1), .val (.int i2), .val (.int i3), .val (.long j4), .second, .val (.int i5), .val (.int l0), .val (.int u0), .val (.int l1), .val (.int u1), .val (.int p0), .val (.int p1), .val (.int (2 : Int32)), .val (.ref lw), .val (.ref up), .unset, .unset, .unset, .unset, .unset] [(.int (1 : Int32)), (.ref ps), (.ref ps)])
    refine Go.on (fun _ k => XS.iload X48.here hx rfl (hb hby at_128) rfl k) ?_
    show Go _ _ _ _ _ _ _ _ (mkF m 130 #[.val (.int i0), .val (.int i1), .val (.int i2), .val (.int i3), .val (.long j4), .second, .val (.int i5), .val (.int l0), .val (.int u0), .val (.int l1), .val (.int u1), .val (.int p0), .val (.int p1), .val (.int (2 : Int32)), .val (.ref lw), .val (.ref up), .unset, .unset, .unset, .unset, .unset] [(.int p1), (.int (1 : Int32)), (.ref ps), (.ref ps)])
    refine Go.on (fun _ k => XS.i2dS X48.here hx rfl (hb hby at_130) rfl rfl k) ?_
    show Go _ _ _ _ _ _ _ _ (mkF m 131 #[.val (.int i0), .val (.int i1), .val (.int i2), .val (.int i3), .val (.long j4), .second, .val (.int i5), .val (.int l0), .val (.int u0), .val (.int l1), .val (.int u1), .val (.int p0), .val (.int p1), .val (.int (2 : Int32)), .val (.ref lw), .val (.ref up), .unset, .unset, .unset, .unset, .unset] [(.double (FP.i2d p1)), (.int (1 : Int32)), (.ref ps), (.ref ps)])
    obtain ⟨cl49, Ar49, q49, S49, N49n, H49, G49⟩ := id V_ps
    have hin49 : ¬ ((1 : Int32) < 0 ∨ cl49.slots.size ≤ ((1 : Int32)).toNatClampNeg) := inb_of S49 ⟨by decide, by decide⟩
    obtain ⟨T49, h49, X49, e49, W49, st49⟩ := stD X48 hx hZ e48 Ar49 (j := (1 : Int32)) hin49 (g := (mkF m 131 #[.val (.int i0), .val (.int i1), .val (.int i2), .val (.int i3), .val (.long j4), .second, .val (.int i5), .val (.int l0), .val (.int u0), .val (.int l1), .val (.int u1), .val (.int p0), .val (.int p1), .val (.int (2 : Int32)), .val (.ref lw), .val (.ref up), .unset, .unset, .unset, .unset, .unset] [(.double (FP.i2d p1)), (.int (1 : Int32)), (.ref ps), (.ref ps)])) rfl rfl (hb hby at_131)
    replace V_ps := Arv.set Ar49 q49 S49 N49n H49 G49 rfl W49 1 rfl (Nat.le_of_ble_eq_true rfl)
    replace V_lw := V_lw.other W49 ne_lw_ps
    replace V_up := V_up.other W49 ne_up_ps
    refine Go.on st49 ?_
    have N49 := Fr.snoc X49 N48 g_ps
    replace ZZ := Nat.le_trans ZZ (Keep.of_wr W49).1
    change Arv Z h49 ps k_ps .double (2 : Int32) [(.double (FP.i2d p0)), (.double (FP.i2d p1))] (.double (0 : UInt64)) at V_ps
    show Go _ _ _ _ _ _ _ _ (mkF m 132 #[.val (.int i0), .val (.int i1), .val (.int i2), .val (.int i3), .val (.long j4), .second, .val (.int i5), .val (.int l0), .val (.int u0), .val (.int l1), .val (.int u1), .val (.int p0), .val (.int p1), .val (.int (2 : Int32)), .val (.ref lw), .val (.ref up), .unset, .unset, .unset, .unset, .unset] [(.ref ps)])
    refine Go.on (fun _ k => XS.astore X49.here hx rfl (hb hby at_132) rfl rfl (l' := #[.val (.int i0), .val (.int i1), .val (.int i2), .val (.int i3), .val (.long j4), .second, .val (.int i5), .val (.int l0), .val (.int u0), .val (.int l1), .val (.int u1), .val (.int p0), .val (.int p1), .val (.int (2 : Int32)), .val (.ref lw), .val (.ref up), .val (.ref ps), .unset, .unset, .unset, .unset]) rfl k) ?_
    show Go _ _ _ _ _ _ _ _ (mkF m 134 #[.val (.int i0), .val (.int i1), .val (.int i2), .val (.int i3), .val (.long j4), .second, .val (.int i5), .val (.int l0), .val (.int u0), .val (.int l1), .val (.int u1), .val (.int p0), .val (.int p1), .val (.int (2 : Int32)), .val (.ref lw), .val (.ref up), .val (.ref ps), .unset, .unset, .unset, .unset] [])
    obtain ⟨T50, h50, X50, e50, E50, A50, D50, -, st50⟩ := newO X49 hx hZ hown (hw _ (List.mem_of_getElem? (i := 9) rfl)) (hw _ (List.mem_of_getElem? (i := 10) rfl)) (hw _ (List.mem_of_getElem? (i := 11) rfl)) e49 (g := (mkF m 134 #[.val (.int i0), .val (.int i1), .val (.int i2), .val (.int i3), .val (.long j4), .second, .val (.int i5), .val (.int l0), .val (.int u0), .val (.int l1), .val (.int u1), .val (.int p0), .val (.int p1), .val (.int (2 : Int32)), .val (.ref lw), .val (.ref up), .val (.ref ps), .unset, .unset, .unset, .unset] [])) rfl (hb hby at_134) (by decide) (by decide)
    obtain ⟨q, g50⟩ : ∃ z, z = h49.size := ⟨_, rfl⟩
    have ne_lw_q : lw ≠ q := Nat.ne_of_lt (Nat.lt_of_lt_of_le V_lw.lt (Nat.le_of_eq g50.symm))
    have ne_up_q : up ≠ q := Nat.ne_of_lt (Nat.lt_of_lt_of_le V_up.lt (Nat.le_of_eq g50.symm))
    have ne_ps_q : ps ≠ q := Nat.ne_of_lt (Nat.lt_of_lt_of_le V_ps.lt (Nat.le_of_eq g50.symm))
    have g_q : n0 ≤ q := Nat.le_trans ZZ (Nat.le_of_eq g50.symm)
    rw [← g50] at A50 D50 st50
    replace V_lw := V_lw.ext E50
    replace V_up := V_up.ext E50
    replace V_ps := V_ps.ext E50
    replace ZZ := Nat.le_trans ZZ E50.1
    have E_q := A50
    have F_lower_q : Fld Z h50 q "com/example/driftswarm/driftswarm/algorithms/Bounds" "lower" "[D" .null := D50 (Or.inr (hw _ (List.mem_of_getElem? (i := 19) rfl))) (ty := (.array .double)) (by decide)
    have F_upper_q : Fld Z h50 q "com/example/driftswarm/driftswarm/algorithms/Bounds" "upper" "[D" .null := D50 (Or.inr (hw _ (List.mem_of_getElem? (i := 21) rfl))) (ty := (.array .double)) (by decide)
    refine Go.on st50 ?_
    show Go _ _ _ _ _ _ _ _ (mkF m 137 #[.val (.int i0), .val (.int i1), .val (.int i2), .val (.int i3), .val (.long j4), .second, .val (.int i5), .val (.int l0), .val (.int u0), .val (.int l1), .val (.int u1), .val (.int p0), .val (.int p1), .val (.int (2 : Int32)), .val (.ref lw), .val (.ref up), .val (.ref ps), .unset, .unset, .unset, .unset] [(.ref q)])
    refine Go.on (fun _ k => XS.dup X50.here hx rfl (hb hby at_137) rfl rfl k) ?_
    show Go _ _ _ _ _ _ _ _ (mkF m 138 #[.val (.int i0), .val (.int i1), .val (.int i2), .val (.int i3), .val (.long j4), .second, .val (.int i5), .val (.int l0), .val (.int u0), .val (.int l1), .val (.int u1), .val (.int p0), .val (.int p1), .val (.int (2 : Int32)), .val (.ref lw), .val (.ref up), .val (.ref ps), .unset, .unset, .unset, .unset] [(.ref q), (.ref q)])
    refine Go.on (fun _ k => XS.aload X50.here hx rfl (hb hby at_138) rfl rfl k) ?_
    show Go _ _ _ _ _ _ _ _ (mkF m 140 #[.val (.int i0), .val (.int i1), .val (.int i2), .val (.int i3), .val (.long j4), .second, .val (.int i5), .val (.int l0), .val (.int u0), .val (.int l1), .val (.int u1), .val (.int p0), .val (.int p1), .val (.int (2 : Int32)), .val (.ref lw), .val (.ref up), .val (.ref ps), .unset, .unset, .unset, .unset] [(.ref lw), (.ref q), (.ref q)])
    refine Go.on (fun _ k => XS.aload X50.here hx rfl (hb hby at_140) rfl rfl k) ?_
    show Go _ _ _ _ _ _ _ _ (mkF m 142 #[.val (.int i0), .val (.int i1), .val (.int i2), .val (.int i3), .val (.long j4), .second, .val (.int i5), .val (.int l0), .val (.int u0), .val (.int l1), .val (.int u1), .val (.int p0), .val (.int p1), .val (.int (2 : Int32)), .val (.ref lw), .val (.ref up), .val (.ref ps), .unset, .unset, .unset, .unset] [(.ref up), (.ref lw), (.ref q), (.ref q)])
    obtain ⟨_, _, ⟨T51, L51, k51, n51⟩, -, X51, ⟨Lc51, hQ51, l51, y51, z51⟩, st51⟩ := X50.specialBack hx (y := (⟨"com/example/driftswarm/driftswarm/algorithms/Bounds", "<init>", "([D[D)V"⟩ : MethodName)) rfl hown (mvT hZ (hw _ (List.mem_of_getElem? (i := 12) rfl))) (mvT hZ (hw _ (List.mem_of_getElem? (i := 13) rfl))) (mvT hZ (hw _ (List.mem_of_getElem? (i := 14) rfl))) (by decide) (backOf (W := 1) (rm3 l Z aw hw [] q lw up .null .null k_lw (FP.i2d l0) (FP.i2d l1) k_up (FP.i2d u0) (FP.i2d u1) h50 n0 ZZ E_q F_lower_q F_upper_q V_lw V_up g_q (own_mm hl0 hu0) (own_mm hl1 hu1) (ne_lw_q) (ne_up_q)) hZ (hw _ (List.mem_of_getElem? (i := 14) rfl)) (hw _ (List.mem_of_getElem? (i := 11) rfl)) (by decide) (by decide)) (g := (mkF m 142 #[.val (.int i0), .val (.int i1), .val (.int i2), .val (.int i3), .val (.long j4), .second, .val (.int i5), .val (.int l0), .val (.int u0), .val (.int l1), .val (.int u1), .val (.int p0), .val (.int p1), .val (.int (2 : Int32)), .val (.ref lw), .val (.ref up), .val (.ref ps), .unset, .unset, .unset, .unset] [(.ref up), (.ref lw), (.ref q), (.ref q)])) rfl (by rw [hml]; rfl) (Steps.refl _) (a := q) (argsL := [(.ref lw), (.ref up)]) (rest := [(.ref q)]) (lenOf pd_2 rfl) rfl (by show 2 * 0 + _ ≤ _; exact Nat.le_of_eq rfl) (hb hby at_142) (fun _ _ => ⟨rfl, e50, (by decide : 4 + 0 ≤ _), (by decide : 8 + 0 ≤ _)⟩)
    dsimp only [Pt.U, Pt.locs, Pt.cells, Pt.slots] at X51 l51 y51 z51 st51 hQ51
    subst l51 y51 z51
    obtain ⟨h51, e51⟩ : ∃ q, T51.heap = q := ⟨_, rfl⟩
    rw [e51] at hQ51
    obtain ⟨rfl, N51q, K51q, E_q', F_lower_q', F_upper_q'⟩ := hQ51
    have N51 := Fr.app N49 N51q
    replace V_lw := V_lw.keep K51q (ninS ne_lw_q nin0)
    replace V_up := V_up.keep K51q (ninS ne_up_q nin0)
    replace V_ps := V_ps.keep K51q (ninS ne_ps_q nin0)
    replace E_q := E_q.keep K51q
    replace ZZ := Nat.le_trans ZZ K51q.1
    replace E_q := E_q'
    have F_lower_q := F_lower_q'
    have F_upper_q := F_upper_q'
    refine Go.on (fun _ k => st51.trans k) ?_
    show Go _ _ _ _ _ _ _ _ (mkF m 145 #[.val (.int i0), .val (.int i1), .val (.int i2), .val (.int i3), .val (.long j4), .second, .val (.int i5), .val (.int l0), .val (.int u0), .val (.int l1), .val (.int u1), .val (.int p0), .val (.int p1), .val (.int (2 : Int32)), .val (.ref lw), .val (.ref up), .val (.ref ps), .unset, .unset, .unset, .unset] [(.ref q)])
    refine Go.on (fun _ k => XS.astore X51.here hx rfl (hb hby at_145) rfl rfl (l' := #[.val (.int i0), .val (.int i1), .val (.int i2), .val (.int i3), .val (.long j4), .second, .val (.int i5), .val (.int l0), .val (.int u0), .val (.int l1), .val (.int u1), .val (.int p0), .val (.int p1), .val (.int (2 : Int32)), .val (.ref lw), .val (.ref up), .val (.ref ps), .val (.ref q), .unset, .unset, .unset]) rfl k) ?_
    show Go _ _ _ _ _ _ _ _ (mkF m 147 #[.val (.int i0), .val (.int i1), .val (.int i2), .val (.int i3), .val (.long j4), .second, .val (.int i5), .val (.int l0), .val (.int u0), .val (.int l1), .val (.int u1), .val (.int p0), .val (.int p1), .val (.int (2 : Int32)), .val (.ref lw), .val (.ref up), .val (.ref ps), .val (.ref q), .unset, .unset, .unset] [])
    refine Go.on (fun _ k => XS.iload X51.here hx rfl (hb hby at_147) rfl k) ?_
    show Go _ _ _ _ _ _ _ _ (mkF m 149 #[.val (.int i0), .val (.int i1), .val (.int i2), .val (.int i3), .val (.long j4), .second, .val (.int i5), .val (.int l0), .val (.int u0), .val (.int l1), .val (.int u1), .val (.int p0), .val (.int p1), .val (.int (2 : Int32)), .val (.ref lw), .val (.ref up), .val (.ref ps), .val (.ref q), .unset, .unset, .unset] [(.int l0)])
    refine Go.on (fun _ k => XS.iload X51.here hx rfl (hb hby at_149) rfl k) ?_
    show Go _ _ _ _ _ _ _ _ (mkF m 151 #[.val (.int i0), .val (.int i1), .val (.int i2), .val (.int i3), .val (.long j4), .second, .val (.int i5), .val (.int l0), .val (.int u0), .val (.int l1), .val (.int u1), .val (.int p0), .val (.int p1), .val (.int (2 : Int32)), .val (.ref lw), .val (.ref up), .val (.ref ps), .val (.ref q), .unset, .unset, .unset] [(.int p0), (.int l0)])
    suffices hJ52 : ∀ (in0 : Int32), in0 = (if p0 < l0 then (0 : Int32) else (if u0 < p0 then (0 : Int32) else (1 : Int32))) → Go p e below s K1 K2 QQ T51 (mkF m 166 #[.val (.int i0), .val (.int i1), .val (.int i2), .val (.int i3), .val (.long j4), .second, .val (.int i5), .val (.int l0), .val (.int u0), .val (.int l1), .val (.int u1), .val (.int p0), .val (.int p1), .val (.int (2 : Int32)), .val (.ref lw), .val (.ref up), .val (.ref ps), .val (.ref q), .unset, .unset, .unset] [(.int in0)]) by
      by_cases hc53 : p0 < l0
      · -- pc 151 yes
        refine Go.on (fun _ k => XS.icmpYes X51.here hx rfl (pc0 := 151) (pc' := 165) rfl (hb hby at_151) rfl (tlt hc53).2.2.1 (by decide) (by decide) k) ?_
        show Go _ _ _ _ _ _ _ _ (mkF m 165 #[.val (.int i0), .val (.int i1), .val (.int i2), .val (.int i3), .val (.long j4), .second, .val (.int i5), .val (.int l0), .val (.int u0), .val (.int l1), .val (.int u1), .val (.int p0), .val (.int p1), .val (.int (2 : Int32)), .val (.ref lw), .val (.ref up), .val (.ref ps), .val (.ref q), .unset, .unset, .unset] [])
        refine Go.on (fun _ k => XS.iconst X51.here hx rfl (hb hby at_165) k) ?_
        show Go _ _ _ _ _ _ _ _ (mkF m 166 #[.val (.int i0), .val (.int i1), .val (.int i2), .val (.int i3), .val (.long j4), .second, .val (.int i5), .val (.int l0), .val (.int u0), .val (.int l1), .val (.int u1), .val (.int p0), .val (.int p1), .val (.int (2 : Int32)), .val (.ref lw), .val (.ref up), .val (.ref ps), .val (.ref q), .unset, .unset, .unset] [(.int (0 : Int32))])
        exact hJ52 _ (by rw [if_pos hc53])
      · -- pc 151 no
        refine Go.on (fun _ k => XS.icmpNo X51.here hx rfl (hb hby at_151) rfl (flt hc53).2.2.1 k) ?_
        show Go _ _ _ _ _ _ _ _ (mkF m 154 #[.val (.int i0), .val (.int i1), .val (.int i2), .val (.int i3), .val (.long j4), .second, .val (.int i5), .val (.int l0), .val (.int u0), .val (.int l1), .val (.int u1), .val (.int p0), .val (.int p1), .val (.int (2 : Int32)), .val (.ref lw), .val (.ref up), .val (.ref ps), .val (.ref q), .unset, .unset, .unset] [])
        refine Go.on (fun _ k => XS.iload X51.here hx rfl (hb hby at_154) rfl k) ?_
        show Go _ _ _ _ _ _ _ _ (mkF m 156 #[.val (.int i0), .val (.int i1), .val (.int i2), .val (.int i3), .val (.long j4), .second, .val (.int i5), .val (.int l0), .val (.int u0), .val (.int l1), .val (.int u1), .val (.int p0), .val (.int p1), .val (.int (2 : Int32)), .val (.ref lw), .val (.ref up), .val (.ref ps), .val (.ref q), .unset, .unset, .unset] [(.int p0)])
        refine Go.on (fun _ k => XS.iload X51.here hx rfl (hb hby at_156) rfl k) ?_
        show Go _ _ _ _ _ _ _ _ (mkF m 158 #[.val (.int i0), .val (.int i1), .val (.int i2), .val (.int i3), .val (.long j4), .second, .val (.int i5), .val (.int l0), .val (.int u0), .val (.int l1), .val (.int u1), .val (.int p0), .val (.int p1), .val (.int (2 : Int32)), .val (.ref lw), .val (.ref up), .val (.ref ps), .val (.ref q), .unset, .unset, .unset] [(.int u0), (.int p0)])
        by_cases hc54 : u0 < p0
        · -- pc 158 yes
          refine Go.on (fun _ k => XS.icmpYes X51.here hx rfl (pc0 := 158) (pc' := 165) rfl (hb hby at_158) rfl (tlt hc54).2.2.1 (by decide) (by decide) k) ?_
          show Go _ _ _ _ _ _ _ _ (mkF m 165 #[.val (.int i0), .val (.int i1), .val (.int i2), .val (.int i3), .val (.long j4), .second, .val (.int i5), .val (.int l0), .val (.int u0), .val (.int l1), .val (.int u1), .val (.int p0), .val (.int p1), .val (.int (2 : Int32)), .val (.ref lw), .val (.ref up), .val (.ref ps), .val (.ref q), .unset, .unset, .unset] [])
          refine Go.on (fun _ k => XS.iconst X51.here hx rfl (hb hby at_165) k) ?_
          show Go _ _ _ _ _ _ _ _ (mkF m 166 #[.val (.int i0), .val (.int i1), .val (.int i2), .val (.int i3), .val (.long j4), .second, .val (.int i5), .val (.int l0), .val (.int u0), .val (.int l1), .val (.int u1), .val (.int p0), .val (.int p1), .val (.int (2 : Int32)), .val (.ref lw), .val (.ref up), .val (.ref ps), .val (.ref q), .unset, .unset, .unset] [(.int (0 : Int32))])
          exact hJ52 _ (by rw [if_neg hc53, if_pos hc54])
        · -- pc 158 no
          refine Go.on (fun _ k => XS.icmpNo X51.here hx rfl (hb hby at_158) rfl (flt hc54).2.2.1 k) ?_
          show Go _ _ _ _ _ _ _ _ (mkF m 161 #[.val (.int i0), .val (.int i1), .val (.int i2), .val (.int i3), .val (.long j4), .second, .val (.int i5), .val (.int l0), .val (.int u0), .val (.int l1), .val (.int u1), .val (.int p0), .val (.int p1), .val (.int (2 : Int32)), .val (.ref lw), .val (.ref up), .val (.ref ps), .val (.ref q), .unset, .unset, .unset] [])
          refine Go.on (fun _ k => XS.iconst X51.here hx rfl (hb hby at_161) k) ?_
          show Go _ _ _ _ _ _ _ _ (mkF m 162 #[.val (.int i0), .val (.int i1), .val (.int i2), .val (.int i3), .val (.long j4), .second, .val (.int i5), .val (.int l0), .val (.int u0), .val (.int l1), .val (.int u1), .val (.int p0), .val (.int p1), .val (.int (2 : Int32)), .val (.ref lw), .val (.ref up), .val (.ref ps), .val (.ref q), .unset, .unset, .unset] [(.int (1 : Int32))])
          refine Go.on (fun _ k => XS.goto X51.here hx rfl (pc0 := 162) (pc' := 166) rfl (hb hby at_162) (by decide) (by decide) k) ?_
          show Go _ _ _ _ _ _ _ _ (mkF m 166 #[.val (.int i0), .val (.int i1), .val (.int i2), .val (.int i3), .val (.long j4), .second, .val (.int i5), .val (.int l0), .val (.int u0), .val (.int l1), .val (.int u1), .val (.int p0), .val (.int p1), .val (.int (2 : Int32)), .val (.ref lw), .val (.ref up), .val (.ref ps), .val (.ref q), .unset, .unset, .unset] [(.int (1 : Int32))])
          exact hJ52 _ (by rw [if_neg hc53, if_neg hc54])
    intro in0 hin0
    refine Go.on (fun _ k => XS.istore X51.here hx rfl (hb hby at_166) rfl (l' := #[.val (.int i0), .val (.int i1), .val (.int i2), .val (.int i3), .val (.long j4), .second, .val (.int i5), .val (.int l0), .val (.int u0), .val (.int l1), .val (.int u1), .val (.int p0), .val (.int p1), .val (.int (2 : Int32)), .val (.ref lw), .val (.ref up), .val (.ref ps), .val (.ref q), .val (.int in0), .unset, .unset]) rfl k) ?_
    show Go _ _ _ _ _ _ _ _ (mkF m 168 #[.val (.int i0), .val (.int i1), .val (.int i2), .val (.int i3), .val (.long j4), .second, .val (.int i5), .val (.int l0), .val (.int u0), .val (.int l1), .val (.int u1), .val (.int p0), .val (.int p1), .val (.int (2 : Int32)), .val (.ref lw), .val (.ref up), .val (.ref ps), .val (.ref q), .val (.int in0), .unset, .unset] [])
    refine Go.on (fun _ k => XS.iload X51.here hx rfl (hb hby at_168) rfl k) ?_
    show Go _ _ _ _ _ _ _ _ (mkF m 170 #[.val (.int i0), .val (.int i1), .val (.int i2), .val (.int i3), .val (.long j4), .second, .val (.int i5), .val (.int l0), .val (.int u0), .val (.int l1), .val (.int u1), .val (.int p0), .val (.int p1), .val (.int (2 : Int32)), .val (.ref lw), .val (.ref up), .val (.ref ps), .val (.ref q), .val (.int in0), .unset, .unset] [(.int l1)])
    refine Go.on (fun _ k => XS.iload X51.here hx rfl (hb hby at_170) rfl k) ?_
    show Go _ _ _ _ _ _ _ _ (mkF m 172 #[.val (.int i0), .val (.int i1), .val (.int i2), .val (.int i3), .val (.long j4), .second, .val (.int i5), .val (.int l0), .val (.int u0), .val (.int l1), .val (.int u1), .val (.int p0), .val (.int p1), .val (.int (2 : Int32)), .val (.ref lw), .val (.ref up), .val (.ref ps), .val (.ref q), .val (.int in0), .unset, .unset] [(.int p1), (.int l1)])
    suffices hJ55 : ∀ (in1 : Int32), in1 = (if p1 < l1 then (0 : Int32) else (if u1 < p1 then (0 : Int32) else (1 : Int32))) → Go p e below s K1 K2 QQ T51 (mkF m 187 #[.val (.int i0), .val (.int i1), .val (.int i2), .val (.int i3), .val (.long j4), .second, .val (.int i5), .val (.int l0), .val (.int u0), .val (.int l1), .val (.int u1), .val (.int p0), .val (.int p1), .val (.int (2 : Int32)), .val (.ref lw), .val (.ref up), .val (.ref ps), .val (.ref q), .val (.int in0), .unset, .unset] [(.int in1)]) by
      by_cases hc56 : p1 < l1
      · -- pc 172 yes
        refine Go.on (fun _ k => XS.icmpYes X51.here hx rfl (pc0 := 172) (pc' := 186) rfl (hb hby at_172) rfl (tlt hc56).2.2.1 (by decide) (by decide) k) ?_
        show Go _ _ _ _ _ _ _ _ (mkF m 186 #[.val (.int i0), .val (.int i1), .val (.int i2), .val (.int i3), .val (.long j4), .second, .val (.int i5), .val (.int l0), .val (.int u0), .val (.int l1), .val (.int u1), .val (.int p0), .val (.int p1), .val (.int (2 : Int32)), .val (.ref lw), .val (.ref up), .val (.ref ps), .val (.ref q), .val (.int in0), .unset, .unset] [])
        refine Go.on (fun _ k => XS.iconst X51.here hx rfl (hb hby at_186) k) ?_
        show Go _ _ _ _ _ _ _ _ (mkF m 187 #[.val (.int i0), .val (.int i1), .val (.int i2), .val (.int i3), .val (.long j4), .second, .val (.int i5), .val (.int l0), .val (.int u0), .val (.int l1), .val (.int u1), .val (.int p0), .val (.int p1), .val (.int (2 : Int32)), .val (.ref lw), .val (.ref up), .val (.ref ps), .val (.ref q), .val (.int in0), .unset, .unset] [(.int (0 : Int32))])
        exact hJ55 _ (by rw [if_pos hc56])
      · -- pc 172 no
        refine Go.on (fun _ k => XS.icmpNo X51.here hx rfl (hb hby at_172) rfl (flt hc56).2.2.1 k) ?_
        show Go _ _ _ _ _ _ _ _ (mkF m 175 #[.val (.int i0), .val (.int i1), .val (.int i2), .val (.int i3), .val (.long j4), .second, .val (.int i5), .val (.int l0), .val (.int u0), .val (.int l1), .val (.int u1), .val (.int p0), .val (.int p1), .val (.int (2 : Int32)), .val (.ref lw), .val (.ref up), .val (.ref ps), .val (.ref q), .val (.int in0), .unset, .unset] [])
        refine Go.on (fun _ k => XS.iload X51.here hx rfl (hb hby at_175) rfl k) ?_
        show Go _ _ _ _ _ _ _ _ (mkF m 177 #[.val (.int i0), .val (.int i1), .val (.int i2), .val (.int i3), .val (.long j4), .second, .val (.int i5), .val (.int l0), .val (.int u0), .val (.int l1), .val (.int u1), .val (.int p0), .val (.int p1), .val (.int (2 : Int32)), .val (.ref lw), .val (.ref up), .val (.ref ps), .val (.ref q), .val (.int in0), .unset, .unset] [(.int p1)])
        refine Go.on (fun _ k => XS.iload X51.here hx rfl (hb hby at_177) rfl k) ?_
        show Go _ _ _ _ _ _ _ _ (mkF m 179 #[.val (.int i0), .val (.int i1), .val (.int i2), .val (.int i3), .val (.long j4), .second, .val (.int i5), .val (.int l0), .val (.int u0), .val (.int l1), .val (.int u1), .val (.int p0), .val (.int p1), .val (.int (2 : Int32)), .val (.ref lw), .val (.ref up), .val (.ref ps), .val (.ref q), .val (.int in0), .unset, .unset] [(.int u1), (.int p1)])
        by_cases hc57 : u1 < p1
        · -- pc 179 yes
          refine Go.on (fun _ k => XS.icmpYes X51.here hx rfl (pc0 := 179) (pc' := 186) rfl (hb hby at_179) rfl (tlt hc57).2.2.1 (by decide) (by decide) k) ?_
          show Go _ _ _ _ _ _ _ _ (mkF m 186 #[.val (.int i0), .val (.int i1), .val (.int i2), .val (.int i3), .val (.long j4), .second, .val (.int i5), .val (.int l0), .val (.int u0), .val (.int l1), .val (.int u1), .val (.int p0), .val (.int p1), .val (.int (2 : Int32)), .val (.ref lw), .val (.ref up), .val (.ref ps), .val (.ref q), .val (.int in0), .unset, .unset] [])
          refine Go.on (fun _ k => XS.iconst X51.here hx rfl (hb hby at_186) k) ?_
          show Go _ _ _ _ _ _ _ _ (mkF m 187 #[.val (.int i0), .val (.int i1), .val (.int i2), .val (.int i3), .val (.long j4), .second, .val (.int i5), .val (.int l0), .val (.int u0), .val (.int l1), .val (.int u1), .val (.int p0), .val (.int p1), .val (.int (2 : Int32)), .val (.ref lw), .val (.ref up), .val (.ref ps), .val (.ref q), .val (.int in0), .unset, .unset] [(.int (0 : Int32))])
          exact hJ55 _ (by rw [if_neg hc56, if_pos hc57])
        · -- pc 179 no
          refine Go.on (fun _ k => XS.icmpNo X51.here hx rfl (hb hby at_179) rfl (flt hc57).2.2.1 k) ?_
          show Go _ _ _ _ _ _ _ _ (mkF m 182 #[.val (.int i0), .val (.int i1), .val (.int i2), .val (.int i3), .val (.long j4), .second, .val (.int i5), .val (.int l0), .val (.int u0), .val (.int l1), .val (.int u1), .val (.int p0), .val (.int p1), .val (.int (2 : Int32)), .val (.ref lw), .val (.ref up), .val (.ref ps), .val (.ref q), .val (.int in0), .unset, .unset] [])
          refine Go.on (fun _ k => XS.iconst X51.here hx rfl (hb hby at_182) k) ?_
          show Go _ _ _ _ _ _ _ _ (mkF m 183 #[.val (.int i0), .val (.int i1), .val (.int i2), .val (.int i3), .val (.long j4), .second, .val (.int i5), .val (.int l0), .val (.int u0), .val (.int l1), .val (.int u1), .val (.int p0), .val (.int p1), .val (.int (2 : Int32)), .val (.ref lw), .val (.ref up), .val (.ref ps), .val (.ref q), .val (.int in0), .unset, .unset] [(.int (1 : Int32))])
          refine Go.on (fun _ k => XS.goto X51.here hx rfl (pc0 := 183) (pc' := 187) rfl (hb hby at_183) (by decide) (by decide) k) ?_
          show Go _ _ _ _ _ _ _ _ (mkF m 187 #[.val (.int i0), .val (.int i1), .val (.int i2), .val (.int i3), .val (.long j4), .second, .val (.int i5), .val (.int l0), .val (.int u0), .val (.int l1), .val (.int u1), .val (.int p0), .val (.int p1), .val (.int (2 : Int32)), .val (.ref lw), .val (.ref up), .val (.ref ps), .val (.ref q), .val (.int in0), .unset, .unset] [(.int (1 : Int32))])
          exact hJ55 _ (by rw [if_neg hc56, if_neg hc57])
    intro in1 hin1
    refine Go.on (fun _ k => XS.istore X51.here hx rfl (hb hby at_187) rfl (l' := #[.val (.int i0), .val (.int i1), .val (.int i2), .val (.int i3), .val (.long j4), .second, .val (.int i5), .val (.int l0), .val (.int u0), .val (.int l1), .val (.int u1), .val (.int p0), .val (.int p1), .val (.int (2 : Int32)), .val (.ref lw), .val (.ref up), .val (.ref ps), .val (.ref q), .val (.int in0), .val (.int in1), .unset]) rfl k) ?_
    show Go _ _ _ _ _ _ _ _ (mkF m 189 #[.val (.int i0), .val (.int i1), .val (.int i2), .val (.int i3), .val (.long j4), .second, .val (.int i5), .val (.int l0), .val (.int u0), .val (.int l1), .val (.int u1), .val (.int p0), .val (.int p1), .val (.int (2 : Int32)), .val (.ref lw), .val (.ref up), .val (.ref ps), .val (.ref q), .val (.int in0), .val (.int in1), .unset] [])
    refine Go.on (fun _ k => XS.iload X51.here hx rfl (hb hby at_189) rfl k) ?_
    show Go _ _ _ _ _ _ _ _ (mkF m 191 #[.val (.int i0), .val (.int i1), .val (.int i2), .val (.int i3), .val (.long j4), .second, .val (.int i5), .val (.int l0), .val (.int u0), .val (.int l1), .val (.int u1), .val (.int p0), .val (.int p1), .val (.int (2 : Int32)), .val (.ref lw), .val (.ref up), .val (.ref ps), .val (.ref q), .val (.int in0), .val (.int in1), .unset] [(.int (2 : Int32))])
    refine Go.on (fun _ k => XS.iconst X51.here hx rfl (hb hby at_191) k) ?_
    show Go _ _ _ _ _ _ _ _ (mkF m 192 #[.val (.int i0), .val (.int i1), .val (.int i2), .val (.int i3), .val (.long j4), .second, .val (.int i5), .val (.int l0), .val (.int u0), .val (.int l1), .val (.int u1), .val (.int p0), .val (.int p1), .val (.int (2 : Int32)), .val (.ref lw), .val (.ref up), .val (.ref ps), .val (.ref q), .val (.int in0), .val (.int in1), .unset] [(.int (1 : Int32)), (.int (2 : Int32))])
    have hc58 : ¬ ((2 : Int32) < (1 : Int32)) := by decide
    refine Go.on (fun _ k => XS.icmpNo X51.here hx rfl (hb hby at_192) rfl (flt hc58).1 k) ?_
    show Go _ _ _ _ _ _ _ _ (mkF m 195 #[.val (.int i0), .val (.int i1), .val (.int i2), .val (.int i3), .val (.long j4), .second, .val (.int i5), .val (.int l0), .val (.int u0), .val (.int l1), .val (.int u1), .val (.int p0), .val (.int p1), .val (.int (2 : Int32)), .val (.ref lw), .val (.ref up), .val (.ref ps), .val (.ref q), .val (.int in0), .val (.int in1), .unset] [])
    refine Go.on (fun _ k => XS.iload X51.here hx rfl (hb hby at_195) rfl k) ?_
    show Go _ _ _ _ _ _ _ _ (mkF m 197 #[.val (.int i0), .val (.int i1), .val (.int i2), .val (.int i3), .val (.long j4), .second, .val (.int i5), .val (.int l0), .val (.int u0), .val (.int l1), .val (.int u1), .val (.int p0), .val (.int p1), .val (.int (2 : Int32)), .val (.ref lw), .val (.ref up), .val (.ref ps), .val (.ref q), .val (.int in0), .val (.int in1), .unset] [(.int in0)])
    suffices hJ59 : ∀ (ex : Int32), ex = (if in0 = (0 : Int32) then (0 : Int32) else (if in1 = (0 : Int32) then (0 : Int32) else (1 : Int32))) → Go p e below s K1 K2 QQ T51 (mkF m 216 #[.val (.int i0), .val (.int i1), .val (.int i2), .val (.int i3), .val (.long j4), .second, .val (.int i5), .val (.int l0), .val (.int u0), .val (.int l1), .val (.int u1), .val (.int p0), .val (.int p1), .val (.int (2 : Int32)), .val (.ref lw), .val (.ref up), .val (.ref ps), .val (.ref q), .val (.int in0), .val (.int in1), .unset] [(.int ex)]) by
      by_cases hc60 : in0 = (0 : Int32)
      · -- pc 197 yes
        refine Go.on (fun _ k => XS.ifYes X51.here hx rfl (pc0 := 197) (pc' := 215) rfl (hb hby at_197) rfl ((if0 _ _).trans (teq hc60).1) (by decide) (by decide) k) ?_
        show Go _ _ _ _ _ _ _ _ (mkF m 215 #[.val (.int i0), .val (.int i1), .val (.int i2), .val (.int i3), .val (.long j4), .second, .val (.int i5), .val (.int l0), .val (.int u0), .val (.int l1), .val (.int u1), .val (.int p0), .val (.int p1), .val (.int (2 : Int32)), .val (.ref lw), .val (.ref up), .val (.ref ps), .val (.ref q), .val (.int in0), .val (.int in1), .unset] [])
        refine Go.on (fun _ k => XS.iconst X51.here hx rfl (hb hby at_215) k) ?_
        show Go _ _ _ _ _ _ _ _ (mkF m 216 #[.val (.int i0), .val (.int i1), .val (.int i2), .val (.int i3), .val (.long j4), .second, .val (.int i5), .val (.int l0), .val (.int u0), .val (.int l1), .val (.int u1), .val (.int p0), .val (.int p1), .val (.int (2 : Int32)), .val (.ref lw), .val (.ref up), .val (.ref ps), .val (.ref q), .val (.int in0), .val (.int in1), .unset] [(.int (0 : Int32))])
        exact hJ59 _ (by rw [if_pos hc60])
      · -- pc 197 no
        refine Go.on (fun _ k => XS.ifNo X51.here hx rfl (hb hby at_197) rfl ((if0 _ _).trans (feq hc60).1) k) ?_
        show Go _ _ _ _ _ _ _ _ (mkF m 200 #[.val (.int i0), .val (.int i1), .val (.int i2), .val (.int i3), .val (.long j4), .second, .val (.int i5), .val (.int l0), .val (.int u0), .val (.int l1), .val (.int u1), .val (.int p0), .val (.int p1), .val (.int (2 : Int32)), .val (.ref lw), .val (.ref up), .val (.ref ps), .val (.ref q), .val (.int in0), .val (.int in1), .unset] [])
        refine Go.on (fun _ k => XS.iload X51.here hx rfl (hb hby at_200) rfl k) ?_
        show Go _ _ _ _ _ _ _ _ (mkF m 202 #[.val (.int i0), .val (.int i1), .val (.int i2), .val (.int i3), .val (.long j4), .second, .val (.int i5), .val (.int l0), .val (.int u0), .val (.int l1), .val (.int u1), .val (.int p0), .val (.int p1), .val (.int (2 : Int32)), .val (.ref lw), .val (.ref up), .val (.ref ps), .val (.ref q), .val (.int in0), .val (.int in1), .unset] [(.int (2 : Int32))])
        refine Go.on (fun _ k => XS.iconst X51.here hx rfl (hb hby at_202) k) ?_
        show Go _ _ _ _ _ _ _ _ (mkF m 203 #[.val (.int i0), .val (.int i1), .val (.int i2), .val (.int i3), .val (.long j4), .second, .val (.int i5), .val (.int l0), .val (.int u0), .val (.int l1), .val (.int u1), .val (.int p0), .val (.int p1), .val (.int (2 : Int32)), .val (.ref lw), .val (.ref up), .val (.ref ps), .val (.ref q), .val (.int in0), .val (.int in1), .unset] [(.int (2 : Int32)), (.int (2 : Int32))])
        have hc61 : ¬ ((2 : Int32) < (2 : Int32)) := by decide
        refine Go.on (fun _ k => XS.icmpNo X51.here hx rfl (hb hby at_203) rfl (flt hc61).1 k) ?_
        show Go _ _ _ _ _ _ _ _ (mkF m 206 #[.val (.int i0), .val (.int i1), .val (.int i2), .val (.int i3), .val (.long j4), .second, .val (.int i5), .val (.int l0), .val (.int u0), .val (.int l1), .val (.int u1), .val (.int p0), .val (.int p1), .val (.int (2 : Int32)), .val (.ref lw), .val (.ref up), .val (.ref ps), .val (.ref q), .val (.int in0), .val (.int in1), .unset] [])
        refine Go.on (fun _ k => XS.iload X51.here hx rfl (hb hby at_206) rfl k) ?_
        show Go _ _ _ _ _ _ _ _ (mkF m 208 #[.val (.int i0), .val (.int i1), .val (.int i2), .val (.int i3), .val (.long j4), .second, .val (.int i5), .val (.int l0), .val (.int u0), .val (.int l1), .val (.int u1), .val (.int p0), .val (.int p1), .val (.int (2 : Int32)), .val (.ref lw), .val (.ref up), .val (.ref ps), .val (.ref q), .val (.int in0), .val (.int in1), .unset] [(.int in1)])
        by_cases hc62 : in1 = (0 : Int32)
        · -- pc 208 yes
          refine Go.on (fun _ k => XS.ifYes X51.here hx rfl (pc0 := 208) (pc' := 215) rfl (hb hby at_208) rfl ((if0 _ _).trans (teq hc62).1) (by decide) (by decide) k) ?_
          show Go _ _ _ _ _ _ _ _ (mkF m 215 #[.val (.int i0), .val (.int i1), .val (.int i2), .val (.int i3), .val (.long j4), .second, .val (.int i5), .val (.int l0), .val (.int u0), .val (.int l1), .val (.int u1), .val (.int p0), .val (.int p1), .val (.int (2 : Int32)), .val (.ref lw), .val (.ref up), .val (.ref ps), .val (.ref q), .val (.int in0), .val (.int in1), .unset] [])
          refine Go.on (fun _ k => XS.iconst X51.here hx rfl (hb hby at_215) k) ?_
          show Go _ _ _ _ _ _ _ _ (mkF m 216 #[.val (.int i0), .val (.int i1), .val (.int i2), .val (.int i3), .val (.long j4), .second, .val (.int i5), .val (.int l0), .val (.int u0), .val (.int l1), .val (.int u1), .val (.int p0), .val (.int p1), .val (.int (2 : Int32)), .val (.ref lw), .val (.ref up), .val (.ref ps), .val (.ref q), .val (.int in0), .val (.int in1), .unset] [(.int (0 : Int32))])
          exact hJ59 _ (by rw [if_neg hc60, if_pos hc62])
        · -- pc 208 no
          refine Go.on (fun _ k => XS.ifNo X51.here hx rfl (hb hby at_208) rfl ((if0 _ _).trans (feq hc62).1) k) ?_
          show Go _ _ _ _ _ _ _ _ (mkF m 211 #[.val (.int i0), .val (.int i1), .val (.int i2), .val (.int i3), .val (.long j4), .second, .val (.int i5), .val (.int l0), .val (.int u0), .val (.int l1), .val (.int u1), .val (.int p0), .val (.int p1), .val (.int (2 : Int32)), .val (.ref lw), .val (.ref up), .val (.ref ps), .val (.ref q), .val (.int in0), .val (.int in1), .unset] [])
          refine Go.on (fun _ k => XS.iconst X51.here hx rfl (hb hby at_211) k) ?_
          show Go _ _ _ _ _ _ _ _ (mkF m 212 #[.val (.int i0), .val (.int i1), .val (.int i2), .val (.int i3), .val (.long j4), .second, .val (.int i5), .val (.int l0), .val (.int u0), .val (.int l1), .val (.int u1), .val (.int p0), .val (.int p1), .val (.int (2 : Int32)), .val (.ref lw), .val (.ref up), .val (.ref ps), .val (.ref q), .val (.int in0), .val (.int in1), .unset] [(.int (1 : Int32))])
          refine Go.on (fun _ k => XS.goto X51.here hx rfl (pc0 := 212) (pc' := 216) rfl (hb hby at_212) (by decide) (by decide) k) ?_
          show Go _ _ _ _ _ _ _ _ (mkF m 216 #[.val (.int i0), .val (.int i1), .val (.int i2), .val (.int i3), .val (.long j4), .second, .val (.int i5), .val (.int l0), .val (.int u0), .val (.int l1), .val (.int u1), .val (.int p0), .val (.int p1), .val (.int (2 : Int32)), .val (.ref lw), .val (.ref up), .val (.ref ps), .val (.ref q), .val (.int in0), .val (.int in1), .unset] [(.int (1 : Int32))])
          exact hJ59 _ (by rw [if_neg hc60, if_neg hc62])
    intro ex hex
    refine Go.on (fun _ k => XS.istore X51.here hx rfl (hb hby at_216) rfl (l' := #[.val (.int i0), .val (.int i1), .val (.int i2), .val (.int i3), .val (.long j4), .second, .val (.int i5), .val (.int l0), .val (.int u0), .val (.int l1), .val (.int u1), .val (.int p0), .val (.int p1), .val (.int (2 : Int32)), .val (.ref lw), .val (.ref up), .val (.ref ps), .val (.ref q), .val (.int in0), .val (.int in1), .val (.int ex)]) rfl k) ?_
    show Go _ _ _ _ _ _ _ _ (mkF m 218 #[.val (.int i0), .val (.int i1), .val (.int i2), .val (.int i3), .val (.long j4), .second, .val (.int i5), .val (.int l0), .val (.int u0), .val (.int l1), .val (.int u1), .val (.int p0), .val (.int p1), .val (.int (2 : Int32)), .val (.ref lw), .val (.ref up), .val (.ref ps), .val (.ref q), .val (.int in0), .val (.int in1), .val (.int ex)] [])
    refine Go.on (fun _ k => XS.aload X51.here hx rfl (hb hby at_218) rfl rfl k) ?_
    show Go _ _ _ _ _ _ _ _ (mkF m 220 #[.val (.int i0), .val (.int i1), .val (.int i2), .val (.int i3), .val (.long j4), .second, .val (.int i5), .val (.int l0), .val (.int u0), .val (.int l1), .val (.int u1), .val (.int p0), .val (.int p1), .val (.int (2 : Int32)), .val (.ref lw), .val (.ref up), .val (.ref ps), .val (.ref q), .val (.int in0), .val (.int in1), .val (.int ex)] [(.ref q)])
    refine Go.on (fun _ k => XS.aload X51.here hx rfl (hb hby at_220) rfl rfl k) ?_
    show Go _ _ _ _ _ _ _ _ (mkF m 222 #[.val (.int i0), .val (.int i1), .val (.int i2), .val (.int i3), .val (.long j4), .second, .val (.int i5), .val (.int l0), .val (.int u0), .val (.int l1), .val (.int u1), .val (.int p0), .val (.int p1), .val (.int (2 : Int32)), .val (.ref lw), .val (.ref up), .val (.ref ps), .val (.ref q), .val (.int in0), .val (.int in1), .val (.int ex)] [(.ref ps), (.ref q)])
    obtain ⟨cq63, kq63, q63a, q63b, q63c⟩ := isOf hZ e51 E_q
    obtain ⟨_, _, ⟨T63, L63, k63, n63⟩, -, X63, ⟨Lc63, hQ63, l63, y63, z63⟩, st63⟩ := X51.virtualBack hx (y := (⟨"com/example/driftswarm/driftswarm/algorithms/Bounds", "contains", "([D)Z"⟩ : MethodName)) (z := (⟨"com/example/driftswarm/driftswarm/algorithms/Bounds", "contains", "([D)Z"⟩ : MethodName)) hown (mvT hZ (hw _ (List.mem_of_getElem? (i := 22) rfl))) (mvT hZ (hw _ (List.mem_of_getElem? (i := 23) rfl))) (notFace_of_selects (args := #[]) (mvT hZ (hw _ (List.mem_of_getElem? (i := 25) rfl)))) (mvT hZ (hw _ (List.mem_of_getElem? (i := 25) rfl))) (mvT hZ (hw _ (List.mem_of_getElem? (i := 24) rfl))) (by decide) (backOf (W := 0) (all_2 l Z aw hw [] q ps lw up k_lw (FP.i2d l0) (FP.i2d l1) k_up (FP.i2d u0) (FP.i2d u1) k_ps (FP.i2d p0) (FP.i2d p1) h51 n0 ZZ E_q F_lower_q F_upper_q V_lw V_up V_ps) hZ (hw _ (List.mem_of_getElem? (i := 26) rfl)) (hw _ (List.mem_of_getElem? (i := 11) rfl)) (by decide) (by decide)) q63a q63c (g := (mkF m 222 #[.val (.int i0), .val (.int i1), .val (.int i2), .val (.int i3), .val (.long j4), .second, .val (.int i5), .val (.int l0), .val (.int u0), .val (.int l1), .val (.int u1), .val (.int p0), .val (.int p1), .val (.int (2 : Int32)), .val (.ref lw), .val (.ref up), .val (.ref ps), .val (.ref q), .val (.int in0), .val (.int in1), .val (.int ex)] [(.ref ps), (.ref q)])) rfl (by rw [hml]; rfl) (Steps.refl _) (argsL := [(.ref ps)]) (rest := []) (lenOf pd_3 rfl) rfl (by show 2 * 0 + _ ≤ _; exact Nat.le_of_eq rfl) (hb hby at_222) (fun _ _ => ⟨rfl, e51, (by decide : 4 + 0 ≤ _), (by decide : 8 + 0 ≤ _)⟩)
    dsimp only [Pt.U, Pt.locs, Pt.cells, Pt.slots] at X63 l63 y63 z63 st63 hQ63
    subst l63 y63 z63
    obtain ⟨rfl, N63q, e63⟩ := hQ63
    have N63 := Fr.app N51 N63q
    refine Go.on (fun _ k => st63.trans k) ?_
    show Go _ _ _ _ _ _ _ _ (mkF m 225 #[.val (.int i0), .val (.int i1), .val (.int i2), .val (.int i3), .val (.long j4), .second, .val (.int i5), .val (.int l0), .val (.int u0), .val (.int l1), .val (.int u1), .val (.int p0), .val (.int p1), .val (.int (2 : Int32)), .val (.ref lw), .val (.ref up), .val (.ref ps), .val (.ref q), .val (.int in0), .val (.int in1), .val (.int ex)] [(.int (if (containsV (FP.i2d p0) (if (0 : Int32) = (0 : Int32) then (FP.i2d l0) else (FP.i2d l1)) (if (0 : Int32) = (0 : Int32) then (FP.i2d u0) else (FP.i2d u1))) = (0 : Int32) then (0 : Int32) else (if (containsV (FP.i2d p1) (if (1 : Int32) = (0 : Int32) then (FP.i2d l0) else (FP.i2d l1)) (if (1 : Int32) = (0 : Int32) then (FP.i2d u0) else (FP.i2d u1))) = (0 : Int32) then (0 : Int32) else (1 : Int32))))])
    generalize hr : (if (containsV (FP.i2d p0) (if (0 : Int32) = (0 : Int32) then (FP.i2d l0) else (FP.i2d l1)) (if (0 : Int32) = (0 : Int32) then (FP.i2d u0) else (FP.i2d u1))) = (0 : Int32) then (0 : Int32) else (if (containsV (FP.i2d p1) (if (1 : Int32) = (0 : Int32) then (FP.i2d l0) else (FP.i2d l1)) (if (1 : Int32) = (0 : Int32) then (FP.i2d u0) else (FP.i2d u1))) = (0 : Int32) then (0 : Int32) else (1 : Int32))) = r
    show Go _ _ _ _ _ _ _ _ (mkF m 225 #[.val (.int i0), .val (.int i1), .val (.int i2), .val (.int i3), .val (.long j4), .second, .val (.int i5), .val (.int l0), .val (.int u0), .val (.int l1), .val (.int u1), .val (.int p0), .val (.int p1), .val (.int (2 : Int32)), .val (.ref lw), .val (.ref up), .val (.ref ps), .val (.ref q), .val (.int in0), .val (.int in1), .val (.int ex)] [(.int r)])
    refine Go.on (fun _ k => XS.iload X63.here hx rfl (hb hby at_225) rfl k) ?_
    show Go _ _ _ _ _ _ _ _ (mkF m 227 #[.val (.int i0), .val (.int i1), .val (.int i2), .val (.int i3), .val (.long j4), .second, .val (.int i5), .val (.int l0), .val (.int u0), .val (.int l1), .val (.int u1), .val (.int p0), .val (.int p1), .val (.int (2 : Int32)), .val (.ref lw), .val (.ref up), .val (.ref ps), .val (.ref q), .val (.int in0), .val (.int in1), .val (.int ex)] [(.int ex), (.int r)])
    suffices hJ65 : ∀ (v64 : Int32), v64 = (if r = ex then (1 : Int32) else (0 : Int32)) → Go p e below s K1 K2 QQ T63 (mkF m 235 #[.val (.int i0), .val (.int i1), .val (.int i2), .val (.int i3), .val (.long j4), .second, .val (.int i5), .val (.int l0), .val (.int u0), .val (.int l1), .val (.int u1), .val (.int p0), .val (.int p1), .val (.int (2 : Int32)), .val (.ref lw), .val (.ref up), .val (.ref ps), .val (.ref q), .val (.int in0), .val (.int in1), .val (.int ex)] [(.int v64)]) by
      by_cases hc66 : r = ex
      · -- pc 227 yes
        refine Go.on (fun _ k => XS.icmpNo X63.here hx rfl (hb hby at_227) rfl (teq hc66).2 k) ?_
        show Go _ _ _ _ _ _ _ _ (mkF m 230 #[.val (.int i0), .val (.int i1), .val (.int i2), .val (.int i3), .val (.long j4), .second, .val (.int i5), .val (.int l0), .val (.int u0), .val (.int l1), .val (.int u1), .val (.int p0), .val (.int p1), .val (.int (2 : Int32)), .val (.ref lw), .val (.ref up), .val (.ref ps), .val (.ref q), .val (.int in0), .val (.int in1), .val (.int ex)] [])
        refine Go.on (fun _ k => XS.iconst X63.here hx rfl (hb hby at_230) k) ?_
        show Go _ _ _ _ _ _ _ _ (mkF m 231 #[.val (.int i0), .val (.int i1), .val (.int i2), .val (.int i3), .val (.long j4), .second, .val (.int i5), .val (.int l0), .val (.int u0), .val (.int l1), .val (.int u1), .val (.int p0), .val (.int p1), .val (.int (2 : Int32)), .val (.ref lw), .val (.ref up), .val (.ref ps), .val (.ref q), .val (.int in0), .val (.int in1), .val (.int ex)] [(.int (1 : Int32))])
        refine Go.on (fun _ k => XS.goto X63.here hx rfl (pc0 := 231) (pc' := 235) rfl (hb hby at_231) (by decide) (by decide) k) ?_
        show Go _ _ _ _ _ _ _ _ (mkF m 235 #[.val (.int i0), .val (.int i1), .val (.int i2), .val (.int i3), .val (.long j4), .second, .val (.int i5), .val (.int l0), .val (.int u0), .val (.int l1), .val (.int u1), .val (.int p0), .val (.int p1), .val (.int (2 : Int32)), .val (.ref lw), .val (.ref up), .val (.ref ps), .val (.ref q), .val (.int in0), .val (.int in1), .val (.int ex)] [(.int (1 : Int32))])
        exact hJ65 _ (by rw [if_pos hc66])
      · -- pc 227 no
        refine Go.on (fun _ k => XS.icmpYes X63.here hx rfl (pc0 := 227) (pc' := 234) rfl (hb hby at_227) rfl (feq hc66).2 (by decide) (by decide) k) ?_
        show Go _ _ _ _ _ _ _ _ (mkF m 234 #[.val (.int i0), .val (.int i1), .val (.int i2), .val (.int i3), .val (.long j4), .second, .val (.int i5), .val (.int l0), .val (.int u0), .val (.int l1), .val (.int u1), .val (.int p0), .val (.int p1), .val (.int (2 : Int32)), .val (.ref lw), .val (.ref up), .val (.ref ps), .val (.ref q), .val (.int in0), .val (.int in1), .val (.int ex)] [])
        refine Go.on (fun _ k => XS.iconst X63.here hx rfl (hb hby at_234) k) ?_
        show Go _ _ _ _ _ _ _ _ (mkF m 235 #[.val (.int i0), .val (.int i1), .val (.int i2), .val (.int i3), .val (.long j4), .second, .val (.int i5), .val (.int l0), .val (.int u0), .val (.int l1), .val (.int u1), .val (.int p0), .val (.int p1), .val (.int (2 : Int32)), .val (.ref lw), .val (.ref up), .val (.ref ps), .val (.ref q), .val (.int in0), .val (.int in1), .val (.int ex)] [(.int (0 : Int32))])
        exact hJ65 _ (by rw [if_neg hc66])
    intro v64 hv64
    refine Go.retN X63 hx (t := .boolean) Bd.returns (by simp) (hb hby at_235) ?_ (by rw [hK1]; decide) (by rw [hK2]; decide)
    rw [e63, ← hQQ]
    have hres : v64 = 1 := own_pure2 hin0 hin1 hex hr hv64
    rw [hres]
    exact ⟨rfl, N63⟩
set_option maxRecDepth 65536 in
set_option maxHeartbeats 40000000 in
theorem comes_1 {Post : Tables → Env → Array Value → State → Outcome → State → Prop} (hpost : ∀ tb e args s v u, (limb_1_1.after args s (.returned v) u = true ∧ limb_1_2.after args s (.returned v) u = true ∧ True) → FrameEnd s (.returned v) u (Jvm.fieldLocs frame_1_writes args s ++ Jvm.arrayLocs frame_1_arrays args s ++ Jvm.staticLocs frame_1_statics s) 16 128 → Post tb e args s (.returned v) u) :
    ArmFor flags0 classFile x code maxLocals ret World_1 tables_1 room_1 Calls_1 rest_1 Pre_1 Post := by
  intro l hfl _ _ p e ha hc hk s m args below hf hA hF happ hP
  obtain ⟨hcalls, hrest, hpre⟩ := hP
  obtain ⟨-, -, -, hnamed, -, -, -, hat⟩ := (Spec.applies_iff hf).mp happ
  obtain ⟨hg, hn⟩ := and_e (Cond.before_iff.mp (show (Jvm.Cond.and given_1 narrow_1).before args s = true from hpre))
  obtain ⟨g0, r0⟩ := and_e hg
  obtain ⟨g1, r1⟩ := and_e r0
  obtain ⟨g2, r2⟩ := and_e r1
  obtain ⟨g3, r3⟩ := and_e r2
  obtain ⟨g4, r4⟩ := and_e r3
  obtain ⟨g5, g6⟩ := and_e r4
  obtain ⟨w0, w1, w2, w3, w4, w5, rfl⟩ : ∃ w0 w1 w2 w3 w4 w5 : Value, args = #[w0, w1, w2, w3, w4, w5] := by
    have hs : args.size = 6 := by simpa [Cond.value, given_1] using g0
    obtain ⟨L⟩ := args
    match L, hs with
    | [w0, w1, w2, w3, w4, w5], _ => exact ⟨w0, w1, w2, w3, w4, w5, rfl⟩
  have hw := fun d (hd : d ∈ tables_1) => atoms_spec (ws := Jvm.Cond.code x code maxLocals ret :: tables_1) hat d (List.mem_cons_of_mem _ hd)
  have hfit : Fit s := fun {y c} hc i hi => by
    obtain ⟨ha, rfl⟩ := Array.getElem?_eq_some_iff.mp hc
    have q := List.all_eq_true.mp ((Array.all_eq_true_iff_forall_mem.mp hF) _ (Array.getElem_mem ha)) i (List.mem_range.mpr hi)
    simpa [Array.getElem?_eq_getElem hi] using q
  obtain ⟨i0, ei0⟩ := is_v g1
  obtain rfl : w0 = (.int i0) := Option.some.inj ei0
  obtain ⟨i1, ei1⟩ := is_v g2
  obtain rfl : w1 = (.int i1) := Option.some.inj ei1
  obtain ⟨i2, ei2⟩ := is_v g3
  obtain rfl : w2 = (.int i2) := Option.some.inj ei2
  obtain ⟨i3, ei3⟩ := is_v g4
  obtain rfl : w3 = (.int i3) := Option.some.inj ei3
  obtain ⟨i4, ei4⟩ := isL_v g5
  obtain rfl : w4 = (.long i4) := Option.some.inj ei4
  obtain ⟨i5, ei5⟩ := is_v g6
  obtain rfl : w5 = (.int i5) := Option.some.inj ei5
  obtain ⟨n, o, h1, h2, h3, _, L, rfl, ⟨rfl, N⟩, hq⟩ := rm0 l s _ hw tables_1 i0 i1 i2 i3 i4 i5 s.heap s.heap.size (Nat.le_refl _) p e ha hc hk s m _ below hf ((Spec.applies_iff_loose hf).mp happ).1 ⟨rfl, State.Warmed39.refl s, rfl⟩ trivial
  refine ⟨n, _, h1, h2, h3, hpost _ _ _ _ _ _ ⟨Cond.after_iff.mpr rfl, Cond.after_iff.mpr (eq_i res_at (Term.int_eval (1)) rfl), trivial⟩ ⟨hq.1, hq.2.1, (hq.2.2.sift fun y hy => Or.inr (N y hy)).mono (by decide) (by decide)⟩⟩
theorem main_1_1 : Claimed_1_1 := comes_1 fun _ _ _ _ _ _ h hF => ⟨h.1, hF⟩
theorem main_1_2 : Claimed_1_2 := comes_1 fun _ _ _ _ _ _ h hF => ⟨h.2.1, hF⟩
end Jvm.Pilot.@@N@@
namespace Jvm.Pilot.@@N@@
open Jvm Jvm.ClassFile Sem Op Lib Jvm.Free Jvm.Stand Jvm.Pilot.@@N@@.Jvm.D
/-! MADE BY PROGRAM (witnessworld.py) out of the Statement's table words and the real class files: 12 classes; the members and pool entries that the words name. The judged class is class 1, her method 1. -/
namespace start1
open Jvm.ClassFile
def u (s : String) : CpInfo := .utf8 (stringToUtf16 s)
/-- a pool by its gaps: so many unusable entries, then the entry; so many at the end -/
def gap : Nat → List CpInfo → List CpInfo
  | 0, r => r
  | n + 1, r => .unusable :: gap n r
def poolList (es : List (Nat × CpInfo)) (last : Nat) : List CpInfo := es.foldr (fun e r => gap e.1 (e.2 :: r)) (gap last [])
def pool (es : List (Nat × CpInfo)) (last : Nat) : Array CpInfo := ⟨poolList es last⟩
def fileOf (pool : Array CpInfo) (this : Nat) (attrs : Array Attribute := #[]) (ms : Array MethodInfo := #[]) (fl : Nat := 33) (sup : Nat := 0) (ifs : Array Nat := #[]) (fds : Array FieldInfo := #[]) : ClassFile where
  minorVersion := 0
  majorVersion := 65
  constantPool := pool
  accessFlags := fl
  thisClass := this
  superClass := sup
  interfaces := ifs
  fields := fds
  methods := ms
  attributes := attrs
def plain (name : String) (sup : Option ClassId) : Class where
  name := name
  kind := .ordinary
  loader := none
  accessFlags := 33
  super := sup
  interfaces := #[]
  cf := none
  fields := #[]
  methods := #[]
  instanceTypes := #[]
  staticTypes := #[]
  resolved := #[]
  callSites := []
  init := .initialized
  statics := none
  mirror := none

def pool0 : Array CpInfo := pool [(5, u "<init>"), (0, u "()V"), (1, .class_ 10), (1, u "java/lang/Object")] 113

def k0c0 : Code := { maxStack := 0, maxLocals := 1, code := object_method_1_code, exceptionTable := #[], attributes := #[] }
def k0m0 : Method := { name := "<init>", desc := "()V", sig := { parameters := [], returnType := none }, accessFlags := 1, code := some k0c0 }
/-- java/lang/Object -/
def k0 : Class := { plain "java/lang/Object" none with
  accessFlags := 33
  interfaces := #[]
  cf := some (fileOf pool0 8 #[] #[{ accessFlags := 1, nameIndex := 5, descriptorIndex := 6, attributes := #[] }] 33 0 #[] #[])
  fields := #[]
  methods := #[k0m0]
  instanceTypes := #[]
  staticTypes := #[]
  resolved := Array.replicate 124 none
  statics := none }

def pool1 : Array CpInfo := pool [(2, .class_ 4), (1, u "java/lang/Object"), (0, u "<init>"), (0, u "()V"), (0, .methodref 8 9), (0, .class_ 10), (0, .nameAndType 11 12), (0, u "java/lang/Math"), (0, u "min"), (0, u "(II)I"), (0, .methodref 8 14), (0, .nameAndType 15 12), (0, u "max"), (0, .integer 2147483647), (0, .class_ 18), (0, u "com/example/driftswarm/driftswarm/algorithms/Bounds"), (0, .methodref 17 20), (0, .nameAndType 5 21), (0, u "([D[D)V"), (0, .methodref 17 23), (0, .nameAndType 24 25), (0, u "contains"), (0, u "([D)Z"), (0, .class_ 27), (0, u "com/example/driftswarm/driftswarm/algorithms/BoundsContains117PinLaw"), (2, u "law"), (0, u "(IIIIJI)Z")] 5

def k1m0 : Method := { name := "<init>", desc := "()V", sig := { parameters := [], returnType := none }, accessFlags := 1, code := none }
def k1c1 : Code := { maxStack := 5, maxLocals := 21, code := code, exceptionTable := #[], attributes := #[] }
def k1m1 : Method := { name := "law", desc := "(IIIIJI)Z", sig := { parameters := [.int, .int, .int, .int, .long, .int], returnType := some .boolean }, accessFlags := 9, code := some k1c1 }
/-- com/example/driftswarm/driftswarm/algorithms/BoundsContains117PinLaw -/
def k1 : Class := { plain "com/example/driftswarm/driftswarm/algorithms/BoundsContains117PinLaw" (some 0) with
  accessFlags := 49
  interfaces := #[]
  cf := some (fileOf pool1 26 #[] #[{ accessFlags := 1, nameIndex := 5, descriptorIndex := 6, attributes := #[] }, { accessFlags := 9, nameIndex := 30, descriptorIndex := 31, attributes := #[] }] 49 2 #[] #[])
  fields := #[]
  methods := #[k1m0, k1m1]
  instanceTypes := #[]
  staticTypes := #[]
  resolved := Array.replicate 37 none
  statics := none }

def pool2 : Array CpInfo := pool [(1, .class_ 2), (0, u "java/lang/Math"), (1, .class_ 6), (1, u "java/lang/Object"), (0, u "<init>"), (0, u "()V"), (89, .class_ 100), (1, u "java/lang/Math$RandomNumberGeneratorHolder"), (71, u "negativeZeroFloatBits"), (0, u "J"), (2, u "negativeZeroDoubleBits"), (21, u "max"), (2, u "min"), (43, u "$assertionsDisabled"), (0, u "Z"), (88, u "(II)I"), (2, u "twoToTheDoubleScaleDown"), (0, u "D"), (4, u "twoToTheDoubleScaleUp"), (9, u "E"), (3, u "PI"), (2, u "TAU"), (2, u "DEGREES_TO_RADIANS"), (0, u "RADIANS_TO_DEGREES")] 94

def k2m0 : Method := { name := "<init>", desc := "()V", sig := { parameters := [], returnType := none }, accessFlags := 2, code := none }
def k2c1 : Code := { maxStack := 2, maxLocals := 2, code := jdk_29_method_65_code, exceptionTable := #[], attributes := #[] }
def k2m1 : Method := { name := "max", desc := "(II)I", sig := { parameters := [.int, .int], returnType := some .int }, accessFlags := 9, code := some k2c1 }
def k2c2 : Code := { maxStack := 2, maxLocals := 2, code := jdk_29_method_69_code, exceptionTable := #[], attributes := #[] }
def k2m2 : Method := { name := "min", desc := "(II)I", sig := { parameters := [.int, .int], returnType := some .int }, accessFlags := 9, code := some k2c2 }
/-- java/lang/Math -/
def k2 : Class := { plain "java/lang/Math" (some 0) with
  accessFlags := 49
  interfaces := #[]
  cf := some (fileOf pool2 1 #[.nestMembers #[98]] #[{ accessFlags := 2, nameIndex := 7, descriptorIndex := 8, attributes := #[] }, { accessFlags := 9, nameIndex := 198, descriptorIndex := 335, attributes := #[] }, { accessFlags := 9, nameIndex := 201, descriptorIndex := 335, attributes := #[] }] 49 4 #[] #[{ accessFlags := 25, nameIndex := 354, descriptorIndex := 339, attributes := #[] }, { accessFlags := 25, nameIndex := 358, descriptorIndex := 339, attributes := #[] }, { accessFlags := 25, nameIndex := 361, descriptorIndex := 339, attributes := #[] }, { accessFlags := 26, nameIndex := 364, descriptorIndex := 339, attributes := #[] }, { accessFlags := 26, nameIndex := 365, descriptorIndex := 339, attributes := #[] }, { accessFlags := 26, nameIndex := 172, descriptorIndex := 173, attributes := #[] }, { accessFlags := 26, nameIndex := 176, descriptorIndex := 173, attributes := #[] }, { accessFlags := 8, nameIndex := 344, descriptorIndex := 339, attributes := #[] }, { accessFlags := 8, nameIndex := 338, descriptorIndex := 339, attributes := #[] }, { accessFlags := 4120, nameIndex := 245, descriptorIndex := 246, attributes := #[] }])
  fields := #[{ name := "E", type := .double, accessFlags := 25, slot := 0, constantValue := 0 }, { name := "PI", type := .double, accessFlags := 25, slot := 1, constantValue := 0 }, { name := "TAU", type := .double, accessFlags := 25, slot := 2, constantValue := 0 }, { name := "DEGREES_TO_RADIANS", type := .double, accessFlags := 26, slot := 3, constantValue := 0 }, { name := "RADIANS_TO_DEGREES", type := .double, accessFlags := 26, slot := 4, constantValue := 0 }, { name := "negativeZeroFloatBits", type := .long, accessFlags := 26, slot := 5, constantValue := 0 }, { name := "negativeZeroDoubleBits", type := .long, accessFlags := 26, slot := 6, constantValue := 0 }, { name := "twoToTheDoubleScaleUp", type := .double, accessFlags := 8, slot := 7, constantValue := 0 }, { name := "twoToTheDoubleScaleDown", type := .double, accessFlags := 8, slot := 8, constantValue := 0 }, { name := "$assertionsDisabled", type := .boolean, accessFlags := 4120, slot := 9, constantValue := 0 }]
  methods := #[k2m0, k2m1, k2m2]
  instanceTypes := #[]
  staticTypes := #[.double, .double, .double, .double, .double, .long, .long, .double, .double, .boolean]
  resolved := Array.replicate 460 none
  statics := none }

def pool3 : Array CpInfo := pool [(1, .methodref 2 3), (0, .class_ 4), (0, .nameAndType 5 6), (0, u "java/lang/Object"), (0, u "<init>"), (0, u "()V"), (9, .fieldref 17 18), (0, .class_ 19), (0, .nameAndType 20 21), (0, u "com/example/driftswarm/driftswarm/algorithms/Bounds"), (0, u "lower"), (0, u "[D"), (0, .fieldref 17 23), (0, .nameAndType 24 21), (0, u "upper"), (15, u "([D[D)V"), (0, .methodref 17 42), (0, .nameAndType 43 44), (0, u "contains"), (0, u "(ID)Z"), (25, u "([D)Z")] 21

def k3c0 : Code := { maxStack := 7, maxLocals := 4, code := prog_14_method_1_code, exceptionTable := #[], attributes := #[] }
def k3m0 : Method := { name := "<init>", desc := "([D[D)V", sig := { parameters := [(.array .double), (.array .double)], returnType := none }, accessFlags := 0, code := some k3c0 }
def k3c1 : Code := { maxStack := 4, maxLocals := 4, code := prog_14_method_3_code, exceptionTable := #[], attributes := #[] }
def k3m1 : Method := { name := "contains", desc := "(ID)Z", sig := { parameters := [.int, .double], returnType := some .boolean }, accessFlags := 0, code := some k3c1 }
def k3c2 : Code := { maxStack := 4, maxLocals := 3, code := prog_14_method_4_code, exceptionTable := #[], attributes := #[] }
def k3m2 : Method := { name := "contains", desc := "([D)Z", sig := { parameters := [(.array .double)], returnType := some .boolean }, accessFlags := 0, code := some k3c2 }
/-- com/example/driftswarm/driftswarm/algorithms/Bounds -/
def k3 : Class := { plain "com/example/driftswarm/driftswarm/algorithms/Bounds" (some 0) with
  accessFlags := 48
  interfaces := #[]
  cf := some (fileOf pool3 17 #[] #[{ accessFlags := 0, nameIndex := 5, descriptorIndex := 40, attributes := #[] }, { accessFlags := 0, nameIndex := 43, descriptorIndex := 44, attributes := #[] }, { accessFlags := 0, nameIndex := 43, descriptorIndex := 70, attributes := #[] }] 48 2 #[] #[{ accessFlags := 16, nameIndex := 20, descriptorIndex := 21, attributes := #[] }, { accessFlags := 16, nameIndex := 24, descriptorIndex := 21, attributes := #[] }])
  fields := #[{ name := "lower", type := (.array .double), accessFlags := 16, slot := 0, constantValue := 0 }, { name := "upper", type := (.array .double), accessFlags := 16, slot := 1, constantValue := 0 }]
  methods := #[k3m0, k3m1, k3m2]
  instanceTypes := #[(.array .double), (.array .double)]
  staticTypes := #[]
  resolved := Array.replicate 92 none
  statics := none }

def pool4 : Array CpInfo := pool [(1, u "java/lang/Cloneable"), (0, .class_ 1), (0, u "java/lang/Object"), (0, .class_ 3)] 3

/-- java/lang/Cloneable -/
def k4 : Class := { plain "java/lang/Cloneable" (some 0) with
  accessFlags := 1537
  interfaces := #[]
  cf := some (fileOf pool4 2 #[] #[] 1537 4 #[] #[])
  fields := #[]
  methods := #[]
  instanceTypes := #[]
  staticTypes := #[]
  resolved := Array.replicate 8 none
  statics := none }

def pool5 : Array CpInfo := pool [(1, u "java/io/Serializable"), (0, .class_ 1), (0, u "java/lang/Object"), (0, .class_ 3)] 3

/-- java/io/Serializable -/
def k5 : Class := { plain "java/io/Serializable" (some 0) with
  accessFlags := 1537
  interfaces := #[]
  cf := some (fileOf pool5 2 #[] #[] 1537 4 #[] #[])
  fields := #[]
  methods := #[]
  instanceTypes := #[]
  staticTypes := #[]
  resolved := Array.replicate 8 none
  statics := none }

/-- the primitive byte -/
def k6 : Class := { plain "byte" none with kind := .primitive 'B', accessFlags := 0x411 }
/-- [B -/
def k7 : Class := { plain "[B" (some 0) with kind := .array 6 .byte, interfaces := #[4, 5], accessFlags := 1041 }

/-- the primitive double -/
def k8 : Class := { plain "double" none with kind := .primitive 'D', accessFlags := 0x411 }
/-- [D -/
def k9 : Class := { plain "[D" (some 0) with kind := .array 8 .double, interfaces := #[4, 5], accessFlags := 1041 }

/-- the primitive int -/
def k10 : Class := { plain "int" none with kind := .primitive 'I', accessFlags := 0x411 }
/-- [I -/
def k11 : Class := { plain "[I" (some 0) with kind := .array 10 .int, interfaces := #[4, 5], accessFlags := 1041 }

def heap : Heap := #[]
def classes : Array Class := #[k0, k1, k2, k3, k4, k5, k6, k7, k8, k9, k10, k11]
def interned : List (Array UInt16 × Addr) := []
def slotsUsed : Nat := 0
def theMethod : MethodId := ⟨1, 1⟩
def args0 : Array Value := #[.int 5, .int 300, .int 7, .int 300, .long 7, .int 300]
def aboutOver (below : List Frame) : State where
  vm := { classes := classes, interned := interned.toArray }
  heap := heap
  slotsUsed := slotsUsed
  threads := #[{ frames := .invoking theMethod args0 :: below }]
def below0 : List Frame := [.native { method := ⟨0, 0⟩, args := #[] }]
def about1 : State := aboutOver below0
def p0 : Program := .bare "" "" ""
def e0 : Env := launch0.env 0 0 0
theorem w_frames : about1.frames = Frame.invoking theMethod args0 :: below0 := rfl
set_option maxRecDepth 65536 in
theorem w_args : argsFit about1.vm theMethod args0 = true := by decide +kernel
set_option maxRecDepth 65536 in
theorem w_heap : heapFits about1 = true := by decide +kernel
set_option maxRecDepth 65536 in
theorem w_runnable : about1.curStatus? = some .runnable := by decide +kernel
set_option maxRecDepth 65536 in
theorem w_alone : about1.alone = true := by decide +kernel
set_option maxRecDepth 65536 in
theorem w_named : about1.methodNamed? x = some theMethod := by decide +kernel
set_option maxRecDepth 65536 in
theorem w_hears : about1.hears theMethod below0 = true := by decide +kernel
set_option maxRecDepth 65536 in
theorem w_ripe : about1.ripe theMethod args0 below0 = true := by decide +kernel
theorem w_running : about1.status = .running := rfl
set_option maxRecDepth 65536 in
theorem w_room : about1.hasRoom e0.platform room_1 = true :=
  launch0.hasRoom_least _ room_1 (by decide +kernel) (by decide +kernel) (by decide +kernel) (by decide +kernel) (by decide +kernel) (by decide +kernel)
theorem allAtoms_all (ts : List Jvm.Cond) (a : Array Jvm.Value) (st : Jvm.State) : (allAtoms ts).before a st = ts.all (fun c => c.before a st) := by
  induction ts with
  | nil => rfl
  | cons c t ih =>
    show (Jvm.Cond.and c (allAtoms t)).before a st = _
    rw [Jvm.Cond.before_and, ih, List.all_cons]
def words1 : List Jvm.Cond := Jvm.Cond.code x code maxLocals ret :: tables_1
/-- a 'code' word, met by the world's own term for the bytes: nothing is compared byte by byte -/
theorem code_word {y : MethodName} {bytes : ByteArray} {mx : Nat} {rt : Option FieldType} {a : Array Value} {s : State} {m : MethodId} {meth : Method} {c : Code} (h1 : s.methodNamed? y = some m) (h2 : s.vm.method? m = some meth) (h3 : meth.code = some c) (h4 : c.code = bytes)
    (h5 : (c.maxLocals == mx && c.exceptionTable.isEmpty && decide (c.maxStack ≤ mostOperands) && decide (meth.sig.returnType = rt) && !meth.locks && decide (parseMethodDescriptor y.desc = some meth.sig)) = true) : (Jvm.Cond.code y bytes mx rt).before a s = true := by
  simp only [Bool.and_eq_true, beq_iff_eq, Bool.not_eq_true', decide_eq_true_eq] at h5
  obtain ⟨⟨⟨⟨⟨g1, g2⟩, g3⟩, g4⟩, g5⟩, g6⟩ := h5
  simp [Cond.before, Cond.holds, Cond.value, h1, h2, h3, h4, g1, g2, g3, g4, g5, g6]
def isCode : Jvm.Cond → Bool
  | .code _ _ _ _ => true
  | _ => false
theorem all_split {L : List Jvm.Cond} {P : Jvm.Cond → Bool} (h1 : L.all (fun c => isCode c || P c) = true) (h2 : ∀ c ∈ L.filter isCode, P c = true) : L.all P = true := by
  refine List.all_eq_true.mpr fun c hc => ?_
  have h := List.all_eq_true.mp h1 c hc
  rcases Bool.eq_false_or_eq_true (isCode c) with hi | hi
  · exact h2 c (List.mem_filter.mpr ⟨hc, hi⟩)
  · simpa [hi] using h
set_option maxRecDepth 65536 in
theorem w_c0 : (Jvm.Cond.code x code maxLocals ret).before args0 about1 = true := code_word (m := ⟨1, 1⟩) (meth := k1m1) (c := k1c1) (by decide +kernel) rfl rfl rfl (by decide +kernel)
set_option maxRecDepth 65536 in
theorem w_c1 : (Jvm.Cond.code ({ cls := "java/lang/Math", name := "min", desc := "(II)I" } : Jvm.MethodName) jdk_29_method_69_code (2 : Nat) (Option.some Jvm.ClassFile.FieldType.int)).before args0 about1 = true := code_word (m := ⟨2, 2⟩) (meth := k2m2) (c := k2c2) (by decide +kernel) rfl rfl rfl (by decide +kernel)
set_option maxRecDepth 65536 in
theorem w_c2 : (Jvm.Cond.code ({ cls := "java/lang/Math", name := "max", desc := "(II)I" } : Jvm.MethodName) jdk_29_method_65_code (2 : Nat) (Option.some Jvm.ClassFile.FieldType.int)).before args0 about1 = true := code_word (m := ⟨2, 1⟩) (meth := k2m1) (c := k2c1) (by decide +kernel) rfl rfl rfl (by decide +kernel)
set_option maxRecDepth 65536 in
theorem w_c3 : (Jvm.Cond.code ({ cls := "com/example/driftswarm/driftswarm/algorithms/Bounds", name := "<init>", desc := "([D[D)V" } : Jvm.MethodName) prog_14_method_1_code (4 : Nat) (Option.none : Option Jvm.ClassFile.FieldType)).before args0 about1 = true := code_word (m := ⟨3, 0⟩) (meth := k3m0) (c := k3c0) (by decide +kernel) rfl rfl rfl (by decide +kernel)
set_option maxRecDepth 65536 in
theorem w_c4 : (Jvm.Cond.code ({ cls := "java/lang/Object", name := "<init>", desc := "()V" } : Jvm.MethodName) object_method_1_code (1 : Nat) (Option.none : Option Jvm.ClassFile.FieldType)).before args0 about1 = true := code_word (m := ⟨0, 0⟩) (meth := k0m0) (c := k0c0) (by decide +kernel) rfl rfl rfl (by decide +kernel)
set_option maxRecDepth 65536 in
theorem w_c5 : (Jvm.Cond.code ({ cls := "com/example/driftswarm/driftswarm/algorithms/Bounds", name := "contains", desc := "([D)Z" } : Jvm.MethodName) prog_14_method_4_code (3 : Nat) (Option.some Jvm.ClassFile.FieldType.boolean)).before args0 about1 = true := code_word (m := ⟨3, 2⟩) (meth := k3m2) (c := k3c2) (by decide +kernel) rfl rfl rfl (by decide +kernel)
set_option maxRecDepth 65536 in
theorem w_c6 : (Jvm.Cond.code ({ cls := "com/example/driftswarm/driftswarm/algorithms/Bounds", name := "contains", desc := "(ID)Z" } : Jvm.MethodName) prog_14_method_3_code (4 : Nat) (Option.some Jvm.ClassFile.FieldType.boolean)).before args0 about1 = true := code_word (m := ⟨3, 1⟩) (meth := k3m1) (c := k3c1) (by decide +kernel) rfl rfl rfl (by decide +kernel)
def codes1 : List Jvm.Cond := [Jvm.Cond.code x code maxLocals ret, Jvm.Cond.code ({ cls := "java/lang/Math", name := "min", desc := "(II)I" } : Jvm.MethodName) jdk_29_method_69_code (2 : Nat) (Option.some Jvm.ClassFile.FieldType.int), Jvm.Cond.code ({ cls := "java/lang/Math", name := "max", desc := "(II)I" } : Jvm.MethodName) jdk_29_method_65_code (2 : Nat) (Option.some Jvm.ClassFile.FieldType.int), Jvm.Cond.code ({ cls := "com/example/driftswarm/driftswarm/algorithms/Bounds", name := "<init>", desc := "([D[D)V" } : Jvm.MethodName) prog_14_method_1_code (4 : Nat) (Option.none : Option Jvm.ClassFile.FieldType), Jvm.Cond.code ({ cls := "java/lang/Object", name := "<init>", desc := "()V" } : Jvm.MethodName) object_method_1_code (1 : Nat) (Option.none : Option Jvm.ClassFile.FieldType), Jvm.Cond.code ({ cls := "com/example/driftswarm/driftswarm/algorithms/Bounds", name := "contains", desc := "([D)Z" } : Jvm.MethodName) prog_14_method_4_code (3 : Nat) (Option.some Jvm.ClassFile.FieldType.boolean), Jvm.Cond.code ({ cls := "com/example/driftswarm/driftswarm/algorithms/Bounds", name := "contains", desc := "(ID)Z" } : Jvm.MethodName) prog_14_method_3_code (4 : Nat) (Option.some Jvm.ClassFile.FieldType.boolean)]
set_option maxRecDepth 65536 in
theorem codes_eq : words1.filter isCode = codes1 := rfl
theorem w_codes : ∀ c ∈ words1.filter isCode, c.before args0 about1 = true := by
  rw [codes_eq]
  intro c hc
  simp only [codes1, List.mem_cons, List.not_mem_nil, or_false] at hc
  rcases hc with rfl | rfl | rfl | rfl | rfl | rfl | rfl
  · exact w_c0
  · exact w_c1
  · exact w_c2
  · exact w_c3
  · exact w_c4
  · exact w_c5
  · exact w_c6
set_option maxRecDepth 65536 in
theorem w_t1 : (words1.take 24).all (fun c => isCode c || c.before args0 about1) = true := by decide +kernel
set_option maxRecDepth 65536 in
theorem w_t2 : (words1.drop 24).all (fun c => isCode c || c.before args0 about1) = true := by decide +kernel
theorem w_tables : (allAtoms (Jvm.Cond.code x code maxLocals ret :: tables_1)).before args0 about1 = true := by
  rw [allAtoms_all]
  show words1.all (fun c => c.before args0 about1) = true
  refine all_split ?_ w_codes
  rw [← List.take_append_drop 24 words1, List.all_append, w_t1, w_t2]
  rfl
set_option maxRecDepth 65536 in
theorem w_case : (Jvm.Cond.and given_1 narrow_1).before args0 about1 = true := by decide +kernel
theorem w_applies : (headSpec (Jvm.Cond.code x code maxLocals ret :: tables_1) room_1).applies x e0.platform about1 = true :=
  (Spec.applies_iff w_frames).mpr ⟨w_running, w_runnable, w_alone, w_named, w_hears, w_ripe, w_room, w_tables⟩
theorem atStart : AtStart classFile x code maxLocals ret World_1 tables_1 room_1 Calls_1 rest_1 Pre_1 launch0 p0 e0 about1 theMethod args0 below0 :=
  ⟨lists_1, trivial, launch0.admits_env _ _ _, launch0.least_env, fairChoices_fair.cas, fairChoices_fair.clock, w_frames, w_args, w_heap, w_applies, trivial, trivial, w_case⟩
end start1
theorem witness_1 : WitnessClaimed_1 := ⟨start1.p0, start1.e0, start1.about1, start1.theMethod, start1.args0, start1.below0, start1.atStart⟩
end Jvm.Pilot.@@N@@
