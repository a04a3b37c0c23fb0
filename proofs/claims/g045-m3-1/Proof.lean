import JvmDerived
import JvmDerived.Pilot.@@N@@Statement
import JvmDerived.Pilot.@@N@@Code
set_option linter.unusedVariables false
set_option linter.unusedSimpArgs false
@@BLOCK:NumsL.lean.txt@@
namespace Jvm.Pilot.@@N@@
open Jvm Jvm.ClassFile Sem Op Lib Jvm.Free Jvm.Stand Jvm.LawKit Jvm.RoadKit Bundle Jvm.Pilot.@@N@@.Jvm.D
section OwnGo
variable {p : Program} {l : Launch} {e : Env} {R : Room} {s : State} {m : MethodId} {args : Array Value} {below : List Frame} {meth : Method} {c : Code} {T T' : State} {locs : List Loc} {cells slots K1 K2 : Nat} {Q : Option Value → Heap → List Loc → Prop}
/-- from T at the frame f the run comes to an end that meets Q -/
def Go (p : Program) (e : Env) (below : List Frame) (s : State) (K1 K2 : Nat) (Q : Option Value → Heap → List Loc → Prop) (T : State) (f : JFrame) : Prop :=
  ∃ s₂ o, Steps p.tables e below (T.setTop f) s₂ ∧ s₂.status = .running ∧ Ended s₂ below o ∧ ∃ v L, o = .returned v ∧ Q v s₂.heap L ∧ FrameEnd s o s₂ L K1 K2
theorem Go.on {f f' : JFrame} (h : ∀ t, Steps p.tables e below (T'.setTop f') t → Steps p.tables e below (T.setTop f) t) (g : Go p e below s K1 K2 Q T' f') : Go p e below s K1 K2 Q T f := by
  obtain ⟨s₂, o, h1, r⟩ := g
  exact ⟨s₂, o, h _ h1, r⟩
theorem Go.cast {f f' : JFrame} (h : f = f') (g : Go p e below s K1 K2 Q T f') : Go p e below s K1 K2 Q T f := h ▸ g
theorem Go.gen {f : JFrame} (h : ∀ k1 k2 q, k1 = K1 → k2 = K2 → Q = q → Go p e below s k1 k2 q T f) : Go p e below s K1 K2 Q T f := h _ _ _ rfl rfl rfl
theorem Go.retV (X : Stand p l e R s m args below meth c T locs cells slots) (hx : p.tables.exec = Jvm.exec) {pc : Nat} {Ls : Array Slot} {w : Value} {t : FieldType} {i : Instr} {rest : List Value} (hret : meth.sig.returnType = some t) (hn : narrow t w = w)
    (hi : (i = .ireturn ∧ (t = .int ∨ t = .boolean ∨ t = .byte ∨ t = .char ∨ t = .short) ∧ ∃ z, w = .int z) ∨ (i = .lreturn ∧ t = .long ∧ ∃ z, w = .long z) ∨ (i = .dreturn ∧ t = .double ∧ ∃ z, w = .double z) ∨ (i = .freturn ∧ t = .float ∧ ∃ z, w = .float z) ∨ (i = .areturn ∧ t.isReference = true ∧ w.isRef = true))
    (hd : decode c.code pc = .ok (i, 1)) (hq : Q (some w) T.heap locs) (hc : cells ≤ K1) (hs : slots ≤ K2) (hlk : meth.locks = false := by assumption) : Go p e below s K1 K2 Q T (mkF m pc Ls (w :: rest)) := by
  obtain ⟨fs, hr, hrun, hended, hW, hsame⟩ := X.leave (v := some w) (fun h => by rw [hret] at h; cases h) hlk
  exact ⟨_, _, retOut X hx hret hn hi hd hr, hrun, hended, _, _, rfl, hq, ⟨_, rfl⟩, hW, hsame.mono hc hs⟩
theorem Go.retN (X : Stand p l e R s m args below meth c T locs cells slots) (hx : p.tables.exec = Jvm.exec) {pc : Nat} {Ls : Array Slot} {z : Int32} {t : FieldType} {rest : List Value} (hret : meth.sig.returnType = some t) (ht : t = .boolean ∨ t = .byte ∨ t = .char ∨ t = .short)
    (hd : decode c.code pc = .ok (.ireturn, 1)) (hq : Q (some (.int (nar t z))) T.heap locs) (hc : cells ≤ K1) (hs : slots ≤ K2) (hlk : meth.locks = false := by assumption) : Go p e below s K1 K2 Q T (mkF m pc Ls (.int z :: rest)) := by
  obtain ⟨fs, hr, hrun, hended, hW, hsame⟩ := X.leave (v := some (.int (nar t z))) (fun h => by rw [hret] at h; cases h) hlk
  exact ⟨_, _, Jvm.RoadKit.retN X hx hret ht hd hr, hrun, hended, _, _, rfl, hq, ⟨_, rfl⟩, hW, hsame.mono hc hs⟩
theorem Go.ret0 (X : Stand p l e R s m args below meth c T locs cells slots) (hx : p.tables.exec = Jvm.exec) {pc : Nat} {Ls : Array Slot} (hret : meth.sig.returnType = none)
    (hd : decode c.code pc = .ok (.return_, 1)) (hq : Q none T.heap locs) (hc : cells ≤ K1) (hs : slots ≤ K2) (hlk : meth.locks = false := by assumption) : Go p e below s K1 K2 Q T (mkF m pc Ls []) := by
  obtain ⟨fs, hr, hrun, hended, hW, hsame⟩ := X.leave (v := none) (fun _ => rfl) hlk
  exact ⟨_, _, X.returnOut hx hret hd hr, hrun, hended, _, _, rfl, hq, ⟨_, rfl⟩, hW, hsame.mono hc hs⟩
theorem own_lc_lt {a b : Int64} : lcmpW a b < 0 ↔ a < b := by rw [lcW]; exact lc_lt a b
theorem own_lc_gt {a b : Int64} : 0 < lcmpW a b ↔ b < a := by rw [lcW]; exact lc_gt a b
theorem own_lc_eq {a b : Int64} : lcmpW a b = 0 ↔ a = b := by rw [lcW]; exact lc_eq a b
theorem own_lremM {g : JFrame} {target : State} (X : Stand p l e R s m args below meth c T locs cells slots) (hx : p.tables.exec = Jvm.exec) (hg : g.method = m) {x y : Int64} {rest : List Value} (hd : decode c.code g.pc = .ok (.lrem, 1)) (hs : g.stack = .long y :: .long x :: rest) (hy : y ≠ 0)
    (hr : Steps p.tables e below (T.setTop { g with pc := g.pc + 1, stack := .long (x % y) :: rest }) target) : Steps p.tables e below (T.setTop g) target := by
  have q : x - x / y * y = x % y := by
    apply Int64.toInt_inj.mp
    have h1 := Int64.le_toInt (x % y)
    have h2 := Int64.toInt_lt (x % y)
    rw [Int64.toInt_sub, Int64.toInt_mul, Int64.toInt_div, Int.bmod_mul_bmod, Int.sub_bmod_bmod, Int.mul_comm (x.toInt.tdiv y.toInt), ← Int.tmod_def, ← Int64.toInt_mod]
    exact Int.bmod_eq_of_le_mul_two (by omega) (by omega)
  exact XS.lrem X.here hx hg hd hs hy (by rw [q]; exact hr)
theorem own_cl_gt {o : Option Ordering} : 0 < cmpValue o .l ↔ o = some .gt := by rcases o with _ | (_ | _ | _) <;> decide
theorem own_cl_lt {o : Option Ordering} : cmpValue o .l < 0 ↔ ¬ (o = some .gt ∨ o = some .eq) := by rcases o with _ | (_ | _ | _) <;> decide
theorem own_cg_lt {o : Option Ordering} : cmpValue o .g < 0 ↔ o = some .lt := by rcases o with _ | (_ | _ | _) <;> decide
theorem own_cg_gt {o : Option Ordering} : 0 < cmpValue o .g ↔ ¬ (o = some .lt ∨ o = some .eq) := by rcases o with _ | (_ | _ | _) <;> decide
theorem own_c_eq {o : Option Ordering} {k : CmpOp} : cmpValue o k = 0 ↔ o = some .eq := by cases k <;> rcases o with _ | (_ | _ | _) <;> decide
end OwnGo
section OwnFp
open Jvm.FP.Core
variable {a b V : UInt64} {x y z v : Int}
/-- the double a is finite and worth x units of 2^-1074 -/
def ZV (a : UInt64) (x : Int) : Prop := DFin a ∧ zval b64 (val64 a) = x
theorem ZV.ne (h : ZV a x) : val64 a ≠ .nan := h.1.ne_nan
theorem ZV.nn (h : ZV a x) : Jvm.Free.Fl.NoNaN64 a := Jvm.Free.Fl.noNaN64_no.mpr h.1.notNaN
theorem ZV.cmp (ha : ZV a x) (hb : ZV b y) : FP.dcmp a b = some (compare x y) := by
  show FP.Core.dcmp a b = _
  rw [dcmp_zval ha.ne hb.ne, ha.2, hb.2]
theorem ZV.uniq (ha : ZV a x) (hb : ZV a y) : x = y := ha.2.symm.trans hb.2
theorem own_fin_of {W : UInt64} (hn : val64 a ≠ .nan) (hW : DFin W) (h : zmag b64 (val64 a) ≤ zmag b64 (val64 W)) : DFin a := by
  cases h2 : val64 a with
  | nan => exact absurd h2 hn
  | inf s =>
    rw [h2] at h
    have := hW.zval_lt
    have e : zmag b64 (.inf s) = b64.tails * 2 ^ (b64.exps - 2) := rfl
    rw [e] at h
    omega
  | fin s c q => exact ⟨s, c, q, h2⟩
theorem own_natAbs (d : Datum) : (zval b64 d).natAbs = zmag b64 d := natAbs_signed _ _
theorem own_fin_of_z {W : UInt64} (hn : val64 a ≠ .nan) (hW : DFin W) (h : (zval b64 (val64 a)).natAbs ≤ (zval b64 (val64 W)).natAbs) : DFin a := by
  rw [own_natAbs, own_natAbs] at h; exact own_fin_of hn hW h
theorem ZV.add (ha : ZV a x) (hb : ZV b y) (hv : ZV V (x + y)) : ZV (FP.dadd a b) (x + y) := by
  have hn : val64 (FP.Core.dadd a b) ≠ .nan := (notNaN_iff _).mp (FP.Core.dadd_out ha.1.notNaN hb.1)
  have e : zval b64 (val64 (FP.Core.dadd a b)) = x + y := by
    have h1 := sum_le good_b64 ha.1 hb.1 (val64_fits a) (val64_fits b) (val64_fits V) hv.ne (by rw [ha.2, hb.2, hv.2]; exact Int.le_refl _)
    have h2 := sum_ge good_b64 ha.1 hb.1 (val64_fits a) (val64_fits b) (val64_fits V) hv.ne (by rw [ha.2, hb.2, hv.2]; exact Int.le_refl _)
    rw [← val64_dadd, hv.2] at h1 h2
    exact Int.le_antisymm h1 h2
  exact ⟨own_fin_of_z hn hv.1 (by rw [e, hv.2]; exact Nat.le_refl _), e⟩
theorem own_neg_fin {d : Datum} (h : ∃ s c q, d = .fin s c q) : ∃ s c q, negate d = .fin s c q := by
  obtain ⟨s, c, q, rfl⟩ := h; exact ⟨_, _, _, rfl⟩
theorem ZV.sub (ha : ZV a x) (hb : ZV b y) (hv : ZV V (x - y)) : ZV (FP.dsub a b) (x - y) := by
  have hn : val64 (FP.Core.dsub a b) ≠ .nan := (notNaN_iff _).mp (FP.Core.dsub_out ha.1.notNaN hb.1)
  have e : zval b64 (val64 (FP.Core.dsub a b)) = x - y := by
    have h1 := sum_le good_b64 ha.1 (own_neg_fin hb.1) (val64_fits a) (negate_fits (val64_fits b)) (val64_fits V) hv.ne (by rw [ha.2, zval_negate, hb.2, hv.2]; omega)
    have h2 := sum_ge good_b64 ha.1 (own_neg_fin hb.1) (val64_fits a) (negate_fits (val64_fits b)) (val64_fits V) hv.ne (by rw [ha.2, zval_negate, hb.2, hv.2]; omega)
    rw [← val64_dsub, hv.2] at h1 h2
    exact Int.le_antisymm h1 h2
  exact ⟨own_fin_of_z hn hv.1 (by rw [e, hv.2]; exact Nat.le_refl _), e⟩
/-- a sum or a difference lies between what bounds it -/
theorem ZV.add_le (ha : ZV a x) (hb : ZV b y) (hv : ZV V v) (h : x + y ≤ v) : zval b64 (val64 (FP.dadd a b)) ≤ v := by
  have h1 := sum_le good_b64 ha.1 hb.1 (val64_fits a) (val64_fits b) (val64_fits V) hv.ne (by rw [ha.2, hb.2, hv.2]; exact h)
  rw [← val64_dadd, hv.2] at h1; exact h1
theorem ZV.add_ge (ha : ZV a x) (hb : ZV b y) (hv : ZV V v) (h : v ≤ x + y) : v ≤ zval b64 (val64 (FP.dadd a b)) := by
  have h1 := sum_ge good_b64 ha.1 hb.1 (val64_fits a) (val64_fits b) (val64_fits V) hv.ne (by rw [ha.2, hb.2, hv.2]; exact h)
  rw [← val64_dadd, hv.2] at h1; exact h1
theorem ZV.sub_le (ha : ZV a x) (hb : ZV b y) (hv : ZV V v) (h : x - y ≤ v) : zval b64 (val64 (FP.dsub a b)) ≤ v := by
  have h1 := sum_le good_b64 ha.1 (own_neg_fin hb.1) (val64_fits a) (negate_fits (val64_fits b)) (val64_fits V) hv.ne (by rw [ha.2, zval_negate, hb.2, hv.2]; omega)
  rw [← val64_dsub, hv.2] at h1; exact h1
theorem ZV.sub_ge (ha : ZV a x) (hb : ZV b y) (hv : ZV V v) (h : v ≤ x - y) : v ≤ zval b64 (val64 (FP.dsub a b)) := by
  have h1 := sum_ge good_b64 ha.1 (own_neg_fin hb.1) (val64_fits a) (negate_fits (val64_fits b)) (val64_fits V) hv.ne (by rw [ha.2, zval_negate, hb.2, hv.2]; omega)
  rw [← val64_dsub, hv.2] at h1; exact h1
/-- the product's bounds -/
theorem own_mul_le (ha : ZV a x) (hb : ZV b y) (hv : ZV V v) (h : x * y ≤ v * (one64 : Int)) : zval b64 (val64 (FP.dmul a b)) ≤ v := by
  obtain ⟨⟨s, c, q, h1⟩, ex⟩ := ha
  obtain ⟨⟨t, d, r, h2⟩, ey⟩ := hb
  have f1 := val64_fits a; have f2 := val64_fits b
  rw [h1] at f1 ex; rw [h2] at f2 ey
  obtain ⟨p1, p2, p3⟩ := product_units f1 f2
  show zval b64 (val64 (FP.Core.dmul a b)) ≤ v
  rw [val64_dmul, h1, h2, p1, ← hv.2]
  refine zval_round_le good_b64 (val64_fits V) hv.ne (e0 := 2 * b64.qmin) (by decide) p2 ?_
  rw [p3, show (b64.qmin - 2 * b64.qmin).toNat = (-b64.qmin).toNat from by decide, pow_qmin64, hv.2, signed_xor]
  have : zval b64 (.fin s c q) * zval b64 (.fin t d r) ≤ v * (one64 : Int) := by rw [ex, ey]; exact h
  exact this
theorem own_mul_ge (ha : ZV a x) (hb : ZV b y) (hv : ZV V v) (h : v * (one64 : Int) ≤ x * y) : v ≤ zval b64 (val64 (FP.dmul a b)) := by
  obtain ⟨⟨s, c, q, h1⟩, ex⟩ := ha
  obtain ⟨⟨t, d, r, h2⟩, ey⟩ := hb
  have f1 := val64_fits a; have f2 := val64_fits b
  rw [h1] at f1 ex; rw [h2] at f2 ey
  obtain ⟨p1, p2, p3⟩ := product_units f1 f2
  show v ≤ zval b64 (val64 (FP.Core.dmul a b))
  rw [val64_dmul, h1, h2, p1, ← hv.2]
  refine zval_round_ge good_b64 (val64_fits V) hv.ne (e0 := 2 * b64.qmin) (by decide) p2 ?_
  rw [p3, show (b64.qmin - 2 * b64.qmin).toNat = (-b64.qmin).toNat from by decide, pow_qmin64, hv.2, signed_xor]
  have : v * (one64 : Int) ≤ zval b64 (.fin s c q) * zval b64 (.fin t d r) := by rw [ex, ey]; exact h
  exact this
theorem ZV.mul (ha : ZV a x) (hb : ZV b y) (hv : ZV V z) (h : x * y = z * (one64 : Int)) : ZV (FP.dmul a b) z := by
  have hn : val64 (FP.Core.dmul a b) ≠ .nan := (notNaN_iff _).mp (FP.Core.dmul_out ha.1 hb.1)
  have e : zval b64 (val64 (FP.Core.dmul a b)) = z := Int.le_antisymm (own_mul_le ha hb hv (Int.le_of_eq h)) (own_mul_ge ha hb hv (Int.le_of_eq h.symm))
  exact ⟨own_fin_of_z hn hv.1 (by rw [e, hv.2]; exact Nat.le_refl _), e⟩
/-- the quotient of finite doubles, the divisor not nought: its datum -/
theorem own_quot (ha : ZV a x) (hb : ZV b y) (hy : y ≠ 0) : ∃ s c q t d r, val64 a = .fin s c q ∧ val64 b = .fin t d r ∧ 0 < d ∧ val64 (FP.ddiv a b) = roundRatio b64 (s != t) c d (q - r) ∧ FP.Core.fits b64 (.fin s c q) ∧ FP.Core.fits b64 (.fin t d r) := by
  obtain ⟨⟨s, c, q, h1⟩, ex⟩ := ha
  obtain ⟨⟨t, d, r, h2⟩, ey⟩ := hb
  have f1 := val64_fits a; have f2 := val64_fits b
  rw [h1] at f1; rw [h2] at f2
  have hd : d ≠ 0 := fun q => by
    subst q
    rw [h2] at ey
    apply hy; rw [← ey]; show signed t (inUnits 0 r _) = 0
    unfold inUnits; rw [Nat.zero_mul, signed_zero]
  refine ⟨s, c, q, t, d, r, h1, h2, Nat.pos_of_ne_zero hd, ?_, f1, f2⟩
  show val64 (FP.Core.ddiv a b) = _
  rw [val64_ddiv, h1, h2]
  show (if d = 0 then _ else _) = _
  rw [if_neg hd]
theorem own_div_mag_le {c d : Nat} {q r : Int} {s t sg : Bool} (f1 : FP.Core.fits b64 (.fin s c q)) (f2 : FP.Core.fits b64 (.fin t d r)) (hd : 0 < d) {W : Datum} (fW : FP.Core.fits b64 W) (hW : W ≠ .nan)
    (h : inUnits c q b64.qmin * one64 ≤ zmag b64 W * inUnits d r b64.qmin) : zmag b64 (roundRatio b64 sg c d (q - r)) ≤ zmag b64 W := by
  have h1 := f1.2.1
  have h2 := f2.2.1
  have hq : b64.qmin < 0 := by decide
  refine zmag_roundRatio_le good_b64 hd fW hW (e0 := 2 * b64.qmin - r) (by omega) (by omega) ?_
  have e1 : (b64.qmin - (2 * b64.qmin - r)).toNat = (r - b64.qmin).toNat := by congr 1; omega
  rw [e1]
  have e2 : inUnits c (q - r) (2 * b64.qmin - r) = inUnits c q b64.qmin * one64 := by
    unfold inUnits
    rw [← pow_qmin64, Nat.mul_assoc, ← Nat.pow_add]
    congr 2; omega
  rw [e2]
  refine Nat.le_trans h (Nat.le_of_eq ?_)
  unfold inUnits
  rw [Nat.mul_comm d, Nat.mul_assoc]
theorem own_div_mag_ge {c d : Nat} {q r : Int} {s t sg : Bool} (f1 : FP.Core.fits b64 (.fin s c q)) (f2 : FP.Core.fits b64 (.fin t d r)) (hd : 0 < d) {W : Datum} (fW : FP.Core.fits b64 W)
    (h : zmag b64 W * inUnits d r b64.qmin ≤ inUnits c q b64.qmin * one64) : zmag b64 W ≤ zmag b64 (roundRatio b64 sg c d (q - r)) := by
  have h1 := f1.2.1
  have h2 := f2.2.1
  have hq : b64.qmin < 0 := by decide
  refine zmag_roundRatio_ge good_b64 hd fW (e0 := 2 * b64.qmin - r) (by omega) (by omega) ?_
  have e1 : (b64.qmin - (2 * b64.qmin - r)).toNat = (r - b64.qmin).toNat := by congr 1; omega
  rw [e1]
  have e2 : inUnits c (q - r) (2 * b64.qmin - r) = inUnits c q b64.qmin * one64 := by
    unfold inUnits
    rw [← pow_qmin64, Nat.mul_assoc, ← Nat.pow_add]
    congr 2; omega
  rw [e2]
  refine Nat.le_trans (Nat.le_of_eq ?_) h
  unfold inUnits
  rw [Nat.mul_comm d, Nat.mul_assoc]
/-- what is said of a quotient: r its units -/
def Quo (x y r : Int) : Prop := ∀ (V : UInt64) (v : Int), ZV V v → (x * (one64 : Int) ≤ v * y → r ≤ v) ∧ (v * y ≤ x * (one64 : Int) → v ≤ r)
theorem own_sgn_z (s : Bool) (m : Nat) : signed s m = if s then -(m : Int) else m := rfl
theorem ZV.neg_ex (h : ZV a x) : ∃ V, ZV V (-x) := by
  refine ⟨FP.Core.dneg a, ?_, ?_⟩
  · obtain ⟨⟨s, c, q, h1⟩, -⟩ := h; exact ⟨!s, c, q, by rw [val64_dneg, h1]; rfl⟩
  · rw [val64_dneg, zval_negate, h.2]
theorem own_mag {s : Bool} {c : Nat} {q : Int} : zval b64 (.fin s c q) = signed s (inUnits c q b64.qmin) := rfl
/-- the quotient by a positive double of at least one -/
theorem ZV.div (ha : ZV a x) (hb : ZV b y) (hy : (one64 : Int) ≤ y) : ∃ r, ZV (FP.ddiv a b) r ∧ Quo x y r := by
  have o1 := one64_pos
  obtain ⟨s, c, q, t, d, r, h1, h2, hd, h3, f1, f2⟩ := own_quot ha hb (by omega)
  have ey := hb.2; rw [h2, own_mag] at ey
  have ex := ha.2; rw [h1, own_mag] at ex
  have t0 : t = false := by
    cases t
    · rfl
    · simp only [own_sgn_z, if_true] at ey; omega
  subst t0
  have hy0 : (0 : Int) < y := by omega
  have ey' : ((inUnits d r b64.qmin : Nat) : Int) = y := ey
  generalize hu : inUnits d r b64.qmin = u at *
  generalize hc : inUnits c q b64.qmin = k at *
  have hsg : sgn (val64 (FP.ddiv a b)) = s := by rw [h3, sgn_roundRatio]; cases s <;> rfl
  have hne : val64 (FP.ddiv a b) ≠ .nan := by rw [h3]; exact roundRatio_ne_nan _ _ _ _ _
  have hz : zval b64 (val64 (FP.ddiv a b)) = signed s (zmag b64 (val64 (FP.ddiv a b))) := by rw [zval, hsg]
  have up : ∀ W : UInt64, val64 W ≠ .nan → k * one64 ≤ zmag b64 (val64 W) * u → zmag b64 (val64 (FP.ddiv a b)) ≤ zmag b64 (val64 W) := fun W hW h => by
    rw [h3]; exact own_div_mag_le f1 f2 hd (val64_fits W) hW (by rw [hu, hc]; exact h)
  have dn : ∀ W : UInt64, zmag b64 (val64 W) * u ≤ k * one64 → zmag b64 (val64 W) ≤ zmag b64 (val64 (FP.ddiv a b)) := fun W h => by
    rw [h3]; exact own_div_mag_ge f1 f2 hd (val64_fits W) (by rw [hu, hc]; exact h)
  have hk : k = zmag b64 (val64 a) := by rw [h1]; exact hc.symm
  have hfin : DFin (FP.ddiv a b) := own_fin_of hne ha.1 (up a ha.ne (by rw [← hk]; exact Nat.mul_le_mul_left _ (by omega)))
  refine ⟨_, ⟨hfin, rfl⟩, fun V v hv => ?_⟩
  rw [hz]
  generalize hm : zmag b64 (val64 (FP.ddiv a b)) = m at *
  have hV := own_natAbs (val64 V)
  rw [hv.2] at hV
  have upV := up V hv.ne
  have dnV := dn V
  rw [← hV] at upV dnV
  clear up dn
  have cast : ∀ p q : Nat, ((p * q : Nat) : Int) = (p : Int) * q := fun p q => by simp
  cases s
  · have ex' : (k : Int) = x := ex
    have em : signed false m = (m : Int) := rfl
    rw [em]
    constructor
    · intro h
      by_cases hv0 : 0 ≤ v
      · have e1 : (v.natAbs : Int) = v := Int.natAbs_of_nonneg hv0
        have : k * one64 ≤ v.natAbs * u := by apply Int.ofNat_le.mp; rw [cast, cast, ex', e1, ey']; exact h
        have := upV this; omega
      · exfalso
        have h5 : v * y < 0 := Int.mul_neg_of_neg_of_pos (by omega) hy0
        have h6 : 0 ≤ x * (one64 : Int) := Int.mul_nonneg (by omega) (by omega)
        omega
    · intro h
      by_cases hv0 : 0 ≤ v
      · have e1 : (v.natAbs : Int) = v := Int.natAbs_of_nonneg hv0
        have : v.natAbs * u ≤ k * one64 := by apply Int.ofNat_le.mp; rw [cast, cast, ex', e1, ey']; exact h
        have := dnV this; omega
      · omega
  · have ex' : -(k : Int) = x := ex
    have em : signed true m = -(m : Int) := rfl
    rw [em]
    have ek : (k : Int) = -x := by omega
    constructor
    · intro h
      by_cases hv0 : 0 ≤ v
      · omega
      · have e1 : (v.natAbs : Int) = -v := by omega
        have : v.natAbs * u ≤ k * one64 := by
          apply Int.ofNat_le.mp; rw [cast, cast, ek, e1, ey', Int.neg_mul, Int.neg_mul]; omega
        have := dnV this; omega
    · intro h
      by_cases hv0 : v ≤ 0
      · have e1 : (v.natAbs : Int) = -v := by omega
        have : k * one64 ≤ v.natAbs * u := by
          apply Int.ofNat_le.mp; rw [cast, cast, ek, e1, ey', Int.neg_mul, Int.neg_mul]; omega
        have := upV this; omega
      · exfalso
        have h5 : 0 < v * y := Int.mul_pos (by omega) hy0
        have h6 : x * (one64 : Int) ≤ 0 := by
          have : 0 ≤ (k : Int) * (one64 : Int) := Int.mul_nonneg (by omega) (by omega)
          rw [ek, Int.neg_mul] at this; omega
        omega
theorem ZV.div_exact (ha : ZV a x) (hb : ZV b y) (hy : (one64 : Int) ≤ y) (hv : ZV V z) (h : x * (one64 : Int) = z * y) : ZV (FP.ddiv a b) z := by
  obtain ⟨r, h1, h2⟩ := ha.div hb hy
  have h3 := h2 V z hv
  have : r = z := Int.le_antisymm (h3.1 (Int.le_of_eq h)) (h3.2 (Int.le_of_eq h.symm))
  exact this ▸ h1
/-- i * 2^k units are a double -/
theorem own_rep (i : Int) (k : Nat) (hi : i.natAbs < 2 ^ 53) (hk : k ≤ 2045) : ∃ V, ZV V (i * ((2 ^ k : Nat) : Int)) := by
  obtain ⟨c', q', h1, h2⟩ := round_exact good_b64 (decide (i < 0)) (c := i.natAbs) (q := (k : Int) + b64.qmin) hi (by omega) (by rw [show b64.qmax = 971 from by decide, qmin_b64]; omega)
  have hf : FP.Core.fits b64 (.fin (decide (i < 0)) c' q') := by rw [← h1]; exact round_fits good_b64 _
  refine ⟨of64 (.fin (decide (i < 0)) c' q'), ⟨_, _, _, val64_of64 hf⟩, ?_⟩
  rw [val64_of64 hf, own_mag, h2]
  unfold inUnits
  rw [show ((k : Int) + b64.qmin - b64.qmin).toNat = k from by omega, signed_mul, own_sgn_z]
  congr 1
  by_cases h : i < 0
  · simp only [h, decide_true, if_true]; omega
  · simp only [h, decide_false]; simp only [Bool.false_eq_true, if_false]; omega
theorem own_one64 : (one64 : Int) = ((2 ^ 1074 : Nat) : Int) := rfl
theorem ZV.of_int {i : Int} (h : DInt i a) : ZV a (i * (one64 : Int)) := by
  refine ⟨?_, DInt_zval h⟩
  unfold DInt at h
  cases h2 : val64 a with
  | nan => rw [h2] at h; exact h.elim
  | inf s => rw [h2] at h; exact h.elim
  | fin s c q => exact ⟨s, c, q, h2⟩
theorem own_i2d (n : Int32) : ZV (FP.i2d n) (n.toInt * (one64 : Int)) := ZV.of_int (i2d_int n)
theorem own_l2d {n : Int64} (h : n.toInt.natAbs ≤ 2 ^ 53) : ZV (FP.l2d n) (n.toInt * (one64 : Int)) := ZV.of_int (l2d_int h)
theorem own_ddiv_nn (ha : DFin a) (hb : DFin b) : FP.ddiv (FP.Core.dneg a) (FP.Core.dneg b) = FP.ddiv a b ∨ val64 (FP.ddiv a b) = .nan := by
  by_cases hn : val64 (FP.ddiv a b) = .nan
  · exact Or.inr hn
  · refine Or.inl (val64_inj hn ?_).symm
    obtain ⟨s, c, q, h1⟩ := ha
    obtain ⟨t, d, r, h2⟩ := hb
    show val64 (FP.Core.ddiv a b) = val64 (FP.Core.ddiv _ _)
    rw [val64_ddiv, val64_ddiv, val64_dneg, val64_dneg, h1, h2]
    show quotient b64 (.fin s c q) (.fin t d r) = quotient b64 (.fin (!s) c q) (.fin (!t) d r)
    simp only [quotient]
    have : ((!s) != (!t)) = (s != t) := by cases s <;> cases t <;> rfl
    rw [this]
theorem ZV.dneg (h : ZV a x) : ZV (FP.Core.dneg a) (-x) := by
  refine ⟨?_, by rw [val64_dneg, zval_negate, h.2]⟩
  obtain ⟨⟨s, c, q, h1⟩, -⟩ := h; exact ⟨!s, c, q, by rw [val64_dneg, h1]; rfl⟩
/-- the quotient by a negative double of at most minus one -/
theorem ZV.div_neg (ha : ZV a x) (hb : ZV b y) (hy : y ≤ -(one64 : Int)) : ∃ r, ZV (FP.ddiv a b) r ∧ Quo (-x) (-y) r := by
  obtain ⟨r, h1, h2⟩ := ha.dneg.div hb.dneg (by omega)
  have o1 := one64_pos
  obtain ⟨s, c, q, t, d, r', -, -, -, h3, -⟩ := own_quot ha hb (by omega)
  rcases own_ddiv_nn ha.1 hb.1 with h | h
  · exact ⟨r, h ▸ h1, h2⟩
  · rw [h3] at h; exact absurd h (roundRatio_ne_nan _ _ _ _ _)
/-- n / D against i / 2^j -/
theorem own_quo_int {n D r : Int} (h : Quo (n * (one64 : Int)) (D * (one64 : Int)) r) (i : Int) (j : Nat) (hj : j ≤ 1074) (hi : i.natAbs < 2 ^ 53) :
    (n * ((2 ^ j : Nat) : Int) ≤ i * D → r ≤ i * ((2 ^ (1074 - j) : Nat) : Int)) ∧ (i * D ≤ n * ((2 ^ j : Nat) : Int) → i * ((2 ^ (1074 - j) : Nat) : Int) ≤ r) := by
  obtain ⟨V, hV⟩ := own_rep i (1074 - j) hi (by omega)
  have q := h V _ hV
  have e : (one64 : Int) = ((2 ^ j : Nat) : Int) * ((2 ^ (1074 - j) : Nat) : Int) := by
    rw [own_one64, ← Int.natCast_mul, ← Nat.pow_add]; congr 2; omega
  have hu : (0 : Int) ≤ ((2 ^ (1074 - j) : Nat) : Int) * (one64 : Int) := Int.mul_nonneg (Int.natCast_nonneg _) (Int.natCast_nonneg _)
  have e1 : n * (one64 : Int) * (one64 : Int) = n * ((2 ^ j : Nat) : Int) * (((2 ^ (1074 - j) : Nat) : Int) * (one64 : Int)) := by
    conv => lhs; arg 1; rw [e]
    rw [← Int.mul_assoc n, Int.mul_assoc (n * _)]
  have e2 : i * ((2 ^ (1074 - j) : Nat) : Int) * (D * (one64 : Int)) = i * D * (((2 ^ (1074 - j) : Nat) : Int) * (one64 : Int)) := by rw [Int.mul_assoc i, Int.mul_left_comm _ D, ← Int.mul_assoc i D]
  rw [e1, e2] at q
  exact ⟨fun z => q.1 (Int.mul_le_mul_of_nonneg_right z hu), fun z => q.2 (Int.mul_le_mul_of_nonneg_right z hu)⟩
theorem own_zero : ZV (0 : UInt64) 0 := ⟨⟨_, _, _, val64_zero⟩, zval64_zero⟩
theorem own_one : ZV (4607182418800017408 : UInt64) (one64 : Int) := by
  have := ZV.of_int dint_one; rwa [Int.one_mul] at this
theorem own_cmp_gt {x y : Int} : some (compare x y) = some Ordering.gt ↔ y < x := by rw [Option.some.injEq]; exact compare_gt_iff x y
theorem own_cmp_lt {x y : Int} : some (compare x y) = some Ordering.lt ↔ x < y := by rw [Option.some.injEq]; exact compare_lt_iff x y
theorem own_cmp_eq {x y : Int} : some (compare x y) = some Ordering.eq ↔ x = y := by rw [Option.some.injEq]; exact compare_eq_iff x y
theorem own_dnn {i : Int} {a : UInt64} (h : DInt i a) : Jvm.Free.Fl.NoNaN64 a := (ZV.of_int h).nn
theorem own_nnd' {a : UInt64} (ha : DFin a) (n : Int32) (hn : n ≠ 0) : Jvm.Free.Fl.NoNaN64 (FP.ddiv a (FP.i2d n)) :=
  Jvm.Free.Fl.noNaN64_no.mpr (FP.Core.ddiv_out ha.notNaN (i2d_fin n) (fun q => i2d_ne_zero hn (by rwa [zero_bits2] at q)))
theorem own_nnd (s : Int64) (n : Int32) (hn : n ≠ 0) : Jvm.Free.Fl.NoNaN64 (FP.ddiv (FP.l2d s) (FP.i2d n)) := own_nnd' (l2d_fin s) n hn
theorem own_dz : DInt 0 (0 : UInt64) := by
  have : (0 : UInt64) = FP.l2d 0 := FP.Core.l2d_zero.symm
  rw [this]; exact l2d_int (a := 0) (by decide)
theorem own_div_eq {S S' : UInt64} {s : Int} (h : DInt s S) (h' : DInt s S') (n : Int32) (hn : 1 ≤ n.toInt) : FP.dcmp (FP.ddiv S (FP.i2d n)) (FP.ddiv S' (FP.i2d n)) = some .eq := by
  have hy : (one64 : Int) ≤ n.toInt * (one64 : Int) := by
    have := Int.mul_le_mul_of_nonneg_right hn (show (0 : Int) ≤ (one64 : Int) by omega)
    rwa [Int.one_mul] at this
  by_cases hs : s = 0
  · subst hs
    have z1 := ZV.of_int h
    have z2 := ZV.of_int h'
    rw [Int.zero_mul] at z1 z2
    have q1 := z1.div_exact (own_i2d n) hy own_zero (by rw [Int.zero_mul, Int.zero_mul])
    have q2 := z2.div_exact (own_i2d n) hy own_zero (by rw [Int.zero_mul, Int.zero_mul])
    rw [q1.cmp q2, own_cmp_eq]
  · have e := dint_unique hs h h'
    subst e
    have hz : n ≠ 0 := fun q => by subst q; revert hn; decide
    exact dcmp_refl (Jvm.Free.Fl.noNaN64_no.mp (own_nnd' (ZV.of_int h).1 n hz))
theorem own_ib (x : Int32) : x.toInt.natAbs ≤ 2147483648 := by have := x.le_toInt; have := x.toInt_lt; omega
end OwnFp
theorem d1_0 : decode prog_50_method_2_code 0 = .ok (.aload_n 0, 1) := by decide +kernel
theorem d1_1 : decode prog_50_method_2_code 1 = .ok (.arraylength, 1) := by decide +kernel
theorem d1_2 : decode prog_50_method_2_code 2 = .ok (.ifCond .ne 13, 3) := by decide +kernel
theorem d1_15 : decode prog_50_method_2_code 15 = .ok (.dconst 0, 1) := by decide +kernel
theorem d1_16 : decode prog_50_method_2_code 16 = .ok (.dstore_n 1, 1) := by decide +kernel
theorem d1_17 : decode prog_50_method_2_code 17 = .ok (.aload_n 0, 1) := by decide +kernel
theorem d1_18 : decode prog_50_method_2_code 18 = .ok (.astore_n 3, 1) := by decide +kernel
theorem d1_19 : decode prog_50_method_2_code 19 = .ok (.aload_n 3, 1) := by decide +kernel
theorem d1_20 : decode prog_50_method_2_code 20 = .ok (.arraylength, 1) := by decide +kernel
theorem d1_21 : decode prog_50_method_2_code 21 = .ok (.istore 4, 2) := by decide +kernel
theorem d1_23 : decode prog_50_method_2_code 23 = .ok (.iconst 0, 1) := by decide +kernel
theorem d1_24 : decode prog_50_method_2_code 24 = .ok (.istore 5, 2) := by decide +kernel
theorem d1_26 : decode prog_50_method_2_code 26 = .ok (.iload 5, 2) := by decide +kernel
theorem d1_28 : decode prog_50_method_2_code 28 = .ok (.iload 4, 2) := by decide +kernel
theorem d1_30 : decode prog_50_method_2_code 30 = .ok (.if_icmp .ge 20, 3) := by decide +kernel
theorem d1_33 : decode prog_50_method_2_code 33 = .ok (.aload_n 3, 1) := by decide +kernel
theorem d1_34 : decode prog_50_method_2_code 34 = .ok (.iload 5, 2) := by decide +kernel
theorem d1_36 : decode prog_50_method_2_code 36 = .ok (.daload, 1) := by decide +kernel
theorem d1_37 : decode prog_50_method_2_code 37 = .ok (.dstore 6, 2) := by decide +kernel
theorem d1_39 : decode prog_50_method_2_code 39 = .ok (.dload_n 1, 1) := by decide +kernel
theorem d1_40 : decode prog_50_method_2_code 40 = .ok (.dload 6, 2) := by decide +kernel
theorem d1_42 : decode prog_50_method_2_code 42 = .ok (.dadd, 1) := by decide +kernel
theorem d1_43 : decode prog_50_method_2_code 43 = .ok (.dstore_n 1, 1) := by decide +kernel
theorem d1_44 : decode prog_50_method_2_code 44 = .ok (.iinc 5 1, 3) := by decide +kernel
theorem d1_47 : decode prog_50_method_2_code 47 = .ok (.goto (-21), 3) := by decide +kernel
theorem d1_50 : decode prog_50_method_2_code 50 = .ok (.dload_n 1, 1) := by decide +kernel
theorem d1_51 : decode prog_50_method_2_code 51 = .ok (.aload_n 0, 1) := by decide +kernel
theorem d1_52 : decode prog_50_method_2_code 52 = .ok (.arraylength, 1) := by decide +kernel
theorem d1_53 : decode prog_50_method_2_code 53 = .ok (.i2d, 1) := by decide +kernel
theorem d1_54 : decode prog_50_method_2_code 54 = .ok (.ddiv, 1) := by decide +kernel
theorem d1_55 : decode prog_50_method_2_code 55 = .ok (.dreturn, 1) := by decide +kernel
theorem pn_0 : plainName "com/example/driftswarm/driftswarm/analysis/Statistics" = true := by first | (simp [plainName, overriddenIn]; done) | decide +kernel
theorem ef_rm1_1 (m : MethodId) (a0 : Addr) : entryFrame m #[(.ref a0)] 8 = mkF m 0 #[.val (.ref a0), .unset, .unset, .unset, .unset, .unset, .unset, .unset] [] := by first | (simp [entryFrame, mkF, argsToLocals, Value.category]; done) | rfl
def Q_rm1_1 (Z : State) (a0 : Addr) (k_a0 : ClassId) (x0 : UInt64) (h0 : Heap) (n0 : Nat) (v : Option Value) (h : Heap) (L : List Loc) : Prop := v = some (.double (FP.ddiv (FP.dadd (0 : UInt64) x0) (FP.i2d (1 : Int32)))) ∧ Fr n0 L ∧ h = h0
set_option maxRecDepth 65536 in
set_option maxHeartbeats 40000000 in
theorem rm1_1 (l : Launch) (Z : State) (aw : Array Value) (hw : ∀ d ∈ tables_1, d.before aw Z = true) (ws : List Jvm.Cond) (a0 : Addr) (k_a0 : ClassId) (x0 : UInt64) (h0 : Heap) (n0 : Nat) (Z0 : n0 ≤ h0.size) (V_a0 : Arv Z h0 a0 k_a0 .double (1 : Int32) [(.double x0)] (.double (0 : UInt64))) (hs0 : Jvm.Free.Fl.NoNaN64 (FP.dadd (0 : UInt64) x0)) (hq : Jvm.Free.Fl.NoNaN64 (FP.ddiv (FP.dadd (0 : UInt64) x0) (FP.i2d (1 : Int32)))) :
    MetFree l (⟨"com/example/driftswarm/driftswarm/analysis/Statistics", "mean", "([D)D"⟩ : MethodName) (head1 (Jvm.Cond.code (⟨"com/example/driftswarm/driftswarm/analysis/Statistics", "mean", "([D)D"⟩ : MethodName) prog_50_method_2_code 8 (some .double) :: ws) ({ frames := 0, cells := 0, slots := 0, locals := 0 } : Room)) (fun a U => a = #[(.ref a0)] ∧ Z.Warmed39 U.vm ∧ U.heap = h0) (fun _ _ _ _ _ => True) (fun _ U o U' => ∃ v L, o = .returned v ∧ Q_rm1_1 Z a0 k_a0 x0 h0 n0 v U'.heap L ∧ FrameEnd U o U' L ({ frames := 0, cells := 0, slots := 0, locals := 0 } : Room).cells ({ frames := 0, cells := 0, slots := 0, locals := 0 } : Room).slots) := by
  refine MetFree.of_bodySF (plainFor_of_name pn_0) hisR ?_
  intro p e s m args below meth c s₁ Bd hml0 hP hK
  obtain ⟨rfl, hZ, hh⟩ := hP
  have hx := Bd.exec
  have hby := Bd.bytes
  have hml : c.maxLocals = 8 := hml0
  have hown : s.vm.findClass "com/example/driftswarm/driftswarm/analysis/Statistics" = some m.cls := findClass_of_methodNamed Bd.named
  have hnm := (name_of_methodNamed Bd.named Bd.method).1
  have hlk : meth.locks = false := BodyLoose.notSynchronized Bd
  have X0 : Stand p l e ({ frames := 0, cells := 0, slots := 0, locals := 0 } : Room) s m #[(.ref a0)] below meth c s₁ [] 0 0 := Stand.of_body Bd
  have e0 : s₁.heap = h0 := by rw [← hh, Bd.state]; rfl
  have N0 := Fr.nil n0
  have ZZ := Z0
  show Go p e below s ({ frames := 0, cells := 0, slots := 0, locals := 0 } : Room).cells ({ frames := 0, cells := 0, slots := 0, locals := 0 } : Room).slots (fun v h L => Q_rm1_1 Z a0 k_a0 x0 h0 n0 v h L) s₁ (entryFrame m #[(.ref a0)] 8)
  refine Go.cast (ef_rm1_1 m a0) ?_
  refine Go.gen ?_
  intro K1 K2 QQ hK1 hK2 hQQ
  refine Go.on (fun _ k => XS.aloadN X0.here hx rfl (hb hby d1_0) rfl rfl k) ?_
  show Go _ _ _ _ _ _ _ _ (mkF m 1 #[.val (.ref a0), .unset, .unset, .unset, .unset, .unset, .unset, .unset] [(.ref a0)])
  obtain ⟨cl1, Ar1, -, S1, N1n, -, -⟩ := id V_a0
  refine Go.on (X0.arraylength hx (by rw [e0]; exact Ar1.1) (State.isArrayOf_alike hZ.alike Ar1.2.1) (g := (mkF m 1 #[.val (.ref a0), .unset, .unset, .unset, .unset, .unset, .unset, .unset] [(.ref a0)])) rfl rfl (hb hby d1_1)) ?_
  rw [len_of S1 N1n]
  show Go _ _ _ _ _ _ _ _ (mkF m 2 #[.val (.ref a0), .unset, .unset, .unset, .unset, .unset, .unset, .unset] [(.int (1 : Int32))])
  have hc2 : ¬ ((1 : Int32) = (0 : Int32)) := by decide
  refine Go.on (fun _ k => XS.ifYes X0.here hx rfl (pc0 := 2) (pc' := 15) rfl (hb hby d1_2) rfl ((if0 _ _).trans (feq hc2).2) (by decide) (by decide) k) ?_
  show Go _ _ _ _ _ _ _ _ (mkF m 15 #[.val (.ref a0), .unset, .unset, .unset, .unset, .unset, .unset, .unset] [])
  refine Go.on (fun _ k => XS.dconst0 X0.here hx rfl (v := (0 : UInt64)) (hb hby d1_15) rfl k) ?_
  show Go _ _ _ _ _ _ _ _ (mkF m 16 #[.val (.ref a0), .unset, .unset, .unset, .unset, .unset, .unset, .unset] [(.double (0 : UInt64))])
  refine Go.on (fun _ k => XS.dstoreN X0.here hx rfl (hb hby d1_16) rfl (l' := #[.val (.ref a0), .val (.double (0 : UInt64)), .second, .unset, .unset, .unset, .unset, .unset]) rfl k) ?_
  show Go _ _ _ _ _ _ _ _ (mkF m 17 #[.val (.ref a0), .val (.double (0 : UInt64)), .second, .unset, .unset, .unset, .unset, .unset] [])
  refine Go.on (fun _ k => XS.aloadN X0.here hx rfl (hb hby d1_17) rfl rfl k) ?_
  show Go _ _ _ _ _ _ _ _ (mkF m 18 #[.val (.ref a0), .val (.double (0 : UInt64)), .second, .unset, .unset, .unset, .unset, .unset] [(.ref a0)])
  refine Go.on (fun _ k => XS.astoreN X0.here hx rfl (hb hby d1_18) rfl rfl (l' := #[.val (.ref a0), .val (.double (0 : UInt64)), .second, .val (.ref a0), .unset, .unset, .unset, .unset]) rfl k) ?_
  show Go _ _ _ _ _ _ _ _ (mkF m 19 #[.val (.ref a0), .val (.double (0 : UInt64)), .second, .val (.ref a0), .unset, .unset, .unset, .unset] [])
  refine Go.on (fun _ k => XS.aloadN X0.here hx rfl (hb hby d1_19) rfl rfl k) ?_
  show Go _ _ _ _ _ _ _ _ (mkF m 20 #[.val (.ref a0), .val (.double (0 : UInt64)), .second, .val (.ref a0), .unset, .unset, .unset, .unset] [(.ref a0)])
  obtain ⟨cl3, Ar3, -, S3, N3n, -, -⟩ := id V_a0
  refine Go.on (X0.arraylength hx (by rw [e0]; exact Ar3.1) (State.isArrayOf_alike hZ.alike Ar3.2.1) (g := (mkF m 20 #[.val (.ref a0), .val (.double (0 : UInt64)), .second, .val (.ref a0), .unset, .unset, .unset, .unset] [(.ref a0)])) rfl rfl (hb hby d1_20)) ?_
  rw [len_of S3 N3n]
  show Go _ _ _ _ _ _ _ _ (mkF m 21 #[.val (.ref a0), .val (.double (0 : UInt64)), .second, .val (.ref a0), .unset, .unset, .unset, .unset] [(.int (1 : Int32))])
  refine Go.on (fun _ k => XS.istore X0.here hx rfl (hb hby d1_21) rfl (l' := #[.val (.ref a0), .val (.double (0 : UInt64)), .second, .val (.ref a0), .val (.int (1 : Int32)), .unset, .unset, .unset]) rfl k) ?_
  show Go _ _ _ _ _ _ _ _ (mkF m 23 #[.val (.ref a0), .val (.double (0 : UInt64)), .second, .val (.ref a0), .val (.int (1 : Int32)), .unset, .unset, .unset] [])
  refine Go.on (fun _ k => XS.iconst X0.here hx rfl (hb hby d1_23) k) ?_
  show Go _ _ _ _ _ _ _ _ (mkF m 24 #[.val (.ref a0), .val (.double (0 : UInt64)), .second, .val (.ref a0), .val (.int (1 : Int32)), .unset, .unset, .unset] [(.int (0 : Int32))])
  refine Go.on (fun _ k => XS.istore X0.here hx rfl (hb hby d1_24) rfl (l' := #[.val (.ref a0), .val (.double (0 : UInt64)), .second, .val (.ref a0), .val (.int (1 : Int32)), .val (.int (0 : Int32)), .unset, .unset]) rfl k) ?_
  show Go _ _ _ _ _ _ _ _ (mkF m 26 #[.val (.ref a0), .val (.double (0 : UInt64)), .second, .val (.ref a0), .val (.int (1 : Int32)), .val (.int (0 : Int32)), .unset, .unset] [])
  refine Go.on (fun _ k => XS.iload X0.here hx rfl (hb hby d1_26) rfl k) ?_
  show Go _ _ _ _ _ _ _ _ (mkF m 28 #[.val (.ref a0), .val (.double (0 : UInt64)), .second, .val (.ref a0), .val (.int (1 : Int32)), .val (.int (0 : Int32)), .unset, .unset] [(.int (0 : Int32))])
  refine Go.on (fun _ k => XS.iload X0.here hx rfl (hb hby d1_28) rfl k) ?_
  show Go _ _ _ _ _ _ _ _ (mkF m 30 #[.val (.ref a0), .val (.double (0 : UInt64)), .second, .val (.ref a0), .val (.int (1 : Int32)), .val (.int (0 : Int32)), .unset, .unset] [(.int (1 : Int32)), (.int (0 : Int32))])
  have hc4 : (0 : Int32) < (1 : Int32) := by decide
  refine Go.on (fun _ k => XS.icmpNo X0.here hx rfl (hb hby d1_30) rfl (tlt hc4).2.1 k) ?_
  show Go _ _ _ _ _ _ _ _ (mkF m 33 #[.val (.ref a0), .val (.double (0 : UInt64)), .second, .val (.ref a0), .val (.int (1 : Int32)), .val (.int (0 : Int32)), .unset, .unset] [])
  refine Go.on (fun _ k => XS.aloadN X0.here hx rfl (hb hby d1_33) rfl rfl k) ?_
  show Go _ _ _ _ _ _ _ _ (mkF m 34 #[.val (.ref a0), .val (.double (0 : UInt64)), .second, .val (.ref a0), .val (.int (1 : Int32)), .val (.int (0 : Int32)), .unset, .unset] [(.ref a0)])
  refine Go.on (fun _ k => XS.iload X0.here hx rfl (hb hby d1_34) rfl k) ?_
  show Go _ _ _ _ _ _ _ _ (mkF m 36 #[.val (.ref a0), .val (.double (0 : UInt64)), .second, .val (.ref a0), .val (.int (1 : Int32)), .val (.int (0 : Int32)), .unset, .unset] [(.int (0 : Int32)), (.ref a0)])
  obtain ⟨cl5, Ar5, -, S5, -, H5, -⟩ := id V_a0
  have hin5 : ¬ ((0 : Int32) < 0 ∨ cl5.slots.size ≤ ((0 : Int32)).toNatClampNeg) := inb_of S5 ⟨by decide, by decide⟩
  refine Go.on (X0.daload hx (j := (0 : Int32)) (v := (.double x0)) (by rw [e0]; exact Ar5.1) (State.isArrayOf_alike hZ.alike Ar5.2.1) Ar5.2.2 hin5 (H5.at hin5 (rfl)) (g := (mkF m 36 #[.val (.ref a0), .val (.double (0 : UInt64)), .second, .val (.ref a0), .val (.int (1 : Int32)), .val (.int (0 : Int32)), .unset, .unset] [(.int (0 : Int32)), (.ref a0)])) rfl rfl (hb hby d1_36)) ?_
  show Go _ _ _ _ _ _ _ _ (mkF m 37 #[.val (.ref a0), .val (.double (0 : UInt64)), .second, .val (.ref a0), .val (.int (1 : Int32)), .val (.int (0 : Int32)), .unset, .unset] [(.double x0)])
  refine Go.on (fun _ k => XS.dstore X0.here hx rfl (hb hby d1_37) rfl (l' := #[.val (.ref a0), .val (.double (0 : UInt64)), .second, .val (.ref a0), .val (.int (1 : Int32)), .val (.int (0 : Int32)), .val (.double x0), .second]) rfl k) ?_
  show Go _ _ _ _ _ _ _ _ (mkF m 39 #[.val (.ref a0), .val (.double (0 : UInt64)), .second, .val (.ref a0), .val (.int (1 : Int32)), .val (.int (0 : Int32)), .val (.double x0), .second] [])
  refine Go.on (fun _ k => XS.dloadN X0.here hx rfl (hb hby d1_39) rfl k) ?_
  show Go _ _ _ _ _ _ _ _ (mkF m 40 #[.val (.ref a0), .val (.double (0 : UInt64)), .second, .val (.ref a0), .val (.int (1 : Int32)), .val (.int (0 : Int32)), .val (.double x0), .second] [(.double (0 : UInt64))])
  refine Go.on (fun _ k => XS.dload X0.here hx rfl (hb hby d1_40) rfl k) ?_
  show Go _ _ _ _ _ _ _ _ (mkF m 42 #[.val (.ref a0), .val (.double (0 : UInt64)), .second, .val (.ref a0), .val (.int (1 : Int32)), .val (.int (0 : Int32)), .val (.double x0), .second] [(.double x0), (.double (0 : UInt64))])
  refine Go.on (fun _ k => XS.daddS X0.here hx rfl (hb hby d1_42) rfl (hs0) rfl k) ?_
  show Go _ _ _ _ _ _ _ _ (mkF m 43 #[.val (.ref a0), .val (.double (0 : UInt64)), .second, .val (.ref a0), .val (.int (1 : Int32)), .val (.int (0 : Int32)), .val (.double x0), .second] [(.double (FP.dadd (0 : UInt64) x0))])
  refine Go.on (fun _ k => XS.dstoreN X0.here hx rfl (hb hby d1_43) rfl (l' := #[.val (.ref a0), .val (.double (FP.dadd (0 : UInt64) x0)), .second, .val (.ref a0), .val (.int (1 : Int32)), .val (.int (0 : Int32)), .val (.double x0), .second]) rfl k) ?_
  show Go _ _ _ _ _ _ _ _ (mkF m 44 #[.val (.ref a0), .val (.double (FP.dadd (0 : UInt64) x0)), .second, .val (.ref a0), .val (.int (1 : Int32)), .val (.int (0 : Int32)), .val (.double x0), .second] [])
  refine Go.on (fun _ k => XS.iinc X0.here hx rfl (hb hby d1_44) rfl (l' := #[.val (.ref a0), .val (.double (FP.dadd (0 : UInt64) x0)), .second, .val (.ref a0), .val (.int (1 : Int32)), .val (.int (1 : Int32)), .val (.double x0), .second]) rfl k) ?_
  show Go _ _ _ _ _ _ _ _ (mkF m 47 #[.val (.ref a0), .val (.double (FP.dadd (0 : UInt64) x0)), .second, .val (.ref a0), .val (.int (1 : Int32)), .val (.int (1 : Int32)), .val (.double x0), .second] [])
  refine Go.on (fun _ k => XS.goto X0.here hx rfl (pc0 := 47) (pc' := 26) rfl (hb hby d1_47) (by decide) (by decide) k) ?_
  show Go _ _ _ _ _ _ _ _ (mkF m 26 #[.val (.ref a0), .val (.double (FP.dadd (0 : UInt64) x0)), .second, .val (.ref a0), .val (.int (1 : Int32)), .val (.int (1 : Int32)), .val (.double x0), .second] [])
  refine Go.on (fun _ k => XS.iload X0.here hx rfl (hb hby d1_26) rfl k) ?_
  show Go _ _ _ _ _ _ _ _ (mkF m 28 #[.val (.ref a0), .val (.double (FP.dadd (0 : UInt64) x0)), .second, .val (.ref a0), .val (.int (1 : Int32)), .val (.int (1 : Int32)), .val (.double x0), .second] [(.int (1 : Int32))])
  refine Go.on (fun _ k => XS.iload X0.here hx rfl (hb hby d1_28) rfl k) ?_
  show Go _ _ _ _ _ _ _ _ (mkF m 30 #[.val (.ref a0), .val (.double (FP.dadd (0 : UInt64) x0)), .second, .val (.ref a0), .val (.int (1 : Int32)), .val (.int (1 : Int32)), .val (.double x0), .second] [(.int (1 : Int32)), (.int (1 : Int32))])
  have hc6 : ¬ ((1 : Int32) < (1 : Int32)) := by decide
  refine Go.on (fun _ k => XS.icmpYes X0.here hx rfl (pc0 := 30) (pc' := 50) rfl (hb hby d1_30) rfl (flt hc6).2.1 (by decide) (by decide) k) ?_
  show Go _ _ _ _ _ _ _ _ (mkF m 50 #[.val (.ref a0), .val (.double (FP.dadd (0 : UInt64) x0)), .second, .val (.ref a0), .val (.int (1 : Int32)), .val (.int (1 : Int32)), .val (.double x0), .second] [])
  refine Go.on (fun _ k => XS.dloadN X0.here hx rfl (hb hby d1_50) rfl k) ?_
  show Go _ _ _ _ _ _ _ _ (mkF m 51 #[.val (.ref a0), .val (.double (FP.dadd (0 : UInt64) x0)), .second, .val (.ref a0), .val (.int (1 : Int32)), .val (.int (1 : Int32)), .val (.double x0), .second] [(.double (FP.dadd (0 : UInt64) x0))])
  refine Go.on (fun _ k => XS.aloadN X0.here hx rfl (hb hby d1_51) rfl rfl k) ?_
  show Go _ _ _ _ _ _ _ _ (mkF m 52 #[.val (.ref a0), .val (.double (FP.dadd (0 : UInt64) x0)), .second, .val (.ref a0), .val (.int (1 : Int32)), .val (.int (1 : Int32)), .val (.double x0), .second] [(.ref a0), (.double (FP.dadd (0 : UInt64) x0))])
  obtain ⟨cl7, Ar7, -, S7, N7n, -, -⟩ := id V_a0
  refine Go.on (X0.arraylength hx (by rw [e0]; exact Ar7.1) (State.isArrayOf_alike hZ.alike Ar7.2.1) (g := (mkF m 52 #[.val (.ref a0), .val (.double (FP.dadd (0 : UInt64) x0)), .second, .val (.ref a0), .val (.int (1 : Int32)), .val (.int (1 : Int32)), .val (.double x0), .second] [(.ref a0), (.double (FP.dadd (0 : UInt64) x0))])) rfl rfl (hb hby d1_52)) ?_
  rw [len_of S7 N7n]
  show Go _ _ _ _ _ _ _ _ (mkF m 53 #[.val (.ref a0), .val (.double (FP.dadd (0 : UInt64) x0)), .second, .val (.ref a0), .val (.int (1 : Int32)), .val (.int (1 : Int32)), .val (.double x0), .second] [(.int (1 : Int32)), (.double (FP.dadd (0 : UInt64) x0))])
  refine Go.on (fun _ k => XS.i2dS X0.here hx rfl (hb hby d1_53) rfl rfl k) ?_
  show Go _ _ _ _ _ _ _ _ (mkF m 54 #[.val (.ref a0), .val (.double (FP.dadd (0 : UInt64) x0)), .second, .val (.ref a0), .val (.int (1 : Int32)), .val (.int (1 : Int32)), .val (.double x0), .second] [(.double (FP.i2d (1 : Int32))), (.double (FP.dadd (0 : UInt64) x0))])
  refine Go.on (fun _ k => XS.ddivS X0.here hx rfl (hb hby d1_54) rfl (hq) rfl k) ?_
  show Go _ _ _ _ _ _ _ _ (mkF m 55 #[.val (.ref a0), .val (.double (FP.dadd (0 : UInt64) x0)), .second, .val (.ref a0), .val (.int (1 : Int32)), .val (.int (1 : Int32)), .val (.double x0), .second] [(.double (FP.ddiv (FP.dadd (0 : UInt64) x0) (FP.i2d (1 : Int32))))])
  refine Go.retV X0 hx Bd.returns rfl (Or.inr (Or.inr (Or.inl ⟨rfl, rfl, _, rfl⟩))) (hb hby d1_55) ?_ (by rw [hK1]; decide) (by rw [hK2]; decide)
  rw [e0, ← hQQ]
  exact ⟨rfl, N0, rfl⟩
theorem ef_rm1_2 (m : MethodId) (a0 : Addr) : entryFrame m #[(.ref a0)] 8 = mkF m 0 #[.val (.ref a0), .unset, .unset, .unset, .unset, .unset, .unset, .unset] [] := by first | (simp [entryFrame, mkF, argsToLocals, Value.category]; done) | rfl
def Q_rm1_2 (Z : State) (a0 : Addr) (k_a0 : ClassId) (x0 : UInt64) (x1 : UInt64) (h0 : Heap) (n0 : Nat) (v : Option Value) (h : Heap) (L : List Loc) : Prop := v = some (.double (FP.ddiv (FP.dadd (FP.dadd (0 : UInt64) x0) x1) (FP.i2d (2 : Int32)))) ∧ Fr n0 L ∧ h = h0
set_option maxRecDepth 65536 in
set_option maxHeartbeats 40000000 in
theorem rm1_2 (l : Launch) (Z : State) (aw : Array Value) (hw : ∀ d ∈ tables_1, d.before aw Z = true) (ws : List Jvm.Cond) (a0 : Addr) (k_a0 : ClassId) (x0 : UInt64) (x1 : UInt64) (h0 : Heap) (n0 : Nat) (Z0 : n0 ≤ h0.size) (V_a0 : Arv Z h0 a0 k_a0 .double (2 : Int32) [(.double x0), (.double x1)] (.double (0 : UInt64))) (hs0 : Jvm.Free.Fl.NoNaN64 (FP.dadd (0 : UInt64) x0)) (hs1 : Jvm.Free.Fl.NoNaN64 (FP.dadd (FP.dadd (0 : UInt64) x0) x1)) (hq : Jvm.Free.Fl.NoNaN64 (FP.ddiv (FP.dadd (FP.dadd (0 : UInt64) x0) x1) (FP.i2d (2 : Int32)))) :
    MetFree l (⟨"com/example/driftswarm/driftswarm/analysis/Statistics", "mean", "([D)D"⟩ : MethodName) (head1 (Jvm.Cond.code (⟨"com/example/driftswarm/driftswarm/analysis/Statistics", "mean", "([D)D"⟩ : MethodName) prog_50_method_2_code 8 (some .double) :: ws) ({ frames := 0, cells := 0, slots := 0, locals := 0 } : Room)) (fun a U => a = #[(.ref a0)] ∧ Z.Warmed39 U.vm ∧ U.heap = h0) (fun _ _ _ _ _ => True) (fun _ U o U' => ∃ v L, o = .returned v ∧ Q_rm1_2 Z a0 k_a0 x0 x1 h0 n0 v U'.heap L ∧ FrameEnd U o U' L ({ frames := 0, cells := 0, slots := 0, locals := 0 } : Room).cells ({ frames := 0, cells := 0, slots := 0, locals := 0 } : Room).slots) := by
  refine MetFree.of_bodySF (plainFor_of_name pn_0) hisR ?_
  intro p e s m args below meth c s₁ Bd hml0 hP hK
  obtain ⟨rfl, hZ, hh⟩ := hP
  have hx := Bd.exec
  have hby := Bd.bytes
  have hml : c.maxLocals = 8 := hml0
  have hown : s.vm.findClass "com/example/driftswarm/driftswarm/analysis/Statistics" = some m.cls := findClass_of_methodNamed Bd.named
  have hnm := (name_of_methodNamed Bd.named Bd.method).1
  have hlk : meth.locks = false := BodyLoose.notSynchronized Bd
  have X0 : Stand p l e ({ frames := 0, cells := 0, slots := 0, locals := 0 } : Room) s m #[(.ref a0)] below meth c s₁ [] 0 0 := Stand.of_body Bd
  have e0 : s₁.heap = h0 := by rw [← hh, Bd.state]; rfl
  have N0 := Fr.nil n0
  have ZZ := Z0
  show Go p e below s ({ frames := 0, cells := 0, slots := 0, locals := 0 } : Room).cells ({ frames := 0, cells := 0, slots := 0, locals := 0 } : Room).slots (fun v h L => Q_rm1_2 Z a0 k_a0 x0 x1 h0 n0 v h L) s₁ (entryFrame m #[(.ref a0)] 8)
  refine Go.cast (ef_rm1_2 m a0) ?_
  refine Go.gen ?_
  intro K1 K2 QQ hK1 hK2 hQQ
  refine Go.on (fun _ k => XS.aloadN X0.here hx rfl (hb hby d1_0) rfl rfl k) ?_
  show Go _ _ _ _ _ _ _ _ (mkF m 1 #[.val (.ref a0), .unset, .unset, .unset, .unset, .unset, .unset, .unset] [(.ref a0)])
  obtain ⟨cl1, Ar1, -, S1, N1n, -, -⟩ := id V_a0
  refine Go.on (X0.arraylength hx (by rw [e0]; exact Ar1.1) (State.isArrayOf_alike hZ.alike Ar1.2.1) (g := (mkF m 1 #[.val (.ref a0), .unset, .unset, .unset, .unset, .unset, .unset, .unset] [(.ref a0)])) rfl rfl (hb hby d1_1)) ?_
  rw [len_of S1 N1n]
  show Go _ _ _ _ _ _ _ _ (mkF m 2 #[.val (.ref a0), .unset, .unset, .unset, .unset, .unset, .unset, .unset] [(.int (2 : Int32))])
  have hc2 : ¬ ((2 : Int32) = (0 : Int32)) := by decide
  refine Go.on (fun _ k => XS.ifYes X0.here hx rfl (pc0 := 2) (pc' := 15) rfl (hb hby d1_2) rfl ((if0 _ _).trans (feq hc2).2) (by decide) (by decide) k) ?_
  show Go _ _ _ _ _ _ _ _ (mkF m 15 #[.val (.ref a0), .unset, .unset, .unset, .unset, .unset, .unset, .unset] [])
  refine Go.on (fun _ k => XS.dconst0 X0.here hx rfl (v := (0 : UInt64)) (hb hby d1_15) rfl k) ?_
  show Go _ _ _ _ _ _ _ _ (mkF m 16 #[.val (.ref a0), .unset, .unset, .unset, .unset, .unset, .unset, .unset] [(.double (0 : UInt64))])
  refine Go.on (fun _ k => XS.dstoreN X0.here hx rfl (hb hby d1_16) rfl (l' := #[.val (.ref a0), .val (.double (0 : UInt64)), .second, .unset, .unset, .unset, .unset, .unset]) rfl k) ?_
  show Go _ _ _ _ _ _ _ _ (mkF m 17 #[.val (.ref a0), .val (.double (0 : UInt64)), .second, .unset, .unset, .unset, .unset, .unset] [])
  refine Go.on (fun _ k => XS.aloadN X0.here hx rfl (hb hby d1_17) rfl rfl k) ?_
  show Go _ _ _ _ _ _ _ _ (mkF m 18 #[.val (.ref a0), .val (.double (0 : UInt64)), .second, .unset, .unset, .unset, .unset, .unset] [(.ref a0)])
  refine Go.on (fun _ k => XS.astoreN X0.here hx rfl (hb hby d1_18) rfl rfl (l' := #[.val (.ref a0), .val (.double (0 : UInt64)), .second, .val (.ref a0), .unset, .unset, .unset, .unset]) rfl k) ?_
  show Go _ _ _ _ _ _ _ _ (mkF m 19 #[.val (.ref a0), .val (.double (0 : UInt64)), .second, .val (.ref a0), .unset, .unset, .unset, .unset] [])
  refine Go.on (fun _ k => XS.aloadN X0.here hx rfl (hb hby d1_19) rfl rfl k) ?_
  show Go _ _ _ _ _ _ _ _ (mkF m 20 #[.val (.ref a0), .val (.double (0 : UInt64)), .second, .val (.ref a0), .unset, .unset, .unset, .unset] [(.ref a0)])
  obtain ⟨cl3, Ar3, -, S3, N3n, -, -⟩ := id V_a0
  refine Go.on (X0.arraylength hx (by rw [e0]; exact Ar3.1) (State.isArrayOf_alike hZ.alike Ar3.2.1) (g := (mkF m 20 #[.val (.ref a0), .val (.double (0 : UInt64)), .second, .val (.ref a0), .unset, .unset, .unset, .unset] [(.ref a0)])) rfl rfl (hb hby d1_20)) ?_
  rw [len_of S3 N3n]
  show Go _ _ _ _ _ _ _ _ (mkF m 21 #[.val (.ref a0), .val (.double (0 : UInt64)), .second, .val (.ref a0), .unset, .unset, .unset, .unset] [(.int (2 : Int32))])
  refine Go.on (fun _ k => XS.istore X0.here hx rfl (hb hby d1_21) rfl (l' := #[.val (.ref a0), .val (.double (0 : UInt64)), .second, .val (.ref a0), .val (.int (2 : Int32)), .unset, .unset, .unset]) rfl k) ?_
  show Go _ _ _ _ _ _ _ _ (mkF m 23 #[.val (.ref a0), .val (.double (0 : UInt64)), .second, .val (.ref a0), .val (.int (2 : Int32)), .unset, .unset, .unset] [])
  refine Go.on (fun _ k => XS.iconst X0.here hx rfl (hb hby d1_23) k) ?_
  show Go _ _ _ _ _ _ _ _ (mkF m 24 #[.val (.ref a0), .val (.double (0 : UInt64)), .second, .val (.ref a0), .val (.int (2 : Int32)), .unset, .unset, .unset] [(.int (0 : Int32))])
  refine Go.on (fun _ k => XS.istore X0.here hx rfl (hb hby d1_24) rfl (l' := #[.val (.ref a0), .val (.double (0 : UInt64)), .second, .val (.ref a0), .val (.int (2 : Int32)), .val (.int (0 : Int32)), .unset, .unset]) rfl k) ?_
  show Go _ _ _ _ _ _ _ _ (mkF m 26 #[.val (.ref a0), .val (.double (0 : UInt64)), .second, .val (.ref a0), .val (.int (2 : Int32)), .val (.int (0 : Int32)), .unset, .unset] [])
  refine Go.on (fun _ k => XS.iload X0.here hx rfl (hb hby d1_26) rfl k) ?_
  show Go _ _ _ _ _ _ _ _ (mkF m 28 #[.val (.ref a0), .val (.double (0 : UInt64)), .second, .val (.ref a0), .val (.int (2 : Int32)), .val (.int (0 : Int32)), .unset, .unset] [(.int (0 : Int32))])
  refine Go.on (fun _ k => XS.iload X0.here hx rfl (hb hby d1_28) rfl k) ?_
  show Go _ _ _ _ _ _ _ _ (mkF m 30 #[.val (.ref a0), .val (.double (0 : UInt64)), .second, .val (.ref a0), .val (.int (2 : Int32)), .val (.int (0 : Int32)), .unset, .unset] [(.int (2 : Int32)), (.int (0 : Int32))])
  have hc4 : (0 : Int32) < (2 : Int32) := by decide
  refine Go.on (fun _ k => XS.icmpNo X0.here hx rfl (hb hby d1_30) rfl (tlt hc4).2.1 k) ?_
  show Go _ _ _ _ _ _ _ _ (mkF m 33 #[.val (.ref a0), .val (.double (0 : UInt64)), .second, .val (.ref a0), .val (.int (2 : Int32)), .val (.int (0 : Int32)), .unset, .unset] [])
  refine Go.on (fun _ k => XS.aloadN X0.here hx rfl (hb hby d1_33) rfl rfl k) ?_
  show Go _ _ _ _ _ _ _ _ (mkF m 34 #[.val (.ref a0), .val (.double (0 : UInt64)), .second, .val (.ref a0), .val (.int (2 : Int32)), .val (.int (0 : Int32)), .unset, .unset] [(.ref a0)])
  refine Go.on (fun _ k => XS.iload X0.here hx rfl (hb hby d1_34) rfl k) ?_
  show Go _ _ _ _ _ _ _ _ (mkF m 36 #[.val (.ref a0), .val (.double (0 : UInt64)), .second, .val (.ref a0), .val (.int (2 : Int32)), .val (.int (0 : Int32)), .unset, .unset] [(.int (0 : Int32)), (.ref a0)])
  obtain ⟨cl5, Ar5, -, S5, -, H5, -⟩ := id V_a0
  have hin5 : ¬ ((0 : Int32) < 0 ∨ cl5.slots.size ≤ ((0 : Int32)).toNatClampNeg) := inb_of S5 ⟨by decide, by decide⟩
  refine Go.on (X0.daload hx (j := (0 : Int32)) (v := (.double x0)) (by rw [e0]; exact Ar5.1) (State.isArrayOf_alike hZ.alike Ar5.2.1) Ar5.2.2 hin5 (H5.at hin5 (rfl)) (g := (mkF m 36 #[.val (.ref a0), .val (.double (0 : UInt64)), .second, .val (.ref a0), .val (.int (2 : Int32)), .val (.int (0 : Int32)), .unset, .unset] [(.int (0 : Int32)), (.ref a0)])) rfl rfl (hb hby d1_36)) ?_
  show Go _ _ _ _ _ _ _ _ (mkF m 37 #[.val (.ref a0), .val (.double (0 : UInt64)), .second, .val (.ref a0), .val (.int (2 : Int32)), .val (.int (0 : Int32)), .unset, .unset] [(.double x0)])
  refine Go.on (fun _ k => XS.dstore X0.here hx rfl (hb hby d1_37) rfl (l' := #[.val (.ref a0), .val (.double (0 : UInt64)), .second, .val (.ref a0), .val (.int (2 : Int32)), .val (.int (0 : Int32)), .val (.double x0), .second]) rfl k) ?_
  show Go _ _ _ _ _ _ _ _ (mkF m 39 #[.val (.ref a0), .val (.double (0 : UInt64)), .second, .val (.ref a0), .val (.int (2 : Int32)), .val (.int (0 : Int32)), .val (.double x0), .second] [])
  refine Go.on (fun _ k => XS.dloadN X0.here hx rfl (hb hby d1_39) rfl k) ?_
  show Go _ _ _ _ _ _ _ _ (mkF m 40 #[.val (.ref a0), .val (.double (0 : UInt64)), .second, .val (.ref a0), .val (.int (2 : Int32)), .val (.int (0 : Int32)), .val (.double x0), .second] [(.double (0 : UInt64))])
  refine Go.on (fun _ k => XS.dload X0.here hx rfl (hb hby d1_40) rfl k) ?_
  show Go _ _ _ _ _ _ _ _ (mkF m 42 #[.val (.ref a0), .val (.double (0 : UInt64)), .second, .val (.ref a0), .val (.int (2 : Int32)), .val (.int (0 : Int32)), .val (.double x0), .second] [(.double x0), (.double (0 : UInt64))])
  refine Go.on (fun _ k => XS.daddS X0.here hx rfl (hb hby d1_42) rfl (hs0) rfl k) ?_
  show Go _ _ _ _ _ _ _ _ (mkF m 43 #[.val (.ref a0), .val (.double (0 : UInt64)), .second, .val (.ref a0), .val (.int (2 : Int32)), .val (.int (0 : Int32)), .val (.double x0), .second] [(.double (FP.dadd (0 : UInt64) x0))])
  refine Go.on (fun _ k => XS.dstoreN X0.here hx rfl (hb hby d1_43) rfl (l' := #[.val (.ref a0), .val (.double (FP.dadd (0 : UInt64) x0)), .second, .val (.ref a0), .val (.int (2 : Int32)), .val (.int (0 : Int32)), .val (.double x0), .second]) rfl k) ?_
  show Go _ _ _ _ _ _ _ _ (mkF m 44 #[.val (.ref a0), .val (.double (FP.dadd (0 : UInt64) x0)), .second, .val (.ref a0), .val (.int (2 : Int32)), .val (.int (0 : Int32)), .val (.double x0), .second] [])
  refine Go.on (fun _ k => XS.iinc X0.here hx rfl (hb hby d1_44) rfl (l' := #[.val (.ref a0), .val (.double (FP.dadd (0 : UInt64) x0)), .second, .val (.ref a0), .val (.int (2 : Int32)), .val (.int (1 : Int32)), .val (.double x0), .second]) rfl k) ?_
  show Go _ _ _ _ _ _ _ _ (mkF m 47 #[.val (.ref a0), .val (.double (FP.dadd (0 : UInt64) x0)), .second, .val (.ref a0), .val (.int (2 : Int32)), .val (.int (1 : Int32)), .val (.double x0), .second] [])
  refine Go.on (fun _ k => XS.goto X0.here hx rfl (pc0 := 47) (pc' := 26) rfl (hb hby d1_47) (by decide) (by decide) k) ?_
  show Go _ _ _ _ _ _ _ _ (mkF m 26 #[.val (.ref a0), .val (.double (FP.dadd (0 : UInt64) x0)), .second, .val (.ref a0), .val (.int (2 : Int32)), .val (.int (1 : Int32)), .val (.double x0), .second] [])
  refine Go.on (fun _ k => XS.iload X0.here hx rfl (hb hby d1_26) rfl k) ?_
  show Go _ _ _ _ _ _ _ _ (mkF m 28 #[.val (.ref a0), .val (.double (FP.dadd (0 : UInt64) x0)), .second, .val (.ref a0), .val (.int (2 : Int32)), .val (.int (1 : Int32)), .val (.double x0), .second] [(.int (1 : Int32))])
  refine Go.on (fun _ k => XS.iload X0.here hx rfl (hb hby d1_28) rfl k) ?_
  show Go _ _ _ _ _ _ _ _ (mkF m 30 #[.val (.ref a0), .val (.double (FP.dadd (0 : UInt64) x0)), .second, .val (.ref a0), .val (.int (2 : Int32)), .val (.int (1 : Int32)), .val (.double x0), .second] [(.int (2 : Int32)), (.int (1 : Int32))])
  have hc6 : (1 : Int32) < (2 : Int32) := by decide
  refine Go.on (fun _ k => XS.icmpNo X0.here hx rfl (hb hby d1_30) rfl (tlt hc6).2.1 k) ?_
  show Go _ _ _ _ _ _ _ _ (mkF m 33 #[.val (.ref a0), .val (.double (FP.dadd (0 : UInt64) x0)), .second, .val (.ref a0), .val (.int (2 : Int32)), .val (.int (1 : Int32)), .val (.double x0), .second] [])
  refine Go.on (fun _ k => XS.aloadN X0.here hx rfl (hb hby d1_33) rfl rfl k) ?_
  show Go _ _ _ _ _ _ _ _ (mkF m 34 #[.val (.ref a0), .val (.double (FP.dadd (0 : UInt64) x0)), .second, .val (.ref a0), .val (.int (2 : Int32)), .val (.int (1 : Int32)), .val (.double x0), .second] [(.ref a0)])
  refine Go.on (fun _ k => XS.iload X0.here hx rfl (hb hby d1_34) rfl k) ?_
  show Go _ _ _ _ _ _ _ _ (mkF m 36 #[.val (.ref a0), .val (.double (FP.dadd (0 : UInt64) x0)), .second, .val (.ref a0), .val (.int (2 : Int32)), .val (.int (1 : Int32)), .val (.double x0), .second] [(.int (1 : Int32)), (.ref a0)])
  obtain ⟨cl7, Ar7, -, S7, -, H7, -⟩ := id V_a0
  have hin7 : ¬ ((1 : Int32) < 0 ∨ cl7.slots.size ≤ ((1 : Int32)).toNatClampNeg) := inb_of S7 ⟨by decide, by decide⟩
  refine Go.on (X0.daload hx (j := (1 : Int32)) (v := (.double x1)) (by rw [e0]; exact Ar7.1) (State.isArrayOf_alike hZ.alike Ar7.2.1) Ar7.2.2 hin7 (H7.at hin7 (rfl)) (g := (mkF m 36 #[.val (.ref a0), .val (.double (FP.dadd (0 : UInt64) x0)), .second, .val (.ref a0), .val (.int (2 : Int32)), .val (.int (1 : Int32)), .val (.double x0), .second] [(.int (1 : Int32)), (.ref a0)])) rfl rfl (hb hby d1_36)) ?_
  show Go _ _ _ _ _ _ _ _ (mkF m 37 #[.val (.ref a0), .val (.double (FP.dadd (0 : UInt64) x0)), .second, .val (.ref a0), .val (.int (2 : Int32)), .val (.int (1 : Int32)), .val (.double x0), .second] [(.double x1)])
  refine Go.on (fun _ k => XS.dstore X0.here hx rfl (hb hby d1_37) rfl (l' := #[.val (.ref a0), .val (.double (FP.dadd (0 : UInt64) x0)), .second, .val (.ref a0), .val (.int (2 : Int32)), .val (.int (1 : Int32)), .val (.double x1), .second]) rfl k) ?_
  show Go _ _ _ _ _ _ _ _ (mkF m 39 #[.val (.ref a0), .val (.double (FP.dadd (0 : UInt64) x0)), .second, .val (.ref a0), .val (.int (2 : Int32)), .val (.int (1 : Int32)), .val (.double x1), .second] [])
  refine Go.on (fun _ k => XS.dloadN X0.here hx rfl (hb hby d1_39) rfl k) ?_
  show Go _ _ _ _ _ _ _ _ (mkF m 40 #[.val (.ref a0), .val (.double (FP.dadd (0 : UInt64) x0)), .second, .val (.ref a0), .val (.int (2 : Int32)), .val (.int (1 : Int32)), .val (.double x1), .second] [(.double (FP.dadd (0 : UInt64) x0))])
  refine Go.on (fun _ k => XS.dload X0.here hx rfl (hb hby d1_40) rfl k) ?_
  show Go _ _ _ _ _ _ _ _ (mkF m 42 #[.val (.ref a0), .val (.double (FP.dadd (0 : UInt64) x0)), .second, .val (.ref a0), .val (.int (2 : Int32)), .val (.int (1 : Int32)), .val (.double x1), .second] [(.double x1), (.double (FP.dadd (0 : UInt64) x0))])
  refine Go.on (fun _ k => XS.daddS X0.here hx rfl (hb hby d1_42) rfl (hs1) rfl k) ?_
  show Go _ _ _ _ _ _ _ _ (mkF m 43 #[.val (.ref a0), .val (.double (FP.dadd (0 : UInt64) x0)), .second, .val (.ref a0), .val (.int (2 : Int32)), .val (.int (1 : Int32)), .val (.double x1), .second] [(.double (FP.dadd (FP.dadd (0 : UInt64) x0) x1))])
  refine Go.on (fun _ k => XS.dstoreN X0.here hx rfl (hb hby d1_43) rfl (l' := #[.val (.ref a0), .val (.double (FP.dadd (FP.dadd (0 : UInt64) x0) x1)), .second, .val (.ref a0), .val (.int (2 : Int32)), .val (.int (1 : Int32)), .val (.double x1), .second]) rfl k) ?_
  show Go _ _ _ _ _ _ _ _ (mkF m 44 #[.val (.ref a0), .val (.double (FP.dadd (FP.dadd (0 : UInt64) x0) x1)), .second, .val (.ref a0), .val (.int (2 : Int32)), .val (.int (1 : Int32)), .val (.double x1), .second] [])
  refine Go.on (fun _ k => XS.iinc X0.here hx rfl (hb hby d1_44) rfl (l' := #[.val (.ref a0), .val (.double (FP.dadd (FP.dadd (0 : UInt64) x0) x1)), .second, .val (.ref a0), .val (.int (2 : Int32)), .val (.int (2 : Int32)), .val (.double x1), .second]) rfl k) ?_
  show Go _ _ _ _ _ _ _ _ (mkF m 47 #[.val (.ref a0), .val (.double (FP.dadd (FP.dadd (0 : UInt64) x0) x1)), .second, .val (.ref a0), .val (.int (2 : Int32)), .val (.int (2 : Int32)), .val (.double x1), .second] [])
  refine Go.on (fun _ k => XS.goto X0.here hx rfl (pc0 := 47) (pc' := 26) rfl (hb hby d1_47) (by decide) (by decide) k) ?_
  show Go _ _ _ _ _ _ _ _ (mkF m 26 #[.val (.ref a0), .val (.double (FP.dadd (FP.dadd (0 : UInt64) x0) x1)), .second, .val (.ref a0), .val (.int (2 : Int32)), .val (.int (2 : Int32)), .val (.double x1), .second] [])
  refine Go.on (fun _ k => XS.iload X0.here hx rfl (hb hby d1_26) rfl k) ?_
  show Go _ _ _ _ _ _ _ _ (mkF m 28 #[.val (.ref a0), .val (.double (FP.dadd (FP.dadd (0 : UInt64) x0) x1)), .second, .val (.ref a0), .val (.int (2 : Int32)), .val (.int (2 : Int32)), .val (.double x1), .second] [(.int (2 : Int32))])
  refine Go.on (fun _ k => XS.iload X0.here hx rfl (hb hby d1_28) rfl k) ?_
  show Go _ _ _ _ _ _ _ _ (mkF m 30 #[.val (.ref a0), .val (.double (FP.dadd (FP.dadd (0 : UInt64) x0) x1)), .second, .val (.ref a0), .val (.int (2 : Int32)), .val (.int (2 : Int32)), .val (.double x1), .second] [(.int (2 : Int32)), (.int (2 : Int32))])
  have hc8 : ¬ ((2 : Int32) < (2 : Int32)) := by decide
  refine Go.on (fun _ k => XS.icmpYes X0.here hx rfl (pc0 := 30) (pc' := 50) rfl (hb hby d1_30) rfl (flt hc8).2.1 (by decide) (by decide) k) ?_
  show Go _ _ _ _ _ _ _ _ (mkF m 50 #[.val (.ref a0), .val (.double (FP.dadd (FP.dadd (0 : UInt64) x0) x1)), .second, .val (.ref a0), .val (.int (2 : Int32)), .val (.int (2 : Int32)), .val (.double x1), .second] [])
  refine Go.on (fun _ k => XS.dloadN X0.here hx rfl (hb hby d1_50) rfl k) ?_
  show Go _ _ _ _ _ _ _ _ (mkF m 51 #[.val (.ref a0), .val (.double (FP.dadd (FP.dadd (0 : UInt64) x0) x1)), .second, .val (.ref a0), .val (.int (2 : Int32)), .val (.int (2 : Int32)), .val (.double x1), .second] [(.double (FP.dadd (FP.dadd (0 : UInt64) x0) x1))])
  refine Go.on (fun _ k => XS.aloadN X0.here hx rfl (hb hby d1_51) rfl rfl k) ?_
  show Go _ _ _ _ _ _ _ _ (mkF m 52 #[.val (.ref a0), .val (.double (FP.dadd (FP.dadd (0 : UInt64) x0) x1)), .second, .val (.ref a0), .val (.int (2 : Int32)), .val (.int (2 : Int32)), .val (.double x1), .second] [(.ref a0), (.double (FP.dadd (FP.dadd (0 : UInt64) x0) x1))])
  obtain ⟨cl9, Ar9, -, S9, N9n, -, -⟩ := id V_a0
  refine Go.on (X0.arraylength hx (by rw [e0]; exact Ar9.1) (State.isArrayOf_alike hZ.alike Ar9.2.1) (g := (mkF m 52 #[.val (.ref a0), .val (.double (FP.dadd (FP.dadd (0 : UInt64) x0) x1)), .second, .val (.ref a0), .val (.int (2 : Int32)), .val (.int (2 : Int32)), .val (.double x1), .second] [(.ref a0), (.double (FP.dadd (FP.dadd (0 : UInt64) x0) x1))])) rfl rfl (hb hby d1_52)) ?_
  rw [len_of S9 N9n]
  show Go _ _ _ _ _ _ _ _ (mkF m 53 #[.val (.ref a0), .val (.double (FP.dadd (FP.dadd (0 : UInt64) x0) x1)), .second, .val (.ref a0), .val (.int (2 : Int32)), .val (.int (2 : Int32)), .val (.double x1), .second] [(.int (2 : Int32)), (.double (FP.dadd (FP.dadd (0 : UInt64) x0) x1))])
  refine Go.on (fun _ k => XS.i2dS X0.here hx rfl (hb hby d1_53) rfl rfl k) ?_
  show Go _ _ _ _ _ _ _ _ (mkF m 54 #[.val (.ref a0), .val (.double (FP.dadd (FP.dadd (0 : UInt64) x0) x1)), .second, .val (.ref a0), .val (.int (2 : Int32)), .val (.int (2 : Int32)), .val (.double x1), .second] [(.double (FP.i2d (2 : Int32))), (.double (FP.dadd (FP.dadd (0 : UInt64) x0) x1))])
  refine Go.on (fun _ k => XS.ddivS X0.here hx rfl (hb hby d1_54) rfl (hq) rfl k) ?_
  show Go _ _ _ _ _ _ _ _ (mkF m 55 #[.val (.ref a0), .val (.double (FP.dadd (FP.dadd (0 : UInt64) x0) x1)), .second, .val (.ref a0), .val (.int (2 : Int32)), .val (.int (2 : Int32)), .val (.double x1), .second] [(.double (FP.ddiv (FP.dadd (FP.dadd (0 : UInt64) x0) x1) (FP.i2d (2 : Int32))))])
  refine Go.retV X0 hx Bd.returns rfl (Or.inr (Or.inr (Or.inl ⟨rfl, rfl, _, rfl⟩))) (hb hby d1_55) ?_ (by rw [hK1]; decide) (by rw [hK2]; decide)
  rw [e0, ← hQQ]
  exact ⟨rfl, N0, rfl⟩
theorem ef_rm1_3 (m : MethodId) (a0 : Addr) : entryFrame m #[(.ref a0)] 8 = mkF m 0 #[.val (.ref a0), .unset, .unset, .unset, .unset, .unset, .unset, .unset] [] := by first | (simp [entryFrame, mkF, argsToLocals, Value.category]; done) | rfl
def Q_rm1_3 (Z : State) (a0 : Addr) (k_a0 : ClassId) (x0 : UInt64) (x1 : UInt64) (x2 : UInt64) (h0 : Heap) (n0 : Nat) (v : Option Value) (h : Heap) (L : List Loc) : Prop := v = some (.double (FP.ddiv (FP.dadd (FP.dadd (FP.dadd (0 : UInt64) x0) x1) x2) (FP.i2d (3 : Int32)))) ∧ Fr n0 L ∧ h = h0
set_option maxRecDepth 65536 in
set_option maxHeartbeats 40000000 in
theorem rm1_3 (l : Launch) (Z : State) (aw : Array Value) (hw : ∀ d ∈ tables_1, d.before aw Z = true) (ws : List Jvm.Cond) (a0 : Addr) (k_a0 : ClassId) (x0 : UInt64) (x1 : UInt64) (x2 : UInt64) (h0 : Heap) (n0 : Nat) (Z0 : n0 ≤ h0.size) (V_a0 : Arv Z h0 a0 k_a0 .double (3 : Int32) [(.double x0), (.double x1), (.double x2)] (.double (0 : UInt64))) (hs0 : Jvm.Free.Fl.NoNaN64 (FP.dadd (0 : UInt64) x0)) (hs1 : Jvm.Free.Fl.NoNaN64 (FP.dadd (FP.dadd (0 : UInt64) x0) x1)) (hs2 : Jvm.Free.Fl.NoNaN64 (FP.dadd (FP.dadd (FP.dadd (0 : UInt64) x0) x1) x2)) (hq : Jvm.Free.Fl.NoNaN64 (FP.ddiv (FP.dadd (FP.dadd (FP.dadd (0 : UInt64) x0) x1) x2) (FP.i2d (3 : Int32)))) :
    MetFree l (⟨"com/example/driftswarm/driftswarm/analysis/Statistics", "mean", "([D)D"⟩ : MethodName) (head1 (Jvm.Cond.code (⟨"com/example/driftswarm/driftswarm/analysis/Statistics", "mean", "([D)D"⟩ : MethodName) prog_50_method_2_code 8 (some .double) :: ws) ({ frames := 0, cells := 0, slots := 0, locals := 0 } : Room)) (fun a U => a = #[(.ref a0)] ∧ Z.Warmed39 U.vm ∧ U.heap = h0) (fun _ _ _ _ _ => True) (fun _ U o U' => ∃ v L, o = .returned v ∧ Q_rm1_3 Z a0 k_a0 x0 x1 x2 h0 n0 v U'.heap L ∧ FrameEnd U o U' L ({ frames := 0, cells := 0, slots := 0, locals := 0 } : Room).cells ({ frames := 0, cells := 0, slots := 0, locals := 0 } : Room).slots) := by
  refine MetFree.of_bodySF (plainFor_of_name pn_0) hisR ?_
  intro p e s m args below meth c s₁ Bd hml0 hP hK
  obtain ⟨rfl, hZ, hh⟩ := hP
  have hx := Bd.exec
  have hby := Bd.bytes
  have hml : c.maxLocals = 8 := hml0
  have hown : s.vm.findClass "com/example/driftswarm/driftswarm/analysis/Statistics" = some m.cls := findClass_of_methodNamed Bd.named
  have hnm := (name_of_methodNamed Bd.named Bd.method).1
  have hlk : meth.locks = false := BodyLoose.notSynchronized Bd
  have X0 : Stand p l e ({ frames := 0, cells := 0, slots := 0, locals := 0 } : Room) s m #[(.ref a0)] below meth c s₁ [] 0 0 := Stand.of_body Bd
  have e0 : s₁.heap = h0 := by rw [← hh, Bd.state]; rfl
  have N0 := Fr.nil n0
  have ZZ := Z0
  show Go p e below s ({ frames := 0, cells := 0, slots := 0, locals := 0 } : Room).cells ({ frames := 0, cells := 0, slots := 0, locals := 0 } : Room).slots (fun v h L => Q_rm1_3 Z a0 k_a0 x0 x1 x2 h0 n0 v h L) s₁ (entryFrame m #[(.ref a0)] 8)
  refine Go.cast (ef_rm1_3 m a0) ?_
  refine Go.gen ?_
  intro K1 K2 QQ hK1 hK2 hQQ
  refine Go.on (fun _ k => XS.aloadN X0.here hx rfl (hb hby d1_0) rfl rfl k) ?_
  show Go _ _ _ _ _ _ _ _ (mkF m 1 #[.val (.ref a0), .unset, .unset, .unset, .unset, .unset, .unset, .unset] [(.ref a0)])
  obtain ⟨cl1, Ar1, -, S1, N1n, -, -⟩ := id V_a0
  refine Go.on (X0.arraylength hx (by rw [e0]; exact Ar1.1) (State.isArrayOf_alike hZ.alike Ar1.2.1) (g := (mkF m 1 #[.val (.ref a0), .unset, .unset, .unset, .unset, .unset, .unset, .unset] [(.ref a0)])) rfl rfl (hb hby d1_1)) ?_
  rw [len_of S1 N1n]
  show Go _ _ _ _ _ _ _ _ (mkF m 2 #[.val (.ref a0), .unset, .unset, .unset, .unset, .unset, .unset, .unset] [(.int (3 : Int32))])
  have hc2 : ¬ ((3 : Int32) = (0 : Int32)) := by decide
  refine Go.on (fun _ k => XS.ifYes X0.here hx rfl (pc0 := 2) (pc' := 15) rfl (hb hby d1_2) rfl ((if0 _ _).trans (feq hc2).2) (by decide) (by decide) k) ?_
  show Go _ _ _ _ _ _ _ _ (mkF m 15 #[.val (.ref a0), .unset, .unset, .unset, .unset, .unset, .unset, .unset] [])
  refine Go.on (fun _ k => XS.dconst0 X0.here hx rfl (v := (0 : UInt64)) (hb hby d1_15) rfl k) ?_
  show Go _ _ _ _ _ _ _ _ (mkF m 16 #[.val (.ref a0), .unset, .unset, .unset, .unset, .unset, .unset, .unset] [(.double (0 : UInt64))])
  refine Go.on (fun _ k => XS.dstoreN X0.here hx rfl (hb hby d1_16) rfl (l' := #[.val (.ref a0), .val (.double (0 : UInt64)), .second, .unset, .unset, .unset, .unset, .unset]) rfl k) ?_
  show Go _ _ _ _ _ _ _ _ (mkF m 17 #[.val (.ref a0), .val (.double (0 : UInt64)), .second, .unset, .unset, .unset, .unset, .unset] [])
  refine Go.on (fun _ k => XS.aloadN X0.here hx rfl (hb hby d1_17) rfl rfl k) ?_
  show Go _ _ _ _ _ _ _ _ (mkF m 18 #[.val (.ref a0), .val (.double (0 : UInt64)), .second, .unset, .unset, .unset, .unset, .unset] [(.ref a0)])
  refine Go.on (fun _ k => XS.astoreN X0.here hx rfl (hb hby d1_18) rfl rfl (l' := #[.val (.ref a0), .val (.double (0 : UInt64)), .second, .val (.ref a0), .unset, .unset, .unset, .unset]) rfl k) ?_
  show Go _ _ _ _ _ _ _ _ (mkF m 19 #[.val (.ref a0), .val (.double (0 : UInt64)), .second, .val (.ref a0), .unset, .unset, .unset, .unset] [])
  refine Go.on (fun _ k => XS.aloadN X0.here hx rfl (hb hby d1_19) rfl rfl k) ?_
  show Go _ _ _ _ _ _ _ _ (mkF m 20 #[.val (.ref a0), .val (.double (0 : UInt64)), .second, .val (.ref a0), .unset, .unset, .unset, .unset] [(.ref a0)])
  obtain ⟨cl3, Ar3, -, S3, N3n, -, -⟩ := id V_a0
  refine Go.on (X0.arraylength hx (by rw [e0]; exact Ar3.1) (State.isArrayOf_alike hZ.alike Ar3.2.1) (g := (mkF m 20 #[.val (.ref a0), .val (.double (0 : UInt64)), .second, .val (.ref a0), .unset, .unset, .unset, .unset] [(.ref a0)])) rfl rfl (hb hby d1_20)) ?_
  rw [len_of S3 N3n]
  show Go _ _ _ _ _ _ _ _ (mkF m 21 #[.val (.ref a0), .val (.double (0 : UInt64)), .second, .val (.ref a0), .unset, .unset, .unset, .unset] [(.int (3 : Int32))])
  refine Go.on (fun _ k => XS.istore X0.here hx rfl (hb hby d1_21) rfl (l' := #[.val (.ref a0), .val (.double (0 : UInt64)), .second, .val (.ref a0), .val (.int (3 : Int32)), .unset, .unset, .unset]) rfl k) ?_
  show Go _ _ _ _ _ _ _ _ (mkF m 23 #[.val (.ref a0), .val (.double (0 : UInt64)), .second, .val (.ref a0), .val (.int (3 : Int32)), .unset, .unset, .unset] [])
  refine Go.on (fun _ k => XS.iconst X0.here hx rfl (hb hby d1_23) k) ?_
  show Go _ _ _ _ _ _ _ _ (mkF m 24 #[.val (.ref a0), .val (.double (0 : UInt64)), .second, .val (.ref a0), .val (.int (3 : Int32)), .unset, .unset, .unset] [(.int (0 : Int32))])
  refine Go.on (fun _ k => XS.istore X0.here hx rfl (hb hby d1_24) rfl (l' := #[.val (.ref a0), .val (.double (0 : UInt64)), .second, .val (.ref a0), .val (.int (3 : Int32)), .val (.int (0 : Int32)), .unset, .unset]) rfl k) ?_
  show Go _ _ _ _ _ _ _ _ (mkF m 26 #[.val (.ref a0), .val (.double (0 : UInt64)), .second, .val (.ref a0), .val (.int (3 : Int32)), .val (.int (0 : Int32)), .unset, .unset] [])
  refine Go.on (fun _ k => XS.iload X0.here hx rfl (hb hby d1_26) rfl k) ?_
  show Go _ _ _ _ _ _ _ _ (mkF m 28 #[.val (.ref a0), .val (.double (0 : UInt64)), .second, .val (.ref a0), .val (.int (3 : Int32)), .val (.int (0 : Int32)), .unset, .unset] [(.int (0 : Int32))])
  refine Go.on (fun _ k => XS.iload X0.here hx rfl (hb hby d1_28) rfl k) ?_
  show Go _ _ _ _ _ _ _ _ (mkF m 30 #[.val (.ref a0), .val (.double (0 : UInt64)), .second, .val (.ref a0), .val (.int (3 : Int32)), .val (.int (0 : Int32)), .unset, .unset] [(.int (3 : Int32)), (.int (0 : Int32))])
  have hc4 : (0 : Int32) < (3 : Int32) := by decide
  refine Go.on (fun _ k => XS.icmpNo X0.here hx rfl (hb hby d1_30) rfl (tlt hc4).2.1 k) ?_
  show Go _ _ _ _ _ _ _ _ (mkF m 33 #[.val (.ref a0), .val (.double (0 : UInt64)), .second, .val (.ref a0), .val (.int (3 : Int32)), .val (.int (0 : Int32)), .unset, .unset] [])
  refine Go.on (fun _ k => XS.aloadN X0.here hx rfl (hb hby d1_33) rfl rfl k) ?_
  show Go _ _ _ _ _ _ _ _ (mkF m 34 #[.val (.ref a0), .val (.double (0 : UInt64)), .second, .val (.ref a0), .val (.int (3 : Int32)), .val (.int (0 : Int32)), .unset, .unset] [(.ref a0)])
  refine Go.on (fun _ k => XS.iload X0.here hx rfl (hb hby d1_34) rfl k) ?_
  show Go _ _ _ _ _ _ _ _ (mkF m 36 #[.val (.ref a0), .val (.double (0 : UInt64)), .second, .val (.ref a0), .val (.int (3 : Int32)), .val (.int (0 : Int32)), .unset, .unset] [(.int (0 : Int32)), (.ref a0)])
  obtain ⟨cl5, Ar5, -, S5, -, H5, -⟩ := id V_a0
  have hin5 : ¬ ((0 : Int32) < 0 ∨ cl5.slots.size ≤ ((0 : Int32)).toNatClampNeg) := inb_of S5 ⟨by decide, by decide⟩
  refine Go.on (X0.daload hx (j := (0 : Int32)) (v := (.double x0)) (by rw [e0]; exact Ar5.1) (State.isArrayOf_alike hZ.alike Ar5.2.1) Ar5.2.2 hin5 (H5.at hin5 (rfl)) (g := (mkF m 36 #[.val (.ref a0), .val (.double (0 : UInt64)), .second, .val (.ref a0), .val (.int (3 : Int32)), .val (.int (0 : Int32)), .unset, .unset] [(.int (0 : Int32)), (.ref a0)])) rfl rfl (hb hby d1_36)) ?_
  show Go _ _ _ _ _ _ _ _ (mkF m 37 #[.val (.ref a0), .val (.double (0 : UInt64)), .second, .val (.ref a0), .val (.int (3 : Int32)), .val (.int (0 : Int32)), .unset, .unset] [(.double x0)])
  refine Go.on (fun _ k => XS.dstore X0.here hx rfl (hb hby d1_37) rfl (l' := #[.val (.ref a0), .val (.double (0 : UInt64)), .second, .val (.ref a0), .val (.int (3 : Int32)), .val (.int (0 : Int32)), .val (.double x0), .second]) rfl k) ?_
  show Go _ _ _ _ _ _ _ _ (mkF m 39 #[.val (.ref a0), .val (.double (0 : UInt64)), .second, .val (.ref a0), .val (.int (3 : Int32)), .val (.int (0 : Int32)), .val (.double x0), .second] [])
  refine Go.on (fun _ k => XS.dloadN X0.here hx rfl (hb hby d1_39) rfl k) ?_
  show Go _ _ _ _ _ _ _ _ (mkF m 40 #[.val (.ref a0), .val (.double (0 : UInt64)), .second, .val (.ref a0), .val (.int (3 : Int32)), .val (.int (0 : Int32)), .val (.double x0), .second] [(.double (0 : UInt64))])
  refine Go.on (fun _ k => XS.dload X0.here hx rfl (hb hby d1_40) rfl k) ?_
  show Go _ _ _ _ _ _ _ _ (mkF m 42 #[.val (.ref a0), .val (.double (0 : UInt64)), .second, .val (.ref a0), .val (.int (3 : Int32)), .val (.int (0 : Int32)), .val (.double x0), .second] [(.double x0), (.double (0 : UInt64))])
  refine Go.on (fun _ k => XS.daddS X0.here hx rfl (hb hby d1_42) rfl (hs0) rfl k) ?_
  show Go _ _ _ _ _ _ _ _ (mkF m 43 #[.val (.ref a0), .val (.double (0 : UInt64)), .second, .val (.ref a0), .val (.int (3 : Int32)), .val (.int (0 : Int32)), .val (.double x0), .second] [(.double (FP.dadd (0 : UInt64) x0))])
  refine Go.on (fun _ k => XS.dstoreN X0.here hx rfl (hb hby d1_43) rfl (l' := #[.val (.ref a0), .val (.double (FP.dadd (0 : UInt64) x0)), .second, .val (.ref a0), .val (.int (3 : Int32)), .val (.int (0 : Int32)), .val (.double x0), .second]) rfl k) ?_
  show Go _ _ _ _ _ _ _ _ (mkF m 44 #[.val (.ref a0), .val (.double (FP.dadd (0 : UInt64) x0)), .second, .val (.ref a0), .val (.int (3 : Int32)), .val (.int (0 : Int32)), .val (.double x0), .second] [])
  refine Go.on (fun _ k => XS.iinc X0.here hx rfl (hb hby d1_44) rfl (l' := #[.val (.ref a0), .val (.double (FP.dadd (0 : UInt64) x0)), .second, .val (.ref a0), .val (.int (3 : Int32)), .val (.int (1 : Int32)), .val (.double x0), .second]) rfl k) ?_
  show Go _ _ _ _ _ _ _ _ (mkF m 47 #[.val (.ref a0), .val (.double (FP.dadd (0 : UInt64) x0)), .second, .val (.ref a0), .val (.int (3 : Int32)), .val (.int (1 : Int32)), .val (.double x0), .second] [])
  refine Go.on (fun _ k => XS.goto X0.here hx rfl (pc0 := 47) (pc' := 26) rfl (hb hby d1_47) (by decide) (by decide) k) ?_
  show Go _ _ _ _ _ _ _ _ (mkF m 26 #[.val (.ref a0), .val (.double (FP.dadd (0 : UInt64) x0)), .second, .val (.ref a0), .val (.int (3 : Int32)), .val (.int (1 : Int32)), .val (.double x0), .second] [])
  refine Go.on (fun _ k => XS.iload X0.here hx rfl (hb hby d1_26) rfl k) ?_
  show Go _ _ _ _ _ _ _ _ (mkF m 28 #[.val (.ref a0), .val (.double (FP.dadd (0 : UInt64) x0)), .second, .val (.ref a0), .val (.int (3 : Int32)), .val (.int (1 : Int32)), .val (.double x0), .second] [(.int (1 : Int32))])
  refine Go.on (fun _ k => XS.iload X0.here hx rfl (hb hby d1_28) rfl k) ?_
  show Go _ _ _ _ _ _ _ _ (mkF m 30 #[.val (.ref a0), .val (.double (FP.dadd (0 : UInt64) x0)), .second, .val (.ref a0), .val (.int (3 : Int32)), .val (.int (1 : Int32)), .val (.double x0), .second] [(.int (3 : Int32)), (.int (1 : Int32))])
  have hc6 : (1 : Int32) < (3 : Int32) := by decide
  refine Go.on (fun _ k => XS.icmpNo X0.here hx rfl (hb hby d1_30) rfl (tlt hc6).2.1 k) ?_
  show Go _ _ _ _ _ _ _ _ (mkF m 33 #[.val (.ref a0), .val (.double (FP.dadd (0 : UInt64) x0)), .second, .val (.ref a0), .val (.int (3 : Int32)), .val (.int (1 : Int32)), .val (.double x0), .second] [])
  refine Go.on (fun _ k => XS.aloadN X0.here hx rfl (hb hby d1_33) rfl rfl k) ?_
  show Go _ _ _ _ _ _ _ _ (mkF m 34 #[.val (.ref a0), .val (.double (FP.dadd (0 : UInt64) x0)), .second, .val (.ref a0), .val (.int (3 : Int32)), .val (.int (1 : Int32)), .val (.double x0), .second] [(.ref a0)])
  refine Go.on (fun _ k => XS.iload X0.here hx rfl (hb hby d1_34) rfl k) ?_
  show Go _ _ _ _ _ _ _ _ (mkF m 36 #[.val (.ref a0), .val (.double (FP.dadd (0 : UInt64) x0)), .second, .val (.ref a0), .val (.int (3 : Int32)), .val (.int (1 : Int32)), .val (.double x0), .second] [(.int (1 : Int32)), (.ref a0)])
  obtain ⟨cl7, Ar7, -, S7, -, H7, -⟩ := id V_a0
  have hin7 : ¬ ((1 : Int32) < 0 ∨ cl7.slots.size ≤ ((1 : Int32)).toNatClampNeg) := inb_of S7 ⟨by decide, by decide⟩
  refine Go.on (X0.daload hx (j := (1 : Int32)) (v := (.double x1)) (by rw [e0]; exact Ar7.1) (State.isArrayOf_alike hZ.alike Ar7.2.1) Ar7.2.2 hin7 (H7.at hin7 (rfl)) (g := (mkF m 36 #[.val (.ref a0), .val (.double (FP.dadd (0 : UInt64) x0)), .second, .val (.ref a0), .val (.int (3 : Int32)), .val (.int (1 : Int32)), .val (.double x0), .second] [(.int (1 : Int32)), (.ref a0)])) rfl rfl (hb hby d1_36)) ?_
  show Go _ _ _ _ _ _ _ _ (mkF m 37 #[.val (.ref a0), .val (.double (FP.dadd (0 : UInt64) x0)), .second, .val (.ref a0), .val (.int (3 : Int32)), .val (.int (1 : Int32)), .val (.double x0), .second] [(.double x1)])
  refine Go.on (fun _ k => XS.dstore X0.here hx rfl (hb hby d1_37) rfl (l' := #[.val (.ref a0), .val (.double (FP.dadd (0 : UInt64) x0)), .second, .val (.ref a0), .val (.int (3 : Int32)), .val (.int (1 : Int32)), .val (.double x1), .second]) rfl k) ?_
  show Go _ _ _ _ _ _ _ _ (mkF m 39 #[.val (.ref a0), .val (.double (FP.dadd (0 : UInt64) x0)), .second, .val (.ref a0), .val (.int (3 : Int32)), .val (.int (1 : Int32)), .val (.double x1), .second] [])
  refine Go.on (fun _ k => XS.dloadN X0.here hx rfl (hb hby d1_39) rfl k) ?_
  show Go _ _ _ _ _ _ _ _ (mkF m 40 #[.val (.ref a0), .val (.double (FP.dadd (0 : UInt64) x0)), .second, .val (.ref a0), .val (.int (3 : Int32)), .val (.int (1 : Int32)), .val (.double x1), .second] [(.double (FP.dadd (0 : UInt64) x0))])
  refine Go.on (fun _ k => XS.dload X0.here hx rfl (hb hby d1_40) rfl k) ?_
  show Go _ _ _ _ _ _ _ _ (mkF m 42 #[.val (.ref a0), .val (.double (FP.dadd (0 : UInt64) x0)), .second, .val (.ref a0), .val (.int (3 : Int32)), .val (.int (1 : Int32)), .val (.double x1), .second] [(.double x1), (.double (FP.dadd (0 : UInt64) x0))])
  refine Go.on (fun _ k => XS.daddS X0.here hx rfl (hb hby d1_42) rfl (hs1) rfl k) ?_
  show Go _ _ _ _ _ _ _ _ (mkF m 43 #[.val (.ref a0), .val (.double (FP.dadd (0 : UInt64) x0)), .second, .val (.ref a0), .val (.int (3 : Int32)), .val (.int (1 : Int32)), .val (.double x1), .second] [(.double (FP.dadd (FP.dadd (0 : UInt64) x0) x1))])
  refine Go.on (fun _ k => XS.dstoreN X0.here hx rfl (hb hby d1_43) rfl (l' := #[.val (.ref a0), .val (.double (FP.dadd (FP.dadd (0 : UInt64) x0) x1)), .second, .val (.ref a0), .val (.int (3 : Int32)), .val (.int (1 : Int32)), .val (.double x1), .second]) rfl k) ?_
  show Go _ _ _ _ _ _ _ _ (mkF m 44 #[.val (.ref a0), .val (.double (FP.dadd (FP.dadd (0 : UInt64) x0) x1)), .second, .val (.ref a0), .val (.int (3 : Int32)), .val (.int (1 : Int32)), .val (.double x1), .second] [])
  refine Go.on (fun _ k => XS.iinc X0.here hx rfl (hb hby d1_44) rfl (l' := #[.val (.ref a0), .val (.double (FP.dadd (FP.dadd (0 : UInt64) x0) x1)), .second, .val (.ref a0), .val (.int (3 : Int32)), .val (.int (2 : Int32)), .val (.double x1), .second]) rfl k) ?_
  show Go _ _ _ _ _ _ _ _ (mkF m 47 #[.val (.ref a0), .val (.double (FP.dadd (FP.dadd (0 : UInt64) x0) x1)), .second, .val (.ref a0), .val (.int (3 : Int32)), .val (.int (2 : Int32)), .val (.double x1), .second] [])
  refine Go.on (fun _ k => XS.goto X0.here hx rfl (pc0 := 47) (pc' := 26) rfl (hb hby d1_47) (by decide) (by decide) k) ?_
  show Go _ _ _ _ _ _ _ _ (mkF m 26 #[.val (.ref a0), .val (.double (FP.dadd (FP.dadd (0 : UInt64) x0) x1)), .second, .val (.ref a0), .val (.int (3 : Int32)), .val (.int (2 : Int32)), .val (.double x1), .second] [])
  refine Go.on (fun _ k => XS.iload X0.here hx rfl (hb hby d1_26) rfl k) ?_
  show Go _ _ _ _ _ _ _ _ (mkF m 28 #[.val (.ref a0), .val (.double (FP.dadd (FP.dadd (0 : UInt64) x0) x1)), .second, .val (.ref a0), .val (.int (3 : Int32)), .val (.int (2 : Int32)), .val (.double x1), .second] [(.int (2 : Int32))])
  refine Go.on (fun _ k => XS.iload X0.here hx rfl (hb hby d1_28) rfl k) ?_
  show Go _ _ _ _ _ _ _ _ (mkF m 30 #[.val (.ref a0), .val (.double (FP.dadd (FP.dadd (0 : UInt64) x0) x1)), .second, .val (.ref a0), .val (.int (3 : Int32)), .val (.int (2 : Int32)), .val (.double x1), .second] [(.int (3 : Int32)), (.int (2 : Int32))])
  have hc8 : (2 : Int32) < (3 : Int32) := by decide
  refine Go.on (fun _ k => XS.icmpNo X0.here hx rfl (hb hby d1_30) rfl (tlt hc8).2.1 k) ?_
  show Go _ _ _ _ _ _ _ _ (mkF m 33 #[.val (.ref a0), .val (.double (FP.dadd (FP.dadd (0 : UInt64) x0) x1)), .second, .val (.ref a0), .val (.int (3 : Int32)), .val (.int (2 : Int32)), .val (.double x1), .second] [])
  refine Go.on (fun _ k => XS.aloadN X0.here hx rfl (hb hby d1_33) rfl rfl k) ?_
  show Go _ _ _ _ _ _ _ _ (mkF m 34 #[.val (.ref a0), .val (.double (FP.dadd (FP.dadd (0 : UInt64) x0) x1)), .second, .val (.ref a0), .val (.int (3 : Int32)), .val (.int (2 : Int32)), .val (.double x1), .second] [(.ref a0)])
  refine Go.on (fun _ k => XS.iload X0.here hx rfl (hb hby d1_34) rfl k) ?_
  show Go _ _ _ _ _ _ _ _ (mkF m 36 #[.val (.ref a0), .val (.double (FP.dadd (FP.dadd (0 : UInt64) x0) x1)), .second, .val (.ref a0), .val (.int (3 : Int32)), .val (.int (2 : Int32)), .val (.double x1), .second] [(.int (2 : Int32)), (.ref a0)])
  obtain ⟨cl9, Ar9, -, S9, -, H9, -⟩ := id V_a0
  have hin9 : ¬ ((2 : Int32) < 0 ∨ cl9.slots.size ≤ ((2 : Int32)).toNatClampNeg) := inb_of S9 ⟨by decide, by decide⟩
  refine Go.on (X0.daload hx (j := (2 : Int32)) (v := (.double x2)) (by rw [e0]; exact Ar9.1) (State.isArrayOf_alike hZ.alike Ar9.2.1) Ar9.2.2 hin9 (H9.at hin9 (rfl)) (g := (mkF m 36 #[.val (.ref a0), .val (.double (FP.dadd (FP.dadd (0 : UInt64) x0) x1)), .second, .val (.ref a0), .val (.int (3 : Int32)), .val (.int (2 : Int32)), .val (.double x1), .second] [(.int (2 : Int32)), (.ref a0)])) rfl rfl (hb hby d1_36)) ?_
  show Go _ _ _ _ _ _ _ _ (mkF m 37 #[.val (.ref a0), .val (.double (FP.dadd (FP.dadd (0 : UInt64) x0) x1)), .second, .val (.ref a0), .val (.int (3 : Int32)), .val (.int (2 : Int32)), .val (.double x1), .second] [(.double x2)])
  refine Go.on (fun _ k => XS.dstore X0.here hx rfl (hb hby d1_37) rfl (l' := #[.val (.ref a0), .val (.double (FP.dadd (FP.dadd (0 : UInt64) x0) x1)), .second, .val (.ref a0), .val (.int (3 : Int32)), .val (.int (2 : Int32)), .val (.double x2), .second]) rfl k) ?_
  show Go _ _ _ _ _ _ _ _ (mkF m 39 #[.val (.ref a0), .val (.double (FP.dadd (FP.dadd (0 : UInt64) x0) x1)), .second, .val (.ref a0), .val (.int (3 : Int32)), .val (.int (2 : Int32)), .val (.double x2), .second] [])
  refine Go.on (fun _ k => XS.dloadN X0.here hx rfl (hb hby d1_39) rfl k) ?_
  show Go _ _ _ _ _ _ _ _ (mkF m 40 #[.val (.ref a0), .val (.double (FP.dadd (FP.dadd (0 : UInt64) x0) x1)), .second, .val (.ref a0), .val (.int (3 : Int32)), .val (.int (2 : Int32)), .val (.double x2), .second] [(.double (FP.dadd (FP.dadd (0 : UInt64) x0) x1))])
  refine Go.on (fun _ k => XS.dload X0.here hx rfl (hb hby d1_40) rfl k) ?_
  show Go _ _ _ _ _ _ _ _ (mkF m 42 #[.val (.ref a0), .val (.double (FP.dadd (FP.dadd (0 : UInt64) x0) x1)), .second, .val (.ref a0), .val (.int (3 : Int32)), .val (.int (2 : Int32)), .val (.double x2), .second] [(.double x2), (.double (FP.dadd (FP.dadd (0 : UInt64) x0) x1))])
  refine Go.on (fun _ k => XS.daddS X0.here hx rfl (hb hby d1_42) rfl (hs2) rfl k) ?_
  show Go _ _ _ _ _ _ _ _ (mkF m 43 #[.val (.ref a0), .val (.double (FP.dadd (FP.dadd (0 : UInt64) x0) x1)), .second, .val (.ref a0), .val (.int (3 : Int32)), .val (.int (2 : Int32)), .val (.double x2), .second] [(.double (FP.dadd (FP.dadd (FP.dadd (0 : UInt64) x0) x1) x2))])
  refine Go.on (fun _ k => XS.dstoreN X0.here hx rfl (hb hby d1_43) rfl (l' := #[.val (.ref a0), .val (.double (FP.dadd (FP.dadd (FP.dadd (0 : UInt64) x0) x1) x2)), .second, .val (.ref a0), .val (.int (3 : Int32)), .val (.int (2 : Int32)), .val (.double x2), .second]) rfl k) ?_
  show Go _ _ _ _ _ _ _ _ (mkF m 44 #[.val (.ref a0), .val (.double (FP.dadd (FP.dadd (FP.dadd (0 : UInt64) x0) x1) x2)), .second, .val (.ref a0), .val (.int (3 : Int32)), .val (.int (2 : Int32)), .val (.double x2), .second] [])
  refine Go.on (fun _ k => XS.iinc X0.here hx rfl (hb hby d1_44) rfl (l' := #[.val (.ref a0), .val (.double (FP.dadd (FP.dadd (FP.dadd (0 : UInt64) x0) x1) x2)), .second, .val (.ref a0), .val (.int (3 : Int32)), .val (.int (3 : Int32)), .val (.double x2), .second]) rfl k) ?_
  show Go _ _ _ _ _ _ _ _ (mkF m 47 #[.val (.ref a0), .val (.double (FP.dadd (FP.dadd (FP.dadd (0 : UInt64) x0) x1) x2)), .second, .val (.ref a0), .val (.int (3 : Int32)), .val (.int (3 : Int32)), .val (.double x2), .second] [])
  refine Go.on (fun _ k => XS.goto X0.here hx rfl (pc0 := 47) (pc' := 26) rfl (hb hby d1_47) (by decide) (by decide) k) ?_
  show Go _ _ _ _ _ _ _ _ (mkF m 26 #[.val (.ref a0), .val (.double (FP.dadd (FP.dadd (FP.dadd (0 : UInt64) x0) x1) x2)), .second, .val (.ref a0), .val (.int (3 : Int32)), .val (.int (3 : Int32)), .val (.double x2), .second] [])
  refine Go.on (fun _ k => XS.iload X0.here hx rfl (hb hby d1_26) rfl k) ?_
  show Go _ _ _ _ _ _ _ _ (mkF m 28 #[.val (.ref a0), .val (.double (FP.dadd (FP.dadd (FP.dadd (0 : UInt64) x0) x1) x2)), .second, .val (.ref a0), .val (.int (3 : Int32)), .val (.int (3 : Int32)), .val (.double x2), .second] [(.int (3 : Int32))])
  refine Go.on (fun _ k => XS.iload X0.here hx rfl (hb hby d1_28) rfl k) ?_
  show Go _ _ _ _ _ _ _ _ (mkF m 30 #[.val (.ref a0), .val (.double (FP.dadd (FP.dadd (FP.dadd (0 : UInt64) x0) x1) x2)), .second, .val (.ref a0), .val (.int (3 : Int32)), .val (.int (3 : Int32)), .val (.double x2), .second] [(.int (3 : Int32)), (.int (3 : Int32))])
  have hc10 : ¬ ((3 : Int32) < (3 : Int32)) := by decide
  refine Go.on (fun _ k => XS.icmpYes X0.here hx rfl (pc0 := 30) (pc' := 50) rfl (hb hby d1_30) rfl (flt hc10).2.1 (by decide) (by decide) k) ?_
  show Go _ _ _ _ _ _ _ _ (mkF m 50 #[.val (.ref a0), .val (.double (FP.dadd (FP.dadd (FP.dadd (0 : UInt64) x0) x1) x2)), .second, .val (.ref a0), .val (.int (3 : Int32)), .val (.int (3 : Int32)), .val (.double x2), .second] [])
  refine Go.on (fun _ k => XS.dloadN X0.here hx rfl (hb hby d1_50) rfl k) ?_
  show Go _ _ _ _ _ _ _ _ (mkF m 51 #[.val (.ref a0), .val (.double (FP.dadd (FP.dadd (FP.dadd (0 : UInt64) x0) x1) x2)), .second, .val (.ref a0), .val (.int (3 : Int32)), .val (.int (3 : Int32)), .val (.double x2), .second] [(.double (FP.dadd (FP.dadd (FP.dadd (0 : UInt64) x0) x1) x2))])
  refine Go.on (fun _ k => XS.aloadN X0.here hx rfl (hb hby d1_51) rfl rfl k) ?_
  show Go _ _ _ _ _ _ _ _ (mkF m 52 #[.val (.ref a0), .val (.double (FP.dadd (FP.dadd (FP.dadd (0 : UInt64) x0) x1) x2)), .second, .val (.ref a0), .val (.int (3 : Int32)), .val (.int (3 : Int32)), .val (.double x2), .second] [(.ref a0), (.double (FP.dadd (FP.dadd (FP.dadd (0 : UInt64) x0) x1) x2))])
  obtain ⟨cl11, Ar11, -, S11, N11n, -, -⟩ := id V_a0
  refine Go.on (X0.arraylength hx (by rw [e0]; exact Ar11.1) (State.isArrayOf_alike hZ.alike Ar11.2.1) (g := (mkF m 52 #[.val (.ref a0), .val (.double (FP.dadd (FP.dadd (FP.dadd (0 : UInt64) x0) x1) x2)), .second, .val (.ref a0), .val (.int (3 : Int32)), .val (.int (3 : Int32)), .val (.double x2), .second] [(.ref a0), (.double (FP.dadd (FP.dadd (FP.dadd (0 : UInt64) x0) x1) x2))])) rfl rfl (hb hby d1_52)) ?_
  rw [len_of S11 N11n]
  show Go _ _ _ _ _ _ _ _ (mkF m 53 #[.val (.ref a0), .val (.double (FP.dadd (FP.dadd (FP.dadd (0 : UInt64) x0) x1) x2)), .second, .val (.ref a0), .val (.int (3 : Int32)), .val (.int (3 : Int32)), .val (.double x2), .second] [(.int (3 : Int32)), (.double (FP.dadd (FP.dadd (FP.dadd (0 : UInt64) x0) x1) x2))])
  refine Go.on (fun _ k => XS.i2dS X0.here hx rfl (hb hby d1_53) rfl rfl k) ?_
  show Go _ _ _ _ _ _ _ _ (mkF m 54 #[.val (.ref a0), .val (.double (FP.dadd (FP.dadd (FP.dadd (0 : UInt64) x0) x1) x2)), .second, .val (.ref a0), .val (.int (3 : Int32)), .val (.int (3 : Int32)), .val (.double x2), .second] [(.double (FP.i2d (3 : Int32))), (.double (FP.dadd (FP.dadd (FP.dadd (0 : UInt64) x0) x1) x2))])
  refine Go.on (fun _ k => XS.ddivS X0.here hx rfl (hb hby d1_54) rfl (hq) rfl k) ?_
  show Go _ _ _ _ _ _ _ _ (mkF m 55 #[.val (.ref a0), .val (.double (FP.dadd (FP.dadd (FP.dadd (0 : UInt64) x0) x1) x2)), .second, .val (.ref a0), .val (.int (3 : Int32)), .val (.int (3 : Int32)), .val (.double x2), .second] [(.double (FP.ddiv (FP.dadd (FP.dadd (FP.dadd (0 : UInt64) x0) x1) x2) (FP.i2d (3 : Int32))))])
  refine Go.retV X0 hx Bd.returns rfl (Or.inr (Or.inr (Or.inl ⟨rfl, rfl, _, rfl⟩))) (hb hby d1_55) ?_ (by rw [hK1]; decide) (by rw [hK2]; decide)
  rw [e0, ← hQQ]
  exact ⟨rfl, N0, rfl⟩
theorem ef_rm1_4 (m : MethodId) (a0 : Addr) : entryFrame m #[(.ref a0)] 8 = mkF m 0 #[.val (.ref a0), .unset, .unset, .unset, .unset, .unset, .unset, .unset] [] := by first | (simp [entryFrame, mkF, argsToLocals, Value.category]; done) | rfl
def Q_rm1_4 (Z : State) (a0 : Addr) (k_a0 : ClassId) (x0 : UInt64) (x1 : UInt64) (x2 : UInt64) (x3 : UInt64) (h0 : Heap) (n0 : Nat) (v : Option Value) (h : Heap) (L : List Loc) : Prop := v = some (.double (FP.ddiv (FP.dadd (FP.dadd (FP.dadd (FP.dadd (0 : UInt64) x0) x1) x2) x3) (FP.i2d (4 : Int32)))) ∧ Fr n0 L ∧ h = h0
set_option maxRecDepth 65536 in
set_option maxHeartbeats 40000000 in
theorem rm1_4 (l : Launch) (Z : State) (aw : Array Value) (hw : ∀ d ∈ tables_1, d.before aw Z = true) (ws : List Jvm.Cond) (a0 : Addr) (k_a0 : ClassId) (x0 : UInt64) (x1 : UInt64) (x2 : UInt64) (x3 : UInt64) (h0 : Heap) (n0 : Nat) (Z0 : n0 ≤ h0.size) (V_a0 : Arv Z h0 a0 k_a0 .double (4 : Int32) [(.double x0), (.double x1), (.double x2), (.double x3)] (.double (0 : UInt64))) (hs0 : Jvm.Free.Fl.NoNaN64 (FP.dadd (0 : UInt64) x0)) (hs1 : Jvm.Free.Fl.NoNaN64 (FP.dadd (FP.dadd (0 : UInt64) x0) x1)) (hs2 : Jvm.Free.Fl.NoNaN64 (FP.dadd (FP.dadd (FP.dadd (0 : UInt64) x0) x1) x2)) (hs3 : Jvm.Free.Fl.NoNaN64 (FP.dadd (FP.dadd (FP.dadd (FP.dadd (0 : UInt64) x0) x1) x2) x3)) (hq : Jvm.Free.Fl.NoNaN64 (FP.ddiv (FP.dadd (FP.dadd (FP.dadd (FP.dadd (0 : UInt64) x0) x1) x2) x3) (FP.i2d (4 : Int32)))) :
    MetFree l (⟨"com/example/driftswarm/driftswarm/analysis/Statistics", "mean", "([D)D"⟩ : MethodName) (head1 (Jvm.Cond.code (⟨"com/example/driftswarm/driftswarm/analysis/Statistics", "mean", "([D)D"⟩ : MethodName) prog_50_method_2_code 8 (some .double) :: ws) ({ frames := 0, cells := 0, slots := 0, locals := 0 } : Room)) (fun a U => a = #[(.ref a0)] ∧ Z.Warmed39 U.vm ∧ U.heap = h0) (fun _ _ _ _ _ => True) (fun _ U o U' => ∃ v L, o = .returned v ∧ Q_rm1_4 Z a0 k_a0 x0 x1 x2 x3 h0 n0 v U'.heap L ∧ FrameEnd U o U' L ({ frames := 0, cells := 0, slots := 0, locals := 0 } : Room).cells ({ frames := 0, cells := 0, slots := 0, locals := 0 } : Room).slots) := by
  refine MetFree.of_bodySF (plainFor_of_name pn_0) hisR ?_
  intro p e s m args below meth c s₁ Bd hml0 hP hK
  obtain ⟨rfl, hZ, hh⟩ := hP
  have hx := Bd.exec
  have hby := Bd.bytes
  have hml : c.maxLocals = 8 := hml0
  have hown : s.vm.findClass "com/example/driftswarm/driftswarm/analysis/Statistics" = some m.cls := findClass_of_methodNamed Bd.named
  have hnm := (name_of_methodNamed Bd.named Bd.method).1
  have hlk : meth.locks = false := BodyLoose.notSynchronized Bd
  have X0 : Stand p l e ({ frames := 0, cells := 0, slots := 0, locals := 0 } : Room) s m #[(.ref a0)] below meth c s₁ [] 0 0 := Stand.of_body Bd
  have e0 : s₁.heap = h0 := by rw [← hh, Bd.state]; rfl
  have N0 := Fr.nil n0
  have ZZ := Z0
  show Go p e below s ({ frames := 0, cells := 0, slots := 0, locals := 0 } : Room).cells ({ frames := 0, cells := 0, slots := 0, locals := 0 } : Room).slots (fun v h L => Q_rm1_4 Z a0 k_a0 x0 x1 x2 x3 h0 n0 v h L) s₁ (entryFrame m #[(.ref a0)] 8)
  refine Go.cast (ef_rm1_4 m a0) ?_
  refine Go.gen ?_
  intro K1 K2 QQ hK1 hK2 hQQ
  refine Go.on (fun _ k => XS.aloadN X0.here hx rfl (hb hby d1_0) rfl rfl k) ?_
  show Go _ _ _ _ _ _ _ _ (mkF m 1 #[.val (.ref a0), .unset, .unset, .unset, .unset, .unset, .unset, .unset] [(.ref a0)])
  obtain ⟨cl1, Ar1, -, S1, N1n, -, -⟩ := id V_a0
  refine Go.on (X0.arraylength hx (by rw [e0]; exact Ar1.1) (State.isArrayOf_alike hZ.alike Ar1.2.1) (g := (mkF m 1 #[.val (.ref a0), .unset, .unset, .unset, .unset, .unset, .unset, .unset] [(.ref a0)])) rfl rfl (hb hby d1_1)) ?_
  rw [len_of S1 N1n]
  show Go _ _ _ _ _ _ _ _ (mkF m 2 #[.val (.ref a0), .unset, .unset, .unset, .unset, .unset, .unset, .unset] [(.int (4 : Int32))])
  have hc2 : ¬ ((4 : Int32) = (0 : Int32)) := by decide
  refine Go.on (fun _ k => XS.ifYes X0.here hx rfl (pc0 := 2) (pc' := 15) rfl (hb hby d1_2) rfl ((if0 _ _).trans (feq hc2).2) (by decide) (by decide) k) ?_
  show Go _ _ _ _ _ _ _ _ (mkF m 15 #[.val (.ref a0), .unset, .unset, .unset, .unset, .unset, .unset, .unset] [])
  refine Go.on (fun _ k => XS.dconst0 X0.here hx rfl (v := (0 : UInt64)) (hb hby d1_15) rfl k) ?_
  show Go _ _ _ _ _ _ _ _ (mkF m 16 #[.val (.ref a0), .unset, .unset, .unset, .unset, .unset, .unset, .unset] [(.double (0 : UInt64))])
  refine Go.on (fun _ k => XS.dstoreN X0.here hx rfl (hb hby d1_16) rfl (l' := #[.val (.ref a0), .val (.double (0 : UInt64)), .second, .unset, .unset, .unset, .unset, .unset]) rfl k) ?_
  show Go _ _ _ _ _ _ _ _ (mkF m 17 #[.val (.ref a0), .val (.double (0 : UInt64)), .second, .unset, .unset, .unset, .unset, .unset] [])
  refine Go.on (fun _ k => XS.aloadN X0.here hx rfl (hb hby d1_17) rfl rfl k) ?_
  show Go _ _ _ _ _ _ _ _ (mkF m 18 #[.val (.ref a0), .val (.double (0 : UInt64)), .second, .unset, .unset, .unset, .unset, .unset] [(.ref a0)])
  refine Go.on (fun _ k => XS.astoreN X0.here hx rfl (hb hby d1_18) rfl rfl (l' := #[.val (.ref a0), .val (.double (0 : UInt64)), .second, .val (.ref a0), .unset, .unset, .unset, .unset]) rfl k) ?_
  show Go _ _ _ _ _ _ _ _ (mkF m 19 #[.val (.ref a0), .val (.double (0 : UInt64)), .second, .val (.ref a0), .unset, .unset, .unset, .unset] [])
  refine Go.on (fun _ k => XS.aloadN X0.here hx rfl (hb hby d1_19) rfl rfl k) ?_
  show Go _ _ _ _ _ _ _ _ (mkF m 20 #[.val (.ref a0), .val (.double (0 : UInt64)), .second, .val (.ref a0), .unset, .unset, .unset, .unset] [(.ref a0)])
  obtain ⟨cl3, Ar3, -, S3, N3n, -, -⟩ := id V_a0
  refine Go.on (X0.arraylength hx (by rw [e0]; exact Ar3.1) (State.isArrayOf_alike hZ.alike Ar3.2.1) (g := (mkF m 20 #[.val (.ref a0), .val (.double (0 : UInt64)), .second, .val (.ref a0), .unset, .unset, .unset, .unset] [(.ref a0)])) rfl rfl (hb hby d1_20)) ?_
  rw [len_of S3 N3n]
  show Go _ _ _ _ _ _ _ _ (mkF m 21 #[.val (.ref a0), .val (.double (0 : UInt64)), .second, .val (.ref a0), .unset, .unset, .unset, .unset] [(.int (4 : Int32))])
  refine Go.on (fun _ k => XS.istore X0.here hx rfl (hb hby d1_21) rfl (l' := #[.val (.ref a0), .val (.double (0 : UInt64)), .second, .val (.ref a0), .val (.int (4 : Int32)), .unset, .unset, .unset]) rfl k) ?_
  show Go _ _ _ _ _ _ _ _ (mkF m 23 #[.val (.ref a0), .val (.double (0 : UInt64)), .second, .val (.ref a0), .val (.int (4 : Int32)), .unset, .unset, .unset] [])
  refine Go.on (fun _ k => XS.iconst X0.here hx rfl (hb hby d1_23) k) ?_
  show Go _ _ _ _ _ _ _ _ (mkF m 24 #[.val (.ref a0), .val (.double (0 : UInt64)), .second, .val (.ref a0), .val (.int (4 : Int32)), .unset, .unset, .unset] [(.int (0 : Int32))])
  refine Go.on (fun _ k => XS.istore X0.here hx rfl (hb hby d1_24) rfl (l' := #[.val (.ref a0), .val (.double (0 : UInt64)), .second, .val (.ref a0), .val (.int (4 : Int32)), .val (.int (0 : Int32)), .unset, .unset]) rfl k) ?_
  show Go _ _ _ _ _ _ _ _ (mkF m 26 #[.val (.ref a0), .val (.double (0 : UInt64)), .second, .val (.ref a0), .val (.int (4 : Int32)), .val (.int (0 : Int32)), .unset, .unset] [])
  refine Go.on (fun _ k => XS.iload X0.here hx rfl (hb hby d1_26) rfl k) ?_
  show Go _ _ _ _ _ _ _ _ (mkF m 28 #[.val (.ref a0), .val (.double (0 : UInt64)), .second, .val (.ref a0), .val (.int (4 : Int32)), .val (.int (0 : Int32)), .unset, .unset] [(.int (0 : Int32))])
  refine Go.on (fun _ k => XS.iload X0.here hx rfl (hb hby d1_28) rfl k) ?_
  show Go _ _ _ _ _ _ _ _ (mkF m 30 #[.val (.ref a0), .val (.double (0 : UInt64)), .second, .val (.ref a0), .val (.int (4 : Int32)), .val (.int (0 : Int32)), .unset, .unset] [(.int (4 : Int32)), (.int (0 : Int32))])
  have hc4 : (0 : Int32) < (4 : Int32) := by decide
  refine Go.on (fun _ k => XS.icmpNo X0.here hx rfl (hb hby d1_30) rfl (tlt hc4).2.1 k) ?_
  show Go _ _ _ _ _ _ _ _ (mkF m 33 #[.val (.ref a0), .val (.double (0 : UInt64)), .second, .val (.ref a0), .val (.int (4 : Int32)), .val (.int (0 : Int32)), .unset, .unset] [])
  refine Go.on (fun _ k => XS.aloadN X0.here hx rfl (hb hby d1_33) rfl rfl k) ?_
  show Go _ _ _ _ _ _ _ _ (mkF m 34 #[.val (.ref a0), .val (.double (0 : UInt64)), .second, .val (.ref a0), .val (.int (4 : Int32)), .val (.int (0 : Int32)), .unset, .unset] [(.ref a0)])
  refine Go.on (fun _ k => XS.iload X0.here hx rfl (hb hby d1_34) rfl k) ?_
  show Go _ _ _ _ _ _ _ _ (mkF m 36 #[.val (.ref a0), .val (.double (0 : UInt64)), .second, .val (.ref a0), .val (.int (4 : Int32)), .val (.int (0 : Int32)), .unset, .unset] [(.int (0 : Int32)), (.ref a0)])
  obtain ⟨cl5, Ar5, -, S5, -, H5, -⟩ := id V_a0
  have hin5 : ¬ ((0 : Int32) < 0 ∨ cl5.slots.size ≤ ((0 : Int32)).toNatClampNeg) := inb_of S5 ⟨by decide, by decide⟩
  refine Go.on (X0.daload hx (j := (0 : Int32)) (v := (.double x0)) (by rw [e0]; exact Ar5.1) (State.isArrayOf_alike hZ.alike Ar5.2.1) Ar5.2.2 hin5 (H5.at hin5 (rfl)) (g := (mkF m 36 #[.val (.ref a0), .val (.double (0 : UInt64)), .second, .val (.ref a0), .val (.int (4 : Int32)), .val (.int (0 : Int32)), .unset, .unset] [(.int (0 : Int32)), (.ref a0)])) rfl rfl (hb hby d1_36)) ?_
  show Go _ _ _ _ _ _ _ _ (mkF m 37 #[.val (.ref a0), .val (.double (0 : UInt64)), .second, .val (.ref a0), .val (.int (4 : Int32)), .val (.int (0 : Int32)), .unset, .unset] [(.double x0)])
  refine Go.on (fun _ k => XS.dstore X0.here hx rfl (hb hby d1_37) rfl (l' := #[.val (.ref a0), .val (.double (0 : UInt64)), .second, .val (.ref a0), .val (.int (4 : Int32)), .val (.int (0 : Int32)), .val (.double x0), .second]) rfl k) ?_
  show Go _ _ _ _ _ _ _ _ (mkF m 39 #[.val (.ref a0), .val (.double (0 : UInt64)), .second, .val (.ref a0), .val (.int (4 : Int32)), .val (.int (0 : Int32)), .val (.double x0), .second] [])
  refine Go.on (fun _ k => XS.dloadN X0.here hx rfl (hb hby d1_39) rfl k) ?_
  show Go _ _ _ _ _ _ _ _ (mkF m 40 #[.val (.ref a0), .val (.double (0 : UInt64)), .second, .val (.ref a0), .val (.int (4 : Int32)), .val (.int (0 : Int32)), .val (.double x0), .second] [(.double (0 : UInt64))])
  refine Go.on (fun _ k => XS.dload X0.here hx rfl (hb hby d1_40) rfl k) ?_
  show Go _ _ _ _ _ _ _ _ (mkF m 42 #[.val (.ref a0), .val (.double (0 : UInt64)), .second, .val (.ref a0), .val (.int (4 : Int32)), .val (.int (0 : Int32)), .val (.double x0), .second] [(.double x0), (.double (0 : UInt64))])
  refine Go.on (fun _ k => XS.daddS X0.here hx rfl (hb hby d1_42) rfl (hs0) rfl k) ?_
  show Go _ _ _ _ _ _ _ _ (mkF m 43 #[.val (.ref a0), .val (.double (0 : UInt64)), .second, .val (.ref a0), .val (.int (4 : Int32)), .val (.int (0 : Int32)), .val (.double x0), .second] [(.double (FP.dadd (0 : UInt64) x0))])
  refine Go.on (fun _ k => XS.dstoreN X0.here hx rfl (hb hby d1_43) rfl (l' := #[.val (.ref a0), .val (.double (FP.dadd (0 : UInt64) x0)), .second, .val (.ref a0), .val (.int (4 : Int32)), .val (.int (0 : Int32)), .val (.double x0), .second]) rfl k) ?_
  show Go _ _ _ _ _ _ _ _ (mkF m 44 #[.val (.ref a0), .val (.double (FP.dadd (0 : UInt64) x0)), .second, .val (.ref a0), .val (.int (4 : Int32)), .val (.int (0 : Int32)), .val (.double x0), .second] [])
  refine Go.on (fun _ k => XS.iinc X0.here hx rfl (hb hby d1_44) rfl (l' := #[.val (.ref a0), .val (.double (FP.dadd (0 : UInt64) x0)), .second, .val (.ref a0), .val (.int (4 : Int32)), .val (.int (1 : Int32)), .val (.double x0), .second]) rfl k) ?_
  show Go _ _ _ _ _ _ _ _ (mkF m 47 #[.val (.ref a0), .val (.double (FP.dadd (0 : UInt64) x0)), .second, .val (.ref a0), .val (.int (4 : Int32)), .val (.int (1 : Int32)), .val (.double x0), .second] [])
  refine Go.on (fun _ k => XS.goto X0.here hx rfl (pc0 := 47) (pc' := 26) rfl (hb hby d1_47) (by decide) (by decide) k) ?_
  show Go _ _ _ _ _ _ _ _ (mkF m 26 #[.val (.ref a0), .val (.double (FP.dadd (0 : UInt64) x0)), .second, .val (.ref a0), .val (.int (4 : Int32)), .val (.int (1 : Int32)), .val (.double x0), .second] [])
  refine Go.on (fun _ k => XS.iload X0.here hx rfl (hb hby d1_26) rfl k) ?_
  show Go _ _ _ _ _ _ _ _ (mkF m 28 #[.val (.ref a0), .val (.double (FP.dadd (0 : UInt64) x0)), .second, .val (.ref a0), .val (.int (4 : Int32)), .val (.int (1 : Int32)), .val (.double x0), .second] [(.int (1 : Int32))])
  refine Go.on (fun _ k => XS.iload X0.here hx rfl (hb hby d1_28) rfl k) ?_
  show Go _ _ _ _ _ _ _ _ (mkF m 30 #[.val (.ref a0), .val (.double (FP.dadd (0 : UInt64) x0)), .second, .val (.ref a0), .val (.int (4 : Int32)), .val (.int (1 : Int32)), .val (.double x0), .second] [(.int (4 : Int32)), (.int (1 : Int32))])
  have hc6 : (1 : Int32) < (4 : Int32) := by decide
  refine Go.on (fun _ k => XS.icmpNo X0.here hx rfl (hb hby d1_30) rfl (tlt hc6).2.1 k) ?_
  show Go _ _ _ _ _ _ _ _ (mkF m 33 #[.val (.ref a0), .val (.double (FP.dadd (0 : UInt64) x0)), .second, .val (.ref a0), .val (.int (4 : Int32)), .val (.int (1 : Int32)), .val (.double x0), .second] [])
  refine Go.on (fun _ k => XS.aloadN X0.here hx rfl (hb hby d1_33) rfl rfl k) ?_
  show Go _ _ _ _ _ _ _ _ (mkF m 34 #[.val (.ref a0), .val (.double (FP.dadd (0 : UInt64) x0)), .second, .val (.ref a0), .val (.int (4 : Int32)), .val (.int (1 : Int32)), .val (.double x0), .second] [(.ref a0)])
  refine Go.on (fun _ k => XS.iload X0.here hx rfl (hb hby d1_34) rfl k) ?_
  show Go _ _ _ _ _ _ _ _ (mkF m 36 #[.val (.ref a0), .val (.double (FP.dadd (0 : UInt64) x0)), .second, .val (.ref a0), .val (.int (4 : Int32)), .val (.int (1 : Int32)), .val (.double x0), .second] [(.int (1 : Int32)), (.ref a0)])
  obtain ⟨cl7, Ar7, -, S7, -, H7, -⟩ := id V_a0
  have hin7 : ¬ ((1 : Int32) < 0 ∨ cl7.slots.size ≤ ((1 : Int32)).toNatClampNeg) := inb_of S7 ⟨by decide, by decide⟩
  refine Go.on (X0.daload hx (j := (1 : Int32)) (v := (.double x1)) (by rw [e0]; exact Ar7.1) (State.isArrayOf_alike hZ.alike Ar7.2.1) Ar7.2.2 hin7 (H7.at hin7 (rfl)) (g := (mkF m 36 #[.val (.ref a0), .val (.double (FP.dadd (0 : UInt64) x0)), .second, .val (.ref a0), .val (.int (4 : Int32)), .val (.int (1 : Int32)), .val (.double x0), .second] [(.int (1 : Int32)), (.ref a0)])) rfl rfl (hb hby d1_36)) ?_
  show Go _ _ _ _ _ _ _ _ (mkF m 37 #[.val (.ref a0), .val (.double (FP.dadd (0 : UInt64) x0)), .second, .val (.ref a0), .val (.int (4 : Int32)), .val (.int (1 : Int32)), .val (.double x0), .second] [(.double x1)])
  refine Go.on (fun _ k => XS.dstore X0.here hx rfl (hb hby d1_37) rfl (l' := #[.val (.ref a0), .val (.double (FP.dadd (0 : UInt64) x0)), .second, .val (.ref a0), .val (.int (4 : Int32)), .val (.int (1 : Int32)), .val (.double x1), .second]) rfl k) ?_
  show Go _ _ _ _ _ _ _ _ (mkF m 39 #[.val (.ref a0), .val (.double (FP.dadd (0 : UInt64) x0)), .second, .val (.ref a0), .val (.int (4 : Int32)), .val (.int (1 : Int32)), .val (.double x1), .second] [])
  refine Go.on (fun _ k => XS.dloadN X0.here hx rfl (hb hby d1_39) rfl k) ?_
  show Go _ _ _ _ _ _ _ _ (mkF m 40 #[.val (.ref a0), .val (.double (FP.dadd (0 : UInt64) x0)), .second, .val (.ref a0), .val (.int (4 : Int32)), .val (.int (1 : Int32)), .val (.double x1), .second] [(.double (FP.dadd (0 : UInt64) x0))])
  refine Go.on (fun _ k => XS.dload X0.here hx rfl (hb hby d1_40) rfl k) ?_
  show Go _ _ _ _ _ _ _ _ (mkF m 42 #[.val (.ref a0), .val (.double (FP.dadd (0 : UInt64) x0)), .second, .val (.ref a0), .val (.int (4 : Int32)), .val (.int (1 : Int32)), .val (.double x1), .second] [(.double x1), (.double (FP.dadd (0 : UInt64) x0))])
  refine Go.on (fun _ k => XS.daddS X0.here hx rfl (hb hby d1_42) rfl (hs1) rfl k) ?_
  show Go _ _ _ _ _ _ _ _ (mkF m 43 #[.val (.ref a0), .val (.double (FP.dadd (0 : UInt64) x0)), .second, .val (.ref a0), .val (.int (4 : Int32)), .val (.int (1 : Int32)), .val (.double x1), .second] [(.double (FP.dadd (FP.dadd (0 : UInt64) x0) x1))])
  refine Go.on (fun _ k => XS.dstoreN X0.here hx rfl (hb hby d1_43) rfl (l' := #[.val (.ref a0), .val (.double (FP.dadd (FP.dadd (0 : UInt64) x0) x1)), .second, .val (.ref a0), .val (.int (4 : Int32)), .val (.int (1 : Int32)), .val (.double x1), .second]) rfl k) ?_
  show Go _ _ _ _ _ _ _ _ (mkF m 44 #[.val (.ref a0), .val (.double (FP.dadd (FP.dadd (0 : UInt64) x0) x1)), .second, .val (.ref a0), .val (.int (4 : Int32)), .val (.int (1 : Int32)), .val (.double x1), .second] [])
  refine Go.on (fun _ k => XS.iinc X0.here hx rfl (hb hby d1_44) rfl (l' := #[.val (.ref a0), .val (.double (FP.dadd (FP.dadd (0 : UInt64) x0) x1)), .second, .val (.ref a0), .val (.int (4 : Int32)), .val (.int (2 : Int32)), .val (.double x1), .second]) rfl k) ?_
  show Go _ _ _ _ _ _ _ _ (mkF m 47 #[.val (.ref a0), .val (.double (FP.dadd (FP.dadd (0 : UInt64) x0) x1)), .second, .val (.ref a0), .val (.int (4 : Int32)), .val (.int (2 : Int32)), .val (.double x1), .second] [])
  refine Go.on (fun _ k => XS.goto X0.here hx rfl (pc0 := 47) (pc' := 26) rfl (hb hby d1_47) (by decide) (by decide) k) ?_
  show Go _ _ _ _ _ _ _ _ (mkF m 26 #[.val (.ref a0), .val (.double (FP.dadd (FP.dadd (0 : UInt64) x0) x1)), .second, .val (.ref a0), .val (.int (4 : Int32)), .val (.int (2 : Int32)), .val (.double x1), .second] [])
  refine Go.on (fun _ k => XS.iload X0.here hx rfl (hb hby d1_26) rfl k) ?_
  show Go _ _ _ _ _ _ _ _ (mkF m 28 #[.val (.ref a0), .val (.double (FP.dadd (FP.dadd (0 : UInt64) x0) x1)), .second, .val (.ref a0), .val (.int (4 : Int32)), .val (.int (2 : Int32)), .val (.double x1), .second] [(.int (2 : Int32))])
  refine Go.on (fun _ k => XS.iload X0.here hx rfl (hb hby d1_28) rfl k) ?_
  show Go _ _ _ _ _ _ _ _ (mkF m 30 #[.val (.ref a0), .val (.double (FP.dadd (FP.dadd (0 : UInt64) x0) x1)), .second, .val (.ref a0), .val (.int (4 : Int32)), .val (.int (2 : Int32)), .val (.double x1), .second] [(.int (4 : Int32)), (.int (2 : Int32))])
  have hc8 : (2 : Int32) < (4 : Int32) := by decide
  refine Go.on (fun _ k => XS.icmpNo X0.here hx rfl (hb hby d1_30) rfl (tlt hc8).2.1 k) ?_
  show Go _ _ _ _ _ _ _ _ (mkF m 33 #[.val (.ref a0), .val (.double (FP.dadd (FP.dadd (0 : UInt64) x0) x1)), .second, .val (.ref a0), .val (.int (4 : Int32)), .val (.int (2 : Int32)), .val (.double x1), .second] [])
  refine Go.on (fun _ k => XS.aloadN X0.here hx rfl (hb hby d1_33) rfl rfl k) ?_
  show Go _ _ _ _ _ _ _ _ (mkF m 34 #[.val (.ref a0), .val (.double (FP.dadd (FP.dadd (0 : UInt64) x0) x1)), .second, .val (.ref a0), .val (.int (4 : Int32)), .val (.int (2 : Int32)), .val (.double x1), .second] [(.ref a0)])
  refine Go.on (fun _ k => XS.iload X0.here hx rfl (hb hby d1_34) rfl k) ?_
  show Go _ _ _ _ _ _ _ _ (mkF m 36 #[.val (.ref a0), .val (.double (FP.dadd (FP.dadd (0 : UInt64) x0) x1)), .second, .val (.ref a0), .val (.int (4 : Int32)), .val (.int (2 : Int32)), .val (.double x1), .second] [(.int (2 : Int32)), (.ref a0)])
  obtain ⟨cl9, Ar9, -, S9, -, H9, -⟩ := id V_a0
  have hin9 : ¬ ((2 : Int32) < 0 ∨ cl9.slots.size ≤ ((2 : Int32)).toNatClampNeg) := inb_of S9 ⟨by decide, by decide⟩
  refine Go.on (X0.daload hx (j := (2 : Int32)) (v := (.double x2)) (by rw [e0]; exact Ar9.1) (State.isArrayOf_alike hZ.alike Ar9.2.1) Ar9.2.2 hin9 (H9.at hin9 (rfl)) (g := (mkF m 36 #[.val (.ref a0), .val (.double (FP.dadd (FP.dadd (0 : UInt64) x0) x1)), .second, .val (.ref a0), .val (.int (4 : Int32)), .val (.int (2 : Int32)), .val (.double x1), .second] [(.int (2 : Int32)), (.ref a0)])) rfl rfl (hb hby d1_36)) ?_
  show Go _ _ _ _ _ _ _ _ (mkF m 37 #[.val (.ref a0), .val (.double (FP.dadd (FP.dadd (0 : UInt64) x0) x1)), .second, .val (.ref a0), .val (.int (4 : Int32)), .val (.int (2 : Int32)), .val (.double x1), .second] [(.double x2)])
  refine Go.on (fun _ k => XS.dstore X0.here hx rfl (hb hby d1_37) rfl (l' := #[.val (.ref a0), .val (.double (FP.dadd (FP.dadd (0 : UInt64) x0) x1)), .second, .val (.ref a0), .val (.int (4 : Int32)), .val (.int (2 : Int32)), .val (.double x2), .second]) rfl k) ?_
  show Go _ _ _ _ _ _ _ _ (mkF m 39 #[.val (.ref a0), .val (.double (FP.dadd (FP.dadd (0 : UInt64) x0) x1)), .second, .val (.ref a0), .val (.int (4 : Int32)), .val (.int (2 : Int32)), .val (.double x2), .second] [])
  refine Go.on (fun _ k => XS.dloadN X0.here hx rfl (hb hby d1_39) rfl k) ?_
  show Go _ _ _ _ _ _ _ _ (mkF m 40 #[.val (.ref a0), .val (.double (FP.dadd (FP.dadd (0 : UInt64) x0) x1)), .second, .val (.ref a0), .val (.int (4 : Int32)), .val (.int (2 : Int32)), .val (.double x2), .second] [(.double (FP.dadd (FP.dadd (0 : UInt64) x0) x1))])
  refine Go.on (fun _ k => XS.dload X0.here hx rfl (hb hby d1_40) rfl k) ?_
  show Go _ _ _ _ _ _ _ _ (mkF m 42 #[.val (.ref a0), .val (.double (FP.dadd (FP.dadd (0 : UInt64) x0) x1)), .second, .val (.ref a0), .val (.int (4 : Int32)), .val (.int (2 : Int32)), .val (.double x2), .second] [(.double x2), (.double (FP.dadd (FP.dadd (0 : UInt64) x0) x1))])
  refine Go.on (fun _ k => XS.daddS X0.here hx rfl (hb hby d1_42) rfl (hs2) rfl k) ?_
  show Go _ _ _ _ _ _ _ _ (mkF m 43 #[.val (.ref a0), .val (.double (FP.dadd (FP.dadd (0 : UInt64) x0) x1)), .second, .val (.ref a0), .val (.int (4 : Int32)), .val (.int (2 : Int32)), .val (.double x2), .second] [(.double (FP.dadd (FP.dadd (FP.dadd (0 : UInt64) x0) x1) x2))])
  refine Go.on (fun _ k => XS.dstoreN X0.here hx rfl (hb hby d1_43) rfl (l' := #[.val (.ref a0), .val (.double (FP.dadd (FP.dadd (FP.dadd (0 : UInt64) x0) x1) x2)), .second, .val (.ref a0), .val (.int (4 : Int32)), .val (.int (2 : Int32)), .val (.double x2), .second]) rfl k) ?_
  show Go _ _ _ _ _ _ _ _ (mkF m 44 #[.val (.ref a0), .val (.double (FP.dadd (FP.dadd (FP.dadd (0 : UInt64) x0) x1) x2)), .second, .val (.ref a0), .val (.int (4 : Int32)), .val (.int (2 : Int32)), .val (.double x2), .second] [])
  refine Go.on (fun _ k => XS.iinc X0.here hx rfl (hb hby d1_44) rfl (l' := #[.val (.ref a0), .val (.double (FP.dadd (FP.dadd (FP.dadd (0 : UInt64) x0) x1) x2)), .second, .val (.ref a0), .val (.int (4 : Int32)), .val (.int (3 : Int32)), .val (.double x2), .second]) rfl k) ?_
  show Go _ _ _ _ _ _ _ _ (mkF m 47 #[.val (.ref a0), .val (.double (FP.dadd (FP.dadd (FP.dadd (0 : UInt64) x0) x1) x2)), .second, .val (.ref a0), .val (.int (4 : Int32)), .val (.int (3 : Int32)), .val (.double x2), .second] [])
  refine Go.on (fun _ k => XS.goto X0.here hx rfl (pc0 := 47) (pc' := 26) rfl (hb hby d1_47) (by decide) (by decide) k) ?_
  show Go _ _ _ _ _ _ _ _ (mkF m 26 #[.val (.ref a0), .val (.double (FP.dadd (FP.dadd (FP.dadd (0 : UInt64) x0) x1) x2)), .second, .val (.ref a0), .val (.int (4 : Int32)), .val (.int (3 : Int32)), .val (.double x2), .second] [])
  refine Go.on (fun _ k => XS.iload X0.here hx rfl (hb hby d1_26) rfl k) ?_
  show Go _ _ _ _ _ _ _ _ (mkF m 28 #[.val (.ref a0), .val (.double (FP.dadd (FP.dadd (FP.dadd (0 : UInt64) x0) x1) x2)), .second, .val (.ref a0), .val (.int (4 : Int32)), .val (.int (3 : Int32)), .val (.double x2), .second] [(.int (3 : Int32))])
  refine Go.on (fun _ k => XS.iload X0.here hx rfl (hb hby d1_28) rfl k) ?_
  show Go _ _ _ _ _ _ _ _ (mkF m 30 #[.val (.ref a0), .val (.double (FP.dadd (FP.dadd (FP.dadd (0 : UInt64) x0) x1) x2)), .second, .val (.ref a0), .val (.int (4 : Int32)), .val (.int (3 : Int32)), .val (.double x2), .second] [(.int (4 : Int32)), (.int (3 : Int32))])
  have hc10 : (3 : Int32) < (4 : Int32) := by decide
  refine Go.on (fun _ k => XS.icmpNo X0.here hx rfl (hb hby d1_30) rfl (tlt hc10).2.1 k) ?_
  show Go _ _ _ _ _ _ _ _ (mkF m 33 #[.val (.ref a0), .val (.double (FP.dadd (FP.dadd (FP.dadd (0 : UInt64) x0) x1) x2)), .second, .val (.ref a0), .val (.int (4 : Int32)), .val (.int (3 : Int32)), .val (.double x2), .second] [])
  refine Go.on (fun _ k => XS.aloadN X0.here hx rfl (hb hby d1_33) rfl rfl k) ?_
  show Go _ _ _ _ _ _ _ _ (mkF m 34 #[.val (.ref a0), .val (.double (FP.dadd (FP.dadd (FP.dadd (0 : UInt64) x0) x1) x2)), .second, .val (.ref a0), .val (.int (4 : Int32)), .val (.int (3 : Int32)), .val (.double x2), .second] [(.ref a0)])
  refine Go.on (fun _ k => XS.iload X0.here hx rfl (hb hby d1_34) rfl k) ?_
  show Go _ _ _ _ _ _ _ _ (mkF m 36 #[.val (.ref a0), .val (.double (FP.dadd (FP.dadd (FP.dadd (0 : UInt64) x0) x1) x2)), .second, .val (.ref a0), .val (.int (4 : Int32)), .val (.int (3 : Int32)), .val (.double x2), .second] [(.int (3 : Int32)), (.ref a0)])
  obtain ⟨cl11, Ar11, -, S11, -, H11, -⟩ := id V_a0
  have hin11 : ¬ ((3 : Int32) < 0 ∨ cl11.slots.size ≤ ((3 : Int32)).toNatClampNeg) := inb_of S11 ⟨by decide, by decide⟩
  refine Go.on (X0.daload hx (j := (3 : Int32)) (v := (.double x3)) (by rw [e0]; exact Ar11.1) (State.isArrayOf_alike hZ.alike Ar11.2.1) Ar11.2.2 hin11 (H11.at hin11 (rfl)) (g := (mkF m 36 #[.val (.ref a0), .val (.double (FP.dadd (FP.dadd (FP.dadd (0 : UInt64) x0) x1) x2)), .second, .val (.ref a0), .val (.int (4 : Int32)), .val (.int (3 : Int32)), .val (.double x2), .second] [(.int (3 : Int32)), (.ref a0)])) rfl rfl (hb hby d1_36)) ?_
  show Go _ _ _ _ _ _ _ _ (mkF m 37 #[.val (.ref a0), .val (.double (FP.dadd (FP.dadd (FP.dadd (0 : UInt64) x0) x1) x2)), .second, .val (.ref a0), .val (.int (4 : Int32)), .val (.int (3 : Int32)), .val (.double x2), .second] [(.double x3)])
  refine Go.on (fun _ k => XS.dstore X0.here hx rfl (hb hby d1_37) rfl (l' := #[.val (.ref a0), .val (.double (FP.dadd (FP.dadd (FP.dadd (0 : UInt64) x0) x1) x2)), .second, .val (.ref a0), .val (.int (4 : Int32)), .val (.int (3 : Int32)), .val (.double x3), .second]) rfl k) ?_
  show Go _ _ _ _ _ _ _ _ (mkF m 39 #[.val (.ref a0), .val (.double (FP.dadd (FP.dadd (FP.dadd (0 : UInt64) x0) x1) x2)), .second, .val (.ref a0), .val (.int (4 : Int32)), .val (.int (3 : Int32)), .val (.double x3), .second] [])
  refine Go.on (fun _ k => XS.dloadN X0.here hx rfl (hb hby d1_39) rfl k) ?_
  show Go _ _ _ _ _ _ _ _ (mkF m 40 #[.val (.ref a0), .val (.double (FP.dadd (FP.dadd (FP.dadd (0 : UInt64) x0) x1) x2)), .second, .val (.ref a0), .val (.int (4 : Int32)), .val (.int (3 : Int32)), .val (.double x3), .second] [(.double (FP.dadd (FP.dadd (FP.dadd (0 : UInt64) x0) x1) x2))])
  refine Go.on (fun _ k => XS.dload X0.here hx rfl (hb hby d1_40) rfl k) ?_
  show Go _ _ _ _ _ _ _ _ (mkF m 42 #[.val (.ref a0), .val (.double (FP.dadd (FP.dadd (FP.dadd (0 : UInt64) x0) x1) x2)), .second, .val (.ref a0), .val (.int (4 : Int32)), .val (.int (3 : Int32)), .val (.double x3), .second] [(.double x3), (.double (FP.dadd (FP.dadd (FP.dadd (0 : UInt64) x0) x1) x2))])
  refine Go.on (fun _ k => XS.daddS X0.here hx rfl (hb hby d1_42) rfl (hs3) rfl k) ?_
  show Go _ _ _ _ _ _ _ _ (mkF m 43 #[.val (.ref a0), .val (.double (FP.dadd (FP.dadd (FP.dadd (0 : UInt64) x0) x1) x2)), .second, .val (.ref a0), .val (.int (4 : Int32)), .val (.int (3 : Int32)), .val (.double x3), .second] [(.double (FP.dadd (FP.dadd (FP.dadd (FP.dadd (0 : UInt64) x0) x1) x2) x3))])
  refine Go.on (fun _ k => XS.dstoreN X0.here hx rfl (hb hby d1_43) rfl (l' := #[.val (.ref a0), .val (.double (FP.dadd (FP.dadd (FP.dadd (FP.dadd (0 : UInt64) x0) x1) x2) x3)), .second, .val (.ref a0), .val (.int (4 : Int32)), .val (.int (3 : Int32)), .val (.double x3), .second]) rfl k) ?_
  show Go _ _ _ _ _ _ _ _ (mkF m 44 #[.val (.ref a0), .val (.double (FP.dadd (FP.dadd (FP.dadd (FP.dadd (0 : UInt64) x0) x1) x2) x3)), .second, .val (.ref a0), .val (.int (4 : Int32)), .val (.int (3 : Int32)), .val (.double x3), .second] [])
  refine Go.on (fun _ k => XS.iinc X0.here hx rfl (hb hby d1_44) rfl (l' := #[.val (.ref a0), .val (.double (FP.dadd (FP.dadd (FP.dadd (FP.dadd (0 : UInt64) x0) x1) x2) x3)), .second, .val (.ref a0), .val (.int (4 : Int32)), .val (.int (4 : Int32)), .val (.double x3), .second]) rfl k) ?_
  show Go _ _ _ _ _ _ _ _ (mkF m 47 #[.val (.ref a0), .val (.double (FP.dadd (FP.dadd (FP.dadd (FP.dadd (0 : UInt64) x0) x1) x2) x3)), .second, .val (.ref a0), .val (.int (4 : Int32)), .val (.int (4 : Int32)), .val (.double x3), .second] [])
  refine Go.on (fun _ k => XS.goto X0.here hx rfl (pc0 := 47) (pc' := 26) rfl (hb hby d1_47) (by decide) (by decide) k) ?_
  show Go _ _ _ _ _ _ _ _ (mkF m 26 #[.val (.ref a0), .val (.double (FP.dadd (FP.dadd (FP.dadd (FP.dadd (0 : UInt64) x0) x1) x2) x3)), .second, .val (.ref a0), .val (.int (4 : Int32)), .val (.int (4 : Int32)), .val (.double x3), .second] [])
  refine Go.on (fun _ k => XS.iload X0.here hx rfl (hb hby d1_26) rfl k) ?_
  show Go _ _ _ _ _ _ _ _ (mkF m 28 #[.val (.ref a0), .val (.double (FP.dadd (FP.dadd (FP.dadd (FP.dadd (0 : UInt64) x0) x1) x2) x3)), .second, .val (.ref a0), .val (.int (4 : Int32)), .val (.int (4 : Int32)), .val (.double x3), .second] [(.int (4 : Int32))])
  refine Go.on (fun _ k => XS.iload X0.here hx rfl (hb hby d1_28) rfl k) ?_
  show Go _ _ _ _ _ _ _ _ (mkF m 30 #[.val (.ref a0), .val (.double (FP.dadd (FP.dadd (FP.dadd (FP.dadd (0 : UInt64) x0) x1) x2) x3)), .second, .val (.ref a0), .val (.int (4 : Int32)), .val (.int (4 : Int32)), .val (.double x3), .second] [(.int (4 : Int32)), (.int (4 : Int32))])
  have hc12 : ¬ ((4 : Int32) < (4 : Int32)) := by decide
  refine Go.on (fun _ k => XS.icmpYes X0.here hx rfl (pc0 := 30) (pc' := 50) rfl (hb hby d1_30) rfl (flt hc12).2.1 (by decide) (by decide) k) ?_
  show Go _ _ _ _ _ _ _ _ (mkF m 50 #[.val (.ref a0), .val (.double (FP.dadd (FP.dadd (FP.dadd (FP.dadd (0 : UInt64) x0) x1) x2) x3)), .second, .val (.ref a0), .val (.int (4 : Int32)), .val (.int (4 : Int32)), .val (.double x3), .second] [])
  refine Go.on (fun _ k => XS.dloadN X0.here hx rfl (hb hby d1_50) rfl k) ?_
  show Go _ _ _ _ _ _ _ _ (mkF m 51 #[.val (.ref a0), .val (.double (FP.dadd (FP.dadd (FP.dadd (FP.dadd (0 : UInt64) x0) x1) x2) x3)), .second, .val (.ref a0), .val (.int (4 : Int32)), .val (.int (4 : Int32)), .val (.double x3), .second] [(.double (FP.dadd (FP.dadd (FP.dadd (FP.dadd (0 : UInt64) x0) x1) x2) x3))])
  refine Go.on (fun _ k => XS.aloadN X0.here hx rfl (hb hby d1_51) rfl rfl k) ?_
  show Go _ _ _ _ _ _ _ _ (mkF m 52 #[.val (.ref a0), .val (.double (FP.dadd (FP.dadd (FP.dadd (FP.dadd (0 : UInt64) x0) x1) x2) x3)), .second, .val (.ref a0), .val (.int (4 : Int32)), .val (.int (4 : Int32)), .val (.double x3), .second] [(.ref a0), (.double (FP.dadd (FP.dadd (FP.dadd (FP.dadd (0 : UInt64) x0) x1) x2) x3))])
  obtain ⟨cl13, Ar13, -, S13, N13n, -, -⟩ := id V_a0
  refine Go.on (X0.arraylength hx (by rw [e0]; exact Ar13.1) (State.isArrayOf_alike hZ.alike Ar13.2.1) (g := (mkF m 52 #[.val (.ref a0), .val (.double (FP.dadd (FP.dadd (FP.dadd (FP.dadd (0 : UInt64) x0) x1) x2) x3)), .second, .val (.ref a0), .val (.int (4 : Int32)), .val (.int (4 : Int32)), .val (.double x3), .second] [(.ref a0), (.double (FP.dadd (FP.dadd (FP.dadd (FP.dadd (0 : UInt64) x0) x1) x2) x3))])) rfl rfl (hb hby d1_52)) ?_
  rw [len_of S13 N13n]
  show Go _ _ _ _ _ _ _ _ (mkF m 53 #[.val (.ref a0), .val (.double (FP.dadd (FP.dadd (FP.dadd (FP.dadd (0 : UInt64) x0) x1) x2) x3)), .second, .val (.ref a0), .val (.int (4 : Int32)), .val (.int (4 : Int32)), .val (.double x3), .second] [(.int (4 : Int32)), (.double (FP.dadd (FP.dadd (FP.dadd (FP.dadd (0 : UInt64) x0) x1) x2) x3))])
  refine Go.on (fun _ k => XS.i2dS X0.here hx rfl (hb hby d1_53) rfl rfl k) ?_
  show Go _ _ _ _ _ _ _ _ (mkF m 54 #[.val (.ref a0), .val (.double (FP.dadd (FP.dadd (FP.dadd (FP.dadd (0 : UInt64) x0) x1) x2) x3)), .second, .val (.ref a0), .val (.int (4 : Int32)), .val (.int (4 : Int32)), .val (.double x3), .second] [(.double (FP.i2d (4 : Int32))), (.double (FP.dadd (FP.dadd (FP.dadd (FP.dadd (0 : UInt64) x0) x1) x2) x3))])
  refine Go.on (fun _ k => XS.ddivS X0.here hx rfl (hb hby d1_54) rfl (hq) rfl k) ?_
  show Go _ _ _ _ _ _ _ _ (mkF m 55 #[.val (.ref a0), .val (.double (FP.dadd (FP.dadd (FP.dadd (FP.dadd (0 : UInt64) x0) x1) x2) x3)), .second, .val (.ref a0), .val (.int (4 : Int32)), .val (.int (4 : Int32)), .val (.double x3), .second] [(.double (FP.ddiv (FP.dadd (FP.dadd (FP.dadd (FP.dadd (0 : UInt64) x0) x1) x2) x3) (FP.i2d (4 : Int32))))])
  refine Go.retV X0 hx Bd.returns rfl (Or.inr (Or.inr (Or.inl ⟨rfl, rfl, _, rfl⟩))) (hb hby d1_55) ?_ (by rw [hK1]; decide) (by rw [hK2]; decide)
  rw [e0, ← hQQ]
  exact ⟨rfl, N0, rfl⟩
section PureLaw
open Jvm.FP.Core
theorem own_len {i len : Int32} (h : ((i &&& (3 : Int32)) + (1 : Int32)) = len) : len = 1 ∨ len = 2 ∨ len = 3 ∨ len = 4 := by
  have e1 : (i &&& 3).toInt = i.toInt % 2 ^ 2 := Jvm.Kit.i32_mask i 3 (k := 2) (by decide) (by decide)
  have l1 : (1 : Int32).toInt = 1 := by decide
  have e2 : len.toInt = i.toInt % 2 ^ 2 + 1 := by rw [← h, Jvm.Kit.i32_add (by rw [e1, l1]; omega) (by rw [e1, l1]; omega), e1, l1]
  have k1 : (1 : Int32).toInt = 1 := by decide
  have k2 : (2 : Int32).toInt = 2 := by decide
  have k3 : (3 : Int32).toInt = 3 := by decide
  have k4 : (4 : Int32).toInt = 4 := by decide
  simp only [← Int32.toInt_inj, k1, k2, k3, k4]; omega
theorem own_m1 (i1 : Int32) : Jvm.Free.Fl.NoNaN64 (FP.dadd (0 : UInt64) (FP.i2d i1)) ∧ Jvm.Free.Fl.NoNaN64 (FP.ddiv (FP.dadd (0 : UInt64) (FP.i2d i1)) (FP.i2d (1 : Int32))) ∧ DInt (0 + i1.toInt) (FP.dadd (0 : UInt64) (FP.i2d i1)) := by
  have b1 := own_ib i1
  have s0 := own_dz
  have s1 := dadd_int s0 (i2d_int i1) (by omega)
  exact ⟨own_dnn s1, own_nnd' (ZV.of_int s1).1 _ (by decide), s1⟩
theorem own_pure1 {i1 v : Int32} {s1 : Int64} {ex got : UInt64} (hs1 : (i1.toInt64) = s1) (hex : (FP.ddiv (FP.l2d s1) (FP.i2d (1 : Int32))) = ex) (hg : (FP.ddiv (FP.dadd (0 : UInt64) (FP.i2d i1)) (FP.i2d (1 : Int32))) = got)
    (hv : v = (if (cmpValue (FP.dcmp got ex) .l) = (0 : Int32) then (1 : Int32) else (0 : Int32))) : v = 1 := by
  have b1 := own_ib i1
  have c1 : i1.toInt64.toInt = i1.toInt := Int32.toInt_toInt64 i1
  have e1 : s1.toInt = i1.toInt := by rw [← hs1]; exact c1
  have A := (own_m1 i1).2.2
  have E : s1.toInt = 0 + i1.toInt := by omega
  rw [← E] at A
  have B : DInt s1.toInt (FP.l2d s1) := l2d_int (by omega)
  rw [hv, ← hg, ← hex, own_div_eq A B (1 : Int32) (by decide)]; decide
theorem own_m2 (i1 i2 : Int32) : Jvm.Free.Fl.NoNaN64 (FP.dadd (0 : UInt64) (FP.i2d i1)) ∧ Jvm.Free.Fl.NoNaN64 (FP.dadd (FP.dadd (0 : UInt64) (FP.i2d i1)) (FP.i2d i2)) ∧ Jvm.Free.Fl.NoNaN64 (FP.ddiv (FP.dadd (FP.dadd (0 : UInt64) (FP.i2d i1)) (FP.i2d i2)) (FP.i2d (2 : Int32))) ∧ DInt (0 + i1.toInt + i2.toInt) (FP.dadd (FP.dadd (0 : UInt64) (FP.i2d i1)) (FP.i2d i2)) := by
  have b1 := own_ib i1
  have b2 := own_ib i2
  have s0 := own_dz
  have s1 := dadd_int s0 (i2d_int i1) (by omega)
  have s2 := dadd_int s1 (i2d_int i2) (by omega)
  exact ⟨own_dnn s1, own_dnn s2, own_nnd' (ZV.of_int s2).1 _ (by decide), s2⟩
theorem own_pure2 {i1 i2 v : Int32} {s1 s2 : Int64} {ex got : UInt64} (hs1 : (i1.toInt64) = s1) (hs2 : (s1 + (i2.toInt64)) = s2) (hex : (FP.ddiv (FP.l2d s2) (FP.i2d (2 : Int32))) = ex) (hg : (FP.ddiv (FP.dadd (FP.dadd (0 : UInt64) (FP.i2d i1)) (FP.i2d i2)) (FP.i2d (2 : Int32))) = got)
    (hv : v = (if (cmpValue (FP.dcmp got ex) .l) = (0 : Int32) then (1 : Int32) else (0 : Int32))) : v = 1 := by
  have b1 := own_ib i1
  have c1 : i1.toInt64.toInt = i1.toInt := Int32.toInt_toInt64 i1
  have b2 := own_ib i2
  have c2 : i2.toInt64.toInt = i2.toInt := Int32.toInt_toInt64 i2
  have e1 : s1.toInt = i1.toInt := by rw [← hs1]; exact c1
  have e2 : s2.toInt = s1.toInt + i2.toInt := by rw [← hs2, Jvm.Kit.i64_add (by rw [c2]; omega) (by rw [c2]; omega), c2]
  have A := (own_m2 i1 i2).2.2.2
  have E : s2.toInt = 0 + i1.toInt + i2.toInt := by omega
  rw [← E] at A
  have B : DInt s2.toInt (FP.l2d s2) := l2d_int (by omega)
  rw [hv, ← hg, ← hex, own_div_eq A B (2 : Int32) (by decide)]; decide
theorem own_m3 (i1 i2 i3 : Int32) : Jvm.Free.Fl.NoNaN64 (FP.dadd (0 : UInt64) (FP.i2d i1)) ∧ Jvm.Free.Fl.NoNaN64 (FP.dadd (FP.dadd (0 : UInt64) (FP.i2d i1)) (FP.i2d i2)) ∧ Jvm.Free.Fl.NoNaN64 (FP.dadd (FP.dadd (FP.dadd (0 : UInt64) (FP.i2d i1)) (FP.i2d i2)) (FP.i2d i3)) ∧ Jvm.Free.Fl.NoNaN64 (FP.ddiv (FP.dadd (FP.dadd (FP.dadd (0 : UInt64) (FP.i2d i1)) (FP.i2d i2)) (FP.i2d i3)) (FP.i2d (3 : Int32))) ∧ DInt (0 + i1.toInt + i2.toInt + i3.toInt) (FP.dadd (FP.dadd (FP.dadd (0 : UInt64) (FP.i2d i1)) (FP.i2d i2)) (FP.i2d i3)) := by
  have b1 := own_ib i1
  have b2 := own_ib i2
  have b3 := own_ib i3
  have s0 := own_dz
  have s1 := dadd_int s0 (i2d_int i1) (by omega)
  have s2 := dadd_int s1 (i2d_int i2) (by omega)
  have s3 := dadd_int s2 (i2d_int i3) (by omega)
  exact ⟨own_dnn s1, own_dnn s2, own_dnn s3, own_nnd' (ZV.of_int s3).1 _ (by decide), s3⟩
theorem own_pure3 {i1 i2 i3 v : Int32} {s1 s2 s3 : Int64} {ex got : UInt64} (hs1 : (i1.toInt64) = s1) (hs2 : (s1 + (i2.toInt64)) = s2) (hs3 : (s2 + (i3.toInt64)) = s3) (hex : (FP.ddiv (FP.l2d s3) (FP.i2d (3 : Int32))) = ex) (hg : (FP.ddiv (FP.dadd (FP.dadd (FP.dadd (0 : UInt64) (FP.i2d i1)) (FP.i2d i2)) (FP.i2d i3)) (FP.i2d (3 : Int32))) = got)
    (hv : v = (if (cmpValue (FP.dcmp got ex) .l) = (0 : Int32) then (1 : Int32) else (0 : Int32))) : v = 1 := by
  have b1 := own_ib i1
  have c1 : i1.toInt64.toInt = i1.toInt := Int32.toInt_toInt64 i1
  have b2 := own_ib i2
  have c2 : i2.toInt64.toInt = i2.toInt := Int32.toInt_toInt64 i2
  have b3 := own_ib i3
  have c3 : i3.toInt64.toInt = i3.toInt := Int32.toInt_toInt64 i3
  have e1 : s1.toInt = i1.toInt := by rw [← hs1]; exact c1
  have e2 : s2.toInt = s1.toInt + i2.toInt := by rw [← hs2, Jvm.Kit.i64_add (by rw [c2]; omega) (by rw [c2]; omega), c2]
  have e3 : s3.toInt = s2.toInt + i3.toInt := by rw [← hs3, Jvm.Kit.i64_add (by rw [c3]; omega) (by rw [c3]; omega), c3]
  have A := (own_m3 i1 i2 i3).2.2.2.2
  have E : s3.toInt = 0 + i1.toInt + i2.toInt + i3.toInt := by omega
  rw [← E] at A
  have B : DInt s3.toInt (FP.l2d s3) := l2d_int (by omega)
  rw [hv, ← hg, ← hex, own_div_eq A B (3 : Int32) (by decide)]; decide
theorem own_m4 (i1 i2 i3 i4 : Int32) : Jvm.Free.Fl.NoNaN64 (FP.dadd (0 : UInt64) (FP.i2d i1)) ∧ Jvm.Free.Fl.NoNaN64 (FP.dadd (FP.dadd (0 : UInt64) (FP.i2d i1)) (FP.i2d i2)) ∧ Jvm.Free.Fl.NoNaN64 (FP.dadd (FP.dadd (FP.dadd (0 : UInt64) (FP.i2d i1)) (FP.i2d i2)) (FP.i2d i3)) ∧ Jvm.Free.Fl.NoNaN64 (FP.dadd (FP.dadd (FP.dadd (FP.dadd (0 : UInt64) (FP.i2d i1)) (FP.i2d i2)) (FP.i2d i3)) (FP.i2d i4)) ∧ Jvm.Free.Fl.NoNaN64 (FP.ddiv (FP.dadd (FP.dadd (FP.dadd (FP.dadd (0 : UInt64) (FP.i2d i1)) (FP.i2d i2)) (FP.i2d i3)) (FP.i2d i4)) (FP.i2d (4 : Int32))) ∧ DInt (0 + i1.toInt + i2.toInt + i3.toInt + i4.toInt) (FP.dadd (FP.dadd (FP.dadd (FP.dadd (0 : UInt64) (FP.i2d i1)) (FP.i2d i2)) (FP.i2d i3)) (FP.i2d i4)) := by
  have b1 := own_ib i1
  have b2 := own_ib i2
  have b3 := own_ib i3
  have b4 := own_ib i4
  have s0 := own_dz
  have s1 := dadd_int s0 (i2d_int i1) (by omega)
  have s2 := dadd_int s1 (i2d_int i2) (by omega)
  have s3 := dadd_int s2 (i2d_int i3) (by omega)
  have s4 := dadd_int s3 (i2d_int i4) (by omega)
  exact ⟨own_dnn s1, own_dnn s2, own_dnn s3, own_dnn s4, own_nnd' (ZV.of_int s4).1 _ (by decide), s4⟩
theorem own_pure4 {i1 i2 i3 i4 v : Int32} {s1 s2 s3 s4 : Int64} {ex got : UInt64} (hs1 : (i1.toInt64) = s1) (hs2 : (s1 + (i2.toInt64)) = s2) (hs3 : (s2 + (i3.toInt64)) = s3) (hs4 : (s3 + (i4.toInt64)) = s4) (hex : (FP.ddiv (FP.l2d s4) (FP.i2d (4 : Int32))) = ex) (hg : (FP.ddiv (FP.dadd (FP.dadd (FP.dadd (FP.dadd (0 : UInt64) (FP.i2d i1)) (FP.i2d i2)) (FP.i2d i3)) (FP.i2d i4)) (FP.i2d (4 : Int32))) = got)
    (hv : v = (if (cmpValue (FP.dcmp got ex) .l) = (0 : Int32) then (1 : Int32) else (0 : Int32))) : v = 1 := by
  have b1 := own_ib i1
  have c1 : i1.toInt64.toInt = i1.toInt := Int32.toInt_toInt64 i1
  have b2 := own_ib i2
  have c2 : i2.toInt64.toInt = i2.toInt := Int32.toInt_toInt64 i2
  have b3 := own_ib i3
  have c3 : i3.toInt64.toInt = i3.toInt := Int32.toInt_toInt64 i3
  have b4 := own_ib i4
  have c4 : i4.toInt64.toInt = i4.toInt := Int32.toInt_toInt64 i4
  have e1 : s1.toInt = i1.toInt := by rw [← hs1]; exact c1
  have e2 : s2.toInt = s1.toInt + i2.toInt := by rw [← hs2, Jvm.Kit.i64_add (by rw [c2]; omega) (by rw [c2]; omega), c2]
  have e3 : s3.toInt = s2.toInt + i3.toInt := by rw [← hs3, Jvm.Kit.i64_add (by rw [c3]; omega) (by rw [c3]; omega), c3]
  have e4 : s4.toInt = s3.toInt + i4.toInt := by rw [← hs4, Jvm.Kit.i64_add (by rw [c4]; omega) (by rw [c4]; omega), c4]
  have A := (own_m4 i1 i2 i3 i4).2.2.2.2.2
  have E : s4.toInt = 0 + i1.toInt + i2.toInt + i3.toInt + i4.toInt := by omega
  rw [← E] at A
  have B : DInt s4.toInt (FP.l2d s4) := l2d_int (by omega)
  rw [hv, ← hg, ← hex, own_div_eq A B (4 : Int32) (by decide)]; decide
end PureLaw

theorem pd_0 : parseMethodDescriptor "([D)D" = some ⟨[(.array .double)], some .double⟩ := by decide +kernel
theorem pn_1 : plainName "com/example/driftswarm/driftswarm/analysis/StatisticsMeanPinLaw" = true := by first | (simp [plainName, overriddenIn]; done) | decide +kernel
theorem ef_rm0 (m : MethodId) (i0 : Int32) (i1 : Int32) (i2 : Int32) (i3 : Int32) (i4 : Int32) : entryFrame m #[(.int i0), (.int i1), (.int i2), (.int i3), (.int i4)] maxLocals = mkF m 0 #[.val (.int i0), .val (.int i1), .val (.int i2), .val (.int i3), .val (.int i4), .unset, .unset, .unset, .unset, .unset, .unset, .unset, .unset] [] := by first | (simp [entryFrame, mkF, argsToLocals, Value.category, maxLocals]; done) | rfl
def Q_rm0 (Z : State) (i0 : Int32) (i1 : Int32) (i2 : Int32) (i3 : Int32) (i4 : Int32) (h0 : Heap) (n0 : Nat) (v : Option Value) (h : Heap) (L : List Loc) : Prop := v = some (.int 1) ∧ Fr n0 L
set_option maxRecDepth 65536 in
set_option maxHeartbeats 40000000 in
theorem rm0 (l : Launch) (Z : State) (aw : Array Value) (hw : ∀ d ∈ tables_1, d.before aw Z = true) (ws : List Jvm.Cond) (i0 : Int32) (i1 : Int32) (i2 : Int32) (i3 : Int32) (i4 : Int32) (h0 : Heap) (n0 : Nat) (Z0 : n0 ≤ h0.size) :
    MetFree l x (head1 (Jvm.Cond.code x code maxLocals ret :: ws) room_1) (fun a U => a = #[(.int i0), (.int i1), (.int i2), (.int i3), (.int i4)] ∧ Z.Warmed39 U.vm ∧ U.heap = h0) (fun _ _ _ _ _ => True) (fun _ U o U' => ∃ v L, o = .returned v ∧ Q_rm0 Z i0 i1 i2 i3 i4 h0 n0 v U'.heap L ∧ FrameEnd U o U' L 1 4) := by
  refine MetFree.of_bodySF (plainFor_of_name pn_1) hisR ?_
  intro p e s m args below meth c s₁ Bd hml0 hP hK
  obtain ⟨rfl, hZ, hh⟩ := hP
  have hx := Bd.exec
  have hby := Bd.bytes
  have hml : c.maxLocals = 13 := hml0
  have hown : s.vm.findClass "com/example/driftswarm/driftswarm/analysis/StatisticsMeanPinLaw" = some m.cls := findClass_of_methodNamed Bd.named
  have hnm := (name_of_methodNamed Bd.named Bd.method).1
  have hlk : meth.locks = false := BodyLoose.notSynchronized Bd
  have X0 : Stand p l e room_1 s m #[(.int i0), (.int i1), (.int i2), (.int i3), (.int i4)] below meth c s₁ [] 0 0 := Stand.of_body Bd
  have e0 : s₁.heap = h0 := by rw [← hh, Bd.state]; rfl
  have N0 := Fr.nil n0
  have ZZ := Z0
  show Go p e below s 1 4 (fun v h L => Q_rm0 Z i0 i1 i2 i3 i4 h0 n0 v h L) s₁ (entryFrame m #[(.int i0), (.int i1), (.int i2), (.int i3), (.int i4)] maxLocals)
  refine Go.cast (ef_rm0 m i0 i1 i2 i3 i4) ?_
  refine Go.gen ?_
  intro K1 K2 QQ hK1 hK2 hQQ
  refine Go.on (fun _ k => XS.iloadN X0.here hx rfl (hb hby at_0) rfl k) ?_
  show Go _ _ _ _ _ _ _ _ (mkF m 1 #[.val (.int i0), .val (.int i1), .val (.int i2), .val (.int i3), .val (.int i4), .unset, .unset, .unset, .unset, .unset, .unset, .unset, .unset] [(.int i0)])
  refine Go.on (fun _ k => XS.iconst X0.here hx rfl (hb hby at_1) k) ?_
  show Go _ _ _ _ _ _ _ _ (mkF m 2 #[.val (.int i0), .val (.int i1), .val (.int i2), .val (.int i3), .val (.int i4), .unset, .unset, .unset, .unset, .unset, .unset, .unset, .unset] [(.int (3 : Int32)), (.int i0)])
  refine Go.on (fun _ k => XS.iand X0.here hx rfl (hb hby at_2) rfl k) ?_
  show Go _ _ _ _ _ _ _ _ (mkF m 3 #[.val (.int i0), .val (.int i1), .val (.int i2), .val (.int i3), .val (.int i4), .unset, .unset, .unset, .unset, .unset, .unset, .unset, .unset] [(.int (i0 &&& (3 : Int32)))])
  refine Go.on (fun _ k => XS.iconst X0.here hx rfl (hb hby at_3) k) ?_
  show Go _ _ _ _ _ _ _ _ (mkF m 4 #[.val (.int i0), .val (.int i1), .val (.int i2), .val (.int i3), .val (.int i4), .unset, .unset, .unset, .unset, .unset, .unset, .unset, .unset] [(.int (1 : Int32)), (.int (i0 &&& (3 : Int32)))])
  refine Go.on (fun _ k => XS.iadd X0.here hx rfl (hb hby at_4) rfl k) ?_
  show Go _ _ _ _ _ _ _ _ (mkF m 5 #[.val (.int i0), .val (.int i1), .val (.int i2), .val (.int i3), .val (.int i4), .unset, .unset, .unset, .unset, .unset, .unset, .unset, .unset] [(.int ((i0 &&& (3 : Int32)) + (1 : Int32)))])
  refine Go.on (fun _ k => XS.istore X0.here hx rfl (hb hby at_5) rfl (l' := #[.val (.int i0), .val (.int i1), .val (.int i2), .val (.int i3), .val (.int i4), .val (.int ((i0 &&& (3 : Int32)) + (1 : Int32))), .unset, .unset, .unset, .unset, .unset, .unset, .unset]) rfl k) ?_
  show Go _ _ _ _ _ _ _ _ (mkF m 7 #[.val (.int i0), .val (.int i1), .val (.int i2), .val (.int i3), .val (.int i4), .val (.int ((i0 &&& (3 : Int32)) + (1 : Int32))), .unset, .unset, .unset, .unset, .unset, .unset, .unset] [])
  generalize hlen : ((i0 &&& (3 : Int32)) + (1 : Int32)) = len
  show Go _ _ _ _ _ _ _ _ (mkF m 7 #[.val (.int i0), .val (.int i1), .val (.int i2), .val (.int i3), .val (.int i4), .val (.int len), .unset, .unset, .unset, .unset, .unset, .unset, .unset] [])
  refine Go.on (fun _ k => XS.iload X0.here hx rfl (hb hby at_7) rfl k) ?_
  show Go _ _ _ _ _ _ _ _ (mkF m 9 #[.val (.int i0), .val (.int i1), .val (.int i2), .val (.int i3), .val (.int i4), .val (.int len), .unset, .unset, .unset, .unset, .unset, .unset, .unset] [(.int len)])
  rcases own_len hlen with hl | hl | hl | hl
  · -- length 1
    subst hl
    show Go _ _ _ _ _ _ _ _ (mkF m 9 #[.val (.int i0), .val (.int i1), .val (.int i2), .val (.int i3), .val (.int i4), .val (.int (1 : Int32)), .unset, .unset, .unset, .unset, .unset, .unset, .unset] [(.int (1 : Int32))])
    obtain ⟨T1, h1, k_ar, X1, e1, E1, A1, st1⟩ := newP X0 hx hZ (hw _ (List.mem_of_getElem? (i := 0) rfl)) e0 (g := (mkF m 9 #[.val (.int i0), .val (.int i1), .val (.int i2), .val (.int i3), .val (.int i4), .val (.int (1 : Int32)), .unset, .unset, .unset, .unset, .unset, .unset, .unset] [(.int (1 : Int32))])) rfl (hb hby at_9) rfl (by decide) (cap := 1) (by decide) (by decide) (by decide) (by decide)
    obtain ⟨ar, g1⟩ : ∃ z, z = h0.size := ⟨_, rfl⟩
    have g_ar : n0 ≤ ar := Nat.le_trans ZZ (Nat.le_of_eq g1.symm)
    rw [← g1] at A1 st1
    replace ZZ := Nat.le_trans ZZ E1.1
    have V_ar : Arv Z h1 ar k_ar .double (1 : Int32) [(.double (0 : UInt64))] (.double (0 : UInt64)) := (Arv.new A1 (by decide)).pad (pad_rep [] (.double (0 : UInt64)) 1)
    refine Go.on st1 ?_
    show Go _ _ _ _ _ _ _ _ (mkF m 11 #[.val (.int i0), .val (.int i1), .val (.int i2), .val (.int i3), .val (.int i4), .val (.int (1 : Int32)), .unset, .unset, .unset, .unset, .unset, .unset, .unset] [(.ref ar)])
    refine Go.on (fun _ k => XS.astore X1.here hx rfl (hb hby at_11) rfl rfl (l' := #[.val (.int i0), .val (.int i1), .val (.int i2), .val (.int i3), .val (.int i4), .val (.int (1 : Int32)), .val (.ref ar), .unset, .unset, .unset, .unset, .unset, .unset]) rfl k) ?_
    show Go _ _ _ _ _ _ _ _ (mkF m 13 #[.val (.int i0), .val (.int i1), .val (.int i2), .val (.int i3), .val (.int i4), .val (.int (1 : Int32)), .val (.ref ar), .unset, .unset, .unset, .unset, .unset, .unset] [])
    refine Go.on (fun _ k => XS.iloadN X1.here hx rfl (hb hby at_13) rfl k) ?_
    show Go _ _ _ _ _ _ _ _ (mkF m 14 #[.val (.int i0), .val (.int i1), .val (.int i2), .val (.int i3), .val (.int i4), .val (.int (1 : Int32)), .val (.ref ar), .unset, .unset, .unset, .unset, .unset, .unset] [(.int i1)])
    refine Go.on (fun _ k => XS.i2l X1.here hx rfl (hb hby at_14) rfl k) ?_
    show Go _ _ _ _ _ _ _ _ (mkF m 15 #[.val (.int i0), .val (.int i1), .val (.int i2), .val (.int i3), .val (.int i4), .val (.int (1 : Int32)), .val (.ref ar), .unset, .unset, .unset, .unset, .unset, .unset] [(.long (i1.toInt64))])
    refine Go.on (fun _ k => XS.lstore X1.here hx rfl (hb hby at_15) rfl (l' := #[.val (.int i0), .val (.int i1), .val (.int i2), .val (.int i3), .val (.int i4), .val (.int (1 : Int32)), .val (.ref ar), .val (.long (i1.toInt64)), .second, .unset, .unset, .unset, .unset]) rfl k) ?_
    show Go _ _ _ _ _ _ _ _ (mkF m 17 #[.val (.int i0), .val (.int i1), .val (.int i2), .val (.int i3), .val (.int i4), .val (.int (1 : Int32)), .val (.ref ar), .val (.long (i1.toInt64)), .second, .unset, .unset, .unset, .unset] [])
    generalize hs1 : (i1.toInt64) = s1
    show Go _ _ _ _ _ _ _ _ (mkF m 17 #[.val (.int i0), .val (.int i1), .val (.int i2), .val (.int i3), .val (.int i4), .val (.int (1 : Int32)), .val (.ref ar), .val (.long s1), .second, .unset, .unset, .unset, .unset] [])
    refine Go.on (fun _ k => XS.aload X1.here hx rfl (hb hby at_17) rfl rfl k) ?_
    show Go _ _ _ _ _ _ _ _ (mkF m 19 #[.val (.int i0), .val (.int i1), .val (.int i2), .val (.int i3), .val (.int i4), .val (.int (1 : Int32)), .val (.ref ar), .val (.long s1), .second, .unset, .unset, .unset, .unset] [(.ref ar)])
    refine Go.on (fun _ k => XS.iconst X1.here hx rfl (hb hby at_19) k) ?_
    show Go _ _ _ _ _ _ _ _ (mkF m 20 #[.val (.int i0), .val (.int i1), .val (.int i2), .val (.int i3), .val (.int i4), .val (.int (1 : Int32)), .val (.ref ar), .val (.long s1), .second, .unset, .unset, .unset, .unset] [(.int (0 : Int32)), (.ref ar)])
    refine Go.on (fun _ k => XS.iloadN X1.here hx rfl (hb hby at_20) rfl k) ?_
    show Go _ _ _ _ _ _ _ _ (mkF m 21 #[.val (.int i0), .val (.int i1), .val (.int i2), .val (.int i3), .val (.int i4), .val (.int (1 : Int32)), .val (.ref ar), .val (.long s1), .second, .unset, .unset, .unset, .unset] [(.int i1), (.int (0 : Int32)), (.ref ar)])
    refine Go.on (fun _ k => XS.i2dS X1.here hx rfl (hb hby at_21) rfl rfl k) ?_
    show Go _ _ _ _ _ _ _ _ (mkF m 22 #[.val (.int i0), .val (.int i1), .val (.int i2), .val (.int i3), .val (.int i4), .val (.int (1 : Int32)), .val (.ref ar), .val (.long s1), .second, .unset, .unset, .unset, .unset] [(.double (FP.i2d i1)), (.int (0 : Int32)), (.ref ar)])
    obtain ⟨cl2, Ar2, q2, S2, N2n, H2, G2⟩ := id V_ar
    have hin2 : ¬ ((0 : Int32) < 0 ∨ cl2.slots.size ≤ ((0 : Int32)).toNatClampNeg) := inb_of S2 ⟨by decide, by decide⟩
    obtain ⟨T2, h2, X2, e2, W2, st2⟩ := stD X1 hx hZ e1 Ar2 (j := (0 : Int32)) hin2 (g := (mkF m 22 #[.val (.int i0), .val (.int i1), .val (.int i2), .val (.int i3), .val (.int i4), .val (.int (1 : Int32)), .val (.ref ar), .val (.long s1), .second, .unset, .unset, .unset, .unset] [(.double (FP.i2d i1)), (.int (0 : Int32)), (.ref ar)])) rfl rfl (hb hby at_22)
    replace V_ar := Arv.set Ar2 q2 S2 N2n H2 G2 rfl W2 0 rfl (Nat.le_of_ble_eq_true rfl)
    refine Go.on st2 ?_
    have N2 := Fr.snoc X2 N0 g_ar
    replace ZZ := Nat.le_trans ZZ (Keep.of_wr W2).1
    change Arv Z h2 ar k_ar .double (1 : Int32) [(.double (FP.i2d i1))] (.double (0 : UInt64)) at V_ar
    show Go _ _ _ _ _ _ _ _ (mkF m 23 #[.val (.int i0), .val (.int i1), .val (.int i2), .val (.int i3), .val (.int i4), .val (.int (1 : Int32)), .val (.ref ar), .val (.long s1), .second, .unset, .unset, .unset, .unset] [])
    refine Go.on (fun _ k => XS.iload X2.here hx rfl (hb hby at_23) rfl k) ?_
    show Go _ _ _ _ _ _ _ _ (mkF m 25 #[.val (.int i0), .val (.int i1), .val (.int i2), .val (.int i3), .val (.int i4), .val (.int (1 : Int32)), .val (.ref ar), .val (.long s1), .second, .unset, .unset, .unset, .unset] [(.int (1 : Int32))])
    refine Go.on (fun _ k => XS.iconst X2.here hx rfl (hb hby at_25) k) ?_
    show Go _ _ _ _ _ _ _ _ (mkF m 26 #[.val (.int i0), .val (.int i1), .val (.int i2), .val (.int i3), .val (.int i4), .val (.int (1 : Int32)), .val (.ref ar), .val (.long s1), .second, .unset, .unset, .unset, .unset] [(.int (1 : Int32)), (.int (1 : Int32))])
    have hc3 : ¬ ((1 : Int32) < (1 : Int32)) := by decide
    refine Go.on (fun _ k => XS.icmpYes X2.here hx rfl (pc0 := 26) (pc' := 42) rfl (hb hby at_26) rfl (flt hc3).2.2.2 (by decide) (by decide) k) ?_
    show Go _ _ _ _ _ _ _ _ (mkF m 42 #[.val (.int i0), .val (.int i1), .val (.int i2), .val (.int i3), .val (.int i4), .val (.int (1 : Int32)), .val (.ref ar), .val (.long s1), .second, .unset, .unset, .unset, .unset] [])
    refine Go.on (fun _ k => XS.iload X2.here hx rfl (hb hby at_42) rfl k) ?_
    show Go _ _ _ _ _ _ _ _ (mkF m 44 #[.val (.int i0), .val (.int i1), .val (.int i2), .val (.int i3), .val (.int i4), .val (.int (1 : Int32)), .val (.ref ar), .val (.long s1), .second, .unset, .unset, .unset, .unset] [(.int (1 : Int32))])
    refine Go.on (fun _ k => XS.iconst X2.here hx rfl (hb hby at_44) k) ?_
    show Go _ _ _ _ _ _ _ _ (mkF m 45 #[.val (.int i0), .val (.int i1), .val (.int i2), .val (.int i3), .val (.int i4), .val (.int (1 : Int32)), .val (.ref ar), .val (.long s1), .second, .unset, .unset, .unset, .unset] [(.int (2 : Int32)), (.int (1 : Int32))])
    have hc4 : ¬ ((2 : Int32) < (1 : Int32)) := by decide
    refine Go.on (fun _ k => XS.icmpYes X2.here hx rfl (pc0 := 45) (pc' := 61) rfl (hb hby at_45) rfl (flt hc4).2.2.2 (by decide) (by decide) k) ?_
    show Go _ _ _ _ _ _ _ _ (mkF m 61 #[.val (.int i0), .val (.int i1), .val (.int i2), .val (.int i3), .val (.int i4), .val (.int (1 : Int32)), .val (.ref ar), .val (.long s1), .second, .unset, .unset, .unset, .unset] [])
    refine Go.on (fun _ k => XS.iload X2.here hx rfl (hb hby at_61) rfl k) ?_
    show Go _ _ _ _ _ _ _ _ (mkF m 63 #[.val (.int i0), .val (.int i1), .val (.int i2), .val (.int i3), .val (.int i4), .val (.int (1 : Int32)), .val (.ref ar), .val (.long s1), .second, .unset, .unset, .unset, .unset] [(.int (1 : Int32))])
    refine Go.on (fun _ k => XS.iconst X2.here hx rfl (hb hby at_63) k) ?_
    show Go _ _ _ _ _ _ _ _ (mkF m 64 #[.val (.int i0), .val (.int i1), .val (.int i2), .val (.int i3), .val (.int i4), .val (.int (1 : Int32)), .val (.ref ar), .val (.long s1), .second, .unset, .unset, .unset, .unset] [(.int (3 : Int32)), (.int (1 : Int32))])
    have hc5 : ¬ ((3 : Int32) < (1 : Int32)) := by decide
    refine Go.on (fun _ k => XS.icmpYes X2.here hx rfl (pc0 := 64) (pc' := 82) rfl (hb hby at_64) rfl (flt hc5).2.2.2 (by decide) (by decide) k) ?_
    show Go _ _ _ _ _ _ _ _ (mkF m 82 #[.val (.int i0), .val (.int i1), .val (.int i2), .val (.int i3), .val (.int i4), .val (.int (1 : Int32)), .val (.ref ar), .val (.long s1), .second, .unset, .unset, .unset, .unset] [])
    refine Go.on (fun _ k => XS.lload X2.here hx rfl (hb hby at_82) rfl k) ?_
    show Go _ _ _ _ _ _ _ _ (mkF m 84 #[.val (.int i0), .val (.int i1), .val (.int i2), .val (.int i3), .val (.int i4), .val (.int (1 : Int32)), .val (.ref ar), .val (.long s1), .second, .unset, .unset, .unset, .unset] [(.long s1)])
    refine Go.on (fun _ k => XS.l2dS X2.here hx rfl (hb hby at_84) rfl rfl k) ?_
    show Go _ _ _ _ _ _ _ _ (mkF m 85 #[.val (.int i0), .val (.int i1), .val (.int i2), .val (.int i3), .val (.int i4), .val (.int (1 : Int32)), .val (.ref ar), .val (.long s1), .second, .unset, .unset, .unset, .unset] [(.double (FP.l2d s1))])
    refine Go.on (fun _ k => XS.iload X2.here hx rfl (hb hby at_85) rfl k) ?_
    show Go _ _ _ _ _ _ _ _ (mkF m 87 #[.val (.int i0), .val (.int i1), .val (.int i2), .val (.int i3), .val (.int i4), .val (.int (1 : Int32)), .val (.ref ar), .val (.long s1), .second, .unset, .unset, .unset, .unset] [(.int (1 : Int32)), (.double (FP.l2d s1))])
    refine Go.on (fun _ k => XS.i2dS X2.here hx rfl (hb hby at_87) rfl rfl k) ?_
    show Go _ _ _ _ _ _ _ _ (mkF m 88 #[.val (.int i0), .val (.int i1), .val (.int i2), .val (.int i3), .val (.int i4), .val (.int (1 : Int32)), .val (.ref ar), .val (.long s1), .second, .unset, .unset, .unset, .unset] [(.double (FP.i2d (1 : Int32))), (.double (FP.l2d s1))])
    refine Go.on (fun _ k => XS.ddivS X2.here hx rfl (hb hby at_88) rfl (own_nnd _ _ (by decide)) rfl k) ?_
    show Go _ _ _ _ _ _ _ _ (mkF m 89 #[.val (.int i0), .val (.int i1), .val (.int i2), .val (.int i3), .val (.int i4), .val (.int (1 : Int32)), .val (.ref ar), .val (.long s1), .second, .unset, .unset, .unset, .unset] [(.double (FP.ddiv (FP.l2d s1) (FP.i2d (1 : Int32))))])
    refine Go.on (fun _ k => XS.dstore X2.here hx rfl (hb hby at_89) rfl (l' := #[.val (.int i0), .val (.int i1), .val (.int i2), .val (.int i3), .val (.int i4), .val (.int (1 : Int32)), .val (.ref ar), .val (.long s1), .second, .val (.double (FP.ddiv (FP.l2d s1) (FP.i2d (1 : Int32)))), .second, .unset, .unset]) rfl k) ?_
    show Go _ _ _ _ _ _ _ _ (mkF m 91 #[.val (.int i0), .val (.int i1), .val (.int i2), .val (.int i3), .val (.int i4), .val (.int (1 : Int32)), .val (.ref ar), .val (.long s1), .second, .val (.double (FP.ddiv (FP.l2d s1) (FP.i2d (1 : Int32)))), .second, .unset, .unset] [])
    generalize hex : (FP.ddiv (FP.l2d s1) (FP.i2d (1 : Int32))) = ex
    show Go _ _ _ _ _ _ _ _ (mkF m 91 #[.val (.int i0), .val (.int i1), .val (.int i2), .val (.int i3), .val (.int i4), .val (.int (1 : Int32)), .val (.ref ar), .val (.long s1), .second, .val (.double ex), .second, .unset, .unset] [])
    refine Go.on (fun _ k => XS.aload X2.here hx rfl (hb hby at_91) rfl rfl k) ?_
    show Go _ _ _ _ _ _ _ _ (mkF m 93 #[.val (.int i0), .val (.int i1), .val (.int i2), .val (.int i3), .val (.int i4), .val (.int (1 : Int32)), .val (.ref ar), .val (.long s1), .second, .val (.double ex), .second, .unset, .unset] [(.ref ar)])
    obtain ⟨_, _, ⟨T6, L6, k6, n6⟩, -, X6, ⟨Lc6, hQ6, l6, y6, z6⟩, st6⟩ := Jvm.LawKit.callS X2 hx (y := (⟨"com/example/driftswarm/driftswarm/analysis/Statistics", "mean", "([D)D"⟩ : MethodName)) hown (mvT hZ (hw _ (List.mem_of_getElem? (i := 1) rfl))) (mvT hZ (hw _ (List.mem_of_getElem? (i := 2) rfl))) (mvT hZ (hw _ (List.mem_of_getElem? (i := 3) rfl))) (mvT hZ (hw _ (List.mem_of_getElem? (i := 4) rfl))) (by decide) (backOf (W := 0) (rm1_1 l Z aw hw [] ar k_ar (FP.i2d i1) h2 n0 ZZ V_ar (own_m1 i1).1 (own_m1 i1).2.1) hZ (hw _ (List.mem_of_getElem? (i := 4) rfl)) (hw _ (List.mem_of_getElem? (i := 3) rfl)) (by decide) (by decide)) (g := (mkF m 93 #[.val (.int i0), .val (.int i1), .val (.int i2), .val (.int i3), .val (.int i4), .val (.int (1 : Int32)), .val (.ref ar), .val (.long s1), .second, .val (.double ex), .second, .unset, .unset] [(.ref ar)])) rfl (by rw [hml]; rfl) (argsL := [(.ref ar)]) (rest := []) (lenOf pd_0 rfl) rfl (by show 2 * 0 + _ ≤ _; exact Nat.le_of_eq rfl) (hb hby at_93) (fun _ _ => ⟨rfl, e2, (by decide : 1 + 0 ≤ _), (by decide : 1 + 0 ≤ _)⟩)
    dsimp only [Pt.U, Pt.locs, Pt.cells, Pt.slots] at X6 l6 y6 z6 st6 hQ6
    subst l6 y6 z6
    obtain ⟨rfl, N6q, e6⟩ := hQ6
    have N6 := Fr.app N2 N6q
    refine Go.on st6 ?_
    show Go _ _ _ _ _ _ _ _ (mkF m 96 #[.val (.int i0), .val (.int i1), .val (.int i2), .val (.int i3), .val (.int i4), .val (.int (1 : Int32)), .val (.ref ar), .val (.long s1), .second, .val (.double ex), .second, .unset, .unset] [(.double (FP.ddiv (FP.dadd (0 : UInt64) (FP.i2d i1)) (FP.i2d (1 : Int32))))])
    generalize hgot : (FP.ddiv (FP.dadd (0 : UInt64) (FP.i2d i1)) (FP.i2d (1 : Int32))) = got
    show Go _ _ _ _ _ _ _ _ (mkF m 96 #[.val (.int i0), .val (.int i1), .val (.int i2), .val (.int i3), .val (.int i4), .val (.int (1 : Int32)), .val (.ref ar), .val (.long s1), .second, .val (.double ex), .second, .unset, .unset] [(.double got)])
    refine Go.on (fun _ k => XS.dstore X6.here hx rfl (hb hby at_96) rfl (l' := #[.val (.int i0), .val (.int i1), .val (.int i2), .val (.int i3), .val (.int i4), .val (.int (1 : Int32)), .val (.ref ar), .val (.long s1), .second, .val (.double ex), .second, .val (.double got), .second]) rfl k) ?_
    show Go _ _ _ _ _ _ _ _ (mkF m 98 #[.val (.int i0), .val (.int i1), .val (.int i2), .val (.int i3), .val (.int i4), .val (.int (1 : Int32)), .val (.ref ar), .val (.long s1), .second, .val (.double ex), .second, .val (.double got), .second] [])
    refine Go.on (fun _ k => XS.dload X6.here hx rfl (hb hby at_98) rfl k) ?_
    show Go _ _ _ _ _ _ _ _ (mkF m 100 #[.val (.int i0), .val (.int i1), .val (.int i2), .val (.int i3), .val (.int i4), .val (.int (1 : Int32)), .val (.ref ar), .val (.long s1), .second, .val (.double ex), .second, .val (.double got), .second] [(.double got)])
    refine Go.on (fun _ k => XS.dload X6.here hx rfl (hb hby at_100) rfl k) ?_
    show Go _ _ _ _ _ _ _ _ (mkF m 102 #[.val (.int i0), .val (.int i1), .val (.int i2), .val (.int i3), .val (.int i4), .val (.int (1 : Int32)), .val (.ref ar), .val (.long s1), .second, .val (.double ex), .second, .val (.double got), .second] [(.double ex), (.double got)])
    refine Go.on (fun _ k => XS.dcmpS X6.here hx rfl (hb hby at_102) rfl rfl k) ?_
    show Go _ _ _ _ _ _ _ _ (mkF m 103 #[.val (.int i0), .val (.int i1), .val (.int i2), .val (.int i3), .val (.int i4), .val (.int (1 : Int32)), .val (.ref ar), .val (.long s1), .second, .val (.double ex), .second, .val (.double got), .second] [(.int (cmpValue (FP.dcmp got ex) .l))])
    suffices hJ8 : ∀ (v7 : Int32), v7 = (if (cmpValue (FP.dcmp got ex) .l) = (0 : Int32) then (1 : Int32) else (0 : Int32)) → Go p e below s K1 K2 QQ T6 (mkF m 111 #[.val (.int i0), .val (.int i1), .val (.int i2), .val (.int i3), .val (.int i4), .val (.int (1 : Int32)), .val (.ref ar), .val (.long s1), .second, .val (.double ex), .second, .val (.double got), .second] [(.int v7)]) by
      by_cases hc9 : (cmpValue (FP.dcmp got ex) .l) = (0 : Int32)
      · -- pc 103 yes
        refine Go.on (fun _ k => XS.ifNo X6.here hx rfl (hb hby at_103) rfl ((if0 _ _).trans (teq hc9).2) k) ?_
        show Go _ _ _ _ _ _ _ _ (mkF m 106 #[.val (.int i0), .val (.int i1), .val (.int i2), .val (.int i3), .val (.int i4), .val (.int (1 : Int32)), .val (.ref ar), .val (.long s1), .second, .val (.double ex), .second, .val (.double got), .second] [])
        refine Go.on (fun _ k => XS.iconst X6.here hx rfl (hb hby at_106) k) ?_
        show Go _ _ _ _ _ _ _ _ (mkF m 107 #[.val (.int i0), .val (.int i1), .val (.int i2), .val (.int i3), .val (.int i4), .val (.int (1 : Int32)), .val (.ref ar), .val (.long s1), .second, .val (.double ex), .second, .val (.double got), .second] [(.int (1 : Int32))])
        refine Go.on (fun _ k => XS.goto X6.here hx rfl (pc0 := 107) (pc' := 111) rfl (hb hby at_107) (by decide) (by decide) k) ?_
        show Go _ _ _ _ _ _ _ _ (mkF m 111 #[.val (.int i0), .val (.int i1), .val (.int i2), .val (.int i3), .val (.int i4), .val (.int (1 : Int32)), .val (.ref ar), .val (.long s1), .second, .val (.double ex), .second, .val (.double got), .second] [(.int (1 : Int32))])
        exact hJ8 _ (by rw [if_pos hc9])
      · -- pc 103 no
        refine Go.on (fun _ k => XS.ifYes X6.here hx rfl (pc0 := 103) (pc' := 110) rfl (hb hby at_103) rfl ((if0 _ _).trans (feq hc9).2) (by decide) (by decide) k) ?_
        show Go _ _ _ _ _ _ _ _ (mkF m 110 #[.val (.int i0), .val (.int i1), .val (.int i2), .val (.int i3), .val (.int i4), .val (.int (1 : Int32)), .val (.ref ar), .val (.long s1), .second, .val (.double ex), .second, .val (.double got), .second] [])
        refine Go.on (fun _ k => XS.iconst X6.here hx rfl (hb hby at_110) k) ?_
        show Go _ _ _ _ _ _ _ _ (mkF m 111 #[.val (.int i0), .val (.int i1), .val (.int i2), .val (.int i3), .val (.int i4), .val (.int (1 : Int32)), .val (.ref ar), .val (.long s1), .second, .val (.double ex), .second, .val (.double got), .second] [(.int (0 : Int32))])
        exact hJ8 _ (by rw [if_neg hc9])
    intro v7 hv7
    refine Go.retN X6 hx (t := .boolean) Bd.returns (by simp) (hb hby at_111) ?_ (by rw [hK1]; decide) (by rw [hK2]; decide)
    rw [e6, ← hQQ]
    have hres : v7 = 1 := own_pure1 hs1 hex hgot hv7
    rw [hres]
    exact ⟨rfl, N6⟩
  · -- length 2
    subst hl
    show Go _ _ _ _ _ _ _ _ (mkF m 9 #[.val (.int i0), .val (.int i1), .val (.int i2), .val (.int i3), .val (.int i4), .val (.int (2 : Int32)), .unset, .unset, .unset, .unset, .unset, .unset, .unset] [(.int (2 : Int32))])
    obtain ⟨T10, h10, k_ar, X10, e10, E10, A10, st10⟩ := newP X0 hx hZ (hw _ (List.mem_of_getElem? (i := 0) rfl)) e0 (g := (mkF m 9 #[.val (.int i0), .val (.int i1), .val (.int i2), .val (.int i3), .val (.int i4), .val (.int (2 : Int32)), .unset, .unset, .unset, .unset, .unset, .unset, .unset] [(.int (2 : Int32))])) rfl (hb hby at_9) rfl (by decide) (cap := 2) (by decide) (by decide) (by decide) (by decide)
    obtain ⟨ar, g10⟩ : ∃ z, z = h0.size := ⟨_, rfl⟩
    have g_ar : n0 ≤ ar := Nat.le_trans ZZ (Nat.le_of_eq g10.symm)
    rw [← g10] at A10 st10
    replace ZZ := Nat.le_trans ZZ E10.1
    have V_ar : Arv Z h10 ar k_ar .double (2 : Int32) [(.double (0 : UInt64)), (.double (0 : UInt64))] (.double (0 : UInt64)) := (Arv.new A10 (by decide)).pad (pad_rep [] (.double (0 : UInt64)) 2)
    refine Go.on st10 ?_
    show Go _ _ _ _ _ _ _ _ (mkF m 11 #[.val (.int i0), .val (.int i1), .val (.int i2), .val (.int i3), .val (.int i4), .val (.int (2 : Int32)), .unset, .unset, .unset, .unset, .unset, .unset, .unset] [(.ref ar)])
    refine Go.on (fun _ k => XS.astore X10.here hx rfl (hb hby at_11) rfl rfl (l' := #[.val (.int i0), .val (.int i1), .val (.int i2), .val (.int i3), .val (.int i4), .val (.int (2 : Int32)), .val (.ref ar), .unset, .unset, .unset, .unset, .unset, .unset]) rfl k) ?_
    show Go _ _ _ _ _ _ _ _ (mkF m 13 #[.val (.int i0), .val (.int i1), .val (.int i2), .val (.int i3), .val (.int i4), .val (.int (2 : Int32)), .val (.ref ar), .unset, .unset, .unset, .unset, .unset, .unset] [])
    refine Go.on (fun _ k => XS.iloadN X10.here hx rfl (hb hby at_13) rfl k) ?_
    show Go _ _ _ _ _ _ _ _ (mkF m 14 #[.val (.int i0), .val (.int i1), .val (.int i2), .val (.int i3), .val (.int i4), .val (.int (2 : Int32)), .val (.ref ar), .unset, .unset, .unset, .unset, .unset, .unset] [(.int i1)])
    refine Go.on (fun _ k => XS.i2l X10.here hx rfl (hb hby at_14) rfl k) ?_
    show Go _ _ _ _ _ _ _ _ (mkF m 15 #[.val (.int i0), .val (.int i1), .val (.int i2), .val (.int i3), .val (.int i4), .val (.int (2 : Int32)), .val (.ref ar), .unset, .unset, .unset, .unset, .unset, .unset] [(.long (i1.toInt64))])
    refine Go.on (fun _ k => XS.lstore X10.here hx rfl (hb hby at_15) rfl (l' := #[.val (.int i0), .val (.int i1), .val (.int i2), .val (.int i3), .val (.int i4), .val (.int (2 : Int32)), .val (.ref ar), .val (.long (i1.toInt64)), .second, .unset, .unset, .unset, .unset]) rfl k) ?_
    show Go _ _ _ _ _ _ _ _ (mkF m 17 #[.val (.int i0), .val (.int i1), .val (.int i2), .val (.int i3), .val (.int i4), .val (.int (2 : Int32)), .val (.ref ar), .val (.long (i1.toInt64)), .second, .unset, .unset, .unset, .unset] [])
    generalize hs1 : (i1.toInt64) = s1
    show Go _ _ _ _ _ _ _ _ (mkF m 17 #[.val (.int i0), .val (.int i1), .val (.int i2), .val (.int i3), .val (.int i4), .val (.int (2 : Int32)), .val (.ref ar), .val (.long s1), .second, .unset, .unset, .unset, .unset] [])
    refine Go.on (fun _ k => XS.aload X10.here hx rfl (hb hby at_17) rfl rfl k) ?_
    show Go _ _ _ _ _ _ _ _ (mkF m 19 #[.val (.int i0), .val (.int i1), .val (.int i2), .val (.int i3), .val (.int i4), .val (.int (2 : Int32)), .val (.ref ar), .val (.long s1), .second, .unset, .unset, .unset, .unset] [(.ref ar)])
    refine Go.on (fun _ k => XS.iconst X10.here hx rfl (hb hby at_19) k) ?_
    show Go _ _ _ _ _ _ _ _ (mkF m 20 #[.val (.int i0), .val (.int i1), .val (.int i2), .val (.int i3), .val (.int i4), .val (.int (2 : Int32)), .val (.ref ar), .val (.long s1), .second, .unset, .unset, .unset, .unset] [(.int (0 : Int32)), (.ref ar)])
    refine Go.on (fun _ k => XS.iloadN X10.here hx rfl (hb hby at_20) rfl k) ?_
    show Go _ _ _ _ _ _ _ _ (mkF m 21 #[.val (.int i0), .val (.int i1), .val (.int i2), .val (.int i3), .val (.int i4), .val (.int (2 : Int32)), .val (.ref ar), .val (.long s1), .second, .unset, .unset, .unset, .unset] [(.int i1), (.int (0 : Int32)), (.ref ar)])
    refine Go.on (fun _ k => XS.i2dS X10.here hx rfl (hb hby at_21) rfl rfl k) ?_
    show Go _ _ _ _ _ _ _ _ (mkF m 22 #[.val (.int i0), .val (.int i1), .val (.int i2), .val (.int i3), .val (.int i4), .val (.int (2 : Int32)), .val (.ref ar), .val (.long s1), .second, .unset, .unset, .unset, .unset] [(.double (FP.i2d i1)), (.int (0 : Int32)), (.ref ar)])
    obtain ⟨cl11, Ar11, q11, S11, N11n, H11, G11⟩ := id V_ar
    have hin11 : ¬ ((0 : Int32) < 0 ∨ cl11.slots.size ≤ ((0 : Int32)).toNatClampNeg) := inb_of S11 ⟨by decide, by decide⟩
    obtain ⟨T11, h11, X11, e11, W11, st11⟩ := stD X10 hx hZ e10 Ar11 (j := (0 : Int32)) hin11 (g := (mkF m 22 #[.val (.int i0), .val (.int i1), .val (.int i2), .val (.int i3), .val (.int i4), .val (.int (2 : Int32)), .val (.ref ar), .val (.long s1), .second, .unset, .unset, .unset, .unset] [(.double (FP.i2d i1)), (.int (0 : Int32)), (.ref ar)])) rfl rfl (hb hby at_22)
    replace V_ar := Arv.set Ar11 q11 S11 N11n H11 G11 rfl W11 0 rfl (Nat.le_of_ble_eq_true rfl)
    refine Go.on st11 ?_
    have N11 := Fr.snoc X11 N0 g_ar
    replace ZZ := Nat.le_trans ZZ (Keep.of_wr W11).1
    change Arv Z h11 ar k_ar .double (2 : Int32) [(.double (FP.i2d i1)), (.double (0 : UInt64))] (.double (0 : UInt64)) at V_ar
    show Go _ _ _ _ _ _ _ _ (mkF m 23 #[.val (.int i0), .val (.int i1), .val (.int i2), .val (.int i3), .val (.int i4), .val (.int (2 : Int32)), .val (.ref ar), .val (.long s1), .second, .unset, .unset, .unset, .unset] [])
    refine Go.on (fun _ k => XS.iload X11.here hx rfl (hb hby at_23) rfl k) ?_
    show Go _ _ _ _ _ _ _ _ (mkF m 25 #[.val (.int i0), .val (.int i1), .val (.int i2), .val (.int i3), .val (.int i4), .val (.int (2 : Int32)), .val (.ref ar), .val (.long s1), .second, .unset, .unset, .unset, .unset] [(.int (2 : Int32))])
    refine Go.on (fun _ k => XS.iconst X11.here hx rfl (hb hby at_25) k) ?_
    show Go _ _ _ _ _ _ _ _ (mkF m 26 #[.val (.int i0), .val (.int i1), .val (.int i2), .val (.int i3), .val (.int i4), .val (.int (2 : Int32)), .val (.ref ar), .val (.long s1), .second, .unset, .unset, .unset, .unset] [(.int (1 : Int32)), (.int (2 : Int32))])
    have hc12 : (1 : Int32) < (2 : Int32) := by decide
    refine Go.on (fun _ k => XS.icmpNo X11.here hx rfl (hb hby at_26) rfl (tlt hc12).2.2.2 k) ?_
    show Go _ _ _ _ _ _ _ _ (mkF m 29 #[.val (.int i0), .val (.int i1), .val (.int i2), .val (.int i3), .val (.int i4), .val (.int (2 : Int32)), .val (.ref ar), .val (.long s1), .second, .unset, .unset, .unset, .unset] [])
    refine Go.on (fun _ k => XS.aload X11.here hx rfl (hb hby at_29) rfl rfl k) ?_
    show Go _ _ _ _ _ _ _ _ (mkF m 31 #[.val (.int i0), .val (.int i1), .val (.int i2), .val (.int i3), .val (.int i4), .val (.int (2 : Int32)), .val (.ref ar), .val (.long s1), .second, .unset, .unset, .unset, .unset] [(.ref ar)])
    refine Go.on (fun _ k => XS.iconst X11.here hx rfl (hb hby at_31) k) ?_
    show Go _ _ _ _ _ _ _ _ (mkF m 32 #[.val (.int i0), .val (.int i1), .val (.int i2), .val (.int i3), .val (.int i4), .val (.int (2 : Int32)), .val (.ref ar), .val (.long s1), .second, .unset, .unset, .unset, .unset] [(.int (1 : Int32)), (.ref ar)])
    refine Go.on (fun _ k => XS.iloadN X11.here hx rfl (hb hby at_32) rfl k) ?_
    show Go _ _ _ _ _ _ _ _ (mkF m 33 #[.val (.int i0), .val (.int i1), .val (.int i2), .val (.int i3), .val (.int i4), .val (.int (2 : Int32)), .val (.ref ar), .val (.long s1), .second, .unset, .unset, .unset, .unset] [(.int i2), (.int (1 : Int32)), (.ref ar)])
    refine Go.on (fun _ k => XS.i2dS X11.here hx rfl (hb hby at_33) rfl rfl k) ?_
    show Go _ _ _ _ _ _ _ _ (mkF m 34 #[.val (.int i0), .val (.int i1), .val (.int i2), .val (.int i3), .val (.int i4), .val (.int (2 : Int32)), .val (.ref ar), .val (.long s1), .second, .unset, .unset, .unset, .unset] [(.double (FP.i2d i2)), (.int (1 : Int32)), (.ref ar)])
    obtain ⟨cl13, Ar13, q13, S13, N13n, H13, G13⟩ := id V_ar
    have hin13 : ¬ ((1 : Int32) < 0 ∨ cl13.slots.size ≤ ((1 : Int32)).toNatClampNeg) := inb_of S13 ⟨by decide, by decide⟩
    obtain ⟨T13, h13, X13, e13, W13, st13⟩ := stD X11 hx hZ e11 Ar13 (j := (1 : Int32)) hin13 (g := (mkF m 34 #[.val (.int i0), .val (.int i1), .val (.int i2), .val (.int i3), .val (.int i4), .val (.int (2 : Int32)), .val (.ref ar), .val (.long s1), .second, .unset, .unset, .unset, .unset] [(.double (FP.i2d i2)), (.int (1 : Int32)), (.ref ar)])) rfl rfl (hb hby at_34)
    replace V_ar := Arv.set Ar13 q13 S13 N13n H13 G13 rfl W13 1 rfl (Nat.le_of_ble_eq_true rfl)
    refine Go.on st13 ?_
    have N13 := Fr.snoc X13 N11 g_ar
    replace ZZ := Nat.le_trans ZZ (Keep.of_wr W13).1
    change Arv Z h13 ar k_ar .double (2 : Int32) [(.double (FP.i2d i1)), (.double (FP.i2d i2))] (.double (0 : UInt64)) at V_ar
    show Go _ _ _ _ _ _ _ _ (mkF m 35 #[.val (.int i0), .val (.int i1), .val (.int i2), .val (.int i3), .val (.int i4), .val (.int (2 : Int32)), .val (.ref ar), .val (.long s1), .second, .unset, .unset, .unset, .unset] [])
    refine Go.on (fun _ k => XS.lload X13.here hx rfl (hb hby at_35) rfl k) ?_
    show Go _ _ _ _ _ _ _ _ (mkF m 37 #[.val (.int i0), .val (.int i1), .val (.int i2), .val (.int i3), .val (.int i4), .val (.int (2 : Int32)), .val (.ref ar), .val (.long s1), .second, .unset, .unset, .unset, .unset] [(.long s1)])
    refine Go.on (fun _ k => XS.iloadN X13.here hx rfl (hb hby at_37) rfl k) ?_
    show Go _ _ _ _ _ _ _ _ (mkF m 38 #[.val (.int i0), .val (.int i1), .val (.int i2), .val (.int i3), .val (.int i4), .val (.int (2 : Int32)), .val (.ref ar), .val (.long s1), .second, .unset, .unset, .unset, .unset] [(.int i2), (.long s1)])
    refine Go.on (fun _ k => XS.i2l X13.here hx rfl (hb hby at_38) rfl k) ?_
    show Go _ _ _ _ _ _ _ _ (mkF m 39 #[.val (.int i0), .val (.int i1), .val (.int i2), .val (.int i3), .val (.int i4), .val (.int (2 : Int32)), .val (.ref ar), .val (.long s1), .second, .unset, .unset, .unset, .unset] [(.long (i2.toInt64)), (.long s1)])
    refine Go.on (fun _ k => XS.ladd X13.here hx rfl (hb hby at_39) rfl k) ?_
    show Go _ _ _ _ _ _ _ _ (mkF m 40 #[.val (.int i0), .val (.int i1), .val (.int i2), .val (.int i3), .val (.int i4), .val (.int (2 : Int32)), .val (.ref ar), .val (.long s1), .second, .unset, .unset, .unset, .unset] [(.long (s1 + (i2.toInt64)))])
    refine Go.on (fun _ k => XS.lstore X13.here hx rfl (hb hby at_40) rfl (l' := #[.val (.int i0), .val (.int i1), .val (.int i2), .val (.int i3), .val (.int i4), .val (.int (2 : Int32)), .val (.ref ar), .val (.long (s1 + (i2.toInt64))), .second, .unset, .unset, .unset, .unset]) rfl k) ?_
    show Go _ _ _ _ _ _ _ _ (mkF m 42 #[.val (.int i0), .val (.int i1), .val (.int i2), .val (.int i3), .val (.int i4), .val (.int (2 : Int32)), .val (.ref ar), .val (.long (s1 + (i2.toInt64))), .second, .unset, .unset, .unset, .unset] [])
    generalize hs2 : (s1 + (i2.toInt64)) = s2
    show Go _ _ _ _ _ _ _ _ (mkF m 42 #[.val (.int i0), .val (.int i1), .val (.int i2), .val (.int i3), .val (.int i4), .val (.int (2 : Int32)), .val (.ref ar), .val (.long s2), .second, .unset, .unset, .unset, .unset] [])
    refine Go.on (fun _ k => XS.iload X13.here hx rfl (hb hby at_42) rfl k) ?_
    show Go _ _ _ _ _ _ _ _ (mkF m 44 #[.val (.int i0), .val (.int i1), .val (.int i2), .val (.int i3), .val (.int i4), .val (.int (2 : Int32)), .val (.ref ar), .val (.long s2), .second, .unset, .unset, .unset, .unset] [(.int (2 : Int32))])
    refine Go.on (fun _ k => XS.iconst X13.here hx rfl (hb hby at_44) k) ?_
    show Go _ _ _ _ _ _ _ _ (mkF m 45 #[.val (.int i0), .val (.int i1), .val (.int i2), .val (.int i3), .val (.int i4), .val (.int (2 : Int32)), .val (.ref ar), .val (.long s2), .second, .unset, .unset, .unset, .unset] [(.int (2 : Int32)), (.int (2 : Int32))])
    have hc14 : ¬ ((2 : Int32) < (2 : Int32)) := by decide
    refine Go.on (fun _ k => XS.icmpYes X13.here hx rfl (pc0 := 45) (pc' := 61) rfl (hb hby at_45) rfl (flt hc14).2.2.2 (by decide) (by decide) k) ?_
    show Go _ _ _ _ _ _ _ _ (mkF m 61 #[.val (.int i0), .val (.int i1), .val (.int i2), .val (.int i3), .val (.int i4), .val (.int (2 : Int32)), .val (.ref ar), .val (.long s2), .second, .unset, .unset, .unset, .unset] [])
    refine Go.on (fun _ k => XS.iload X13.here hx rfl (hb hby at_61) rfl k) ?_
    show Go _ _ _ _ _ _ _ _ (mkF m 63 #[.val (.int i0), .val (.int i1), .val (.int i2), .val (.int i3), .val (.int i4), .val (.int (2 : Int32)), .val (.ref ar), .val (.long s2), .second, .unset, .unset, .unset, .unset] [(.int (2 : Int32))])
    refine Go.on (fun _ k => XS.iconst X13.here hx rfl (hb hby at_63) k) ?_
    show Go _ _ _ _ _ _ _ _ (mkF m 64 #[.val (.int i0), .val (.int i1), .val (.int i2), .val (.int i3), .val (.int i4), .val (.int (2 : Int32)), .val (.ref ar), .val (.long s2), .second, .unset, .unset, .unset, .unset] [(.int (3 : Int32)), (.int (2 : Int32))])
    have hc15 : ¬ ((3 : Int32) < (2 : Int32)) := by decide
    refine Go.on (fun _ k => XS.icmpYes X13.here hx rfl (pc0 := 64) (pc' := 82) rfl (hb hby at_64) rfl (flt hc15).2.2.2 (by decide) (by decide) k) ?_
    show Go _ _ _ _ _ _ _ _ (mkF m 82 #[.val (.int i0), .val (.int i1), .val (.int i2), .val (.int i3), .val (.int i4), .val (.int (2 : Int32)), .val (.ref ar), .val (.long s2), .second, .unset, .unset, .unset, .unset] [])
    refine Go.on (fun _ k => XS.lload X13.here hx rfl (hb hby at_82) rfl k) ?_
    show Go _ _ _ _ _ _ _ _ (mkF m 84 #[.val (.int i0), .val (.int i1), .val (.int i2), .val (.int i3), .val (.int i4), .val (.int (2 : Int32)), .val (.ref ar), .val (.long s2), .second, .unset, .unset, .unset, .unset] [(.long s2)])
    refine Go.on (fun _ k => XS.l2dS X13.here hx rfl (hb hby at_84) rfl rfl k) ?_
    show Go _ _ _ _ _ _ _ _ (mkF m 85 #[.val (.int i0), .val (.int i1), .val (.int i2), .val (.int i3), .val (.int i4), .val (.int (2 : Int32)), .val (.ref ar), .val (.long s2), .second, .unset, .unset, .unset, .unset] [(.double (FP.l2d s2))])
    refine Go.on (fun _ k => XS.iload X13.here hx rfl (hb hby at_85) rfl k) ?_
    show Go _ _ _ _ _ _ _ _ (mkF m 87 #[.val (.int i0), .val (.int i1), .val (.int i2), .val (.int i3), .val (.int i4), .val (.int (2 : Int32)), .val (.ref ar), .val (.long s2), .second, .unset, .unset, .unset, .unset] [(.int (2 : Int32)), (.double (FP.l2d s2))])
    refine Go.on (fun _ k => XS.i2dS X13.here hx rfl (hb hby at_87) rfl rfl k) ?_
    show Go _ _ _ _ _ _ _ _ (mkF m 88 #[.val (.int i0), .val (.int i1), .val (.int i2), .val (.int i3), .val (.int i4), .val (.int (2 : Int32)), .val (.ref ar), .val (.long s2), .second, .unset, .unset, .unset, .unset] [(.double (FP.i2d (2 : Int32))), (.double (FP.l2d s2))])
    refine Go.on (fun _ k => XS.ddivS X13.here hx rfl (hb hby at_88) rfl (own_nnd _ _ (by decide)) rfl k) ?_
    show Go _ _ _ _ _ _ _ _ (mkF m 89 #[.val (.int i0), .val (.int i1), .val (.int i2), .val (.int i3), .val (.int i4), .val (.int (2 : Int32)), .val (.ref ar), .val (.long s2), .second, .unset, .unset, .unset, .unset] [(.double (FP.ddiv (FP.l2d s2) (FP.i2d (2 : Int32))))])
    refine Go.on (fun _ k => XS.dstore X13.here hx rfl (hb hby at_89) rfl (l' := #[.val (.int i0), .val (.int i1), .val (.int i2), .val (.int i3), .val (.int i4), .val (.int (2 : Int32)), .val (.ref ar), .val (.long s2), .second, .val (.double (FP.ddiv (FP.l2d s2) (FP.i2d (2 : Int32)))), .second, .unset, .unset]) rfl k) ?_
    show Go _ _ _ _ _ _ _ _ (mkF m 91 #[.val (.int i0), .val (.int i1), .val (.int i2), .val (.int i3), .val (.int i4), .val (.int (2 : Int32)), .val (.ref ar), .val (.long s2), .second, .val (.double (FP.ddiv (FP.l2d s2) (FP.i2d (2 : Int32)))), .second, .unset, .unset] [])
    generalize hex : (FP.ddiv (FP.l2d s2) (FP.i2d (2 : Int32))) = ex
    show Go _ _ _ _ _ _ _ _ (mkF m 91 #[.val (.int i0), .val (.int i1), .val (.int i2), .val (.int i3), .val (.int i4), .val (.int (2 : Int32)), .val (.ref ar), .val (.long s2), .second, .val (.double ex), .second, .unset, .unset] [])
    refine Go.on (fun _ k => XS.aload X13.here hx rfl (hb hby at_91) rfl rfl k) ?_
    show Go _ _ _ _ _ _ _ _ (mkF m 93 #[.val (.int i0), .val (.int i1), .val (.int i2), .val (.int i3), .val (.int i4), .val (.int (2 : Int32)), .val (.ref ar), .val (.long s2), .second, .val (.double ex), .second, .unset, .unset] [(.ref ar)])
    obtain ⟨_, _, ⟨T16, L16, k16, n16⟩, -, X16, ⟨Lc16, hQ16, l16, y16, z16⟩, st16⟩ := Jvm.LawKit.callS X13 hx (y := (⟨"com/example/driftswarm/driftswarm/analysis/Statistics", "mean", "([D)D"⟩ : MethodName)) hown (mvT hZ (hw _ (List.mem_of_getElem? (i := 1) rfl))) (mvT hZ (hw _ (List.mem_of_getElem? (i := 2) rfl))) (mvT hZ (hw _ (List.mem_of_getElem? (i := 3) rfl))) (mvT hZ (hw _ (List.mem_of_getElem? (i := 4) rfl))) (by decide) (backOf (W := 0) (rm1_2 l Z aw hw [] ar k_ar (FP.i2d i1) (FP.i2d i2) h13 n0 ZZ V_ar (own_m2 i1 i2).1 (own_m2 i1 i2).2.1 (own_m2 i1 i2).2.2.1) hZ (hw _ (List.mem_of_getElem? (i := 4) rfl)) (hw _ (List.mem_of_getElem? (i := 3) rfl)) (by decide) (by decide)) (g := (mkF m 93 #[.val (.int i0), .val (.int i1), .val (.int i2), .val (.int i3), .val (.int i4), .val (.int (2 : Int32)), .val (.ref ar), .val (.long s2), .second, .val (.double ex), .second, .unset, .unset] [(.ref ar)])) rfl (by rw [hml]; rfl) (argsL := [(.ref ar)]) (rest := []) (lenOf pd_0 rfl) rfl (by show 2 * 0 + _ ≤ _; exact Nat.le_of_eq rfl) (hb hby at_93) (fun _ _ => ⟨rfl, e13, (by decide : 1 + 0 ≤ _), (by decide : 2 + 0 ≤ _)⟩)
    dsimp only [Pt.U, Pt.locs, Pt.cells, Pt.slots] at X16 l16 y16 z16 st16 hQ16
    subst l16 y16 z16
    obtain ⟨rfl, N16q, e16⟩ := hQ16
    have N16 := Fr.app N13 N16q
    refine Go.on st16 ?_
    show Go _ _ _ _ _ _ _ _ (mkF m 96 #[.val (.int i0), .val (.int i1), .val (.int i2), .val (.int i3), .val (.int i4), .val (.int (2 : Int32)), .val (.ref ar), .val (.long s2), .second, .val (.double ex), .second, .unset, .unset] [(.double (FP.ddiv (FP.dadd (FP.dadd (0 : UInt64) (FP.i2d i1)) (FP.i2d i2)) (FP.i2d (2 : Int32))))])
    generalize hgot : (FP.ddiv (FP.dadd (FP.dadd (0 : UInt64) (FP.i2d i1)) (FP.i2d i2)) (FP.i2d (2 : Int32))) = got
    show Go _ _ _ _ _ _ _ _ (mkF m 96 #[.val (.int i0), .val (.int i1), .val (.int i2), .val (.int i3), .val (.int i4), .val (.int (2 : Int32)), .val (.ref ar), .val (.long s2), .second, .val (.double ex), .second, .unset, .unset] [(.double got)])
    refine Go.on (fun _ k => XS.dstore X16.here hx rfl (hb hby at_96) rfl (l' := #[.val (.int i0), .val (.int i1), .val (.int i2), .val (.int i3), .val (.int i4), .val (.int (2 : Int32)), .val (.ref ar), .val (.long s2), .second, .val (.double ex), .second, .val (.double got), .second]) rfl k) ?_
    show Go _ _ _ _ _ _ _ _ (mkF m 98 #[.val (.int i0), .val (.int i1), .val (.int i2), .val (.int i3), .val (.int i4), .val (.int (2 : Int32)), .val (.ref ar), .val (.long s2), .second, .val (.double ex), .second, .val (.double got), .second] [])
    refine Go.on (fun _ k => XS.dload X16.here hx rfl (hb hby at_98) rfl k) ?_
    show Go _ _ _ _ _ _ _ _ (mkF m 100 #[.val (.int i0), .val (.int i1), .val (.int i2), .val (.int i3), .val (.int i4), .val (.int (2 : Int32)), .val (.ref ar), .val (.long s2), .second, .val (.double ex), .second, .val (.double got), .second] [(.double got)])
    refine Go.on (fun _ k => XS.dload X16.here hx rfl (hb hby at_100) rfl k) ?_
    show Go _ _ _ _ _ _ _ _ (mkF m 102 #[.val (.int i0), .val (.int i1), .val (.int i2), .val (.int i3), .val (.int i4), .val (.int (2 : Int32)), .val (.ref ar), .val (.long s2), .second, .val (.double ex), .second, .val (.double got), .second] [(.double ex), (.double got)])
    refine Go.on (fun _ k => XS.dcmpS X16.here hx rfl (hb hby at_102) rfl rfl k) ?_
    show Go _ _ _ _ _ _ _ _ (mkF m 103 #[.val (.int i0), .val (.int i1), .val (.int i2), .val (.int i3), .val (.int i4), .val (.int (2 : Int32)), .val (.ref ar), .val (.long s2), .second, .val (.double ex), .second, .val (.double got), .second] [(.int (cmpValue (FP.dcmp got ex) .l))])
    suffices hJ18 : ∀ (v17 : Int32), v17 = (if (cmpValue (FP.dcmp got ex) .l) = (0 : Int32) then (1 : Int32) else (0 : Int32)) → Go p e below s K1 K2 QQ T16 (mkF m 111 #[.val (.int i0), .val (.int i1), .val (.int i2), .val (.int i3), .val (.int i4), .val (.int (2 : Int32)), .val (.ref ar), .val (.long s2), .second, .val (.double ex), .second, .val (.double got), .second] [(.int v17)]) by
      by_cases hc19 : (cmpValue (FP.dcmp got ex) .l) = (0 : Int32)
      · -- pc 103 yes
        refine Go.on (fun _ k => XS.ifNo X16.here hx rfl (hb hby at_103) rfl ((if0 _ _).trans (teq hc19).2) k) ?_
        show Go _ _ _ _ _ _ _ _ (mkF m 106 #[.val (.int i0), .val (.int i1), .val (.int i2), .val (.int i3), .val (.int i4), .val (.int (2 : Int32)), .val (.ref ar), .val (.long s2), .second, .val (.double ex), .second, .val (.double got), .second] [])
        refine Go.on (fun _ k => XS.iconst X16.here hx rfl (hb hby at_106) k) ?_
        show Go _ _ _ _ _ _ _ _ (mkF m 107 #[.val (.int i0), .val (.int i1), .val (.int i2), .val (.int i3), .val (.int i4), .val (.int (2 : Int32)), .val (.ref ar), .val (.long s2), .second, .val (.double ex), .second, .val (.double got), .second] [(.int (1 : Int32))])
        refine Go.on (fun _ k => XS.goto X16.here hx rfl (pc0 := 107) (pc' := 111) rfl (hb hby at_107) (by decide) (by decide) k) ?_
        show Go _ _ _ _ _ _ _ _ (mkF m 111 #[.val (.int i0), .val (.int i1), .val (.int i2), .val (.int i3), .val (.int i4), .val (.int (2 : Int32)), .val (.ref ar), .val (.long s2), .second, .val (.double ex), .second, .val (.double got), .second] [(.int (1 : Int32))])
        exact hJ18 _ (by rw [if_pos hc19])
      · -- pc 103 no
        refine Go.on (fun _ k => XS.ifYes X16.here hx rfl (pc0 := 103) (pc' := 110) rfl (hb hby at_103) rfl ((if0 _ _).trans (feq hc19).2) (by decide) (by decide) k) ?_
        show Go _ _ _ _ _ _ _ _ (mkF m 110 #[.val (.int i0), .val (.int i1), .val (.int i2), .val (.int i3), .val (.int i4), .val (.int (2 : Int32)), .val (.ref ar), .val (.long s2), .second, .val (.double ex), .second, .val (.double got), .second] [])
        refine Go.on (fun _ k => XS.iconst X16.here hx rfl (hb hby at_110) k) ?_
        show Go _ _ _ _ _ _ _ _ (mkF m 111 #[.val (.int i0), .val (.int i1), .val (.int i2), .val (.int i3), .val (.int i4), .val (.int (2 : Int32)), .val (.ref ar), .val (.long s2), .second, .val (.double ex), .second, .val (.double got), .second] [(.int (0 : Int32))])
        exact hJ18 _ (by rw [if_neg hc19])
    intro v17 hv17
    refine Go.retN X16 hx (t := .boolean) Bd.returns (by simp) (hb hby at_111) ?_ (by rw [hK1]; decide) (by rw [hK2]; decide)
    rw [e16, ← hQQ]
    have hres : v17 = 1 := own_pure2 hs1 hs2 hex hgot hv17
    rw [hres]
    exact ⟨rfl, N16⟩
  · -- length 3
    subst hl
    show Go _ _ _ _ _ _ _ _ (mkF m 9 #[.val (.int i0), .val (.int i1), .val (.int i2), .val (.int i3), .val (.int i4), .val (.int (3 : Int32)), .unset, .unset, .unset, .unset, .unset, .unset, .unset] [(.int (3 : Int32))])
    obtain ⟨T20, h20, k_ar, X20, e20, E20, A20, st20⟩ := newP X0 hx hZ (hw _ (List.mem_of_getElem? (i := 0) rfl)) e0 (g := (mkF m 9 #[.val (.int i0), .val (.int i1), .val (.int i2), .val (.int i3), .val (.int i4), .val (.int (3 : Int32)), .unset, .unset, .unset, .unset, .unset, .unset, .unset] [(.int (3 : Int32))])) rfl (hb hby at_9) rfl (by decide) (cap := 3) (by decide) (by decide) (by decide) (by decide)
    obtain ⟨ar, g20⟩ : ∃ z, z = h0.size := ⟨_, rfl⟩
    have g_ar : n0 ≤ ar := Nat.le_trans ZZ (Nat.le_of_eq g20.symm)
    rw [← g20] at A20 st20
    replace ZZ := Nat.le_trans ZZ E20.1
    have V_ar : Arv Z h20 ar k_ar .double (3 : Int32) [(.double (0 : UInt64)), (.double (0 : UInt64)), (.double (0 : UInt64))] (.double (0 : UInt64)) := (Arv.new A20 (by decide)).pad (pad_rep [] (.double (0 : UInt64)) 3)
    refine Go.on st20 ?_
    show Go _ _ _ _ _ _ _ _ (mkF m 11 #[.val (.int i0), .val (.int i1), .val (.int i2), .val (.int i3), .val (.int i4), .val (.int (3 : Int32)), .unset, .unset, .unset, .unset, .unset, .unset, .unset] [(.ref ar)])
    refine Go.on (fun _ k => XS.astore X20.here hx rfl (hb hby at_11) rfl rfl (l' := #[.val (.int i0), .val (.int i1), .val (.int i2), .val (.int i3), .val (.int i4), .val (.int (3 : Int32)), .val (.ref ar), .unset, .unset, .unset, .unset, .unset, .unset]) rfl k) ?_
    show Go _ _ _ _ _ _ _ _ (mkF m 13 #[.val (.int i0), .val (.int i1), .val (.int i2), .val (.int i3), .val (.int i4), .val (.int (3 : Int32)), .val (.ref ar), .unset, .unset, .unset, .unset, .unset, .unset] [])
    refine Go.on (fun _ k => XS.iloadN X20.here hx rfl (hb hby at_13) rfl k) ?_
    show Go _ _ _ _ _ _ _ _ (mkF m 14 #[.val (.int i0), .val (.int i1), .val (.int i2), .val (.int i3), .val (.int i4), .val (.int (3 : Int32)), .val (.ref ar), .unset, .unset, .unset, .unset, .unset, .unset] [(.int i1)])
    refine Go.on (fun _ k => XS.i2l X20.here hx rfl (hb hby at_14) rfl k) ?_
    show Go _ _ _ _ _ _ _ _ (mkF m 15 #[.val (.int i0), .val (.int i1), .val (.int i2), .val (.int i3), .val (.int i4), .val (.int (3 : Int32)), .val (.ref ar), .unset, .unset, .unset, .unset, .unset, .unset] [(.long (i1.toInt64))])
    refine Go.on (fun _ k => XS.lstore X20.here hx rfl (hb hby at_15) rfl (l' := #[.val (.int i0), .val (.int i1), .val (.int i2), .val (.int i3), .val (.int i4), .val (.int (3 : Int32)), .val (.ref ar), .val (.long (i1.toInt64)), .second, .unset, .unset, .unset, .unset]) rfl k) ?_
    show Go _ _ _ _ _ _ _ _ (mkF m 17 #[.val (.int i0), .val (.int i1), .val (.int i2), .val (.int i3), .val (.int i4), .val (.int (3 : Int32)), .val (.ref ar), .val (.long (i1.toInt64)), .second, .unset, .unset, .unset, .unset] [])
    generalize hs1 : (i1.toInt64) = s1
    show Go _ _ _ _ _ _ _ _ (mkF m 17 #[.val (.int i0), .val (.int i1), .val (.int i2), .val (.int i3), .val (.int i4), .val (.int (3 : Int32)), .val (.ref ar), .val (.long s1), .second, .unset, .unset, .unset, .unset] [])
    refine Go.on (fun _ k => XS.aload X20.here hx rfl (hb hby at_17) rfl rfl k) ?_
    show Go _ _ _ _ _ _ _ _ (mkF m 19 #[.val (.int i0), .val (.int i1), .val (.int i2), .val (.int i3), .val (.int i4), .val (.int (3 : Int32)), .val (.ref ar), .val (.long s1), .second, .unset, .unset, .unset, .unset] [(.ref ar)])
    refine Go.on (fun _ k => XS.iconst X20.here hx rfl (hb hby at_19) k) ?_
    show Go _ _ _ _ _ _ _ _ (mkF m 20 #[.val (.int i0), .val (.int i1), .val (.int i2), .val (.int i3), .val (.int i4), .val (.int (3 : Int32)), .val (.ref ar), .val (.long s1), .second, .unset, .unset, .unset, .unset] [(.int (0 : Int32)), (.ref ar)])
    refine Go.on (fun _ k => XS.iloadN X20.here hx rfl (hb hby at_20) rfl k) ?_
    show Go _ _ _ _ _ _ _ _ (mkF m 21 #[.val (.int i0), .val (.int i1), .val (.int i2), .val (.int i3), .val (.int i4), .val (.int (3 : Int32)), .val (.ref ar), .val (.long s1), .second, .unset, .unset, .unset, .unset] [(.int i1), (.int (0 : Int32)), (.ref ar)])
    refine Go.on (fun _ k => XS.i2dS X20.here hx rfl (hb hby at_21) rfl rfl k) ?_
    show Go _ _ _ _ _ _ _ _ (mkF m 22 #[.val (.int i0), .val (.int i1), .val (.int i2), .val (.int i3), .val (.int i4), .val (.int (3 : Int32)), .val (.ref ar), .val (.long s1), .second, .unset, .unset, .unset, .unset] [(.double (FP.i2d i1)), (.int (0 : Int32)), (.ref ar)])
    obtain ⟨cl21, Ar21, q21, S21, N21n, H21, G21⟩ := id V_ar
    have hin21 : ¬ ((0 : Int32) < 0 ∨ cl21.slots.size ≤ ((0 : Int32)).toNatClampNeg) := inb_of S21 ⟨by decide, by decide⟩
    obtain ⟨T21, h21, X21, e21, W21, st21⟩ := stD X20 hx hZ e20 Ar21 (j := (0 : Int32)) hin21 (g := (mkF m 22 #[.val (.int i0), .val (.int i1), .val (.int i2), .val (.int i3), .val (.int i4), .val (.int (3 : Int32)), .val (.ref ar), .val (.long s1), .second, .unset, .unset, .unset, .unset] [(.double (FP.i2d i1)), (.int (0 : Int32)), (.ref ar)])) rfl rfl (hb hby at_22)
    replace V_ar := Arv.set Ar21 q21 S21 N21n H21 G21 rfl W21 0 rfl (Nat.le_of_ble_eq_true rfl)
    refine Go.on st21 ?_
    have N21 := Fr.snoc X21 N0 g_ar
    replace ZZ := Nat.le_trans ZZ (Keep.of_wr W21).1
    change Arv Z h21 ar k_ar .double (3 : Int32) [(.double (FP.i2d i1)), (.double (0 : UInt64)), (.double (0 : UInt64))] (.double (0 : UInt64)) at V_ar
    show Go _ _ _ _ _ _ _ _ (mkF m 23 #[.val (.int i0), .val (.int i1), .val (.int i2), .val (.int i3), .val (.int i4), .val (.int (3 : Int32)), .val (.ref ar), .val (.long s1), .second, .unset, .unset, .unset, .unset] [])
    refine Go.on (fun _ k => XS.iload X21.here hx rfl (hb hby at_23) rfl k) ?_
    show Go _ _ _ _ _ _ _ _ (mkF m 25 #[.val (.int i0), .val (.int i1), .val (.int i2), .val (.int i3), .val (.int i4), .val (.int (3 : Int32)), .val (.ref ar), .val (.long s1), .second, .unset, .unset, .unset, .unset] [(.int (3 : Int32))])
    refine Go.on (fun _ k => XS.iconst X21.here hx rfl (hb hby at_25) k) ?_
    show Go _ _ _ _ _ _ _ _ (mkF m 26 #[.val (.int i0), .val (.int i1), .val (.int i2), .val (.int i3), .val (.int i4), .val (.int (3 : Int32)), .val (.ref ar), .val (.long s1), .second, .unset, .unset, .unset, .unset] [(.int (1 : Int32)), (.int (3 : Int32))])
    have hc22 : (1 : Int32) < (3 : Int32) := by decide
    refine Go.on (fun _ k => XS.icmpNo X21.here hx rfl (hb hby at_26) rfl (tlt hc22).2.2.2 k) ?_
    show Go _ _ _ _ _ _ _ _ (mkF m 29 #[.val (.int i0), .val (.int i1), .val (.int i2), .val (.int i3), .val (.int i4), .val (.int (3 : Int32)), .val (.ref ar), .val (.long s1), .second, .unset, .unset, .unset, .unset] [])
    refine Go.on (fun _ k => XS.aload X21.here hx rfl (hb hby at_29) rfl rfl k) ?_
    show Go _ _ _ _ _ _ _ _ (mkF m 31 #[.val (.int i0), .val (.int i1), .val (.int i2), .val (.int i3), .val (.int i4), .val (.int (3 : Int32)), .val (.ref ar), .val (.long s1), .second, .unset, .unset, .unset, .unset] [(.ref ar)])
    refine Go.on (fun _ k => XS.iconst X21.here hx rfl (hb hby at_31) k) ?_
    show Go _ _ _ _ _ _ _ _ (mkF m 32 #[.val (.int i0), .val (.int i1), .val (.int i2), .val (.int i3), .val (.int i4), .val (.int (3 : Int32)), .val (.ref ar), .val (.long s1), .second, .unset, .unset, .unset, .unset] [(.int (1 : Int32)), (.ref ar)])
    refine Go.on (fun _ k => XS.iloadN X21.here hx rfl (hb hby at_32) rfl k) ?_
    show Go _ _ _ _ _ _ _ _ (mkF m 33 #[.val (.int i0), .val (.int i1), .val (.int i2), .val (.int i3), .val (.int i4), .val (.int (3 : Int32)), .val (.ref ar), .val (.long s1), .second, .unset, .unset, .unset, .unset] [(.int i2), (.int (1 : Int32)), (.ref ar)])
    refine Go.on (fun _ k => XS.i2dS X21.here hx rfl (hb hby at_33) rfl rfl k) ?_
    show Go _ _ _ _ _ _ _ _ (mkF m 34 #[.val (.int i0), .val (.int i1), .val (.int i2), .val (.int i3), .val (.int i4), .val (.int (3 : Int32)), .val (.ref ar), .val (.long s1), .second, .unset, .unset, .unset, .unset] [(.double (FP.i2d i2)), (.int (1 : Int32)), (.ref ar)])
    obtain ⟨cl23, Ar23, q23, S23, N23n, H23, G23⟩ := id V_ar
    have hin23 : ¬ ((1 : Int32) < 0 ∨ cl23.slots.size ≤ ((1 : Int32)).toNatClampNeg) := inb_of S23 ⟨by decide, by decide⟩
    obtain ⟨T23, h23, X23, e23, W23, st23⟩ := stD X21 hx hZ e21 Ar23 (j := (1 : Int32)) hin23 (g := (mkF m 34 #[.val (.int i0), .val (.int i1), .val (.int i2), .val (.int i3), .val (.int i4), .val (.int (3 : Int32)), .val (.ref ar), .val (.long s1), .second, .unset, .unset, .unset, .unset] [(.double (FP.i2d i2)), (.int (1 : Int32)), (.ref ar)])) rfl rfl (hb hby at_34)
    replace V_ar := Arv.set Ar23 q23 S23 N23n H23 G23 rfl W23 1 rfl (Nat.le_of_ble_eq_true rfl)
    refine Go.on st23 ?_
    have N23 := Fr.snoc X23 N21 g_ar
    replace ZZ := Nat.le_trans ZZ (Keep.of_wr W23).1
    change Arv Z h23 ar k_ar .double (3 : Int32) [(.double (FP.i2d i1)), (.double (FP.i2d i2)), (.double (0 : UInt64))] (.double (0 : UInt64)) at V_ar
    show Go _ _ _ _ _ _ _ _ (mkF m 35 #[.val (.int i0), .val (.int i1), .val (.int i2), .val (.int i3), .val (.int i4), .val (.int (3 : Int32)), .val (.ref ar), .val (.long s1), .second, .unset, .unset, .unset, .unset] [])
    refine Go.on (fun _ k => XS.lload X23.here hx rfl (hb hby at_35) rfl k) ?_
    show Go _ _ _ _ _ _ _ _ (mkF m 37 #[.val (.int i0), .val (.int i1), .val (.int i2), .val (.int i3), .val (.int i4), .val (.int (3 : Int32)), .val (.ref ar), .val (.long s1), .second, .unset, .unset, .unset, .unset] [(.long s1)])
    refine Go.on (fun _ k => XS.iloadN X23.here hx rfl (hb hby at_37) rfl k) ?_
    show Go _ _ _ _ _ _ _ _ (mkF m 38 #[.val (.int i0), .val (.int i1), .val (.int i2), .val (.int i3), .val (.int i4), .val (.int (3 : Int32)), .val (.ref ar), .val (.long s1), .second, .unset, .unset, .unset, .unset] [(.int i2), (.long s1)])
    refine Go.on (fun _ k => XS.i2l X23.here hx rfl (hb hby at_38) rfl k) ?_
    show Go _ _ _ _ _ _ _ _ (mkF m 39 #[.val (.int i0), .val (.int i1), .val (.int i2), .val (.int i3), .val (.int i4), .val (.int (3 : Int32)), .val (.ref ar), .val (.long s1), .second, .unset, .unset, .unset, .unset] [(.long (i2.toInt64)), (.long s1)])
    refine Go.on (fun _ k => XS.ladd X23.here hx rfl (hb hby at_39) rfl k) ?_
    show Go _ _ _ _ _ _ _ _ (mkF m 40 #[.val (.int i0), .val (.int i1), .val (.int i2), .val (.int i3), .val (.int i4), .val (.int (3 : Int32)), .val (.ref ar), .val (.long s1), .second, .unset, .unset, .unset, .unset] [(.long (s1 + (i2.toInt64)))])
    refine Go.on (fun _ k => XS.lstore X23.here hx rfl (hb hby at_40) rfl (l' := #[.val (.int i0), .val (.int i1), .val (.int i2), .val (.int i3), .val (.int i4), .val (.int (3 : Int32)), .val (.ref ar), .val (.long (s1 + (i2.toInt64))), .second, .unset, .unset, .unset, .unset]) rfl k) ?_
    show Go _ _ _ _ _ _ _ _ (mkF m 42 #[.val (.int i0), .val (.int i1), .val (.int i2), .val (.int i3), .val (.int i4), .val (.int (3 : Int32)), .val (.ref ar), .val (.long (s1 + (i2.toInt64))), .second, .unset, .unset, .unset, .unset] [])
    generalize hs2 : (s1 + (i2.toInt64)) = s2
    show Go _ _ _ _ _ _ _ _ (mkF m 42 #[.val (.int i0), .val (.int i1), .val (.int i2), .val (.int i3), .val (.int i4), .val (.int (3 : Int32)), .val (.ref ar), .val (.long s2), .second, .unset, .unset, .unset, .unset] [])
    refine Go.on (fun _ k => XS.iload X23.here hx rfl (hb hby at_42) rfl k) ?_
    show Go _ _ _ _ _ _ _ _ (mkF m 44 #[.val (.int i0), .val (.int i1), .val (.int i2), .val (.int i3), .val (.int i4), .val (.int (3 : Int32)), .val (.ref ar), .val (.long s2), .second, .unset, .unset, .unset, .unset] [(.int (3 : Int32))])
    refine Go.on (fun _ k => XS.iconst X23.here hx rfl (hb hby at_44) k) ?_
    show Go _ _ _ _ _ _ _ _ (mkF m 45 #[.val (.int i0), .val (.int i1), .val (.int i2), .val (.int i3), .val (.int i4), .val (.int (3 : Int32)), .val (.ref ar), .val (.long s2), .second, .unset, .unset, .unset, .unset] [(.int (2 : Int32)), (.int (3 : Int32))])
    have hc24 : (2 : Int32) < (3 : Int32) := by decide
    refine Go.on (fun _ k => XS.icmpNo X23.here hx rfl (hb hby at_45) rfl (tlt hc24).2.2.2 k) ?_
    show Go _ _ _ _ _ _ _ _ (mkF m 48 #[.val (.int i0), .val (.int i1), .val (.int i2), .val (.int i3), .val (.int i4), .val (.int (3 : Int32)), .val (.ref ar), .val (.long s2), .second, .unset, .unset, .unset, .unset] [])
    refine Go.on (fun _ k => XS.aload X23.here hx rfl (hb hby at_48) rfl rfl k) ?_
    show Go _ _ _ _ _ _ _ _ (mkF m 50 #[.val (.int i0), .val (.int i1), .val (.int i2), .val (.int i3), .val (.int i4), .val (.int (3 : Int32)), .val (.ref ar), .val (.long s2), .second, .unset, .unset, .unset, .unset] [(.ref ar)])
    refine Go.on (fun _ k => XS.iconst X23.here hx rfl (hb hby at_50) k) ?_
    show Go _ _ _ _ _ _ _ _ (mkF m 51 #[.val (.int i0), .val (.int i1), .val (.int i2), .val (.int i3), .val (.int i4), .val (.int (3 : Int32)), .val (.ref ar), .val (.long s2), .second, .unset, .unset, .unset, .unset] [(.int (2 : Int32)), (.ref ar)])
    refine Go.on (fun _ k => XS.iloadN X23.here hx rfl (hb hby at_51) rfl k) ?_
    show Go _ _ _ _ _ _ _ _ (mkF m 52 #[.val (.int i0), .val (.int i1), .val (.int i2), .val (.int i3), .val (.int i4), .val (.int (3 : Int32)), .val (.ref ar), .val (.long s2), .second, .unset, .unset, .unset, .unset] [(.int i3), (.int (2 : Int32)), (.ref ar)])
    refine Go.on (fun _ k => XS.i2dS X23.here hx rfl (hb hby at_52) rfl rfl k) ?_
    show Go _ _ _ _ _ _ _ _ (mkF m 53 #[.val (.int i0), .val (.int i1), .val (.int i2), .val (.int i3), .val (.int i4), .val (.int (3 : Int32)), .val (.ref ar), .val (.long s2), .second, .unset, .unset, .unset, .unset] [(.double (FP.i2d i3)), (.int (2 : Int32)), (.ref ar)])
    obtain ⟨cl25, Ar25, q25, S25, N25n, H25, G25⟩ := id V_ar
    have hin25 : ¬ ((2 : Int32) < 0 ∨ cl25.slots.size ≤ ((2 : Int32)).toNatClampNeg) := inb_of S25 ⟨by decide, by decide⟩
    obtain ⟨T25, h25, X25, e25, W25, st25⟩ := stD X23 hx hZ e23 Ar25 (j := (2 : Int32)) hin25 (g := (mkF m 53 #[.val (.int i0), .val (.int i1), .val (.int i2), .val (.int i3), .val (.int i4), .val (.int (3 : Int32)), .val (.ref ar), .val (.long s2), .second, .unset, .unset, .unset, .unset] [(.double (FP.i2d i3)), (.int (2 : Int32)), (.ref ar)])) rfl rfl (hb hby at_53)
    replace V_ar := Arv.set Ar25 q25 S25 N25n H25 G25 rfl W25 2 rfl (Nat.le_of_ble_eq_true rfl)
    refine Go.on st25 ?_
    have N25 := Fr.snoc X25 N23 g_ar
    replace ZZ := Nat.le_trans ZZ (Keep.of_wr W25).1
    change Arv Z h25 ar k_ar .double (3 : Int32) [(.double (FP.i2d i1)), (.double (FP.i2d i2)), (.double (FP.i2d i3))] (.double (0 : UInt64)) at V_ar
    show Go _ _ _ _ _ _ _ _ (mkF m 54 #[.val (.int i0), .val (.int i1), .val (.int i2), .val (.int i3), .val (.int i4), .val (.int (3 : Int32)), .val (.ref ar), .val (.long s2), .second, .unset, .unset, .unset, .unset] [])
    refine Go.on (fun _ k => XS.lload X25.here hx rfl (hb hby at_54) rfl k) ?_
    show Go _ _ _ _ _ _ _ _ (mkF m 56 #[.val (.int i0), .val (.int i1), .val (.int i2), .val (.int i3), .val (.int i4), .val (.int (3 : Int32)), .val (.ref ar), .val (.long s2), .second, .unset, .unset, .unset, .unset] [(.long s2)])
    refine Go.on (fun _ k => XS.iloadN X25.here hx rfl (hb hby at_56) rfl k) ?_
    show Go _ _ _ _ _ _ _ _ (mkF m 57 #[.val (.int i0), .val (.int i1), .val (.int i2), .val (.int i3), .val (.int i4), .val (.int (3 : Int32)), .val (.ref ar), .val (.long s2), .second, .unset, .unset, .unset, .unset] [(.int i3), (.long s2)])
    refine Go.on (fun _ k => XS.i2l X25.here hx rfl (hb hby at_57) rfl k) ?_
    show Go _ _ _ _ _ _ _ _ (mkF m 58 #[.val (.int i0), .val (.int i1), .val (.int i2), .val (.int i3), .val (.int i4), .val (.int (3 : Int32)), .val (.ref ar), .val (.long s2), .second, .unset, .unset, .unset, .unset] [(.long (i3.toInt64)), (.long s2)])
    refine Go.on (fun _ k => XS.ladd X25.here hx rfl (hb hby at_58) rfl k) ?_
    show Go _ _ _ _ _ _ _ _ (mkF m 59 #[.val (.int i0), .val (.int i1), .val (.int i2), .val (.int i3), .val (.int i4), .val (.int (3 : Int32)), .val (.ref ar), .val (.long s2), .second, .unset, .unset, .unset, .unset] [(.long (s2 + (i3.toInt64)))])
    refine Go.on (fun _ k => XS.lstore X25.here hx rfl (hb hby at_59) rfl (l' := #[.val (.int i0), .val (.int i1), .val (.int i2), .val (.int i3), .val (.int i4), .val (.int (3 : Int32)), .val (.ref ar), .val (.long (s2 + (i3.toInt64))), .second, .unset, .unset, .unset, .unset]) rfl k) ?_
    show Go _ _ _ _ _ _ _ _ (mkF m 61 #[.val (.int i0), .val (.int i1), .val (.int i2), .val (.int i3), .val (.int i4), .val (.int (3 : Int32)), .val (.ref ar), .val (.long (s2 + (i3.toInt64))), .second, .unset, .unset, .unset, .unset] [])
    generalize hs3 : (s2 + (i3.toInt64)) = s3
    show Go _ _ _ _ _ _ _ _ (mkF m 61 #[.val (.int i0), .val (.int i1), .val (.int i2), .val (.int i3), .val (.int i4), .val (.int (3 : Int32)), .val (.ref ar), .val (.long s3), .second, .unset, .unset, .unset, .unset] [])
    refine Go.on (fun _ k => XS.iload X25.here hx rfl (hb hby at_61) rfl k) ?_
    show Go _ _ _ _ _ _ _ _ (mkF m 63 #[.val (.int i0), .val (.int i1), .val (.int i2), .val (.int i3), .val (.int i4), .val (.int (3 : Int32)), .val (.ref ar), .val (.long s3), .second, .unset, .unset, .unset, .unset] [(.int (3 : Int32))])
    refine Go.on (fun _ k => XS.iconst X25.here hx rfl (hb hby at_63) k) ?_
    show Go _ _ _ _ _ _ _ _ (mkF m 64 #[.val (.int i0), .val (.int i1), .val (.int i2), .val (.int i3), .val (.int i4), .val (.int (3 : Int32)), .val (.ref ar), .val (.long s3), .second, .unset, .unset, .unset, .unset] [(.int (3 : Int32)), (.int (3 : Int32))])
    have hc26 : ¬ ((3 : Int32) < (3 : Int32)) := by decide
    refine Go.on (fun _ k => XS.icmpYes X25.here hx rfl (pc0 := 64) (pc' := 82) rfl (hb hby at_64) rfl (flt hc26).2.2.2 (by decide) (by decide) k) ?_
    show Go _ _ _ _ _ _ _ _ (mkF m 82 #[.val (.int i0), .val (.int i1), .val (.int i2), .val (.int i3), .val (.int i4), .val (.int (3 : Int32)), .val (.ref ar), .val (.long s3), .second, .unset, .unset, .unset, .unset] [])
    refine Go.on (fun _ k => XS.lload X25.here hx rfl (hb hby at_82) rfl k) ?_
    show Go _ _ _ _ _ _ _ _ (mkF m 84 #[.val (.int i0), .val (.int i1), .val (.int i2), .val (.int i3), .val (.int i4), .val (.int (3 : Int32)), .val (.ref ar), .val (.long s3), .second, .unset, .unset, .unset, .unset] [(.long s3)])
    refine Go.on (fun _ k => XS.l2dS X25.here hx rfl (hb hby at_84) rfl rfl k) ?_
    show Go _ _ _ _ _ _ _ _ (mkF m 85 #[.val (.int i0), .val (.int i1), .val (.int i2), .val (.int i3), .val (.int i4), .val (.int (3 : Int32)), .val (.ref ar), .val (.long s3), .second, .unset, .unset, .unset, .unset] [(.double (FP.l2d s3))])
    refine Go.on (fun _ k => XS.iload X25.here hx rfl (hb hby at_85) rfl k) ?_
    show Go _ _ _ _ _ _ _ _ (mkF m 87 #[.val (.int i0), .val (.int i1), .val (.int i2), .val (.int i3), .val (.int i4), .val (.int (3 : Int32)), .val (.ref ar), .val (.long s3), .second, .unset, .unset, .unset, .unset] [(.int (3 : Int32)), (.double (FP.l2d s3))])
    refine Go.on (fun _ k => XS.i2dS X25.here hx rfl (hb hby at_87) rfl rfl k) ?_
    show Go _ _ _ _ _ _ _ _ (mkF m 88 #[.val (.int i0), .val (.int i1), .val (.int i2), .val (.int i3), .val (.int i4), .val (.int (3 : Int32)), .val (.ref ar), .val (.long s3), .second, .unset, .unset, .unset, .unset] [(.double (FP.i2d (3 : Int32))), (.double (FP.l2d s3))])
    refine Go.on (fun _ k => XS.ddivS X25.here hx rfl (hb hby at_88) rfl (own_nnd _ _ (by decide)) rfl k) ?_
    show Go _ _ _ _ _ _ _ _ (mkF m 89 #[.val (.int i0), .val (.int i1), .val (.int i2), .val (.int i3), .val (.int i4), .val (.int (3 : Int32)), .val (.ref ar), .val (.long s3), .second, .unset, .unset, .unset, .unset] [(.double (FP.ddiv (FP.l2d s3) (FP.i2d (3 : Int32))))])
    refine Go.on (fun _ k => XS.dstore X25.here hx rfl (hb hby at_89) rfl (l' := #[.val (.int i0), .val (.int i1), .val (.int i2), .val (.int i3), .val (.int i4), .val (.int (3 : Int32)), .val (.ref ar), .val (.long s3), .second, .val (.double (FP.ddiv (FP.l2d s3) (FP.i2d (3 : Int32)))), .second, .unset, .unset]) rfl k) ?_
    show Go _ _ _ _ _ _ _ _ (mkF m 91 #[.val (.int i0), .val (.int i1), .val (.int i2), .val (.int i3), .val (.int i4), .val (.int (3 : Int32)), .val (.ref ar), .val (.long s3), .second, .val (.double (FP.ddiv (FP.l2d s3) (FP.i2d (3 : Int32)))), .second, .unset, .unset] [])
    generalize hex : (FP.ddiv (FP.l2d s3) (FP.i2d (3 : Int32))) = ex
    show Go _ _ _ _ _ _ _ _ (mkF m 91 #[.val (.int i0), .val (.int i1), .val (.int i2), .val (.int i3), .val (.int i4), .val (.int (3 : Int32)), .val (.ref ar), .val (.long s3), .second, .val (.double ex), .second, .unset, .unset] [])
    refine Go.on (fun _ k => XS.aload X25.here hx rfl (hb hby at_91) rfl rfl k) ?_
    show Go _ _ _ _ _ _ _ _ (mkF m 93 #[.val (.int i0), .val (.int i1), .val (.int i2), .val (.int i3), .val (.int i4), .val (.int (3 : Int32)), .val (.ref ar), .val (.long s3), .second, .val (.double ex), .second, .unset, .unset] [(.ref ar)])
    obtain ⟨_, _, ⟨T27, L27, k27, n27⟩, -, X27, ⟨Lc27, hQ27, l27, y27, z27⟩, st27⟩ := Jvm.LawKit.callS X25 hx (y := (⟨"com/example/driftswarm/driftswarm/analysis/Statistics", "mean", "([D)D"⟩ : MethodName)) hown (mvT hZ (hw _ (List.mem_of_getElem? (i := 1) rfl))) (mvT hZ (hw _ (List.mem_of_getElem? (i := 2) rfl))) (mvT hZ (hw _ (List.mem_of_getElem? (i := 3) rfl))) (mvT hZ (hw _ (List.mem_of_getElem? (i := 4) rfl))) (by decide) (backOf (W := 0) (rm1_3 l Z aw hw [] ar k_ar (FP.i2d i1) (FP.i2d i2) (FP.i2d i3) h25 n0 ZZ V_ar (own_m3 i1 i2 i3).1 (own_m3 i1 i2 i3).2.1 (own_m3 i1 i2 i3).2.2.1 (own_m3 i1 i2 i3).2.2.2.1) hZ (hw _ (List.mem_of_getElem? (i := 4) rfl)) (hw _ (List.mem_of_getElem? (i := 3) rfl)) (by decide) (by decide)) (g := (mkF m 93 #[.val (.int i0), .val (.int i1), .val (.int i2), .val (.int i3), .val (.int i4), .val (.int (3 : Int32)), .val (.ref ar), .val (.long s3), .second, .val (.double ex), .second, .unset, .unset] [(.ref ar)])) rfl (by rw [hml]; rfl) (argsL := [(.ref ar)]) (rest := []) (lenOf pd_0 rfl) rfl (by show 2 * 0 + _ ≤ _; exact Nat.le_of_eq rfl) (hb hby at_93) (fun _ _ => ⟨rfl, e25, (by decide : 1 + 0 ≤ _), (by decide : 3 + 0 ≤ _)⟩)
    dsimp only [Pt.U, Pt.locs, Pt.cells, Pt.slots] at X27 l27 y27 z27 st27 hQ27
    subst l27 y27 z27
    obtain ⟨rfl, N27q, e27⟩ := hQ27
    have N27 := Fr.app N25 N27q
    refine Go.on st27 ?_
    show Go _ _ _ _ _ _ _ _ (mkF m 96 #[.val (.int i0), .val (.int i1), .val (.int i2), .val (.int i3), .val (.int i4), .val (.int (3 : Int32)), .val (.ref ar), .val (.long s3), .second, .val (.double ex), .second, .unset, .unset] [(.double (FP.ddiv (FP.dadd (FP.dadd (FP.dadd (0 : UInt64) (FP.i2d i1)) (FP.i2d i2)) (FP.i2d i3)) (FP.i2d (3 : Int32))))])
    generalize hgot : (FP.ddiv (FP.dadd (FP.dadd (FP.dadd (0 : UInt64) (FP.i2d i1)) (FP.i2d i2)) (FP.i2d i3)) (FP.i2d (3 : Int32))) = got
    show Go _ _ _ _ _ _ _ _ (mkF m 96 #[.val (.int i0), .val (.int i1), .val (.int i2), .val (.int i3), .val (.int i4), .val (.int (3 : Int32)), .val (.ref ar), .val (.long s3), .second, .val (.double ex), .second, .unset, .unset] [(.double got)])
    refine Go.on (fun _ k => XS.dstore X27.here hx rfl (hb hby at_96) rfl (l' := #[.val (.int i0), .val (.int i1), .val (.int i2), .val (.int i3), .val (.int i4), .val (.int (3 : Int32)), .val (.ref ar), .val (.long s3), .second, .val (.double ex), .second, .val (.double got), .second]) rfl k) ?_
    show Go _ _ _ _ _ _ _ _ (mkF m 98 #[.val (.int i0), .val (.int i1), .val (.int i2), .val (.int i3), .val (.int i4), .val (.int (3 : Int32)), .val (.ref ar), .val (.long s3), .second, .val (.double ex), .second, .val (.double got), .second] [])
    refine Go.on (fun _ k => XS.dload X27.here hx rfl (hb hby at_98) rfl k) ?_
    show Go _ _ _ _ _ _ _ _ (mkF m 100 #[.val (.int i0), .val (.int i1), .val (.int i2), .val (.int i3), .val (.int i4), .val (.int (3 : Int32)), .val (.ref ar), .val (.long s3), .second, .val (.double ex), .second, .val (.double got), .second] [(.double got)])
    refine Go.on (fun _ k => XS.dload X27.here hx rfl (hb hby at_100) rfl k) ?_
    show Go _ _ _ _ _ _ _ _ (mkF m 102 #[.val (.int i0), .val (.int i1), .val (.int i2), .val (.int i3), .val (.int i4), .val (.int (3 : Int32)), .val (.ref ar), .val (.long s3), .second, .val (.double ex), .second, .val (.double got), .second] [(.double ex), (.double got)])
    refine Go.on (fun _ k => XS.dcmpS X27.here hx rfl (hb hby at_102) rfl rfl k) ?_
    show Go _ _ _ _ _ _ _ _ (mkF m 103 #[.val (.int i0), .val (.int i1), .val (.int i2), .val (.int i3), .val (.int i4), .val (.int (3 : Int32)), .val (.ref ar), .val (.long s3), .second, .val (.double ex), .second, .val (.double got), .second] [(.int (cmpValue (FP.dcmp got ex) .l))])
    suffices hJ29 : ∀ (v28 : Int32), v28 = (if (cmpValue (FP.dcmp got ex) .l) = (0 : Int32) then (1 : Int32) else (0 : Int32)) → Go p e below s K1 K2 QQ T27 (mkF m 111 #[.val (.int i0), .val (.int i1), .val (.int i2), .val (.int i3), .val (.int i4), .val (.int (3 : Int32)), .val (.ref ar), .val (.long s3), .second, .val (.double ex), .second, .val (.double got), .second] [(.int v28)]) by
      by_cases hc30 : (cmpValue (FP.dcmp got ex) .l) = (0 : Int32)
      · -- pc 103 yes
        refine Go.on (fun _ k => XS.ifNo X27.here hx rfl (hb hby at_103) rfl ((if0 _ _).trans (teq hc30).2) k) ?_
        show Go _ _ _ _ _ _ _ _ (mkF m 106 #[.val (.int i0), .val (.int i1), .val (.int i2), .val (.int i3), .val (.int i4), .val (.int (3 : Int32)), .val (.ref ar), .val (.long s3), .second, .val (.double ex), .second, .val (.double got), .second] [])
        refine Go.on (fun _ k => XS.iconst X27.here hx rfl (hb hby at_106) k) ?_
        show Go _ _ _ _ _ _ _ _ (mkF m 107 #[.val (.int i0), .val (.int i1), .val (.int i2), .val (.int i3), .val (.int i4), .val (.int (3 : Int32)), .val (.ref ar), .val (.long s3), .second, .val (.double ex), .second, .val (.double got), .second] [(.int (1 : Int32))])
        refine Go.on (fun _ k => XS.goto X27.here hx rfl (pc0 := 107) (pc' := 111) rfl (hb hby at_107) (by decide) (by decide) k) ?_
        show Go _ _ _ _ _ _ _ _ (mkF m 111 #[.val (.int i0), .val (.int i1), .val (.int i2), .val (.int i3), .val (.int i4), .val (.int (3 : Int32)), .val (.ref ar), .val (.long s3), .second, .val (.double ex), .second, .val (.double got), .second] [(.int (1 : Int32))])
        exact hJ29 _ (by rw [if_pos hc30])
      · -- pc 103 no
        refine Go.on (fun _ k => XS.ifYes X27.here hx rfl (pc0 := 103) (pc' := 110) rfl (hb hby at_103) rfl ((if0 _ _).trans (feq hc30).2) (by decide) (by decide) k) ?_
        show Go _ _ _ _ _ _ _ _ (mkF m 110 #[.val (.int i0), .val (.int i1), .val (.int i2), .val (.int i3), .val (.int i4), .val (.int (3 : Int32)), .val (.ref ar), .val (.long s3), .second, .val (.double ex), .second, .val (.double got), .second] [])
        refine Go.on (fun _ k => XS.iconst X27.here hx rfl (hb hby at_110) k) ?_
        show Go _ _ _ _ _ _ _ _ (mkF m 111 #[.val (.int i0), .val (.int i1), .val (.int i2), .val (.int i3), .val (.int i4), .val (.int (3 : Int32)), .val (.ref ar), .val (.long s3), .second, .val (.double ex), .second, .val (.double got), .second] [(.int (0 : Int32))])
        exact hJ29 _ (by rw [if_neg hc30])
    intro v28 hv28
    refine Go.retN X27 hx (t := .boolean) Bd.returns (by simp) (hb hby at_111) ?_ (by rw [hK1]; decide) (by rw [hK2]; decide)
    rw [e27, ← hQQ]
    have hres : v28 = 1 := own_pure3 hs1 hs2 hs3 hex hgot hv28
    rw [hres]
    exact ⟨rfl, N27⟩
  · -- length 4
    subst hl
    show Go _ _ _ _ _ _ _ _ (mkF m 9 #[.val (.int i0), .val (.int i1), .val (.int i2), .val (.int i3), .val (.int i4), .val (.int (4 : Int32)), .unset, .unset, .unset, .unset, .unset, .unset, .unset] [(.int (4 : Int32))])
    obtain ⟨T31, h31, k_ar, X31, e31, E31, A31, st31⟩ := newP X0 hx hZ (hw _ (List.mem_of_getElem? (i := 0) rfl)) e0 (g := (mkF m 9 #[.val (.int i0), .val (.int i1), .val (.int i2), .val (.int i3), .val (.int i4), .val (.int (4 : Int32)), .unset, .unset, .unset, .unset, .unset, .unset, .unset] [(.int (4 : Int32))])) rfl (hb hby at_9) rfl (by decide) (cap := 4) (by decide) (by decide) (by decide) (by decide)
    obtain ⟨ar, g31⟩ : ∃ z, z = h0.size := ⟨_, rfl⟩
    have g_ar : n0 ≤ ar := Nat.le_trans ZZ (Nat.le_of_eq g31.symm)
    rw [← g31] at A31 st31
    replace ZZ := Nat.le_trans ZZ E31.1
    have V_ar : Arv Z h31 ar k_ar .double (4 : Int32) [(.double (0 : UInt64)), (.double (0 : UInt64)), (.double (0 : UInt64)), (.double (0 : UInt64))] (.double (0 : UInt64)) := (Arv.new A31 (by decide)).pad (pad_rep [] (.double (0 : UInt64)) 4)
    refine Go.on st31 ?_
    show Go _ _ _ _ _ _ _ _ (mkF m 11 #[.val (.int i0), .val (.int i1), .val (.int i2), .val (.int i3), .val (.int i4), .val (.int (4 : Int32)), .unset, .unset, .unset, .unset, .unset, .unset, .unset] [(.ref ar)])
    refine Go.on (fun _ k => XS.astore X31.here hx rfl (hb hby at_11) rfl rfl (l' := #[.val (.int i0), .val (.int i1), .val (.int i2), .val (.int i3), .val (.int i4), .val (.int (4 : Int32)), .val (.ref ar), .unset, .unset, .unset, .unset, .unset, .unset]) rfl k) ?_
    show Go _ _ _ _ _ _ _ _ (mkF m 13 #[.val (.int i0), .val (.int i1), .val (.int i2), .val (.int i3), .val (.int i4), .val (.int (4 : Int32)), .val (.ref ar), .unset, .unset, .unset, .unset, .unset, .unset] [])
    refine Go.on (fun _ k => XS.iloadN X31.here hx rfl (hb hby at_13) rfl k) ?_
    show Go _ _ _ _ _ _ _ _ (mkF m 14 #[.val (.int i0), .val (.int i1), .val (.int i2), .val (.int i3), .val (.int i4), .val (.int (4 : Int32)), .val (.ref ar), .unset, .unset, .unset, .unset, .unset, .unset] [(.int i1)])
    refine Go.on (fun _ k => XS.i2l X31.here hx rfl (hb hby at_14) rfl k) ?_
    show Go _ _ _ _ _ _ _ _ (mkF m 15 #[.val (.int i0), .val (.int i1), .val (.int i2), .val (.int i3), .val (.int i4), .val (.int (4 : Int32)), .val (.ref ar), .unset, .unset, .unset, .unset, .unset, .unset] [(.long (i1.toInt64))])
    refine Go.on (fun _ k => XS.lstore X31.here hx rfl (hb hby at_15) rfl (l' := #[.val (.int i0), .val (.int i1), .val (.int i2), .val (.int i3), .val (.int i4), .val (.int (4 : Int32)), .val (.ref ar), .val (.long (i1.toInt64)), .second, .unset, .unset, .unset, .unset]) rfl k) ?_
    show Go _ _ _ _ _ _ _ _ (mkF m 17 #[.val (.int i0), .val (.int i1), .val (.int i2), .val (.int i3), .val (.int i4), .val (.int (4 : Int32)), .val (.ref ar), .val (.long (i1.toInt64)), .second, .unset, .unset, .unset, .unset] [])
    generalize hs1 : (i1.toInt64) = s1
    show Go _ _ _ _ _ _ _ _ (mkF m 17 #[.val (.int i0), .val (.int i1), .val (.int i2), .val (.int i3), .val (.int i4), .val (.int (4 : Int32)), .val (.ref ar), .val (.long s1), .second, .unset, .unset, .unset, .unset] [])
    refine Go.on (fun _ k => XS.aload X31.here hx rfl (hb hby at_17) rfl rfl k) ?_
    show Go _ _ _ _ _ _ _ _ (mkF m 19 #[.val (.int i0), .val (.int i1), .val (.int i2), .val (.int i3), .val (.int i4), .val (.int (4 : Int32)), .val (.ref ar), .val (.long s1), .second, .unset, .unset, .unset, .unset] [(.ref ar)])
    refine Go.on (fun _ k => XS.iconst X31.here hx rfl (hb hby at_19) k) ?_
    show Go _ _ _ _ _ _ _ _ (mkF m 20 #[.val (.int i0), .val (.int i1), .val (.int i2), .val (.int i3), .val (.int i4), .val (.int (4 : Int32)), .val (.ref ar), .val (.long s1), .second, .unset, .unset, .unset, .unset] [(.int (0 : Int32)), (.ref ar)])
    refine Go.on (fun _ k => XS.iloadN X31.here hx rfl (hb hby at_20) rfl k) ?_
    show Go _ _ _ _ _ _ _ _ (mkF m 21 #[.val (.int i0), .val (.int i1), .val (.int i2), .val (.int i3), .val (.int i4), .val (.int (4 : Int32)), .val (.ref ar), .val (.long s1), .second, .unset, .unset, .unset, .unset] [(.int i1), (.int (0 : Int32)), (.ref ar)])
    refine Go.on (fun _ k => XS.i2dS X31.here hx rfl (hb hby at_21) rfl rfl k) ?_
    show Go _ _ _ _ _ _ _ _ (mkF m 22 #[.val (.int i0), .val (.int i1), .val (.int i2), .val (.int i3), .val (.int i4), .val (.int (4 : Int32)), .val (.ref ar), .val (.long s1), .second, .unset, .unset, .unset, .unset] [(.double (FP.i2d i1)), (.int (0 : Int32)), (.ref ar)])
    obtain ⟨cl32, Ar32, q32, S32, N32n, H32, G32⟩ := id V_ar
    have hin32 : ¬ ((0 : Int32) < 0 ∨ cl32.slots.size ≤ ((0 : Int32)).toNatClampNeg) := inb_of S32 ⟨by decide, by decide⟩
    obtain ⟨T32, h32, X32, e32, W32, st32⟩ := stD X31 hx hZ e31 Ar32 (j := (0 : Int32)) hin32 (g := (mkF m 22 #[.val (.int i0), .val (.int i1), .val (.int i2), .val (.int i3), .val (.int i4), .val (.int (4 : Int32)), .val (.ref ar), .val (.long s1), .second, .unset, .unset, .unset, .unset] [(.double (FP.i2d i1)), (.int (0 : Int32)), (.ref ar)])) rfl rfl (hb hby at_22)
    replace V_ar := Arv.set Ar32 q32 S32 N32n H32 G32 rfl W32 0 rfl (Nat.le_of_ble_eq_true rfl)
    refine Go.on st32 ?_
    have N32 := Fr.snoc X32 N0 g_ar
    replace ZZ := Nat.le_trans ZZ (Keep.of_wr W32).1
    change Arv Z h32 ar k_ar .double (4 : Int32) [(.double (FP.i2d i1)), (.double (0 : UInt64)), (.double (0 : UInt64)), (.double (0 : UInt64))] (.double (0 : UInt64)) at V_ar
    show Go _ _ _ _ _ _ _ _ (mkF m 23 #[.val (.int i0), .val (.int i1), .val (.int i2), .val (.int i3), .val (.int i4), .val (.int (4 : Int32)), .val (.ref ar), .val (.long s1), .second, .unset, .unset, .unset, .unset] [])
    refine Go.on (fun _ k => XS.iload X32.here hx rfl (hb hby at_23) rfl k) ?_
    show Go _ _ _ _ _ _ _ _ (mkF m 25 #[.val (.int i0), .val (.int i1), .val (.int i2), .val (.int i3), .val (.int i4), .val (.int (4 : Int32)), .val (.ref ar), .val (.long s1), .second, .unset, .unset, .unset, .unset] [(.int (4 : Int32))])
    refine Go.on (fun _ k => XS.iconst X32.here hx rfl (hb hby at_25) k) ?_
    show Go _ _ _ _ _ _ _ _ (mkF m 26 #[.val (.int i0), .val (.int i1), .val (.int i2), .val (.int i3), .val (.int i4), .val (.int (4 : Int32)), .val (.ref ar), .val (.long s1), .second, .unset, .unset, .unset, .unset] [(.int (1 : Int32)), (.int (4 : Int32))])
    have hc33 : (1 : Int32) < (4 : Int32) := by decide
    refine Go.on (fun _ k => XS.icmpNo X32.here hx rfl (hb hby at_26) rfl (tlt hc33).2.2.2 k) ?_
    show Go _ _ _ _ _ _ _ _ (mkF m 29 #[.val (.int i0), .val (.int i1), .val (.int i2), .val (.int i3), .val (.int i4), .val (.int (4 : Int32)), .val (.ref ar), .val (.long s1), .second, .unset, .unset, .unset, .unset] [])
    refine Go.on (fun _ k => XS.aload X32.here hx rfl (hb hby at_29) rfl rfl k) ?_
    show Go _ _ _ _ _ _ _ _ (mkF m 31 #[.val (.int i0), .val (.int i1), .val (.int i2), .val (.int i3), .val (.int i4), .val (.int (4 : Int32)), .val (.ref ar), .val (.long s1), .second, .unset, .unset, .unset, .unset] [(.ref ar)])
    refine Go.on (fun _ k => XS.iconst X32.here hx rfl (hb hby at_31) k) ?_
    show Go _ _ _ _ _ _ _ _ (mkF m 32 #[.val (.int i0), .val (.int i1), .val (.int i2), .val (.int i3), .val (.int i4), .val (.int (4 : Int32)), .val (.ref ar), .val (.long s1), .second, .unset, .unset, .unset, .unset] [(.int (1 : Int32)), (.ref ar)])
    refine Go.on (fun _ k => XS.iloadN X32.here hx rfl (hb hby at_32) rfl k) ?_
    show Go _ _ _ _ _ _ _ _ (mkF m 33 #[.val (.int i0), .val (.int i1), .val (.int i2), .val (.int i3), .val (.int i4), .val (.int (4 : Int32)), .val (.ref ar), .val (.long s1), .second, .unset, .unset, .unset, .unset] [(.int i2), (.int (1 : Int32)), (.ref ar)])
    refine Go.on (fun _ k => XS.i2dS X32.here hx rfl (hb hby at_33) rfl rfl k) ?_
    show Go _ _ _ _ _ _ _ _ (mkF m 34 #[.val (.int i0), .val (.int i1), .val (.int i2), .val (.int i3), .val (.int i4), .val (.int (4 : Int32)), .val (.ref ar), .val (.long s1), .second, .unset, .unset, .unset, .unset] [(.double (FP.i2d i2)), (.int (1 : Int32)), (.ref ar)])
    obtain ⟨cl34, Ar34, q34, S34, N34n, H34, G34⟩ := id V_ar
    have hin34 : ¬ ((1 : Int32) < 0 ∨ cl34.slots.size ≤ ((1 : Int32)).toNatClampNeg) := inb_of S34 ⟨by decide, by decide⟩
    obtain ⟨T34, h34, X34, e34, W34, st34⟩ := stD X32 hx hZ e32 Ar34 (j := (1 : Int32)) hin34 (g := (mkF m 34 #[.val (.int i0), .val (.int i1), .val (.int i2), .val (.int i3), .val (.int i4), .val (.int (4 : Int32)), .val (.ref ar), .val (.long s1), .second, .unset, .unset, .unset, .unset] [(.double (FP.i2d i2)), (.int (1 : Int32)), (.ref ar)])) rfl rfl (hb hby at_34)
    replace V_ar := Arv.set Ar34 q34 S34 N34n H34 G34 rfl W34 1 rfl (Nat.le_of_ble_eq_true rfl)
    refine Go.on st34 ?_
    have N34 := Fr.snoc X34 N32 g_ar
    replace ZZ := Nat.le_trans ZZ (Keep.of_wr W34).1
    change Arv Z h34 ar k_ar .double (4 : Int32) [(.double (FP.i2d i1)), (.double (FP.i2d i2)), (.double (0 : UInt64)), (.double (0 : UInt64))] (.double (0 : UInt64)) at V_ar
    show Go _ _ _ _ _ _ _ _ (mkF m 35 #[.val (.int i0), .val (.int i1), .val (.int i2), .val (.int i3), .val (.int i4), .val (.int (4 : Int32)), .val (.ref ar), .val (.long s1), .second, .unset, .unset, .unset, .unset] [])
    refine Go.on (fun _ k => XS.lload X34.here hx rfl (hb hby at_35) rfl k) ?_
    show Go _ _ _ _ _ _ _ _ (mkF m 37 #[.val (.int i0), .val (.int i1), .val (.int i2), .val (.int i3), .val (.int i4), .val (.int (4 : Int32)), .val (.ref ar), .val (.long s1), .second, .unset, .unset, .unset, .unset] [(.long s1)])
    refine Go.on (fun _ k => XS.iloadN X34.here hx rfl (hb hby at_37) rfl k) ?_
    show Go _ _ _ _ _ _ _ _ (mkF m 38 #[.val (.int i0), .val (.int i1), .val (.int i2), .val (.int i3), .val (.int i4), .val (.int (4 : Int32)), .val (.ref ar), .val (.long s1), .second, .unset, .unset, .unset, .unset] [(.int i2), (.long s1)])
    refine Go.on (fun _ k => XS.i2l X34.here hx rfl (hb hby at_38) rfl k) ?_
    show Go _ _ _ _ _ _ _ _ (mkF m 39 #[.val (.int i0), .val (.int i1), .val (.int i2), .val (.int i3), .val (.int i4), .val (.int (4 : Int32)), .val (.ref ar), .val (.long s1), .second, .unset, .unset, .unset, .unset] [(.long (i2.toInt64)), (.long s1)])
    refine Go.on (fun _ k => XS.ladd X34.here hx rfl (hb hby at_39) rfl k) ?_
    show Go _ _ _ _ _ _ _ _ (mkF m 40 #[.val (.int i0), .val (.int i1), .val (.int i2), .val (.int i3), .val (.int i4), .val (.int (4 : Int32)), .val (.ref ar), .val (.long s1), .second, .unset, .unset, .unset, .unset] [(.long (s1 + (i2.toInt64)))])
    refine Go.on (fun _ k => XS.lstore X34.here hx rfl (hb hby at_40) rfl (l' := #[.val (.int i0), .val (.int i1), .val (.int i2), .val (.int i3), .val (.int i4), .val (.int (4 : Int32)), .val (.ref ar), .val (.long (s1 + (i2.toInt64))), .second, .unset, .unset, .unset, .unset]) rfl k) ?_
    show Go _ _ _ _ _ _ _ _ (mkF m 42 #[.val (.int i0), .val (.int i1), .val (.int i2), .val (.int i3), .val (.int i4), .val (.int (4 : Int32)), .val (.ref ar), .val (.long (s1 + (i2.toInt64))), .second, .unset, .unset, .unset, .unset] [])
    generalize hs2 : (s1 + (i2.toInt64)) = s2
    show Go _ _ _ _ _ _ _ _ (mkF m 42 #[.val (.int i0), .val (.int i1), .val (.int i2), .val (.int i3), .val (.int i4), .val (.int (4 : Int32)), .val (.ref ar), .val (.long s2), .second, .unset, .unset, .unset, .unset] [])
    refine Go.on (fun _ k => XS.iload X34.here hx rfl (hb hby at_42) rfl k) ?_
    show Go _ _ _ _ _ _ _ _ (mkF m 44 #[.val (.int i0), .val (.int i1), .val (.int i2), .val (.int i3), .val (.int i4), .val (.int (4 : Int32)), .val (.ref ar), .val (.long s2), .second, .unset, .unset, .unset, .unset] [(.int (4 : Int32))])
    refine Go.on (fun _ k => XS.iconst X34.here hx rfl (hb hby at_44) k) ?_
    show Go _ _ _ _ _ _ _ _ (mkF m 45 #[.val (.int i0), .val (.int i1), .val (.int i2), .val (.int i3), .val (.int i4), .val (.int (4 : Int32)), .val (.ref ar), .val (.long s2), .second, .unset, .unset, .unset, .unset] [(.int (2 : Int32)), (.int (4 : Int32))])
    have hc35 : (2 : Int32) < (4 : Int32) := by decide
    refine Go.on (fun _ k => XS.icmpNo X34.here hx rfl (hb hby at_45) rfl (tlt hc35).2.2.2 k) ?_
    show Go _ _ _ _ _ _ _ _ (mkF m 48 #[.val (.int i0), .val (.int i1), .val (.int i2), .val (.int i3), .val (.int i4), .val (.int (4 : Int32)), .val (.ref ar), .val (.long s2), .second, .unset, .unset, .unset, .unset] [])
    refine Go.on (fun _ k => XS.aload X34.here hx rfl (hb hby at_48) rfl rfl k) ?_
    show Go _ _ _ _ _ _ _ _ (mkF m 50 #[.val (.int i0), .val (.int i1), .val (.int i2), .val (.int i3), .val (.int i4), .val (.int (4 : Int32)), .val (.ref ar), .val (.long s2), .second, .unset, .unset, .unset, .unset] [(.ref ar)])
    refine Go.on (fun _ k => XS.iconst X34.here hx rfl (hb hby at_50) k) ?_
    show Go _ _ _ _ _ _ _ _ (mkF m 51 #[.val (.int i0), .val (.int i1), .val (.int i2), .val (.int i3), .val (.int i4), .val (.int (4 : Int32)), .val (.ref ar), .val (.long s2), .second, .unset, .unset, .unset, .unset] [(.int (2 : Int32)), (.ref ar)])
    refine Go.on (fun _ k => XS.iloadN X34.here hx rfl (hb hby at_51) rfl k) ?_
    show Go _ _ _ _ _ _ _ _ (mkF m 52 #[.val (.int i0), .val (.int i1), .val (.int i2), .val (.int i3), .val (.int i4), .val (.int (4 : Int32)), .val (.ref ar), .val (.long s2), .second, .unset, .unset, .unset, .unset] [(.int i3), (.int (2 : Int32)), (.ref ar)])
    refine Go.on (fun _ k => XS.i2dS X34.here hx rfl (hb hby at_52) rfl rfl k) ?_
    show Go _ _ _ _ _ _ _ _ (mkF m 53 #[.val (.int i0), .val (.int i1), .val (.int i2), .val (.int i3), .val (.int i4), .val (.int (4 : Int32)), .val (.ref ar), .val (.long s2), .second, .unset, .unset, .unset, .unset] [(.double (FP.i2d i3)), (.int (2 : Int32)), (.ref ar)])
    obtain ⟨cl36, Ar36, q36, S36, N36n, H36, G36⟩ := id V_ar
    have hin36 : ¬ ((2 : Int32) < 0 ∨ cl36.slots.size ≤ ((2 : Int32)).toNatClampNeg) := inb_of S36 ⟨by decide, by decide⟩
    obtain ⟨T36, h36, X36, e36, W36, st36⟩ := stD X34 hx hZ e34 Ar36 (j := (2 : Int32)) hin36 (g := (mkF m 53 #[.val (.int i0), .val (.int i1), .val (.int i2), .val (.int i3), .val (.int i4), .val (.int (4 : Int32)), .val (.ref ar), .val (.long s2), .second, .unset, .unset, .unset, .unset] [(.double (FP.i2d i3)), (.int (2 : Int32)), (.ref ar)])) rfl rfl (hb hby at_53)
    replace V_ar := Arv.set Ar36 q36 S36 N36n H36 G36 rfl W36 2 rfl (Nat.le_of_ble_eq_true rfl)
    refine Go.on st36 ?_
    have N36 := Fr.snoc X36 N34 g_ar
    replace ZZ := Nat.le_trans ZZ (Keep.of_wr W36).1
    change Arv Z h36 ar k_ar .double (4 : Int32) [(.double (FP.i2d i1)), (.double (FP.i2d i2)), (.double (FP.i2d i3)), (.double (0 : UInt64))] (.double (0 : UInt64)) at V_ar
    show Go _ _ _ _ _ _ _ _ (mkF m 54 #[.val (.int i0), .val (.int i1), .val (.int i2), .val (.int i3), .val (.int i4), .val (.int (4 : Int32)), .val (.ref ar), .val (.long s2), .second, .unset, .unset, .unset, .unset] [])
    refine Go.on (fun _ k => XS.lload X36.here hx rfl (hb hby at_54) rfl k) ?_
    show Go _ _ _ _ _ _ _ _ (mkF m 56 #[.val (.int i0), .val (.int i1), .val (.int i2), .val (.int i3), .val (.int i4), .val (.int (4 : Int32)), .val (.ref ar), .val (.long s2), .second, .unset, .unset, .unset, .unset] [(.long s2)])
    refine Go.on (fun _ k => XS.iloadN X36.here hx rfl (hb hby at_56) rfl k) ?_
    show Go _ _ _ _ _ _ _ _ (mkF m 57 #[.val (.int i0), .val (.int i1), .val (.int i2), .val (.int i3), .val (.int i4), .val (.int (4 : Int32)), .val (.ref ar), .val (.long s2), .second, .unset, .unset, .unset, .unset] [(.int i3), (.long s2)])
    refine Go.on (fun _ k => XS.i2l X36.here hx rfl (hb hby at_57) rfl k) ?_
    show Go _ _ _ _ _ _ _ _ (mkF m 58 #[.val (.int i0), .val (.int i1), .val (.int i2), .val (.int i3), .val (.int i4), .val (.int (4 : Int32)), .val (.ref ar), .val (.long s2), .second, .unset, .unset, .unset, .unset] [(.long (i3.toInt64)), (.long s2)])
    refine Go.on (fun _ k => XS.ladd X36.here hx rfl (hb hby at_58) rfl k) ?_
    show Go _ _ _ _ _ _ _ _ (mkF m 59 #[.val (.int i0), .val (.int i1), .val (.int i2), .val (.int i3), .val (.int i4), .val (.int (4 : Int32)), .val (.ref ar), .val (.long s2), .second, .unset, .unset, .unset, .unset] [(.long (s2 + (i3.toInt64)))])
    refine Go.on (fun _ k => XS.lstore X36.here hx rfl (hb hby at_59) rfl (l' := #[.val (.int i0), .val (.int i1), .val (.int i2), .val (.int i3), .val (.int i4), .val (.int (4 : Int32)), .val (.ref ar), .val (.long (s2 + (i3.toInt64))), .second, .unset, .unset, .unset, .unset]) rfl k) ?_
    show Go _ _ _ _ _ _ _ _ (mkF m 61 #[.val (.int i0), .val (.int i1), .val (.int i2), .val (.int i3), .val (.int i4), .val (.int (4 : Int32)), .val (.ref ar), .val (.long (s2 + (i3.toInt64))), .second, .unset, .unset, .unset, .unset] [])
    generalize hs3 : (s2 + (i3.toInt64)) = s3
    show Go _ _ _ _ _ _ _ _ (mkF m 61 #[.val (.int i0), .val (.int i1), .val (.int i2), .val (.int i3), .val (.int i4), .val (.int (4 : Int32)), .val (.ref ar), .val (.long s3), .second, .unset, .unset, .unset, .unset] [])
    refine Go.on (fun _ k => XS.iload X36.here hx rfl (hb hby at_61) rfl k) ?_
    show Go _ _ _ _ _ _ _ _ (mkF m 63 #[.val (.int i0), .val (.int i1), .val (.int i2), .val (.int i3), .val (.int i4), .val (.int (4 : Int32)), .val (.ref ar), .val (.long s3), .second, .unset, .unset, .unset, .unset] [(.int (4 : Int32))])
    refine Go.on (fun _ k => XS.iconst X36.here hx rfl (hb hby at_63) k) ?_
    show Go _ _ _ _ _ _ _ _ (mkF m 64 #[.val (.int i0), .val (.int i1), .val (.int i2), .val (.int i3), .val (.int i4), .val (.int (4 : Int32)), .val (.ref ar), .val (.long s3), .second, .unset, .unset, .unset, .unset] [(.int (3 : Int32)), (.int (4 : Int32))])
    have hc37 : (3 : Int32) < (4 : Int32) := by decide
    refine Go.on (fun _ k => XS.icmpNo X36.here hx rfl (hb hby at_64) rfl (tlt hc37).2.2.2 k) ?_
    show Go _ _ _ _ _ _ _ _ (mkF m 67 #[.val (.int i0), .val (.int i1), .val (.int i2), .val (.int i3), .val (.int i4), .val (.int (4 : Int32)), .val (.ref ar), .val (.long s3), .second, .unset, .unset, .unset, .unset] [])
    refine Go.on (fun _ k => XS.aload X36.here hx rfl (hb hby at_67) rfl rfl k) ?_
    show Go _ _ _ _ _ _ _ _ (mkF m 69 #[.val (.int i0), .val (.int i1), .val (.int i2), .val (.int i3), .val (.int i4), .val (.int (4 : Int32)), .val (.ref ar), .val (.long s3), .second, .unset, .unset, .unset, .unset] [(.ref ar)])
    refine Go.on (fun _ k => XS.iconst X36.here hx rfl (hb hby at_69) k) ?_
    show Go _ _ _ _ _ _ _ _ (mkF m 70 #[.val (.int i0), .val (.int i1), .val (.int i2), .val (.int i3), .val (.int i4), .val (.int (4 : Int32)), .val (.ref ar), .val (.long s3), .second, .unset, .unset, .unset, .unset] [(.int (3 : Int32)), (.ref ar)])
    refine Go.on (fun _ k => XS.iload X36.here hx rfl (hb hby at_70) rfl k) ?_
    show Go _ _ _ _ _ _ _ _ (mkF m 72 #[.val (.int i0), .val (.int i1), .val (.int i2), .val (.int i3), .val (.int i4), .val (.int (4 : Int32)), .val (.ref ar), .val (.long s3), .second, .unset, .unset, .unset, .unset] [(.int i4), (.int (3 : Int32)), (.ref ar)])
    refine Go.on (fun _ k => XS.i2dS X36.here hx rfl (hb hby at_72) rfl rfl k) ?_
    show Go _ _ _ _ _ _ _ _ (mkF m 73 #[.val (.int i0), .val (.int i1), .val (.int i2), .val (.int i3), .val (.int i4), .val (.int (4 : Int32)), .val (.ref ar), .val (.long s3), .second, .unset, .unset, .unset, .unset] [(.double (FP.i2d i4)), (.int (3 : Int32)), (.ref ar)])
    obtain ⟨cl38, Ar38, q38, S38, N38n, H38, G38⟩ := id V_ar
    have hin38 : ¬ ((3 : Int32) < 0 ∨ cl38.slots.size ≤ ((3 : Int32)).toNatClampNeg) := inb_of S38 ⟨by decide, by decide⟩
    obtain ⟨T38, h38, X38, e38, W38, st38⟩ := stD X36 hx hZ e36 Ar38 (j := (3 : Int32)) hin38 (g := (mkF m 73 #[.val (.int i0), .val (.int i1), .val (.int i2), .val (.int i3), .val (.int i4), .val (.int (4 : Int32)), .val (.ref ar), .val (.long s3), .second, .unset, .unset, .unset, .unset] [(.double (FP.i2d i4)), (.int (3 : Int32)), (.ref ar)])) rfl rfl (hb hby at_73)
    replace V_ar := Arv.set Ar38 q38 S38 N38n H38 G38 rfl W38 3 rfl (Nat.le_of_ble_eq_true rfl)
    refine Go.on st38 ?_
    have N38 := Fr.snoc X38 N36 g_ar
    replace ZZ := Nat.le_trans ZZ (Keep.of_wr W38).1
    change Arv Z h38 ar k_ar .double (4 : Int32) [(.double (FP.i2d i1)), (.double (FP.i2d i2)), (.double (FP.i2d i3)), (.double (FP.i2d i4))] (.double (0 : UInt64)) at V_ar
    show Go _ _ _ _ _ _ _ _ (mkF m 74 #[.val (.int i0), .val (.int i1), .val (.int i2), .val (.int i3), .val (.int i4), .val (.int (4 : Int32)), .val (.ref ar), .val (.long s3), .second, .unset, .unset, .unset, .unset] [])
    refine Go.on (fun _ k => XS.lload X38.here hx rfl (hb hby at_74) rfl k) ?_
    show Go _ _ _ _ _ _ _ _ (mkF m 76 #[.val (.int i0), .val (.int i1), .val (.int i2), .val (.int i3), .val (.int i4), .val (.int (4 : Int32)), .val (.ref ar), .val (.long s3), .second, .unset, .unset, .unset, .unset] [(.long s3)])
    refine Go.on (fun _ k => XS.iload X38.here hx rfl (hb hby at_76) rfl k) ?_
    show Go _ _ _ _ _ _ _ _ (mkF m 78 #[.val (.int i0), .val (.int i1), .val (.int i2), .val (.int i3), .val (.int i4), .val (.int (4 : Int32)), .val (.ref ar), .val (.long s3), .second, .unset, .unset, .unset, .unset] [(.int i4), (.long s3)])
    refine Go.on (fun _ k => XS.i2l X38.here hx rfl (hb hby at_78) rfl k) ?_
    show Go _ _ _ _ _ _ _ _ (mkF m 79 #[.val (.int i0), .val (.int i1), .val (.int i2), .val (.int i3), .val (.int i4), .val (.int (4 : Int32)), .val (.ref ar), .val (.long s3), .second, .unset, .unset, .unset, .unset] [(.long (i4.toInt64)), (.long s3)])
    refine Go.on (fun _ k => XS.ladd X38.here hx rfl (hb hby at_79) rfl k) ?_
    show Go _ _ _ _ _ _ _ _ (mkF m 80 #[.val (.int i0), .val (.int i1), .val (.int i2), .val (.int i3), .val (.int i4), .val (.int (4 : Int32)), .val (.ref ar), .val (.long s3), .second, .unset, .unset, .unset, .unset] [(.long (s3 + (i4.toInt64)))])
    refine Go.on (fun _ k => XS.lstore X38.here hx rfl (hb hby at_80) rfl (l' := #[.val (.int i0), .val (.int i1), .val (.int i2), .val (.int i3), .val (.int i4), .val (.int (4 : Int32)), .val (.ref ar), .val (.long (s3 + (i4.toInt64))), .second, .unset, .unset, .unset, .unset]) rfl k) ?_
    show Go _ _ _ _ _ _ _ _ (mkF m 82 #[.val (.int i0), .val (.int i1), .val (.int i2), .val (.int i3), .val (.int i4), .val (.int (4 : Int32)), .val (.ref ar), .val (.long (s3 + (i4.toInt64))), .second, .unset, .unset, .unset, .unset] [])
    generalize hs4 : (s3 + (i4.toInt64)) = s4
    show Go _ _ _ _ _ _ _ _ (mkF m 82 #[.val (.int i0), .val (.int i1), .val (.int i2), .val (.int i3), .val (.int i4), .val (.int (4 : Int32)), .val (.ref ar), .val (.long s4), .second, .unset, .unset, .unset, .unset] [])
    refine Go.on (fun _ k => XS.lload X38.here hx rfl (hb hby at_82) rfl k) ?_
    show Go _ _ _ _ _ _ _ _ (mkF m 84 #[.val (.int i0), .val (.int i1), .val (.int i2), .val (.int i3), .val (.int i4), .val (.int (4 : Int32)), .val (.ref ar), .val (.long s4), .second, .unset, .unset, .unset, .unset] [(.long s4)])
    refine Go.on (fun _ k => XS.l2dS X38.here hx rfl (hb hby at_84) rfl rfl k) ?_
    show Go _ _ _ _ _ _ _ _ (mkF m 85 #[.val (.int i0), .val (.int i1), .val (.int i2), .val (.int i3), .val (.int i4), .val (.int (4 : Int32)), .val (.ref ar), .val (.long s4), .second, .unset, .unset, .unset, .unset] [(.double (FP.l2d s4))])
    refine Go.on (fun _ k => XS.iload X38.here hx rfl (hb hby at_85) rfl k) ?_
    show Go _ _ _ _ _ _ _ _ (mkF m 87 #[.val (.int i0), .val (.int i1), .val (.int i2), .val (.int i3), .val (.int i4), .val (.int (4 : Int32)), .val (.ref ar), .val (.long s4), .second, .unset, .unset, .unset, .unset] [(.int (4 : Int32)), (.double (FP.l2d s4))])
    refine Go.on (fun _ k => XS.i2dS X38.here hx rfl (hb hby at_87) rfl rfl k) ?_
    show Go _ _ _ _ _ _ _ _ (mkF m 88 #[.val (.int i0), .val (.int i1), .val (.int i2), .val (.int i3), .val (.int i4), .val (.int (4 : Int32)), .val (.ref ar), .val (.long s4), .second, .unset, .unset, .unset, .unset] [(.double (FP.i2d (4 : Int32))), (.double (FP.l2d s4))])
    refine Go.on (fun _ k => XS.ddivS X38.here hx rfl (hb hby at_88) rfl (own_nnd _ _ (by decide)) rfl k) ?_
    show Go _ _ _ _ _ _ _ _ (mkF m 89 #[.val (.int i0), .val (.int i1), .val (.int i2), .val (.int i3), .val (.int i4), .val (.int (4 : Int32)), .val (.ref ar), .val (.long s4), .second, .unset, .unset, .unset, .unset] [(.double (FP.ddiv (FP.l2d s4) (FP.i2d (4 : Int32))))])
    refine Go.on (fun _ k => XS.dstore X38.here hx rfl (hb hby at_89) rfl (l' := #[.val (.int i0), .val (.int i1), .val (.int i2), .val (.int i3), .val (.int i4), .val (.int (4 : Int32)), .val (.ref ar), .val (.long s4), .second, .val (.double (FP.ddiv (FP.l2d s4) (FP.i2d (4 : Int32)))), .second, .unset, .unset]) rfl k) ?_
    show Go _ _ _ _ _ _ _ _ (mkF m 91 #[.val (.int i0), .val (.int i1), .val (.int i2), .val (.int i3), .val (.int i4), .val (.int (4 : Int32)), .val (.ref ar), .val (.long s4), .second, .val (.double (FP.ddiv (FP.l2d s4) (FP.i2d (4 : Int32)))), .second, .unset, .unset] [])
    generalize hex : (FP.ddiv (FP.l2d s4) (FP.i2d (4 : Int32))) = ex
    show Go _ _ _ _ _ _ _ _ (mkF m 91 #[.val (.int i0), .val (.int i1), .val (.int i2), .val (.int i3), .val (.int i4), .val (.int (4 : Int32)), .val (.ref ar), .val (.long s4), .second, .val (.double ex), .second, .unset, .unset] [])
    refine Go.on (fun _ k => XS.aload X38.here hx rfl (hb hby at_91) rfl rfl k) ?_
    show Go _ _ _ _ _ _ _ _ (mkF m 93 #[.val (.int i0), .val (.int i1), .val (.int i2), .val (.int i3), .val (.int i4), .val (.int (4 : Int32)), .val (.ref ar), .val (.long s4), .second, .val (.double ex), .second, .unset, .unset] [(.ref ar)])
    obtain ⟨_, _, ⟨T39, L39, k39, n39⟩, -, X39, ⟨Lc39, hQ39, l39, y39, z39⟩, st39⟩ := Jvm.LawKit.callS X38 hx (y := (⟨"com/example/driftswarm/driftswarm/analysis/Statistics", "mean", "([D)D"⟩ : MethodName)) hown (mvT hZ (hw _ (List.mem_of_getElem? (i := 1) rfl))) (mvT hZ (hw _ (List.mem_of_getElem? (i := 2) rfl))) (mvT hZ (hw _ (List.mem_of_getElem? (i := 3) rfl))) (mvT hZ (hw _ (List.mem_of_getElem? (i := 4) rfl))) (by decide) (backOf (W := 0) (rm1_4 l Z aw hw [] ar k_ar (FP.i2d i1) (FP.i2d i2) (FP.i2d i3) (FP.i2d i4) h38 n0 ZZ V_ar (own_m4 i1 i2 i3 i4).1 (own_m4 i1 i2 i3 i4).2.1 (own_m4 i1 i2 i3 i4).2.2.1 (own_m4 i1 i2 i3 i4).2.2.2.1 (own_m4 i1 i2 i3 i4).2.2.2.2.1) hZ (hw _ (List.mem_of_getElem? (i := 4) rfl)) (hw _ (List.mem_of_getElem? (i := 3) rfl)) (by decide) (by decide)) (g := (mkF m 93 #[.val (.int i0), .val (.int i1), .val (.int i2), .val (.int i3), .val (.int i4), .val (.int (4 : Int32)), .val (.ref ar), .val (.long s4), .second, .val (.double ex), .second, .unset, .unset] [(.ref ar)])) rfl (by rw [hml]; rfl) (argsL := [(.ref ar)]) (rest := []) (lenOf pd_0 rfl) rfl (by show 2 * 0 + _ ≤ _; exact Nat.le_of_eq rfl) (hb hby at_93) (fun _ _ => ⟨rfl, e38, (by decide : 1 + 0 ≤ _), (by decide : 4 + 0 ≤ _)⟩)
    dsimp only [Pt.U, Pt.locs, Pt.cells, Pt.slots] at X39 l39 y39 z39 st39 hQ39
    subst l39 y39 z39
    obtain ⟨rfl, N39q, e39⟩ := hQ39
    have N39 := Fr.app N38 N39q
    refine Go.on st39 ?_
    show Go _ _ _ _ _ _ _ _ (mkF m 96 #[.val (.int i0), .val (.int i1), .val (.int i2), .val (.int i3), .val (.int i4), .val (.int (4 : Int32)), .val (.ref ar), .val (.long s4), .second, .val (.double ex), .second, .unset, .unset] [(.double (FP.ddiv (FP.dadd (FP.dadd (FP.dadd (FP.dadd (0 : UInt64) (FP.i2d i1)) (FP.i2d i2)) (FP.i2d i3)) (FP.i2d i4)) (FP.i2d (4 : Int32))))])
    generalize hgot : (FP.ddiv (FP.dadd (FP.dadd (FP.dadd (FP.dadd (0 : UInt64) (FP.i2d i1)) (FP.i2d i2)) (FP.i2d i3)) (FP.i2d i4)) (FP.i2d (4 : Int32))) = got
    show Go _ _ _ _ _ _ _ _ (mkF m 96 #[.val (.int i0), .val (.int i1), .val (.int i2), .val (.int i3), .val (.int i4), .val (.int (4 : Int32)), .val (.ref ar), .val (.long s4), .second, .val (.double ex), .second, .unset, .unset] [(.double got)])
    refine Go.on (fun _ k => XS.dstore X39.here hx rfl (hb hby at_96) rfl (l' := #[.val (.int i0), .val (.int i1), .val (.int i2), .val (.int i3), .val (.int i4), .val (.int (4 : Int32)), .val (.ref ar), .val (.long s4), .second, .val (.double ex), .second, .val (.double got), .second]) rfl k) ?_
    show Go _ _ _ _ _ _ _ _ (mkF m 98 #[.val (.int i0), .val (.int i1), .val (.int i2), .val (.int i3), .val (.int i4), .val (.int (4 : Int32)), .val (.ref ar), .val (.long s4), .second, .val (.double ex), .second, .val (.double got), .second] [])
    refine Go.on (fun _ k => XS.dload X39.here hx rfl (hb hby at_98) rfl k) ?_
    show Go _ _ _ _ _ _ _ _ (mkF m 100 #[.val (.int i0), .val (.int i1), .val (.int i2), .val (.int i3), .val (.int i4), .val (.int (4 : Int32)), .val (.ref ar), .val (.long s4), .second, .val (.double ex), .second, .val (.double got), .second] [(.double got)])
    refine Go.on (fun _ k => XS.dload X39.here hx rfl (hb hby at_100) rfl k) ?_
    show Go _ _ _ _ _ _ _ _ (mkF m 102 #[.val (.int i0), .val (.int i1), .val (.int i2), .val (.int i3), .val (.int i4), .val (.int (4 : Int32)), .val (.ref ar), .val (.long s4), .second, .val (.double ex), .second, .val (.double got), .second] [(.double ex), (.double got)])
    refine Go.on (fun _ k => XS.dcmpS X39.here hx rfl (hb hby at_102) rfl rfl k) ?_
    show Go _ _ _ _ _ _ _ _ (mkF m 103 #[.val (.int i0), .val (.int i1), .val (.int i2), .val (.int i3), .val (.int i4), .val (.int (4 : Int32)), .val (.ref ar), .val (.long s4), .second, .val (.double ex), .second, .val (.double got), .second] [(.int (cmpValue (FP.dcmp got ex) .l))])
    suffices hJ41 : ∀ (v40 : Int32), v40 = (if (cmpValue (FP.dcmp got ex) .l) = (0 : Int32) then (1 : Int32) else (0 : Int32)) → Go p e below s K1 K2 QQ T39 (mkF m 111 #[.val (.int i0), .val (.int i1), .val (.int i2), .val (.int i3), .val (.int i4), .val (.int (4 : Int32)), .val (.ref ar), .val (.long s4), .second, .val (.double ex), .second, .val (.double got), .second] [(.int v40)]) by
      by_cases hc42 : (cmpValue (FP.dcmp got ex) .l) = (0 : Int32)
      · -- pc 103 yes
        refine Go.on (fun _ k => XS.ifNo X39.here hx rfl (hb hby at_103) rfl ((if0 _ _).trans (teq hc42).2) k) ?_
        show Go _ _ _ _ _ _ _ _ (mkF m 106 #[.val (.int i0), .val (.int i1), .val (.int i2), .val (.int i3), .val (.int i4), .val (.int (4 : Int32)), .val (.ref ar), .val (.long s4), .second, .val (.double ex), .second, .val (.double got), .second] [])
        refine Go.on (fun _ k => XS.iconst X39.here hx rfl (hb hby at_106) k) ?_
        show Go _ _ _ _ _ _ _ _ (mkF m 107 #[.val (.int i0), .val (.int i1), .val (.int i2), .val (.int i3), .val (.int i4), .val (.int (4 : Int32)), .val (.ref ar), .val (.long s4), .second, .val (.double ex), .second, .val (.double got), .second] [(.int (1 : Int32))])
        refine Go.on (fun _ k => XS.goto X39.here hx rfl (pc0 := 107) (pc' := 111) rfl (hb hby at_107) (by decide) (by decide) k) ?_
        show Go _ _ _ _ _ _ _ _ (mkF m 111 #[.val (.int i0), .val (.int i1), .val (.int i2), .val (.int i3), .val (.int i4), .val (.int (4 : Int32)), .val (.ref ar), .val (.long s4), .second, .val (.double ex), .second, .val (.double got), .second] [(.int (1 : Int32))])
        exact hJ41 _ (by rw [if_pos hc42])
      · -- pc 103 no
        refine Go.on (fun _ k => XS.ifYes X39.here hx rfl (pc0 := 103) (pc' := 110) rfl (hb hby at_103) rfl ((if0 _ _).trans (feq hc42).2) (by decide) (by decide) k) ?_
        show Go _ _ _ _ _ _ _ _ (mkF m 110 #[.val (.int i0), .val (.int i1), .val (.int i2), .val (.int i3), .val (.int i4), .val (.int (4 : Int32)), .val (.ref ar), .val (.long s4), .second, .val (.double ex), .second, .val (.double got), .second] [])
        refine Go.on (fun _ k => XS.iconst X39.here hx rfl (hb hby at_110) k) ?_
        show Go _ _ _ _ _ _ _ _ (mkF m 111 #[.val (.int i0), .val (.int i1), .val (.int i2), .val (.int i3), .val (.int i4), .val (.int (4 : Int32)), .val (.ref ar), .val (.long s4), .second, .val (.double ex), .second, .val (.double got), .second] [(.int (0 : Int32))])
        exact hJ41 _ (by rw [if_neg hc42])
    intro v40 hv40
    refine Go.retN X39 hx (t := .boolean) Bd.returns (by simp) (hb hby at_111) ?_ (by rw [hK1]; decide) (by rw [hK2]; decide)
    rw [e39, ← hQQ]
    have hres : v40 = 1 := own_pure4 hs1 hs2 hs3 hs4 hex hgot hv40
    rw [hres]
    exact ⟨rfl, N39⟩
set_option maxRecDepth 65536 in
set_option maxHeartbeats 40000000 in
theorem comes_1 {Post : Tables → Env → Array Value → State → Outcome → State → Prop} (hpost : ∀ tb e args s v u, (limb_1_1.after args s (.returned v) u = true ∧ limb_1_2.after args s (.returned v) u = true ∧ True) → FrameEnd s (.returned v) u (Jvm.fieldLocs frame_1_writes args s ++ Jvm.arrayLocs frame_1_arrays args s ++ Jvm.staticLocs frame_1_statics s) 16 128 → Post tb e args s (.returned v) u) :
    ArmFor flags0 classFile x code maxLocals ret World_1 tables_1 room_1 Calls_1 rest_1 Pre_1 Post := by
  intro l hfl _ _ p e ha hc hk s m args below hf hA hF happ hP
  obtain ⟨hcalls, hrest, hpre⟩ := hP
  obtain ⟨-, -, -, hnamed, -, -, -, hat⟩ := (Spec.applies_iff hf).mp happ
  obtain ⟨hg, hn⟩ := and_e (Cond.before_iff.mp (show (Jvm.Cond.and given_1 narrow_1).before args s = true from hpre))
  obtain ⟨g0, r0⟩ := and_e hg
  obtain ⟨g1, r1⟩ := and_e r0
  obtain ⟨g2, r2⟩ := and_e r1
  obtain ⟨g3, r3⟩ := and_e r2
  obtain ⟨g4, g5⟩ := and_e r3
  obtain ⟨w0, w1, w2, w3, w4, rfl⟩ : ∃ w0 w1 w2 w3 w4 : Value, args = #[w0, w1, w2, w3, w4] := by
    have hs : args.size = 5 := by simpa [Cond.value, given_1] using g0
    obtain ⟨L⟩ := args
    match L, hs with
    | [w0, w1, w2, w3, w4], _ => exact ⟨w0, w1, w2, w3, w4, rfl⟩
  have hw := fun d (hd : d ∈ tables_1) => atoms_spec (ws := Jvm.Cond.code x code maxLocals ret :: tables_1) hat d (List.mem_cons_of_mem _ hd)
  have hfit : Fit s := fun {y c} hc i hi => by
    obtain ⟨ha, rfl⟩ := Array.getElem?_eq_some_iff.mp hc
    have q := List.all_eq_true.mp ((Array.all_eq_true_iff_forall_mem.mp hF) _ (Array.getElem_mem ha)) i (List.mem_range.mpr hi)
    simpa [Array.getElem?_eq_getElem hi] using q
  obtain ⟨i0, ei0⟩ := is_v g1
  obtain rfl : w0 = (.int i0) := Option.some.inj ei0
  obtain ⟨i1, ei1⟩ := is_v g2
  obtain rfl : w1 = (.int i1) := Option.some.inj ei1
  obtain ⟨i2, ei2⟩ := is_v g3
  obtain rfl : w2 = (.int i2) := Option.some.inj ei2
  obtain ⟨i3, ei3⟩ := is_v g4
  obtain rfl : w3 = (.int i3) := Option.some.inj ei3
  obtain ⟨i4, ei4⟩ := is_v g5
  obtain rfl : w4 = (.int i4) := Option.some.inj ei4
  obtain ⟨n, o, h1, h2, h3, _, L, rfl, ⟨rfl, N⟩, hq⟩ := rm0 l s _ hw tables_1 i0 i1 i2 i3 i4 s.heap s.heap.size (Nat.le_refl _) p e ha hc hk s m _ below hf ((Spec.applies_iff_loose hf).mp happ).1 ⟨rfl, State.Warmed39.refl s, rfl⟩ trivial
  refine ⟨n, _, h1, h2, h3, hpost _ _ _ _ _ _ ⟨Cond.after_iff.mpr rfl, Cond.after_iff.mpr (eq_i res_at (Term.int_eval (1)) rfl), trivial⟩ ⟨hq.1, hq.2.1, (hq.2.2.sift fun y hy => Or.inr (N y hy)).mono (by decide) (by decide)⟩⟩
theorem main_1_1 : Claimed_1_1 := comes_1 fun _ _ _ _ _ _ h hF => ⟨h.1, hF⟩
theorem main_1_2 : Claimed_1_2 := comes_1 fun _ _ _ _ _ _ h hF => ⟨h.2.1, hF⟩
end Jvm.Pilot.@@N@@
namespace Jvm.Pilot.@@N@@
open Jvm Jvm.ClassFile Sem Op Lib Jvm.Free Jvm.Stand Jvm.Pilot.@@N@@.Jvm.D
/-! MADE BY PROGRAM (witnessworld.py) out of the Statement's table words and the real class files: 11 classes; the members and pool entries that the words name. The judged class is class 1, her method 1. -/
namespace start1
open Jvm.ClassFile
def u (s : String) : CpInfo := .utf8 (stringToUtf16 s)
/-- a pool by its gaps: so many unusable entries, then the entry; so many at the end -/
def gap : Nat → List CpInfo → List CpInfo
  | 0, r => r
  | n + 1, r => .unusable :: gap n r
def poolList (es : List (Nat × CpInfo)) (last : Nat) : List CpInfo := es.foldr (fun e r => gap e.1 (e.2 :: r)) (gap last [])
def pool (es : List (Nat × CpInfo)) (last : Nat) : Array CpInfo := ⟨poolList es last⟩
def fileOf (pool : Array CpInfo) (this : Nat) (attrs : Array Attribute := #[]) (ms : Array MethodInfo := #[]) (fl : Nat := 33) (sup : Nat := 0) (ifs : Array Nat := #[]) (fds : Array FieldInfo := #[]) : ClassFile where
  minorVersion := 0
  majorVersion := 65
  constantPool := pool
  accessFlags := fl
  thisClass := this
  superClass := sup
  interfaces := ifs
  fields := fds
  methods := ms
  attributes := attrs
def plain (name : String) (sup : Option ClassId) : Class where
  name := name
  kind := .ordinary
  loader := none
  accessFlags := 33
  super := sup
  interfaces := #[]
  cf := none
  fields := #[]
  methods := #[]
  instanceTypes := #[]
  staticTypes := #[]
  resolved := #[]
  callSites := []
  init := .initialized
  statics := none
  mirror := none

def pool0 : Array CpInfo := pool [(5, u "<init>"), (0, u "()V"), (1, .class_ 10), (1, u "java/lang/Object")] 113

def k0m0 : Method := { name := "<init>", desc := "()V", sig := { parameters := [], returnType := none }, accessFlags := 1, code := none }
/-- java/lang/Object -/
def k0 : Class := { plain "java/lang/Object" none with
  accessFlags := 33
  interfaces := #[]
  cf := some (fileOf pool0 8 #[] #[{ accessFlags := 1, nameIndex := 5, descriptorIndex := 6, attributes := #[] }] 33 0 #[] #[])
  fields := #[]
  methods := #[k0m0]
  instanceTypes := #[]
  staticTypes := #[]
  resolved := Array.replicate 124 none
  statics := none }

def pool1 : Array CpInfo := pool [(2, .class_ 4), (1, u "java/lang/Object"), (0, u "<init>"), (0, u "()V"), (0, .methodref 8 9), (0, .class_ 10), (0, .nameAndType 11 12), (0, u "com/example/driftswarm/driftswarm/analysis/Statistics"), (0, u "mean"), (0, u "([D)D"), (0, .class_ 14), (0, u "com/example/driftswarm/driftswarm/analysis/StatisticsMeanPinLaw"), (2, u "law"), (0, u "(IIIII)Z")] 5

def k1m0 : Method := { name := "<init>", desc := "()V", sig := { parameters := [], returnType := none }, accessFlags := 2, code := none }
def k1c1 : Code := { maxStack := 4, maxLocals := 13, code := code, exceptionTable := #[], attributes := #[] }
def k1m1 : Method := { name := "law", desc := "(IIIII)Z", sig := { parameters := [.int, .int, .int, .int, .int], returnType := some .boolean }, accessFlags := 9, code := some k1c1 }
/-- com/example/driftswarm/driftswarm/analysis/StatisticsMeanPinLaw -/
def k1 : Class := { plain "com/example/driftswarm/driftswarm/analysis/StatisticsMeanPinLaw" (some 0) with
  accessFlags := 49
  interfaces := #[]
  cf := some (fileOf pool1 13 #[] #[{ accessFlags := 2, nameIndex := 5, descriptorIndex := 6, attributes := #[] }, { accessFlags := 9, nameIndex := 17, descriptorIndex := 18, attributes := #[] }] 49 2 #[] #[])
  fields := #[]
  methods := #[k1m0, k1m1]
  instanceTypes := #[]
  staticTypes := #[]
  resolved := Array.replicate 24 none
  statics := none }

def pool2 : Array CpInfo := pool [(2, .class_ 4), (1, u "java/lang/Object"), (0, u "<init>"), (0, u "()V"), (8, .class_ 17), (1, u "com/example/driftswarm/driftswarm/analysis/Statistics"), (0, u "mean"), (0, u "([D)D")] 14

def k2m0 : Method := { name := "<init>", desc := "()V", sig := { parameters := [], returnType := none }, accessFlags := 2, code := none }
def k2c1 : Code := { maxStack := 4, maxLocals := 8, code := prog_50_method_2_code, exceptionTable := #[], attributes := #[] }
def k2m1 : Method := { name := "mean", desc := "([D)D", sig := { parameters := [(.array .double)], returnType := some .double }, accessFlags := 9, code := some k2c1 }
/-- com/example/driftswarm/driftswarm/analysis/Statistics -/
def k2 : Class := { plain "com/example/driftswarm/driftswarm/analysis/Statistics" (some 0) with
  accessFlags := 49
  interfaces := #[]
  cf := some (fileOf pool2 15 #[] #[{ accessFlags := 2, nameIndex := 5, descriptorIndex := 6, attributes := #[] }, { accessFlags := 9, nameIndex := 18, descriptorIndex := 19, attributes := #[] }] 49 2 #[] #[])
  fields := #[]
  methods := #[k2m0, k2m1]
  instanceTypes := #[]
  staticTypes := #[]
  resolved := Array.replicate 34 none
  statics := none }

def pool3 : Array CpInfo := pool [(1, u "java/lang/Cloneable"), (0, .class_ 1), (0, u "java/lang/Object"), (0, .class_ 3)] 3

/-- java/lang/Cloneable -/
def k3 : Class := { plain "java/lang/Cloneable" (some 0) with
  accessFlags := 1537
  interfaces := #[]
  cf := some (fileOf pool3 2 #[] #[] 1537 4 #[] #[])
  fields := #[]
  methods := #[]
  instanceTypes := #[]
  staticTypes := #[]
  resolved := Array.replicate 8 none
  statics := none }

def pool4 : Array CpInfo := pool [(1, u "java/io/Serializable"), (0, .class_ 1), (0, u "java/lang/Object"), (0, .class_ 3)] 3

/-- java/io/Serializable -/
def k4 : Class := { plain "java/io/Serializable" (some 0) with
  accessFlags := 1537
  interfaces := #[]
  cf := some (fileOf pool4 2 #[] #[] 1537 4 #[] #[])
  fields := #[]
  methods := #[]
  instanceTypes := #[]
  staticTypes := #[]
  resolved := Array.replicate 8 none
  statics := none }

/-- the primitive byte -/
def k5 : Class := { plain "byte" none with kind := .primitive 'B', accessFlags := 0x411 }
/-- [B -/
def k6 : Class := { plain "[B" (some 0) with kind := .array 5 .byte, interfaces := #[3, 4], accessFlags := 1041 }

/-- the primitive double -/
def k7 : Class := { plain "double" none with kind := .primitive 'D', accessFlags := 0x411 }
/-- [D -/
def k8 : Class := { plain "[D" (some 0) with kind := .array 7 .double, interfaces := #[3, 4], accessFlags := 1041 }

/-- the primitive int -/
def k9 : Class := { plain "int" none with kind := .primitive 'I', accessFlags := 0x411 }
/-- [I -/
def k10 : Class := { plain "[I" (some 0) with kind := .array 9 .int, interfaces := #[3, 4], accessFlags := 1041 }

def heap : Heap := #[]
def classes : Array Class := #[k0, k1, k2, k3, k4, k5, k6, k7, k8, k9, k10]
def interned : List (Array UInt16 × Addr) := []
def slotsUsed : Nat := 0
def theMethod : MethodId := ⟨1, 1⟩
def args0 : Array Value := #[.int 5, .int 300, .int 7, .int 300, .int 7]
def aboutOver (below : List Frame) : State where
  vm := { classes := classes, interned := interned.toArray }
  heap := heap
  slotsUsed := slotsUsed
  threads := #[{ frames := .invoking theMethod args0 :: below }]
def below0 : List Frame := [.native { method := ⟨0, 0⟩, args := #[] }]
def about1 : State := aboutOver below0
def p0 : Program := .bare "" "" ""
def e0 : Env := launch0.env 0 0 0
theorem w_frames : about1.frames = Frame.invoking theMethod args0 :: below0 := rfl
set_option maxRecDepth 65536 in
theorem w_args : argsFit about1.vm theMethod args0 = true := by decide +kernel
set_option maxRecDepth 65536 in
theorem w_heap : heapFits about1 = true := by decide +kernel
set_option maxRecDepth 65536 in
theorem w_runnable : about1.curStatus? = some .runnable := by decide +kernel
set_option maxRecDepth 65536 in
theorem w_alone : about1.alone = true := by decide +kernel
set_option maxRecDepth 65536 in
theorem w_named : about1.methodNamed? x = some theMethod := by decide +kernel
set_option maxRecDepth 65536 in
theorem w_hears : about1.hears theMethod below0 = true := by decide +kernel
set_option maxRecDepth 65536 in
theorem w_ripe : about1.ripe theMethod args0 below0 = true := by decide +kernel
theorem w_running : about1.status = .running := rfl
set_option maxRecDepth 65536 in
theorem w_room : about1.hasRoom e0.platform room_1 = true :=
  launch0.hasRoom_least _ room_1 (by decide +kernel) (by decide +kernel) (by decide +kernel) (by decide +kernel) (by decide +kernel) (by decide +kernel)
theorem allAtoms_all (ts : List Jvm.Cond) (a : Array Jvm.Value) (st : Jvm.State) : (allAtoms ts).before a st = ts.all (fun c => c.before a st) := by
  induction ts with
  | nil => rfl
  | cons c t ih =>
    show (Jvm.Cond.and c (allAtoms t)).before a st = _
    rw [Jvm.Cond.before_and, ih, List.all_cons]
def words1 : List Jvm.Cond := Jvm.Cond.code x code maxLocals ret :: tables_1
/-- a 'code' word, met by the world's own term for the bytes: nothing is compared byte by byte -/
theorem code_word {y : MethodName} {bytes : ByteArray} {mx : Nat} {rt : Option FieldType} {a : Array Value} {s : State} {m : MethodId} {meth : Method} {c : Code} (h1 : s.methodNamed? y = some m) (h2 : s.vm.method? m = some meth) (h3 : meth.code = some c) (h4 : c.code = bytes)
    (h5 : (c.maxLocals == mx && c.exceptionTable.isEmpty && decide (c.maxStack ≤ mostOperands) && decide (meth.sig.returnType = rt) && !meth.locks && decide (parseMethodDescriptor y.desc = some meth.sig)) = true) : (Jvm.Cond.code y bytes mx rt).before a s = true := by
  simp only [Bool.and_eq_true, beq_iff_eq, Bool.not_eq_true', decide_eq_true_eq] at h5
  obtain ⟨⟨⟨⟨⟨g1, g2⟩, g3⟩, g4⟩, g5⟩, g6⟩ := h5
  simp [Cond.before, Cond.holds, Cond.value, h1, h2, h3, h4, g1, g2, g3, g4, g5, g6]
def isCode : Jvm.Cond → Bool
  | .code _ _ _ _ => true
  | _ => false
theorem all_split {L : List Jvm.Cond} {P : Jvm.Cond → Bool} (h1 : L.all (fun c => isCode c || P c) = true) (h2 : ∀ c ∈ L.filter isCode, P c = true) : L.all P = true := by
  refine List.all_eq_true.mpr fun c hc => ?_
  have h := List.all_eq_true.mp h1 c hc
  rcases Bool.eq_false_or_eq_true (isCode c) with hi | hi
  · exact h2 c (List.mem_filter.mpr ⟨hc, hi⟩)
  · simpa [hi] using h
set_option maxRecDepth 65536 in
theorem w_c0 : (Jvm.Cond.code x code maxLocals ret).before args0 about1 = true := code_word (m := ⟨1, 1⟩) (meth := k1m1) (c := k1c1) (by decide +kernel) rfl rfl rfl (by decide +kernel)
set_option maxRecDepth 65536 in
theorem w_c1 : (Jvm.Cond.code ({ cls := "com/example/driftswarm/driftswarm/analysis/Statistics", name := "mean", desc := "([D)D" } : Jvm.MethodName) prog_50_method_2_code (8 : Nat) (Option.some Jvm.ClassFile.FieldType.double)).before args0 about1 = true := code_word (m := ⟨2, 1⟩) (meth := k2m1) (c := k2c1) (by decide +kernel) rfl rfl rfl (by decide +kernel)
def codes1 : List Jvm.Cond := [Jvm.Cond.code x code maxLocals ret, Jvm.Cond.code ({ cls := "com/example/driftswarm/driftswarm/analysis/Statistics", name := "mean", desc := "([D)D" } : Jvm.MethodName) prog_50_method_2_code (8 : Nat) (Option.some Jvm.ClassFile.FieldType.double)]
set_option maxRecDepth 65536 in
theorem codes_eq : words1.filter isCode = codes1 := rfl
theorem w_codes : ∀ c ∈ words1.filter isCode, c.before args0 about1 = true := by
  rw [codes_eq]
  intro c hc
  simp only [codes1, List.mem_cons, List.not_mem_nil, or_false] at hc
  rcases hc with rfl | rfl
  · exact w_c0
  · exact w_c1
set_option maxRecDepth 65536 in
theorem w_t1 : words1.all (fun c => isCode c || c.before args0 about1) = true := by decide +kernel
theorem w_tables : (allAtoms (Jvm.Cond.code x code maxLocals ret :: tables_1)).before args0 about1 = true := by
  rw [allAtoms_all]
  show words1.all (fun c => c.before args0 about1) = true
  refine all_split ?_ w_codes
  rw [w_t1]
set_option maxRecDepth 65536 in
theorem w_case : (Jvm.Cond.and given_1 narrow_1).before args0 about1 = true := by decide +kernel
theorem w_applies : (headSpec (Jvm.Cond.code x code maxLocals ret :: tables_1) room_1).applies x e0.platform about1 = true :=
  (Spec.applies_iff w_frames).mpr ⟨w_running, w_runnable, w_alone, w_named, w_hears, w_ripe, w_room, w_tables⟩
theorem atStart : AtStart classFile x code maxLocals ret World_1 tables_1 room_1 Calls_1 rest_1 Pre_1 launch0 p0 e0 about1 theMethod args0 below0 :=
  ⟨lists_1, trivial, launch0.admits_env _ _ _, launch0.least_env, fairChoices_fair.cas, fairChoices_fair.clock, w_frames, w_args, w_heap, w_applies, trivial, trivial, w_case⟩
end start1
theorem witness_1 : WitnessClaimed_1 := ⟨start1.p0, start1.e0, start1.about1, start1.theMethod, start1.args0, start1.below0, start1.atStart⟩
end Jvm.Pilot.@@N@@
