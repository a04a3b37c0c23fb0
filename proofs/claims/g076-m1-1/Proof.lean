import JvmDerived
import JvmDerived.Pilot.@@N@@Statement
import JvmDerived.Pilot.@@N@@Code
set_option linter.unusedVariables false
set_option linter.unusedSimpArgs false
@@BLOCK:NumsL.lean.txt@@
namespace Jvm.Pilot.@@N@@
open Jvm Jvm.ClassFile Sem Op Lib Jvm.Free Jvm.Stand Jvm.LawKit Jvm.RoadKit Bundle Jvm.Pilot.@@N@@.Jvm.D
section OwnGo
variable {p : Program} {l : Launch} {e : Env} {R : Room} {s : State} {m : MethodId} {args : Array Value} {below : List Frame} {meth : Method} {c : Code} {T T' : State} {locs : List Loc} {cells slots K1 K2 : Nat} {Q : Option Value → Heap → List Loc → Prop}
/-- from T at the frame f the run comes to an end that meets Q -/
def Go (p : Program) (e : Env) (below : List Frame) (s : State) (K1 K2 : Nat) (Q : Option Value → Heap → List Loc → Prop) (T : State) (f : JFrame) : Prop :=
  ∃ s₂ o, Steps p.tables e below (T.setTop f) s₂ ∧ s₂.status = .running ∧ Ended s₂ below o ∧ ∃ v L, o = .returned v ∧ Q v s₂.heap L ∧ FrameEnd s o s₂ L K1 K2
theorem Go.on {f f' : JFrame} (h : ∀ t, Steps p.tables e below (T'.setTop f') t → Steps p.tables e below (T.setTop f) t) (g : Go p e below s K1 K2 Q T' f') : Go p e below s K1 K2 Q T f := by
  obtain ⟨s₂, o, h1, r⟩ := g
  exact ⟨s₂, o, h _ h1, r⟩
theorem Go.cast {f f' : JFrame} (h : f = f') (g : Go p e below s K1 K2 Q T f') : Go p e below s K1 K2 Q T f := h ▸ g
theorem Go.gen {f : JFrame} (h : ∀ k1 k2 q, k1 = K1 → k2 = K2 → Q = q → Go p e below s k1 k2 q T f) : Go p e below s K1 K2 Q T f := h _ _ _ rfl rfl rfl
theorem Go.retV (X : Stand p l e R s m args below meth c T locs cells slots) (hx : p.tables.exec = Jvm.exec) {pc : Nat} {Ls : Array Slot} {w : Value} {t : FieldType} {i : Instr} {rest : List Value} (hret : meth.sig.returnType = some t) (hn : narrow t w = w)
    (hi : (i = .ireturn ∧ (t = .int ∨ t = .boolean ∨ t = .byte ∨ t = .char ∨ t = .short) ∧ ∃ z, w = .int z) ∨ (i = .lreturn ∧ t = .long ∧ ∃ z, w = .long z) ∨ (i = .dreturn ∧ t = .double ∧ ∃ z, w = .double z) ∨ (i = .freturn ∧ t = .float ∧ ∃ z, w = .float z) ∨ (i = .areturn ∧ t.isReference = true ∧ w.isRef = true))
    (hd : decode c.code pc = .ok (i, 1)) (hq : Q (some w) T.heap locs) (hc : cells ≤ K1) (hs : slots ≤ K2) (hlk : meth.locks = false := by assumption) : Go p e below s K1 K2 Q T (mkF m pc Ls (w :: rest)) := by
  obtain ⟨fs, hr, hrun, hended, hW, hsame⟩ := X.leave (v := some w) (fun h => by rw [hret] at h; cases h) hlk
  exact ⟨_, _, retOut X hx hret hn hi hd hr, hrun, hended, _, _, rfl, hq, ⟨_, rfl⟩, hW, hsame.mono hc hs⟩
theorem Go.retN (X : Stand p l e R s m args below meth c T locs cells slots) (hx : p.tables.exec = Jvm.exec) {pc : Nat} {Ls : Array Slot} {z : Int32} {t : FieldType} {rest : List Value} (hret : meth.sig.returnType = some t) (ht : t = .boolean ∨ t = .byte ∨ t = .char ∨ t = .short)
    (hd : decode c.code pc = .ok (.ireturn, 1)) (hq : Q (some (.int (nar t z))) T.heap locs) (hc : cells ≤ K1) (hs : slots ≤ K2) (hlk : meth.locks = false := by assumption) : Go p e below s K1 K2 Q T (mkF m pc Ls (.int z :: rest)) := by
  obtain ⟨fs, hr, hrun, hended, hW, hsame⟩ := X.leave (v := some (.int (nar t z))) (fun h => by rw [hret] at h; cases h) hlk
  exact ⟨_, _, Jvm.RoadKit.retN X hx hret ht hd hr, hrun, hended, _, _, rfl, hq, ⟨_, rfl⟩, hW, hsame.mono hc hs⟩
theorem Go.ret0 (X : Stand p l e R s m args below meth c T locs cells slots) (hx : p.tables.exec = Jvm.exec) {pc : Nat} {Ls : Array Slot} (hret : meth.sig.returnType = none)
    (hd : decode c.code pc = .ok (.return_, 1)) (hq : Q none T.heap locs) (hc : cells ≤ K1) (hs : slots ≤ K2) (hlk : meth.locks = false := by assumption) : Go p e below s K1 K2 Q T (mkF m pc Ls []) := by
  obtain ⟨fs, hr, hrun, hended, hW, hsame⟩ := X.leave (v := none) (fun _ => rfl) hlk
  exact ⟨_, _, X.returnOut hx hret hd hr, hrun, hended, _, _, rfl, hq, ⟨_, rfl⟩, hW, hsame.mono hc hs⟩
theorem own_lc_lt {a b : Int64} : lcmpW a b < 0 ↔ a < b := by rw [lcW]; exact lc_lt a b
theorem own_lc_gt {a b : Int64} : 0 < lcmpW a b ↔ b < a := by rw [lcW]; exact lc_gt a b
theorem own_lc_eq {a b : Int64} : lcmpW a b = 0 ↔ a = b := by rw [lcW]; exact lc_eq a b
theorem own_lremM {g : JFrame} {target : State} (X : Stand p l e R s m args below meth c T locs cells slots) (hx : p.tables.exec = Jvm.exec) (hg : g.method = m) {x y : Int64} {rest : List Value} (hd : decode c.code g.pc = .ok (.lrem, 1)) (hs : g.stack = .long y :: .long x :: rest) (hy : y ≠ 0)
    (hr : Steps p.tables e below (T.setTop { g with pc := g.pc + 1, stack := .long (x % y) :: rest }) target) : Steps p.tables e below (T.setTop g) target := by
  have q : x - x / y * y = x % y := by
    apply Int64.toInt_inj.mp
    have h1 := Int64.le_toInt (x % y)
    have h2 := Int64.toInt_lt (x % y)
    rw [Int64.toInt_sub, Int64.toInt_mul, Int64.toInt_div, Int.bmod_mul_bmod, Int.sub_bmod_bmod, Int.mul_comm (x.toInt.tdiv y.toInt), ← Int.tmod_def, ← Int64.toInt_mod]
    exact Int.bmod_eq_of_le_mul_two (by omega) (by omega)
  exact XS.lrem X.here hx hg hd hs hy (by rw [q]; exact hr)
theorem own_cl_gt {o : Option Ordering} : 0 < cmpValue o .l ↔ o = some .gt := by rcases o with _ | (_ | _ | _) <;> decide
theorem own_cl_lt {o : Option Ordering} : cmpValue o .l < 0 ↔ ¬ (o = some .gt ∨ o = some .eq) := by rcases o with _ | (_ | _ | _) <;> decide
theorem own_cg_lt {o : Option Ordering} : cmpValue o .g < 0 ↔ o = some .lt := by rcases o with _ | (_ | _ | _) <;> decide
theorem own_cg_gt {o : Option Ordering} : 0 < cmpValue o .g ↔ ¬ (o = some .lt ∨ o = some .eq) := by rcases o with _ | (_ | _ | _) <;> decide
theorem own_c_eq {o : Option Ordering} {k : CmpOp} : cmpValue o k = 0 ↔ o = some .eq := by cases k <;> rcases o with _ | (_ | _ | _) <;> decide
end OwnGo
section OwnFp
open Jvm.FP.Core
variable {a b V : UInt64} {x y z v : Int}
/-- the double a is finite and worth x units of 2^-1074 -/
def ZV (a : UInt64) (x : Int) : Prop := DFin a ∧ zval b64 (val64 a) = x
theorem ZV.ne (h : ZV a x) : val64 a ≠ .nan := h.1.ne_nan
theorem ZV.nn (h : ZV a x) : Jvm.Free.Fl.NoNaN64 a := Jvm.Free.Fl.noNaN64_no.mpr h.1.notNaN
theorem ZV.cmp (ha : ZV a x) (hb : ZV b y) : FP.dcmp a b = some (compare x y) := by
  show FP.Core.dcmp a b = _
  rw [dcmp_zval ha.ne hb.ne, ha.2, hb.2]
theorem ZV.uniq (ha : ZV a x) (hb : ZV a y) : x = y := ha.2.symm.trans hb.2
theorem own_fin_of {W : UInt64} (hn : val64 a ≠ .nan) (hW : DFin W) (h : zmag b64 (val64 a) ≤ zmag b64 (val64 W)) : DFin a := by
  cases h2 : val64 a with
  | nan => exact absurd h2 hn
  | inf s =>
    rw [h2] at h
    have := hW.zval_lt
    have e : zmag b64 (.inf s) = b64.tails * 2 ^ (b64.exps - 2) := rfl
    rw [e] at h
    omega
  | fin s c q => exact ⟨s, c, q, h2⟩
theorem own_natAbs (d : Datum) : (zval b64 d).natAbs = zmag b64 d := natAbs_signed _ _
theorem own_fin_of_z {W : UInt64} (hn : val64 a ≠ .nan) (hW : DFin W) (h : (zval b64 (val64 a)).natAbs ≤ (zval b64 (val64 W)).natAbs) : DFin a := by
  rw [own_natAbs, own_natAbs] at h; exact own_fin_of hn hW h
theorem ZV.add (ha : ZV a x) (hb : ZV b y) (hv : ZV V (x + y)) : ZV (FP.dadd a b) (x + y) := by
  have hn : val64 (FP.Core.dadd a b) ≠ .nan := (notNaN_iff _).mp (FP.Core.dadd_out ha.1.notNaN hb.1)
  have e : zval b64 (val64 (FP.Core.dadd a b)) = x + y := by
    have h1 := sum_le good_b64 ha.1 hb.1 (val64_fits a) (val64_fits b) (val64_fits V) hv.ne (by rw [ha.2, hb.2, hv.2]; exact Int.le_refl _)
    have h2 := sum_ge good_b64 ha.1 hb.1 (val64_fits a) (val64_fits b) (val64_fits V) hv.ne (by rw [ha.2, hb.2, hv.2]; exact Int.le_refl _)
    rw [← val64_dadd, hv.2] at h1 h2
    exact Int.le_antisymm h1 h2
  exact ⟨own_fin_of_z hn hv.1 (by rw [e, hv.2]; exact Nat.le_refl _), e⟩
theorem own_neg_fin {d : Datum} (h : ∃ s c q, d = .fin s c q) : ∃ s c q, negate d = .fin s c q := by
  obtain ⟨s, c, q, rfl⟩ := h; exact ⟨_, _, _, rfl⟩
theorem ZV.sub (ha : ZV a x) (hb : ZV b y) (hv : ZV V (x - y)) : ZV (FP.dsub a b) (x - y) := by
  have hn : val64 (FP.Core.dsub a b) ≠ .nan := (notNaN_iff _).mp (FP.Core.dsub_out ha.1.notNaN hb.1)
  have e : zval b64 (val64 (FP.Core.dsub a b)) = x - y := by
    have h1 := sum_le good_b64 ha.1 (own_neg_fin hb.1) (val64_fits a) (negate_fits (val64_fits b)) (val64_fits V) hv.ne (by rw [ha.2, zval_negate, hb.2, hv.2]; omega)
    have h2 := sum_ge good_b64 ha.1 (own_neg_fin hb.1) (val64_fits a) (negate_fits (val64_fits b)) (val64_fits V) hv.ne (by rw [ha.2, zval_negate, hb.2, hv.2]; omega)
    rw [← val64_dsub, hv.2] at h1 h2
    exact Int.le_antisymm h1 h2
  exact ⟨own_fin_of_z hn hv.1 (by rw [e, hv.2]; exact Nat.le_refl _), e⟩
/-- a sum or a difference lies between what bounds it -/
theorem ZV.add_le (ha : ZV a x) (hb : ZV b y) (hv : ZV V v) (h : x + y ≤ v) : zval b64 (val64 (FP.dadd a b)) ≤ v := by
  have h1 := sum_le good_b64 ha.1 hb.1 (val64_fits a) (val64_fits b) (val64_fits V) hv.ne (by rw [ha.2, hb.2, hv.2]; exact h)
  rw [← val64_dadd, hv.2] at h1; exact h1
theorem ZV.add_ge (ha : ZV a x) (hb : ZV b y) (hv : ZV V v) (h : v ≤ x + y) : v ≤ zval b64 (val64 (FP.dadd a b)) := by
  have h1 := sum_ge good_b64 ha.1 hb.1 (val64_fits a) (val64_fits b) (val64_fits V) hv.ne (by rw [ha.2, hb.2, hv.2]; exact h)
  rw [← val64_dadd, hv.2] at h1; exact h1
theorem ZV.sub_le (ha : ZV a x) (hb : ZV b y) (hv : ZV V v) (h : x - y ≤ v) : zval b64 (val64 (FP.dsub a b)) ≤ v := by
  have h1 := sum_le good_b64 ha.1 (own_neg_fin hb.1) (val64_fits a) (negate_fits (val64_fits b)) (val64_fits V) hv.ne (by rw [ha.2, zval_negate, hb.2, hv.2]; omega)
  rw [← val64_dsub, hv.2] at h1; exact h1
theorem ZV.sub_ge (ha : ZV a x) (hb : ZV b y) (hv : ZV V v) (h : v ≤ x - y) : v ≤ zval b64 (val64 (FP.dsub a b)) := by
  have h1 := sum_ge good_b64 ha.1 (own_neg_fin hb.1) (val64_fits a) (negate_fits (val64_fits b)) (val64_fits V) hv.ne (by rw [ha.2, zval_negate, hb.2, hv.2]; omega)
  rw [← val64_dsub, hv.2] at h1; exact h1
/-- the product's bounds -/
theorem own_mul_le (ha : ZV a x) (hb : ZV b y) (hv : ZV V v) (h : x * y ≤ v * (one64 : Int)) : zval b64 (val64 (FP.dmul a b)) ≤ v := by
  obtain ⟨⟨s, c, q, h1⟩, ex⟩ := ha
  obtain ⟨⟨t, d, r, h2⟩, ey⟩ := hb
  have f1 := val64_fits a; have f2 := val64_fits b
  rw [h1] at f1 ex; rw [h2] at f2 ey
  obtain ⟨p1, p2, p3⟩ := product_units f1 f2
  show zval b64 (val64 (FP.Core.dmul a b)) ≤ v
  rw [val64_dmul, h1, h2, p1, ← hv.2]
  refine zval_round_le good_b64 (val64_fits V) hv.ne (e0 := 2 * b64.qmin) (by decide) p2 ?_
  rw [p3, show (b64.qmin - 2 * b64.qmin).toNat = (-b64.qmin).toNat from by decide, pow_qmin64, hv.2, signed_xor]
  have : zval b64 (.fin s c q) * zval b64 (.fin t d r) ≤ v * (one64 : Int) := by rw [ex, ey]; exact h
  exact this
theorem own_mul_ge (ha : ZV a x) (hb : ZV b y) (hv : ZV V v) (h : v * (one64 : Int) ≤ x * y) : v ≤ zval b64 (val64 (FP.dmul a b)) := by
  obtain ⟨⟨s, c, q, h1⟩, ex⟩ := ha
  obtain ⟨⟨t, d, r, h2⟩, ey⟩ := hb
  have f1 := val64_fits a; have f2 := val64_fits b
  rw [h1] at f1 ex; rw [h2] at f2 ey
  obtain ⟨p1, p2, p3⟩ := product_units f1 f2
  show v ≤ zval b64 (val64 (FP.Core.dmul a b))
  rw [val64_dmul, h1, h2, p1, ← hv.2]
  refine zval_round_ge good_b64 (val64_fits V) hv.ne (e0 := 2 * b64.qmin) (by decide) p2 ?_
  rw [p3, show (b64.qmin - 2 * b64.qmin).toNat = (-b64.qmin).toNat from by decide, pow_qmin64, hv.2, signed_xor]
  have : v * (one64 : Int) ≤ zval b64 (.fin s c q) * zval b64 (.fin t d r) := by rw [ex, ey]; exact h
  exact this
theorem ZV.mul (ha : ZV a x) (hb : ZV b y) (hv : ZV V z) (h : x * y = z * (one64 : Int)) : ZV (FP.dmul a b) z := by
  have hn : val64 (FP.Core.dmul a b) ≠ .nan := (notNaN_iff _).mp (FP.Core.dmul_out ha.1 hb.1)
  have e : zval b64 (val64 (FP.Core.dmul a b)) = z := Int.le_antisymm (own_mul_le ha hb hv (Int.le_of_eq h)) (own_mul_ge ha hb hv (Int.le_of_eq h.symm))
  exact ⟨own_fin_of_z hn hv.1 (by rw [e, hv.2]; exact Nat.le_refl _), e⟩
/-- the quotient of finite doubles, the divisor not nought: its datum -/
theorem own_quot (ha : ZV a x) (hb : ZV b y) (hy : y ≠ 0) : ∃ s c q t d r, val64 a = .fin s c q ∧ val64 b = .fin t d r ∧ 0 < d ∧ val64 (FP.ddiv a b) = roundRatio b64 (s != t) c d (q - r) ∧ FP.Core.fits b64 (.fin s c q) ∧ FP.Core.fits b64 (.fin t d r) := by
  obtain ⟨⟨s, c, q, h1⟩, ex⟩ := ha
  obtain ⟨⟨t, d, r, h2⟩, ey⟩ := hb
  have f1 := val64_fits a; have f2 := val64_fits b
  rw [h1] at f1; rw [h2] at f2
  have hd : d ≠ 0 := fun q => by
    subst q
    rw [h2] at ey
    apply hy; rw [← ey]; show signed t (inUnits 0 r _) = 0
    unfold inUnits; rw [Nat.zero_mul, signed_zero]
  refine ⟨s, c, q, t, d, r, h1, h2, Nat.pos_of_ne_zero hd, ?_, f1, f2⟩
  show val64 (FP.Core.ddiv a b) = _
  rw [val64_ddiv, h1, h2]
  show (if d = 0 then _ else _) = _
  rw [if_neg hd]
theorem own_div_mag_le {c d : Nat} {q r : Int} {s t sg : Bool} (f1 : FP.Core.fits b64 (.fin s c q)) (f2 : FP.Core.fits b64 (.fin t d r)) (hd : 0 < d) {W : Datum} (fW : FP.Core.fits b64 W) (hW : W ≠ .nan)
    (h : inUnits c q b64.qmin * one64 ≤ zmag b64 W * inUnits d r b64.qmin) : zmag b64 (roundRatio b64 sg c d (q - r)) ≤ zmag b64 W := by
  have h1 := f1.2.1
  have h2 := f2.2.1
  have hq : b64.qmin < 0 := by decide
  refine zmag_roundRatio_le good_b64 hd fW hW (e0 := 2 * b64.qmin - r) (by omega) (by omega) ?_
  have e1 : (b64.qmin - (2 * b64.qmin - r)).toNat = (r - b64.qmin).toNat := by congr 1; omega
  rw [e1]
  have e2 : inUnits c (q - r) (2 * b64.qmin - r) = inUnits c q b64.qmin * one64 := by
    unfold inUnits
    rw [← pow_qmin64, Nat.mul_assoc, ← Nat.pow_add]
    congr 2; omega
  rw [e2]
  refine Nat.le_trans h (Nat.le_of_eq ?_)
  unfold inUnits
  rw [Nat.mul_comm d, Nat.mul_assoc]
theorem own_div_mag_ge {c d : Nat} {q r : Int} {s t sg : Bool} (f1 : FP.Core.fits b64 (.fin s c q)) (f2 : FP.Core.fits b64 (.fin t d r)) (hd : 0 < d) {W : Datum} (fW : FP.Core.fits b64 W)
    (h : zmag b64 W * inUnits d r b64.qmin ≤ inUnits c q b64.qmin * one64) : zmag b64 W ≤ zmag b64 (roundRatio b64 sg c d (q - r)) := by
  have h1 := f1.2.1
  have h2 := f2.2.1
  have hq : b64.qmin < 0 := by decide
  refine zmag_roundRatio_ge good_b64 hd fW (e0 := 2 * b64.qmin - r) (by omega) (by omega) ?_
  have e1 : (b64.qmin - (2 * b64.qmin - r)).toNat = (r - b64.qmin).toNat := by congr 1; omega
  rw [e1]
  have e2 : inUnits c (q - r) (2 * b64.qmin - r) = inUnits c q b64.qmin * one64 := by
    unfold inUnits
    rw [← pow_qmin64, Nat.mul_assoc, ← Nat.pow_add]
    congr 2; omega
  rw [e2]
  refine Nat.le_trans (Nat.le_of_eq ?_) h
  unfold inUnits
  rw [Nat.mul_comm d, Nat.mul_assoc]
/-- what is said of a quotient: r its units -/
def Quo (x y r : Int) : Prop := ∀ (V : UInt64) (v : Int), ZV V v → (x * (one64 : Int) ≤ v * y → r ≤ v) ∧ (v * y ≤ x * (one64 : Int) → v ≤ r)
theorem own_sgn_z (s : Bool) (m : Nat) : signed s m = if s then -(m : Int) else m := rfl
theorem ZV.neg_ex (h : ZV a x) : ∃ V, ZV V (-x) := by
  refine ⟨FP.Core.dneg a, ?_, ?_⟩
  · obtain ⟨⟨s, c, q, h1⟩, -⟩ := h; exact ⟨!s, c, q, by rw [val64_dneg, h1]; rfl⟩
  · rw [val64_dneg, zval_negate, h.2]
theorem own_mag {s : Bool} {c : Nat} {q : Int} : zval b64 (.fin s c q) = signed s (inUnits c q b64.qmin) := rfl
/-- the quotient by a positive double of at least one -/
theorem ZV.div (ha : ZV a x) (hb : ZV b y) (hy : (one64 : Int) ≤ y) : ∃ r, ZV (FP.ddiv a b) r ∧ Quo x y r := by
  have o1 := one64_pos
  obtain ⟨s, c, q, t, d, r, h1, h2, hd, h3, f1, f2⟩ := own_quot ha hb (by omega)
  have ey := hb.2; rw [h2, own_mag] at ey
  have ex := ha.2; rw [h1, own_mag] at ex
  have t0 : t = false := by
    cases t
    · rfl
    · simp only [own_sgn_z, if_true] at ey; omega
  subst t0
  have hy0 : (0 : Int) < y := by omega
  have ey' : ((inUnits d r b64.qmin : Nat) : Int) = y := ey
  generalize hu : inUnits d r b64.qmin = u at *
  generalize hc : inUnits c q b64.qmin = k at *
  have hsg : sgn (val64 (FP.ddiv a b)) = s := by rw [h3, sgn_roundRatio]; cases s <;> rfl
  have hne : val64 (FP.ddiv a b) ≠ .nan := by rw [h3]; exact roundRatio_ne_nan _ _ _ _ _
  have hz : zval b64 (val64 (FP.ddiv a b)) = signed s (zmag b64 (val64 (FP.ddiv a b))) := by rw [zval, hsg]
  have up : ∀ W : UInt64, val64 W ≠ .nan → k * one64 ≤ zmag b64 (val64 W) * u → zmag b64 (val64 (FP.ddiv a b)) ≤ zmag b64 (val64 W) := fun W hW h => by
    rw [h3]; exact own_div_mag_le f1 f2 hd (val64_fits W) hW (by rw [hu, hc]; exact h)
  have dn : ∀ W : UInt64, zmag b64 (val64 W) * u ≤ k * one64 → zmag b64 (val64 W) ≤ zmag b64 (val64 (FP.ddiv a b)) := fun W h => by
    rw [h3]; exact own_div_mag_ge f1 f2 hd (val64_fits W) (by rw [hu, hc]; exact h)
  have hk : k = zmag b64 (val64 a) := by rw [h1]; exact hc.symm
  have hfin : DFin (FP.ddiv a b) := own_fin_of hne ha.1 (up a ha.ne (by rw [← hk]; exact Nat.mul_le_mul_left _ (by omega)))
  refine ⟨_, ⟨hfin, rfl⟩, fun V v hv => ?_⟩
  rw [hz]
  generalize hm : zmag b64 (val64 (FP.ddiv a b)) = m at *
  have hV := own_natAbs (val64 V)
  rw [hv.2] at hV
  have upV := up V hv.ne
  have dnV := dn V
  rw [← hV] at upV dnV
  clear up dn
  have cast : ∀ p q : Nat, ((p * q : Nat) : Int) = (p : Int) * q := fun p q => by simp
  cases s
  · have ex' : (k : Int) = x := ex
    have em : signed false m = (m : Int) := rfl
    rw [em]
    constructor
    · intro h
      by_cases hv0 : 0 ≤ v
      · have e1 : (v.natAbs : Int) = v := Int.natAbs_of_nonneg hv0
        have : k * one64 ≤ v.natAbs * u := by apply Int.ofNat_le.mp; rw [cast, cast, ex', e1, ey']; exact h
        have := upV this; omega
      · exfalso
        have h5 : v * y < 0 := Int.mul_neg_of_neg_of_pos (by omega) hy0
        have h6 : 0 ≤ x * (one64 : Int) := Int.mul_nonneg (by omega) (by omega)
        omega
    · intro h
      by_cases hv0 : 0 ≤ v
      · have e1 : (v.natAbs : Int) = v := Int.natAbs_of_nonneg hv0
        have : v.natAbs * u ≤ k * one64 := by apply Int.ofNat_le.mp; rw [cast, cast, ex', e1, ey']; exact h
        have := dnV this; omega
      · omega
  · have ex' : -(k : Int) = x := ex
    have em : signed true m = -(m : Int) := rfl
    rw [em]
    have ek : (k : Int) = -x := by omega
    constructor
    · intro h
      by_cases hv0 : 0 ≤ v
      · omega
      · have e1 : (v.natAbs : Int) = -v := by omega
        have : v.natAbs * u ≤ k * one64 := by
          apply Int.ofNat_le.mp; rw [cast, cast, ek, e1, ey', Int.neg_mul, Int.neg_mul]; omega
        have := dnV this; omega
    · intro h
      by_cases hv0 : v ≤ 0
      · have e1 : (v.natAbs : Int) = -v := by omega
        have : k * one64 ≤ v.natAbs * u := by
          apply Int.ofNat_le.mp; rw [cast, cast, ek, e1, ey', Int.neg_mul, Int.neg_mul]; omega
        have := upV this; omega
      · exfalso
        have h5 : 0 < v * y := Int.mul_pos (by omega) hy0
        have h6 : x * (one64 : Int) ≤ 0 := by
          have : 0 ≤ (k : Int) * (one64 : Int) := Int.mul_nonneg (by omega) (by omega)
          rw [ek, Int.neg_mul] at this; omega
        omega
theorem ZV.div_exact (ha : ZV a x) (hb : ZV b y) (hy : (one64 : Int) ≤ y) (hv : ZV V z) (h : x * (one64 : Int) = z * y) : ZV (FP.ddiv a b) z := by
  obtain ⟨r, h1, h2⟩ := ha.div hb hy
  have h3 := h2 V z hv
  have : r = z := Int.le_antisymm (h3.1 (Int.le_of_eq h)) (h3.2 (Int.le_of_eq h.symm))
  exact this ▸ h1
/-- i * 2^k units are a double -/
theorem own_rep (i : Int) (k : Nat) (hi : i.natAbs < 2 ^ 53) (hk : k ≤ 2045) : ∃ V, ZV V (i * ((2 ^ k : Nat) : Int)) := by
  obtain ⟨c', q', h1, h2⟩ := round_exact good_b64 (decide (i < 0)) (c := i.natAbs) (q := (k : Int) + b64.qmin) hi (by omega) (by rw [show b64.qmax = 971 from by decide, qmin_b64]; omega)
  have hf : FP.Core.fits b64 (.fin (decide (i < 0)) c' q') := by rw [← h1]; exact round_fits good_b64 _
  refine ⟨of64 (.fin (decide (i < 0)) c' q'), ⟨_, _, _, val64_of64 hf⟩, ?_⟩
  rw [val64_of64 hf, own_mag, h2]
  unfold inUnits
  rw [show ((k : Int) + b64.qmin - b64.qmin).toNat = k from by omega, signed_mul, own_sgn_z]
  congr 1
  by_cases h : i < 0
  · simp only [h, decide_true, if_true]; omega
  · simp only [h, decide_false]; simp only [Bool.false_eq_true, if_false]; omega
theorem own_one64 : (one64 : Int) = ((2 ^ 1074 : Nat) : Int) := rfl
theorem ZV.of_int {i : Int} (h : DInt i a) : ZV a (i * (one64 : Int)) := by
  refine ⟨?_, DInt_zval h⟩
  unfold DInt at h
  cases h2 : val64 a with
  | nan => rw [h2] at h; exact h.elim
  | inf s => rw [h2] at h; exact h.elim
  | fin s c q => exact ⟨s, c, q, h2⟩
theorem own_i2d (n : Int32) : ZV (FP.i2d n) (n.toInt * (one64 : Int)) := ZV.of_int (i2d_int n)
theorem own_l2d {n : Int64} (h : n.toInt.natAbs ≤ 2 ^ 53) : ZV (FP.l2d n) (n.toInt * (one64 : Int)) := ZV.of_int (l2d_int h)
theorem own_ddiv_nn (ha : DFin a) (hb : DFin b) : FP.ddiv (FP.Core.dneg a) (FP.Core.dneg b) = FP.ddiv a b ∨ val64 (FP.ddiv a b) = .nan := by
  by_cases hn : val64 (FP.ddiv a b) = .nan
  · exact Or.inr hn
  · refine Or.inl (val64_inj hn ?_).symm
    obtain ⟨s, c, q, h1⟩ := ha
    obtain ⟨t, d, r, h2⟩ := hb
    show val64 (FP.Core.ddiv a b) = val64 (FP.Core.ddiv _ _)
    rw [val64_ddiv, val64_ddiv, val64_dneg, val64_dneg, h1, h2]
    show quotient b64 (.fin s c q) (.fin t d r) = quotient b64 (.fin (!s) c q) (.fin (!t) d r)
    simp only [quotient]
    have : ((!s) != (!t)) = (s != t) := by cases s <;> cases t <;> rfl
    rw [this]
theorem ZV.dneg (h : ZV a x) : ZV (FP.Core.dneg a) (-x) := by
  refine ⟨?_, by rw [val64_dneg, zval_negate, h.2]⟩
  obtain ⟨⟨s, c, q, h1⟩, -⟩ := h; exact ⟨!s, c, q, by rw [val64_dneg, h1]; rfl⟩
/-- the quotient by a negative double of at most minus one -/
theorem ZV.div_neg (ha : ZV a x) (hb : ZV b y) (hy : y ≤ -(one64 : Int)) : ∃ r, ZV (FP.ddiv a b) r ∧ Quo (-x) (-y) r := by
  obtain ⟨r, h1, h2⟩ := ha.dneg.div hb.dneg (by omega)
  have o1 := one64_pos
  obtain ⟨s, c, q, t, d, r', -, -, -, h3, -⟩ := own_quot ha hb (by omega)
  rcases own_ddiv_nn ha.1 hb.1 with h | h
  · exact ⟨r, h ▸ h1, h2⟩
  · rw [h3] at h; exact absurd h (roundRatio_ne_nan _ _ _ _ _)
/-- n / D against i / 2^j -/
theorem own_quo_int {n D r : Int} (h : Quo (n * (one64 : Int)) (D * (one64 : Int)) r) (i : Int) (j : Nat) (hj : j ≤ 1074) (hi : i.natAbs < 2 ^ 53) :
    (n * ((2 ^ j : Nat) : Int) ≤ i * D → r ≤ i * ((2 ^ (1074 - j) : Nat) : Int)) ∧ (i * D ≤ n * ((2 ^ j : Nat) : Int) → i * ((2 ^ (1074 - j) : Nat) : Int) ≤ r) := by
  obtain ⟨V, hV⟩ := own_rep i (1074 - j) hi (by omega)
  have q := h V _ hV
  have e : (one64 : Int) = ((2 ^ j : Nat) : Int) * ((2 ^ (1074 - j) : Nat) : Int) := by
    rw [own_one64, ← Int.natCast_mul, ← Nat.pow_add]; congr 2; omega
  have hu : (0 : Int) ≤ ((2 ^ (1074 - j) : Nat) : Int) * (one64 : Int) := Int.mul_nonneg (Int.natCast_nonneg _) (Int.natCast_nonneg _)
  have e1 : n * (one64 : Int) * (one64 : Int) = n * ((2 ^ j : Nat) : Int) * (((2 ^ (1074 - j) : Nat) : Int) * (one64 : Int)) := by
    conv => lhs; arg 1; rw [e]
    rw [← Int.mul_assoc n, Int.mul_assoc (n * _)]
  have e2 : i * ((2 ^ (1074 - j) : Nat) : Int) * (D * (one64 : Int)) = i * D * (((2 ^ (1074 - j) : Nat) : Int) * (one64 : Int)) := by rw [Int.mul_assoc i, Int.mul_left_comm _ D, ← Int.mul_assoc i D]
  rw [e1, e2] at q
  exact ⟨fun z => q.1 (Int.mul_le_mul_of_nonneg_right z hu), fun z => q.2 (Int.mul_le_mul_of_nonneg_right z hu)⟩
theorem own_zero : ZV (0 : UInt64) 0 := ⟨⟨_, _, _, val64_zero⟩, zval64_zero⟩
theorem own_one : ZV (4607182418800017408 : UInt64) (one64 : Int) := by
  have := ZV.of_int dint_one; rwa [Int.one_mul] at this
theorem own_cmp_gt {x y : Int} : some (compare x y) = some Ordering.gt ↔ y < x := by rw [Option.some.injEq]; exact compare_gt_iff x y
theorem own_cmp_lt {x y : Int} : some (compare x y) = some Ordering.lt ↔ x < y := by rw [Option.some.injEq]; exact compare_lt_iff x y
theorem own_cmp_eq {x y : Int} : some (compare x y) = some Ordering.eq ↔ x = y := by rw [Option.some.injEq]; exact compare_eq_iff x y
theorem own_dnn {i : Int} {a : UInt64} (h : DInt i a) : Jvm.Free.Fl.NoNaN64 a := (ZV.of_int h).nn
theorem own_nnd' {a : UInt64} (ha : DFin a) (n : Int32) (hn : n ≠ 0) : Jvm.Free.Fl.NoNaN64 (FP.ddiv a (FP.i2d n)) :=
  Jvm.Free.Fl.noNaN64_no.mpr (FP.Core.ddiv_out ha.notNaN (i2d_fin n) (fun q => i2d_ne_zero hn (by rwa [zero_bits2] at q)))
theorem own_nnd (s : Int64) (n : Int32) (hn : n ≠ 0) : Jvm.Free.Fl.NoNaN64 (FP.ddiv (FP.l2d s) (FP.i2d n)) := own_nnd' (l2d_fin s) n hn
theorem own_dz : DInt 0 (0 : UInt64) := by
  have : (0 : UInt64) = FP.l2d 0 := FP.Core.l2d_zero.symm
  rw [this]; exact l2d_int (a := 0) (by decide)
theorem own_div_eq {S S' : UInt64} {s : Int} (h : DInt s S) (h' : DInt s S') (n : Int32) (hn : 1 ≤ n.toInt) : FP.dcmp (FP.ddiv S (FP.i2d n)) (FP.ddiv S' (FP.i2d n)) = some .eq := by
  have hy : (one64 : Int) ≤ n.toInt * (one64 : Int) := by
    have := Int.mul_le_mul_of_nonneg_right hn (show (0 : Int) ≤ (one64 : Int) by omega)
    rwa [Int.one_mul] at this
  by_cases hs : s = 0
  · subst hs
    have z1 := ZV.of_int h
    have z2 := ZV.of_int h'
    rw [Int.zero_mul] at z1 z2
    have q1 := z1.div_exact (own_i2d n) hy own_zero (by rw [Int.zero_mul, Int.zero_mul])
    have q2 := z2.div_exact (own_i2d n) hy own_zero (by rw [Int.zero_mul, Int.zero_mul])
    rw [q1.cmp q2, own_cmp_eq]
  · have e := dint_unique hs h h'
    subst e
    have hz : n ≠ 0 := fun q => by subst q; revert hn; decide
    exact dcmp_refl (Jvm.Free.Fl.noNaN64_no.mp (own_nnd' (ZV.of_int h).1 n hz))
theorem own_ib (x : Int32) : x.toInt.natAbs ≤ 2147483648 := by have := x.le_toInt; have := x.toInt_lt; omega
end OwnFp
abbrev Si (n : Int32) : Slot := .val (.int n)
abbrev Sj (n : Int64) : Slot := .val (.long n)
abbrev Sd (n : UInt64) : Slot := .val (.double n)
abbrev Sr (n : Addr) : Slot := .val (.ref n)
def mixV (j0 : Int64) : Int64 := (((((j0 ^^^ ((j0.toUInt64 >>> ((32 : Int32) &&& 0x3f).toInt64.toUInt64).toInt64)) * (-7046029254386353131 : Int64)) ^^^ ((((j0 ^^^ ((j0.toUInt64 >>> ((32 : Int32) &&& 0x3f).toInt64.toUInt64).toInt64)) * (-7046029254386353131 : Int64)).toUInt64 >>> ((29 : Int32) &&& 0x3f).toInt64.toUInt64).toInt64)) * (-7046029254386353131 : Int64)) ^^^ ((((((j0 ^^^ ((j0.toUInt64 >>> ((32 : Int32) &&& 0x3f).toInt64.toUInt64).toInt64)) * (-7046029254386353131 : Int64)) ^^^ ((((j0 ^^^ ((j0.toUInt64 >>> ((32 : Int32) &&& 0x3f).toInt64.toUInt64).toInt64)) * (-7046029254386353131 : Int64)).toUInt64 >>> ((29 : Int32) &&& 0x3f).toInt64.toUInt64).toInt64)) * (-7046029254386353131 : Int64)).toUInt64 >>> ((32 : Int32) &&& 0x3f).toInt64.toUInt64).toInt64))
section OwnBits
variable {p : Program} {l : Launch} {e : Env} {R : Room} {s : State} {m : MethodId} {args : Array Value} {below : List Frame} {meth : Method} {c : Code} {T : State} {locs : List Loc} {cells slots : Nat} {Z : State} {a0 : Array Value} {h : Heap}
/-- invokestatic of Double.doubleToRawLongBits -/
theorem own_bits (X : Stand p l e R s m args below meth c T locs cells slots) (hx : p.tables.exec = Jvm.exec) (hZ : Z.Warmed39 s.vm) {own : String} {index : Nat} (hown : s.vm.findClass own = some m.cls)
    (w1 : (Cond.methodLink own index Jvm.Free.NT.doubleBitsN).before a0 Z = true) (w2 : (Cond.native Jvm.Free.NT.doubleBitsN).before a0 Z = true) (w3 : (Cond.static Jvm.Free.NT.doubleBitsN).before a0 Z = true) (w4 : (Cond.initialized "java/lang/Double").before a0 Z = true) (eT : T.heap = h)
    {g : JFrame} (hg : g.method = m) (hsize : g.locals.size = c.maxLocals) {b : UInt64} {rest : List Value} (hs : g.stack = .double b :: rest) (hd : decode c.code g.pc = .ok (.invokestatic index, 3)) (hf : 1 ≤ R.frames) {W : Nat} (hW : 2 * g.monitorRoom + (rest.map fun v => v.category).sum ≤ W) (hlo : W + 15 ≤ R.locals) :
    ∃ T', Stand p l e R s m args below meth c T' locs cells slots ∧ T'.heap = h ∧ ∀ target, Steps p.tables e below (T'.setTop { g with pc := g.pc + 3, stack := .long b.toInt64 :: rest }) target → Steps p.tables e below (T.setTop g) target := by
  have n2 : (Cond.native Jvm.Free.NT.doubleBitsN).before args s = true := mvT hZ w2
  obtain ⟨mk, methM, hnamed, hmethM, -, -, -, hsig⟩ := Cond.native_spec n2
  obtain ⟨v, vm₁, B, -, X', ⟨hB, hv⟩, st⟩ := X.staticBack hx hown (mvT hZ w1) (mvT hZ w3) (mvT hZ w4) hnamed hmethM hsig (by decide) (Jvm.Free.NT.DoubleBits.pays (W := W) n2 (mvT hZ w3) hf hlo) hg hsize (Steps.refl _) (argsL := [.double b]) (rest := rest)
    (fun sig hq => by rw [show parseMethodDescriptor Jvm.Free.NT.doubleBitsN.desc = some ⟨[.double], some .long⟩ from by decide +kernel] at hq; rw [← Option.some.inj hq]; rfl) hs hW hd (fun _ _ => ⟨b, rfl⟩)
  subst hB
  obtain rfl := hv b rfl
  exact ⟨_, X', eT, fun t k => st.trans k⟩
theorem own_selp {s : State} {args : Array Value} {y : MethodName} {n : Nat} (hi : (Cond.instantiable y.cls n).before args s = true) (hp : (Cond.privateMethod y).before args s = true) (hin : (Cond.instanceMethod y).before args s = true)
    (hy : y.cls ≠ "java/lang/invoke/MethodHandle" ∧ y.cls ≠ "java/lang/invoke/VarHandle") : (Cond.selects y.cls y y).before args s = true := by
  obtain ⟨c, k, hc, hk, -, hni, -, -⟩ := Cond.instantiable_spec hi
  rw [Bool.or_eq_false_iff] at hni
  exact Jvm.Stand.selects_self_of_private hc hk hni.1 (Cond.privateMethod_at hp) hin hy
end OwnBits

section OwnFind
def findL : List Int32 → Int32 → Int32 → Int32
  | [], _, _ => -1
  | m :: r, q, k => if m = q then k else findL r q (k + 1)
variable {ml r : List Int32} {us zs : List Value} {m iv cp ln : Int32} {j : Nat}
theorem own_tc (hj : iv.toInt = (j : Int)) : iv.toNatClampNeg = j := by simp only [Int32.toNatClampNeg]; omega
theorem own_jl (hd : ml.drop j = m :: r) : j < ml.length := by
  rcases Nat.lt_or_ge j ml.length with h | h
  · exact h
  · rw [List.drop_eq_nil_of_le h] at hd; cases hd
theorem own_jm (hd : ml.drop j = m :: r) : ml[j]? = some m := by
  have := congrArg (fun l => l[0]?) hd
  simpa using this
theorem own_nxt (hd : ml.drop j = m :: r) : ml.drop (j + 1) = r := by
  have := congrArg List.tail hd
  simpa using this
theorem own_hat (hus : us = ml.map Value.int ++ zs) (hd : ml.drop j = m :: r) (hj : iv.toInt = (j : Int)) : us.getD iv.toNatClampNeg (.int (0 : Int32)) = (.int m) := by
  rw [own_tc hj, hus, List.getD_eq_getElem?_getD, List.getElem?_append_left (by simpa using own_jl hd), List.getElem?_map, own_jm hd]; rfl
theorem own_inb (hl : ml.length = ln.toNatClampNeg) (hc : ¬ ln < 0 ∧ ¬ cp < ln) (hd : ml.drop j = m :: r) (hj : iv.toInt = (j : Int)) : ¬ iv < 0 ∧ iv < cp := by
  have h1 := own_jl hd
  have z0 : (0 : Int32).toInt = 0 := rfl
  simp only [Int32.lt_iff_toInt_lt, z0] at *
  simp only [Int32.toNatClampNeg] at hl
  omega
theorem own_lt (hl : ml.length = ln.toNatClampNeg) (hc : ¬ ln < 0 ∧ ¬ cp < ln) (hd : ml.drop j = m :: r) (hj : iv.toInt = (j : Int)) : iv < ln := by
  have h1 := own_jl hd
  have z0 : (0 : Int32).toInt = 0 := rfl
  simp only [Int32.lt_iff_toInt_lt, z0] at *
  simp only [Int32.toNatClampNeg] at hl
  omega
theorem own_nlt (hl : ml.length = ln.toNatClampNeg) (hc : ¬ ln < 0 ∧ ¬ cp < ln) (hd : ml.drop j = []) (hj : iv.toInt = (j : Int)) : ¬ (iv < ln) := by
  have h1 : ml.length ≤ j := by
    have := congrArg List.length hd
    simp at this; omega
  have z0 : (0 : Int32).toInt = 0 := rfl
  simp only [Int32.lt_iff_toInt_lt, z0] at *
  simp only [Int32.toNatClampNeg] at hl
  omega
theorem own_nneg (hj : iv.toInt = (j : Int)) : ¬ (iv < (0 : Int32)) := by
  have z0 : (0 : Int32).toInt = 0 := rfl
  simp only [Int32.lt_iff_toInt_lt, z0]; omega
theorem own_inc (hl : ml.length = ln.toNatClampNeg) (hd : ml.drop j = m :: r) (hj : iv.toInt = (j : Int)) : (iv + (1 : Int32)).toInt = ((j + 1 : Nat) : Int) := by
  have h1 := own_jl hd
  have l1 : (1 : Int32).toInt = 1 := by decide
  have b := Int32.toInt_lt ln
  simp only [Int32.toNatClampNeg] at hl
  rw [Jvm.Kit.i32_add (by rw [l1]; omega) (by rw [l1]; omega), l1, hj]; omega
end OwnFind

section OwnTab
/-- place x + k of the table -/
abbrev pl (ts : List Int32) (x : Nat) : Int32 := ts.getD (x % 64) 0
def Run (ts : List Int32) (x k : Nat) : Prop := ∀ i, i < k → pl ts (x + i) ≠ 0
variable {ts ml : List Int32} {x k n : Nat}
theorem own_pl_mod (ts : List Int32) (x i : Nat) : pl ts (x % 64 + i) = pl ts (x + i) := by unfold pl; rw [Nat.mod_add_mod]
theorem Run.next (h : Run ts x (k + 1)) : Run ts ((x + 1) % 64) k := fun i hi => by
  rw [own_pl_mod, Nat.add_right_comm x 1 i, Nat.add_assoc]; exact h (i + 1) (by omega)
/-- the first place with P -/
theorem own_least {P : Nat → Prop} : ∀ k, P k → ∃ j, j ≤ k ∧ P j ∧ ∀ i, i < j → ¬ P i := by
  intro k
  induction k using Nat.strongRecOn with
  | ind k ih =>
    intro h
    by_cases q : ∃ i, i < k ∧ P i
    · obtain ⟨i, hi, hp⟩ := q
      obtain ⟨j, h1, h2, h3⟩ := ih i hi hp
      exact ⟨j, by omega, h2, h3⟩
    · exact ⟨k, Nat.le_refl _, h, fun i hi hp => q ⟨i, hi, hp⟩⟩
def cnt (ts : List Int32) : Nat := (ts.filter fun z => decide (z ≠ 0)).length
theorem own_cnt_set (v : Int32) : ∀ (ts : List Int32) (p : Nat), cnt (ts.set p v) ≤ cnt ts + 1
  | [], p => by simp [cnt]
  | a :: r, 0 => by
    unfold cnt
    simp only [List.set_cons_zero, List.filter_cons]
    split <;> split <;> simp <;> omega
  | a :: r, p + 1 => by
    have := own_cnt_set v r p
    unfold cnt at *
    simp only [List.set_cons_succ, List.filter_cons]
    split <;> first | omega | (simp only [List.length_cons]; omega)
theorem own_empty (hl : ts.length = 64) (h : cnt ts < 64) : ∃ p, p < 64 ∧ pl ts p = 0 := by
  by_cases q : ∃ p, p < 64 ∧ pl ts p = 0
  · exact q
  · exfalso
    have e : ts.filter (fun z => decide (z ≠ 0)) = ts := List.filter_eq_self.mpr fun a ha => by
      obtain ⟨p, hp, rfl⟩ := List.getElem_of_mem ha
      simp only [decide_eq_true_eq]
      intro z
      refine q ⟨p, by omega, ?_⟩
      unfold pl
      rw [Nat.mod_eq_of_lt (by omega), List.getD_eq_getElem?_getD, List.getElem?_eq_getElem hp]
      exact z
    unfold cnt at h
    rw [e] at h; omega
/-- from every place an empty one is reached -/
theorem own_dist (hl : ts.length = 64) (h : cnt ts < 64) (x : Nat) : ∃ k, Run ts x k ∧ pl ts (x + k) = 0 := by
  obtain ⟨p, hp, h0⟩ := own_empty hl h
  have e : pl ts (x + (p + 64 * (x + 1) - x)) = 0 := by
    unfold pl at *
    rw [show (x + (p + 64 * (x + 1) - x)) % 64 = p % 64 by omega]; exact h0
  obtain ⟨k, -, h1, h2⟩ := own_least (P := fun k => pl ts (x + k) = 0) _ e
  exact ⟨k, fun i hi => h2 i hi, h1⟩
theorem own_pl_set (hl : ts.length = 64) (v : Int32) (p y : Nat) : pl (ts.set (p % 64) v) y = if y % 64 = p % 64 then v else pl ts y := by
  unfold pl
  rw [List.getD_eq_getElem?_getD, List.getD_eq_getElem?_getD, List.getElem?_set]
  by_cases q : y % 64 = p % 64
  · rw [if_pos q.symm, if_pos q, if_pos (by rw [hl]; omega)]; rfl
  · rw [if_neg (fun z => q z.symm), if_neg q]
/-- the hash of a member -/
def hI (m : Int32) : Int32 := (((m * (-1640531527 : Int32)).toUInt32 >>> ((26 : Int32) &&& 31).toUInt32).toInt32)
def hN (m : Int32) : Nat := (hI m).toNatClampNeg
def val (i : Nat) : Int32 := Int32.ofNat (i + 1)
/-- the table of the first n members -/
def Tab (n : Nat) (ts ml : List Int32) : Prop := ts.length = 64 ∧ cnt ts ≤ n ∧ (∀ i, i < n → ∃ k, Run ts (hN (ml.getD i 0)) k ∧ pl ts (hN (ml.getD i 0) + k) = val i) ∧ ∀ p, pl ts p = 0 ∨ ∃ i, i < n ∧ pl ts p = val i
theorem own_val_ne {i : Nat} (h : i < 9) : val i ≠ 0 := by
  unfold val
  intro q
  have := congrArg Int32.toInt q
  rw [Int32.toInt_ofNat_of_lt (by omega)] at this
  have z0 : (0 : Int32).toInt = 0 := rfl
  omega
theorem Tab.start : Tab 0 (List.replicate 64 0) ml := by
  refine ⟨by simp, by decide, fun i hi => absurd hi (by omega), fun p => Or.inl ?_⟩
  unfold pl
  rw [List.getD_eq_getElem?_getD, List.getElem?_replicate, if_pos (Nat.mod_lt _ (by decide))]; rfl
theorem Tab.fill (h : Tab n ts ml) (hn : n < 9) (hr : Run ts (hN (ml.getD n 0)) k) (he : pl ts (hN (ml.getD n 0) + k) = 0) : Tab (n + 1) (ts.set ((hN (ml.getD n 0) + k) % 64) (val n)) ml := by
  obtain ⟨h1, h2, h3, h4⟩ := h
  have ps := own_pl_set h1 (val n) (hN (ml.getD n 0) + k)
  have vn := own_val_ne hn
  have run : ∀ y j, Run ts y j → Run (ts.set ((hN (ml.getD n 0) + k) % 64) (val n)) y j := fun y j r i hi => by
    rw [ps]; split
    · exact vn
    · exact r i hi
  refine ⟨by rw [List.length_set]; exact h1, Nat.le_trans (own_cnt_set _ _ _) (by omega), fun i hi => ?_, fun p => ?_⟩
  · by_cases q : i = n
    · subst q
      exact ⟨k, run _ _ hr, by rw [ps, if_pos rfl]⟩
    · obtain ⟨j, r1, r2⟩ := h3 i (by omega)
      refine ⟨j, run _ _ r1, ?_⟩
      rw [ps]
      split
      · rename_i z
        have : pl ts (hN (ml.getD i 0) + j) = pl ts (hN (ml.getD n 0) + k) := by unfold pl; rw [z]
        rw [r2, he] at this
        exact absurd this (own_val_ne (by omega))
      · exact r2
  · rw [ps]
    split
    · exact Or.inr ⟨n, by omega, rfl⟩
    · rcases h4 p with z | ⟨i, hi, z⟩
      · exact Or.inl z
      · exact Or.inr ⟨i, by omega, z⟩
theorem own_find_none : ∀ (ml : List Int32) (q k : Int32), (∀ i, i < ml.length → ml.getD i 0 ≠ q) → findL ml q k = -1
  | [], _, _, _ => rfl
  | m :: r, q, k, h => by
    have h0 : ¬ (m = q) := h 0 (by simp)
    rw [findL, if_neg h0]
    exact own_find_none r q _ fun i hi => h (i + 1) (by simpa using hi)
theorem own_find_some : ∀ (ml : List Int32) (q k : Int32) (i : Nat), i < ml.length → ml.getD i 0 = q → (∀ j, j < i → ml.getD j 0 ≠ q) → findL ml q k = k + Int32.ofNat i
  | [], _, _, _, h, _, _ => absurd h (by simp)
  | m :: r, q, k, 0, _, h, _ => by
    have : m = q := h
    rw [findL, if_pos this]; simp
  | m :: r, q, k, i + 1, hl, h, hj => by
    have h0 : ¬ (m = q) := hj 0 (by omega)
    rw [findL, if_neg h0, own_find_some r q (k + 1) i (by simpa using hl) h (fun j hh => hj (j + 1) (by omega))]
    have e : Int32.ofNat (i + 1) = Int32.ofNat i + 1 := by rw [Int32.ofNat_add]; rfl
    rw [e, Int32.add_assoc, Int32.add_comm 1]
/-- a place that ends the search for q -/
def Stop (ts ml : List Int32) (q : Int32) (y : Nat) : Prop := pl ts y = 0 ∨ ∃ i, i < 9 ∧ pl ts y = val i ∧ ml.getD i 0 = q
theorem own_stop (h : Tab 9 ts ml) (q : Int32) : ∃ k, (∀ i, i < k → ¬ Stop ts ml q (hN q + i)) ∧ Stop ts ml q (hN q + k) := by
  obtain ⟨k, -, h1⟩ := own_dist h.1 (by have := h.2.1; omega) (hN q)
  obtain ⟨j, -, h2, h3⟩ := own_least (P := fun k => Stop ts ml q (hN q + k)) k (Or.inl h1)
  exact ⟨j, h3, h2⟩
/-- the search ends at an empty place: q is none of the members -/
theorem own_end_none (h : Tab 9 ts ml) (hl : ml.length = 9) {q : Int32} (hk : ∀ i, i < k → ¬ Stop ts ml q (hN q + i)) (he : pl ts (hN q + k) = 0) : findL ml q 0 = -1 := by
  refine own_find_none ml q 0 fun i hi e => ?_
  obtain ⟨j, r1, r2⟩ := h.2.2.1 i (by omega)
  rw [e] at r1 r2
  rcases Nat.lt_trichotomy j k with z | z | z
  · exact hk j z (Or.inr ⟨i, by omega, r2, e⟩)
  · subst z; rw [he] at r2; exact own_val_ne (by omega) r2.symm
  · exact r1 k z he
theorem own_end_some (hl : ml.length = 9) (hnd : ∀ i j, i < 9 → j < 9 → ml.getD i 0 = ml.getD j 0 → i = j) {q : Int32} {i : Nat} (hi : i < 9) (e : ml.getD i 0 = q) : findL ml q 0 = Int32.ofNat i := by
  rw [own_find_some ml q 0 i (by omega) e (fun j hj z => by have := hnd i j hi (by omega) (e.trans z.symm); omega), Int32.zero_add]
end OwnTab

section OwnProbe
variable {ts ml : List Int32} {hv : Int32} {y k : Nat}
theorem own_ld (hl : ts.length = 64) (hj : hv.toInt = (y : Int)) (h64 : y < 64) : (ts.map Value.int).getD hv.toNatClampNeg (.int (0 : Int32)) = (.int (pl ts y)) := by
  rw [own_tc hj]
  unfold pl
  rw [List.getD_eq_getElem?_getD, List.getD_eq_getElem?_getD, List.getElem?_map, Nat.mod_eq_of_lt h64, List.getElem?_eq_getElem (by omega)]; rfl
theorem own_in64 (hj : hv.toInt = (y : Int)) (h64 : y < 64) : ¬ hv < 0 ∧ hv < (64 : Int32) := by
  have z0 : (0 : Int32).toInt = 0 := rfl
  have z1 : (64 : Int32).toInt = 64 := rfl
  simp only [Int32.lt_iff_toInt_lt, z0, z1]; omega
theorem own_next (hj : hv.toInt = (y : Int)) (h64 : y < 64) : ((hv + (1 : Int32)) &&& (63 : Int32)).toInt = (((y + 1) % 64 : Nat) : Int) := by
  have e1 : ((hv + 1) &&& 63).toInt = (hv + 1).toInt % 2 ^ 6 := Jvm.Kit.i32_mask (hv + 1) 63 (k := 6) (by decide) (by decide)
  have l1 : (1 : Int32).toInt = 1 := by decide
  have e2 : (hv + 1).toInt = hv.toInt + 1 := by rw [Jvm.Kit.i32_add (by rw [l1]; omega) (by rw [l1]; omega), l1]
  rw [e1, e2, hj]; omega
theorem own_u32 {u : UInt32} (h : u.toNat < 64) : (u.toInt32).toInt = (u.toNat : Int) := by
  have e := Int32.toInt_ofNat_of_lt (n := u.toNat) (by omega)
  have : u.toInt32 = Int32.ofNat u.toNat := by
    apply Int32.toBitVec_inj.mp
    apply BitVec.eq_of_toNat_eq
    simp
  rw [this]; exact e
theorem own_sh26 (u : UInt32) : (u >>> ((26 : Int32) &&& 31).toUInt32).toNat < 64 := by
  rw [show ((26 : Int32) &&& 31).toUInt32 = 26 from by decide, UInt32.toNat_shiftRight]
  have := u.toNat_lt
  rw [show (26 : UInt32).toNat % 32 = 26 from by decide, Nat.shiftRight_eq_div_pow]
  omega
theorem own_hI (m : Int32) : (hI m).toInt = ((hN m : Nat) : Int) ∧ hN m < 64 := by
  obtain ⟨u, e, h⟩ : ∃ u : UInt32, hI m = u.toInt32 ∧ u.toNat < 64 := ⟨_, rfl, own_sh26 _⟩
  have e1 : (hI m).toInt = (u.toNat : Int) := by rw [e]; exact own_u32 h
  have e2 : hN m = u.toNat := by unfold hN; simp only [Int32.toNatClampNeg]; omega
  rw [e2]; exact ⟨e1, h⟩
theorem own_pl0 (h : Run ts y (k + 1)) : ¬ (pl ts y = (0 : Int32)) := by
  have := h 0 (by omega); exact this
theorem own_zero_pl (h : pl ts (y + 0) = 0) : pl ts y = (0 : Int32) := h
theorem own_step_pl (h : pl ts (y + (k + 1)) = 0) : pl ts ((y + 1) % 64 + k) = 0 := by
  rw [own_pl_mod, Nat.add_assoc, Nat.add_comm 1 k]; exact h
theorem own_step_pp {pp : Nat} (h : (y + (k + 1)) % 64 = pp) : ((y + 1) % 64 + k) % 64 = pp := by omega
theorem own_setm {pp : Nat} (v : Int32) (hj : hv.toInt = (y : Int)) (h64 : y < 64) (hp : (y + 0) % 64 = pp) : (ts.map Value.int).set hv.toNatClampNeg (.int v) = (ts.set pp v).map Value.int := by
  have e : hv.toNatClampNeg = pp := by rw [own_tc hj]; omega
  rw [e, List.map_set]
theorem own_ltm (hl : ts.length = 64) (hj : hv.toInt = (y : Int)) (h64 : y < 64) : hv.toNatClampNeg < (ts.map Value.int).length := by
  rw [own_tc hj, List.length_map, hl]; exact h64
end OwnProbe

section OwnLook
variable {ts ml : List Int32} {us zs : List Value} {q hv : Int32} {i y d k : Nat}
theorem own_vali (hi : i < 9) : ((val i) - (1 : Int32)).toInt = (i : Int) := by
  have e : (val i).toInt = ((i + 1 : Nat) : Int) := Int32.toInt_ofNat_of_lt (by omega)
  have l1 : (1 : Int32).toInt = 1 := by decide
  rw [Jvm.Kit.i32_sub (by rw [e, l1]; omega) (by rw [e, l1]; omega), e, l1]; omega
theorem own_valn (hi : i < 9) : (val i) - (1 : Int32) = Int32.ofNat i := by
  apply Int32.toInt_inj.mp
  rw [own_vali hi, Int32.toInt_ofNat_of_lt (by omega)]
theorem own_min (hi : i < 9) : ¬ ((val i) - (1 : Int32)) < 0 ∧ ((val i) - (1 : Int32)) < (16 : Int32) := by
  have z0 : (0 : Int32).toInt = 0 := rfl
  have z1 : (16 : Int32).toInt = 16 := rfl
  simp only [Int32.lt_iff_toInt_lt, own_vali hi, z0, z1]; omega
theorem own_mat (hus : us = ml.map Value.int ++ zs) (hl : ml.length = 9) (hi : i < 9) : us.getD ((val i) - (1 : Int32)).toNatClampNeg (.int (0 : Int32)) = (.int (ml.getD i 0)) := by
  rw [own_tc (own_vali hi), hus, List.getD_eq_getElem?_getD, List.getElem?_append_left (by simpa using (by omega : i < ml.length)), List.getElem?_map, List.getD_eq_getElem?_getD, List.getElem?_eq_getElem (by omega)]; rfl
theorem own_pl_eq (h : y = (hN q + d) % 64) : pl ts y = pl ts (hN q + d) := by subst h; unfold pl; rw [Nat.mod_mod]
theorem own_stop_eq (h : y = (hN q + d) % 64) : Stop ts ml q y ↔ Stop ts ml q (hN q + d) := by unfold Stop; rw [own_pl_eq h]
theorem own_not_stop (ht : Tab 9 ts ml) (h : ¬ Stop ts ml q y) : ∃ i, i < 9 ∧ pl ts y = val i ∧ ml.getD i 0 ≠ q := by
  rcases ht.2.2.2 y with z | ⟨i, hi, z⟩
  · exact absurd (Or.inl z) h
  · exact ⟨i, hi, z, fun e => h (Or.inr ⟨i, hi, z, e⟩)⟩
theorem own_ynext (h : y = (hN q + d) % 64) : (y + 1) % 64 = (hN q + (d + 1)) % 64 := by omega
theorem own_hatn {n : Nat} (hus : us = ml.map Value.int ++ zs) (hl : ml.length = 9) (hn : n < 9) : us.getD (Int32.ofNat n).toNatClampNeg (.int (0 : Int32)) = (.int (ml.getD n 0)) := by
  rw [own_tc (Int32.toInt_ofNat_of_lt (by omega) : (Int32.ofNat n).toInt = (n : Int)), hus, List.getD_eq_getElem?_getD, List.getElem?_append_left (by simpa using (by omega : n < ml.length)), List.getElem?_map, List.getD_eq_getElem?_getD, List.getElem?_eq_getElem (by omega)]; rfl
theorem own_h0 (q : Int32) : hN q = (hN q + 0) % 64 := by
  have := (own_hI q).2
  omega
end OwnLook

section OwnExp
variable {a d n q b : Int32} {i j k K : Nat}
/-- member k -/
def M (a d : Int32) : Nat → Int32
  | 0 => a
  | 1 => a + d
  | k + 2 => a + Int32.ofNat (k + 2) * d
theorem own_M : ∀ k, M a d k = a + Int32.ofNat k * d
  | 0 => by
    show a = a + Int32.ofNat 0 * d
    rw [show Int32.ofNat 0 = 0 from rfl, Int32.zero_mul, Int32.add_zero]
  | 1 => by
    show a + d = a + Int32.ofNat 1 * d
    rw [show Int32.ofNat 1 = 1 from rfl, Int32.one_mul]
  | k + 2 => rfl
def Odd32 (d : Int32) : Prop := d.toBitVec.toNat % 2 = 1
theorem own_odd (h : (b ||| (1 : Int32)) = d) : Odd32 d := by
  subst h
  unfold Odd32
  rw [Int32.toBitVec_or, BitVec.toNat_or]
  have h1 : (1 : Int32).toBitVec.toNat = 1 := by decide
  rw [h1]
  have := Nat.testBit_or b.toBitVec.toNat 1 0
  rw [Nat.testBit_zero, Nat.testBit_zero, Nat.testBit_zero] at this
  simpa using this
theorem own_mN : (M a d k).toBitVec.toNat = (a.toBitVec.toNat + k * d.toBitVec.toNat) % 2 ^ 32 := by
  rw [own_M, Int32.toBitVec_add, Int32.toBitVec_mul, BitVec.toNat_add, BitVec.toNat_mul]
  have : (Int32.ofNat k).toBitVec.toNat = k % 2 ^ 32 := by rw [Int32.toBitVec_ofNat', BitVec.toNat_ofNat]
  rw [this, Nat.mod_mul_mod, Nat.add_mod_mod]
theorem own_arith {A D t u : Nat} (ht : 0 < t) (h9 : t < 9) (hD : D % 2 = 1) (h : (A + u) % 2 ^ 32 = (A + (u + t * D)) % 2 ^ 32) : False := by
  obtain rfl | rfl | rfl | rfl | rfl | rfl | rfl | rfl : t = 1 ∨ t = 2 ∨ t = 3 ∨ t = 4 ∨ t = 5 ∨ t = 6 ∨ t = 7 ∨ t = 8 := by omega
  all_goals omega
theorem own_mlt (hd : Odd32 d) (hk : j < k) (h9 : k < 9) : M a d j ≠ M a d k := fun h => by
  have e := congrArg (fun z : Int32 => z.toBitVec.toNat) h
  simp only [own_mN] at e
  obtain ⟨t, rfl⟩ : ∃ t, k = j + t := ⟨k - j, by omega⟩
  rw [Nat.add_mul] at e
  exact own_arith (by omega) (by omega) hd e
theorem own_minj (hd : Odd32 d) (hj : j < 9) (hk : k < 9) (h : M a d j = M a d k) : j = k := by
  rcases Nat.lt_trichotomy j k with z | z | z
  · exact absurd h (own_mlt hd z hk)
  · exact z
  · exact absurd h.symm (own_mlt hd z hj)
/-- the nine members -/
def mL (a d : Int32) : List Int32 := [a, a + d, a + 2 * d, a + 3 * d, a + 4 * d, a + 5 * d, a + 6 * d, a + 7 * d, a + 8 * d]
theorem own_mL (h : k < 9) : (mL a d).getD k 0 = M a d k := by
  match k, h with
  | 0, _ => rfl
  | 1, _ => rfl
  | 2, _ => rfl
  | 3, _ => rfl
  | 4, _ => rfl
  | 5, _ => rfl
  | 6, _ => rfl
  | 7, _ => rfl
  | 8, _ => rfl
theorem own_nd (hd : Odd32 d) : ∀ i j, i < 9 → j < 9 → (mL a d).getD i 0 = (mL a d).getD j 0 → i = j := fun i j hi hj h => by
  rw [own_mL hi, own_mL hj] at h
  exact own_minj hd hi hj h
/-- one check of expected -/
def stepE (k m q n r : Int32) : Int32 := if k < n then (if q = m then k else r) else r
def expR (a d n q : Int32) : Nat → Int32
  | 0 => -1
  | k + 1 => stepE (Int32.ofNat k) (M a d k) q n (expR a d n q k)
def expT (a d n q : Int32) : Int32 := expR a d n q 9
theorem own_exp_none : ∀ K, (∀ k, k < K → Int32.ofNat k < n → M a d k ≠ q) → expR a d n q K = -1
  | 0, _ => rfl
  | K + 1, h => by
    have ih := own_exp_none K fun k hk => h k (by omega)
    show stepE (Int32.ofNat K) (M a d K) q n (expR a d n q K) = -1
    unfold stepE
    by_cases h1 : Int32.ofNat K < n
    · rw [if_pos h1, if_neg (fun z => h K (by omega) h1 z.symm), ih]
    · rw [if_neg h1, ih]
theorem own_exp_some (hd : Odd32 d) : ∀ K, K ≤ 9 → j < K → Int32.ofNat j < n → M a d j = q → expR a d n q K = Int32.ofNat j
  | 0, _, h, _, _ => absurd h (by omega)
  | K + 1, h9, hj, h1, h2 => by
    show stepE (Int32.ofNat K) (M a d K) q n (expR a d n q K) = Int32.ofNat j
    unfold stepE
    by_cases hK : j = K
    · subst hK; rw [if_pos h1, if_pos h2.symm]
    · have ih := own_exp_some hd K (by omega) (by omega) h1 h2
      have : ¬ (q = M a d K) := fun z => hK (own_minj hd (by omega) (by omega) (h2.trans z))
      rw [ih, if_neg this]; split <;> rfl
theorem own_ofN (h : k < 9) : (Int32.ofNat k).toInt = (k : Int) := Int32.toInt_ofNat_of_lt (by omega)
theorem own_le_n (h : Int32.ofNat k < n) (hk : k < 9) (hj : j ≤ k) : Int32.ofNat j < n := by
  rw [Int32.lt_iff_toInt_lt, own_ofN (by omega)] at *; omega
theorem own_later (h : ¬ (Int32.ofNat j < n)) (hj : j ≤ k) (hk : k < 9) : ¬ (Int32.ofNat k < n) := fun z => h (own_le_n z hk hj)
theorem own_take (hi : i ≤ 9) (hk : k < i) : ((mL a d).take i).getD k 0 = M a d k := by
  rw [← own_mL (a := a) (d := d) (by omega : k < 9), List.getD_eq_getElem?_getD, List.getD_eq_getElem?_getD, List.getElem?_take, if_pos hk]
/-- what expected gives is what the search gives -/
theorem own_exp (hd : Odd32 d) (hi : i ≤ 9) (hlo : ∀ k, k < i → Int32.ofNat k < n) (hhi : ∀ k, i ≤ k → k < 9 → ¬ (Int32.ofNat k < n)) : findL ((mL a d).take i) q 0 = expT a d n q := by
  have hlen : ((mL a d).take i).length = i := by rw [List.length_take]; exact Nat.min_eq_left hi
  by_cases hq : ∃ j, j < i ∧ M a d j = q
  · obtain ⟨j, hj, h2⟩ := hq
    rw [own_find_some _ q 0 j (by omega) (by rw [own_take hi hj]; exact h2) (fun k hk z => by
      rw [own_take hi (by omega)] at z
      exact absurd (own_minj hd (by omega) (by omega) (z.trans h2.symm)) (by omega)), Int32.zero_add]
    exact (own_exp_some hd 9 (Nat.le_refl _) (by omega) (hlo j hj) h2).symm
  · rw [own_find_none _ q 0 (fun k hk z => hq ⟨k, by omega, by rw [own_take hi (by omega)] at z; exact z⟩)]
    refine (own_exp_none 9 fun k hk h1 z => ?_).symm
    by_cases hki : k < i
    · exact hq ⟨k, hki, z⟩
    · exact hhi k (by omega) hk h1
theorem own_e0 (hd : Odd32 d) (h1 : ¬ ((0 : Int32) < n)) : findL ((mL a d).take 0) q 0 = expT a d n q := own_exp hd (by decide) (fun k h => absurd h (by omega)) (fun k _ hk => own_later (j := 0) h1 (by omega) hk)
theorem own_e9 (hd : Odd32 d) (h1 : (8 : Int32) < n) : findL ((mL a d).take 9) q 0 = expT a d n q := own_exp hd (by decide) (fun k h => own_le_n (k := 8) h1 (by decide) (by omega)) (fun k h hk => absurd hk (by omega))
theorem own_ei (hd : Odd32 d) (hi : i < 8) (h0 : Int32.ofNat i < n) (h1 : ¬ (Int32.ofNat (i + 1) < n)) : findL ((mL a d).take (i + 1)) q 0 = expT a d n q := own_exp hd (by omega) (fun k h => own_le_n h0 (by omega) (by omega)) (fun k h hk => own_later h1 h hk)
end OwnExp

theorem d8_0 : decode prog_21_method_22_code 0 = .ok (.lload_n 0, 1) := by decide +kernel
theorem d8_1 : decode prog_21_method_22_code 1 = .ok (.lload_n 0, 1) := by decide +kernel
theorem d8_2 : decode prog_21_method_22_code 2 = .ok (.bipush 32, 2) := by decide +kernel
theorem d8_4 : decode prog_21_method_22_code 4 = .ok (.lushr, 1) := by decide +kernel
theorem d8_5 : decode prog_21_method_22_code 5 = .ok (.lxor, 1) := by decide +kernel
theorem d8_6 : decode prog_21_method_22_code 6 = .ok (.ldc2_w 172, 3) := by decide +kernel
theorem d8_9 : decode prog_21_method_22_code 9 = .ok (.lmul, 1) := by decide +kernel
theorem d8_10 : decode prog_21_method_22_code 10 = .ok (.lstore_n 2, 1) := by decide +kernel
theorem d8_11 : decode prog_21_method_22_code 11 = .ok (.lload_n 2, 1) := by decide +kernel
theorem d8_12 : decode prog_21_method_22_code 12 = .ok (.lload_n 2, 1) := by decide +kernel
theorem d8_13 : decode prog_21_method_22_code 13 = .ok (.bipush 29, 2) := by decide +kernel
theorem d8_15 : decode prog_21_method_22_code 15 = .ok (.lushr, 1) := by decide +kernel
theorem d8_16 : decode prog_21_method_22_code 16 = .ok (.lxor, 1) := by decide +kernel
theorem d8_17 : decode prog_21_method_22_code 17 = .ok (.ldc2_w 172, 3) := by decide +kernel
theorem d8_20 : decode prog_21_method_22_code 20 = .ok (.lmul, 1) := by decide +kernel
theorem d8_21 : decode prog_21_method_22_code 21 = .ok (.lstore_n 2, 1) := by decide +kernel
theorem d8_22 : decode prog_21_method_22_code 22 = .ok (.lload_n 2, 1) := by decide +kernel
theorem d8_23 : decode prog_21_method_22_code 23 = .ok (.lload_n 2, 1) := by decide +kernel
theorem d8_24 : decode prog_21_method_22_code 24 = .ok (.bipush 32, 2) := by decide +kernel
theorem d8_26 : decode prog_21_method_22_code 26 = .ok (.lushr, 1) := by decide +kernel
theorem d8_27 : decode prog_21_method_22_code 27 = .ok (.lxor, 1) := by decide +kernel
theorem d8_28 : decode prog_21_method_22_code 28 = .ok (.lreturn, 1) := by decide +kernel
theorem pn_0 : plainName "com/example/due_weight/dueweight/core/Pairs" = true := by first | (simp [plainName, overriddenIn]; done) | decide +kernel
theorem ef_rm8 (m : MethodId) (j0 : Int64) : entryFrame m #[(.long j0)] 4 = mkF m 0 #[.val (.long j0), .second, .unset, .unset] [] := by first | (simp [entryFrame, mkF, argsToLocals, Value.category]; done) | rfl
def Q_rm8 (Z : State) (j0 : Int64) (h0 : Heap) (n0 : Nat) (v : Option Value) (h : Heap) (L : List Loc) : Prop := v = some (.long (mixV j0)) ∧ Fr n0 L ∧ h = h0
set_option maxRecDepth 65536 in
set_option maxHeartbeats 40000000 in
theorem rm8 (l : Launch) (Z : State) (aw : Array Value) (hw : ∀ d ∈ tables_1, d.before aw Z = true) (ws : List Jvm.Cond) (j0 : Int64) (h0 : Heap) (n0 : Nat) (Z0 : n0 ≤ h0.size) :
    MetFree l (⟨"com/example/due_weight/dueweight/core/Pairs", "mix", "(J)J"⟩ : MethodName) (head1 (Jvm.Cond.code (⟨"com/example/due_weight/dueweight/core/Pairs", "mix", "(J)J"⟩ : MethodName) prog_21_method_22_code 4 (some .long) :: ws) ({ frames := 0, cells := 0, slots := 0, locals := 0 } : Room)) (fun a U => a = #[(.long j0)] ∧ Z.Warmed39 U.vm ∧ U.heap = h0) (fun _ _ _ _ _ => True) (fun _ U o U' => ∃ v L, o = .returned v ∧ Q_rm8 Z j0 h0 n0 v U'.heap L ∧ FrameEnd U o U' L ({ frames := 0, cells := 0, slots := 0, locals := 0 } : Room).cells ({ frames := 0, cells := 0, slots := 0, locals := 0 } : Room).slots) := by
  refine MetFree.of_bodySF (plainFor_of_name pn_0) hisR ?_
  intro p e s m args below meth c s₁ Bd hml0 hP hK
  obtain ⟨rfl, hZ, hh⟩ := hP
  have hx := Bd.exec
  have hby := Bd.bytes
  have hml : c.maxLocals = 4 := hml0
  have hown : s.vm.findClass "com/example/due_weight/dueweight/core/Pairs" = some m.cls := findClass_of_methodNamed Bd.named
  have hnm := (name_of_methodNamed Bd.named Bd.method).1
  have hlk : meth.locks = false := BodyLoose.notSynchronized Bd
  have X0 : Stand p l e ({ frames := 0, cells := 0, slots := 0, locals := 0 } : Room) s m #[(.long j0)] below meth c s₁ [] 0 0 := Stand.of_body Bd
  have e0 : s₁.heap = h0 := by rw [← hh, Bd.state]; rfl
  have N0 := Fr.nil n0
  have ZZ := Z0
  show Go p e below s ({ frames := 0, cells := 0, slots := 0, locals := 0 } : Room).cells ({ frames := 0, cells := 0, slots := 0, locals := 0 } : Room).slots (fun v h L => Q_rm8 Z j0 h0 n0 v h L) s₁ (entryFrame m #[(.long j0)] 4)
  refine Go.cast (ef_rm8 m j0) ?_
  refine Go.gen ?_
  intro K1 K2 QQ hK1 hK2 hQQ
  refine Go.on (fun _ k => XS.lloadN X0.here hx rfl (hb hby d8_0) rfl k) ?_
  refine Go.on (fun _ k => XS.lloadN X0.here hx rfl (hb hby d8_1) rfl k) ?_
  refine Go.on (fun _ k => XS.bipush X0.here hx rfl (hb hby d8_2) k) ?_
  show Go _ _ _ _ _ _ _ _ (mkF m 4 #[Sj j0, .second, .unset, .unset] [(.int 32), (.long j0), (.long j0)])
  refine Go.on (fun _ k => XS.lushr X0.here hx rfl (hb hby d8_4) rfl k) ?_
  show Go _ _ _ _ _ _ _ _ (mkF m 5 #[Sj j0, .second, .unset, .unset] [(.long ((j0.toUInt64 >>> ((32 : Int32) &&& 0x3f).toInt64.toUInt64).toInt64)), (.long j0)])
  refine Go.on (fun _ k => XS.lxor X0.here hx rfl (hb hby d8_5) rfl k) ?_
  show Go _ _ _ _ _ _ _ _ (mkF m 6 #[Sj j0, .second, .unset, .unset] [(.long (j0 ^^^ ((j0.toUInt64 >>> ((32 : Int32) &&& 0x3f).toInt64.toUInt64).toInt64)))])
  refine Go.on (fun _ k => X0.ldc2J hx hown (mvT hZ (hw _ (List.mem_of_getElem? (i := 50) rfl))) rfl (hb hby d8_6) k) ?_
  show Go _ _ _ _ _ _ _ _ (mkF m 9 #[Sj j0, .second, .unset, .unset] [(.long (-7046029254386353131 : Int64)), (.long (j0 ^^^ ((j0.toUInt64 >>> ((32 : Int32) &&& 0x3f).toInt64.toUInt64).toInt64)))])
  refine Go.on (fun _ k => XS.lmul X0.here hx rfl (hb hby d8_9) rfl k) ?_
  show Go _ _ _ _ _ _ _ _ (mkF m 10 #[Sj j0, .second, .unset, .unset] [(.long ((j0 ^^^ ((j0.toUInt64 >>> ((32 : Int32) &&& 0x3f).toInt64.toUInt64).toInt64)) * (-7046029254386353131 : Int64)))])
  refine Go.on (fun _ k => XS.lstoreN X0.here hx rfl (hb hby d8_10) rfl (l' := #[.val (.long j0), .second, .val (.long ((j0 ^^^ ((j0.toUInt64 >>> ((32 : Int32) &&& 0x3f).toInt64.toUInt64).toInt64)) * (-7046029254386353131 : Int64))), .second]) rfl k) ?_
  show Go _ _ _ _ _ _ _ _ (mkF m 11 #[Sj j0, .second, .val (.long ((j0 ^^^ ((j0.toUInt64 >>> ((32 : Int32) &&& 0x3f).toInt64.toUInt64).toInt64)) * (-7046029254386353131 : Int64))), .second] [])
  refine Go.on (fun _ k => XS.lloadN X0.here hx rfl (hb hby d8_11) rfl k) ?_
  refine Go.on (fun _ k => XS.lloadN X0.here hx rfl (hb hby d8_12) rfl k) ?_
  refine Go.on (fun _ k => XS.bipush X0.here hx rfl (hb hby d8_13) k) ?_
  show Go _ _ _ _ _ _ _ _ (mkF m 15 #[Sj j0, .second, .val (.long ((j0 ^^^ ((j0.toUInt64 >>> ((32 : Int32) &&& 0x3f).toInt64.toUInt64).toInt64)) * (-7046029254386353131 : Int64))), .second] [(.int 29), (.long ((j0 ^^^ ((j0.toUInt64 >>> ((32 : Int32) &&& 0x3f).toInt64.toUInt64).toInt64)) * (-7046029254386353131 : Int64))), (.long ((j0 ^^^ ((j0.toUInt64 >>> ((32 : Int32) &&& 0x3f).toInt64.toUInt64).toInt64)) * (-7046029254386353131 : Int64)))])
  refine Go.on (fun _ k => XS.lushr X0.here hx rfl (hb hby d8_15) rfl k) ?_
  show Go _ _ _ _ _ _ _ _ (mkF m 16 #[Sj j0, .second, .val (.long ((j0 ^^^ ((j0.toUInt64 >>> ((32 : Int32) &&& 0x3f).toInt64.toUInt64).toInt64)) * (-7046029254386353131 : Int64))), .second] [(.long ((((j0 ^^^ ((j0.toUInt64 >>> ((32 : Int32) &&& 0x3f).toInt64.toUInt64).toInt64)) * (-7046029254386353131 : Int64)).toUInt64 >>> ((29 : Int32) &&& 0x3f).toInt64.toUInt64).toInt64)), (.long ((j0 ^^^ ((j0.toUInt64 >>> ((32 : Int32) &&& 0x3f).toInt64.toUInt64).toInt64)) * (-7046029254386353131 : Int64)))])
  refine Go.on (fun _ k => XS.lxor X0.here hx rfl (hb hby d8_16) rfl k) ?_
  show Go _ _ _ _ _ _ _ _ (mkF m 17 #[Sj j0, .second, .val (.long ((j0 ^^^ ((j0.toUInt64 >>> ((32 : Int32) &&& 0x3f).toInt64.toUInt64).toInt64)) * (-7046029254386353131 : Int64))), .second] [(.long (((j0 ^^^ ((j0.toUInt64 >>> ((32 : Int32) &&& 0x3f).toInt64.toUInt64).toInt64)) * (-7046029254386353131 : Int64)) ^^^ ((((j0 ^^^ ((j0.toUInt64 >>> ((32 : Int32) &&& 0x3f).toInt64.toUInt64).toInt64)) * (-7046029254386353131 : Int64)).toUInt64 >>> ((29 : Int32) &&& 0x3f).toInt64.toUInt64).toInt64)))])
  refine Go.on (fun _ k => X0.ldc2J hx hown (mvT hZ (hw _ (List.mem_of_getElem? (i := 50) rfl))) rfl (hb hby d8_17) k) ?_
  show Go _ _ _ _ _ _ _ _ (mkF m 20 #[Sj j0, .second, .val (.long ((j0 ^^^ ((j0.toUInt64 >>> ((32 : Int32) &&& 0x3f).toInt64.toUInt64).toInt64)) * (-7046029254386353131 : Int64))), .second] [(.long (-7046029254386353131 : Int64)), (.long (((j0 ^^^ ((j0.toUInt64 >>> ((32 : Int32) &&& 0x3f).toInt64.toUInt64).toInt64)) * (-7046029254386353131 : Int64)) ^^^ ((((j0 ^^^ ((j0.toUInt64 >>> ((32 : Int32) &&& 0x3f).toInt64.toUInt64).toInt64)) * (-7046029254386353131 : Int64)).toUInt64 >>> ((29 : Int32) &&& 0x3f).toInt64.toUInt64).toInt64)))])
  refine Go.on (fun _ k => XS.lmul X0.here hx rfl (hb hby d8_20) rfl k) ?_
  show Go _ _ _ _ _ _ _ _ (mkF m 21 #[Sj j0, .second, .val (.long ((j0 ^^^ ((j0.toUInt64 >>> ((32 : Int32) &&& 0x3f).toInt64.toUInt64).toInt64)) * (-7046029254386353131 : Int64))), .second] [(.long ((((j0 ^^^ ((j0.toUInt64 >>> ((32 : Int32) &&& 0x3f).toInt64.toUInt64).toInt64)) * (-7046029254386353131 : Int64)) ^^^ ((((j0 ^^^ ((j0.toUInt64 >>> ((32 : Int32) &&& 0x3f).toInt64.toUInt64).toInt64)) * (-7046029254386353131 : Int64)).toUInt64 >>> ((29 : Int32) &&& 0x3f).toInt64.toUInt64).toInt64)) * (-7046029254386353131 : Int64)))])
  refine Go.on (fun _ k => XS.lstoreN X0.here hx rfl (hb hby d8_21) rfl (l' := #[.val (.long j0), .second, .val (.long ((((j0 ^^^ ((j0.toUInt64 >>> ((32 : Int32) &&& 0x3f).toInt64.toUInt64).toInt64)) * (-7046029254386353131 : Int64)) ^^^ ((((j0 ^^^ ((j0.toUInt64 >>> ((32 : Int32) &&& 0x3f).toInt64.toUInt64).toInt64)) * (-7046029254386353131 : Int64)).toUInt64 >>> ((29 : Int32) &&& 0x3f).toInt64.toUInt64).toInt64)) * (-7046029254386353131 : Int64))), .second]) rfl k) ?_
  show Go _ _ _ _ _ _ _ _ (mkF m 22 #[Sj j0, .second, .val (.long ((((j0 ^^^ ((j0.toUInt64 >>> ((32 : Int32) &&& 0x3f).toInt64.toUInt64).toInt64)) * (-7046029254386353131 : Int64)) ^^^ ((((j0 ^^^ ((j0.toUInt64 >>> ((32 : Int32) &&& 0x3f).toInt64.toUInt64).toInt64)) * (-7046029254386353131 : Int64)).toUInt64 >>> ((29 : Int32) &&& 0x3f).toInt64.toUInt64).toInt64)) * (-7046029254386353131 : Int64))), .second] [])
  refine Go.on (fun _ k => XS.lloadN X0.here hx rfl (hb hby d8_22) rfl k) ?_
  refine Go.on (fun _ k => XS.lloadN X0.here hx rfl (hb hby d8_23) rfl k) ?_
  refine Go.on (fun _ k => XS.bipush X0.here hx rfl (hb hby d8_24) k) ?_
  show Go _ _ _ _ _ _ _ _ (mkF m 26 #[Sj j0, .second, .val (.long ((((j0 ^^^ ((j0.toUInt64 >>> ((32 : Int32) &&& 0x3f).toInt64.toUInt64).toInt64)) * (-7046029254386353131 : Int64)) ^^^ ((((j0 ^^^ ((j0.toUInt64 >>> ((32 : Int32) &&& 0x3f).toInt64.toUInt64).toInt64)) * (-7046029254386353131 : Int64)).toUInt64 >>> ((29 : Int32) &&& 0x3f).toInt64.toUInt64).toInt64)) * (-7046029254386353131 : Int64))), .second] [(.int 32), (.long ((((j0 ^^^ ((j0.toUInt64 >>> ((32 : Int32) &&& 0x3f).toInt64.toUInt64).toInt64)) * (-7046029254386353131 : Int64)) ^^^ ((((j0 ^^^ ((j0.toUInt64 >>> ((32 : Int32) &&& 0x3f).toInt64.toUInt64).toInt64)) * (-7046029254386353131 : Int64)).toUInt64 >>> ((29 : Int32) &&& 0x3f).toInt64.toUInt64).toInt64)) * (-7046029254386353131 : Int64))), (.long ((((j0 ^^^ ((j0.toUInt64 >>> ((32 : Int32) &&& 0x3f).toInt64.toUInt64).toInt64)) * (-7046029254386353131 : Int64)) ^^^ ((((j0 ^^^ ((j0.toUInt64 >>> ((32 : Int32) &&& 0x3f).toInt64.toUInt64).toInt64)) * (-7046029254386353131 : Int64)).toUInt64 >>> ((29 : Int32) &&& 0x3f).toInt64.toUInt64).toInt64)) * (-7046029254386353131 : Int64)))])
  refine Go.on (fun _ k => XS.lushr X0.here hx rfl (hb hby d8_26) rfl k) ?_
  show Go _ _ _ _ _ _ _ _ (mkF m 27 #[Sj j0, .second, .val (.long ((((j0 ^^^ ((j0.toUInt64 >>> ((32 : Int32) &&& 0x3f).toInt64.toUInt64).toInt64)) * (-7046029254386353131 : Int64)) ^^^ ((((j0 ^^^ ((j0.toUInt64 >>> ((32 : Int32) &&& 0x3f).toInt64.toUInt64).toInt64)) * (-7046029254386353131 : Int64)).toUInt64 >>> ((29 : Int32) &&& 0x3f).toInt64.toUInt64).toInt64)) * (-7046029254386353131 : Int64))), .second] [(.long ((((((j0 ^^^ ((j0.toUInt64 >>> ((32 : Int32) &&& 0x3f).toInt64.toUInt64).toInt64)) * (-7046029254386353131 : Int64)) ^^^ ((((j0 ^^^ ((j0.toUInt64 >>> ((32 : Int32) &&& 0x3f).toInt64.toUInt64).toInt64)) * (-7046029254386353131 : Int64)).toUInt64 >>> ((29 : Int32) &&& 0x3f).toInt64.toUInt64).toInt64)) * (-7046029254386353131 : Int64)).toUInt64 >>> ((32 : Int32) &&& 0x3f).toInt64.toUInt64).toInt64)), (.long ((((j0 ^^^ ((j0.toUInt64 >>> ((32 : Int32) &&& 0x3f).toInt64.toUInt64).toInt64)) * (-7046029254386353131 : Int64)) ^^^ ((((j0 ^^^ ((j0.toUInt64 >>> ((32 : Int32) &&& 0x3f).toInt64.toUInt64).toInt64)) * (-7046029254386353131 : Int64)).toUInt64 >>> ((29 : Int32) &&& 0x3f).toInt64.toUInt64).toInt64)) * (-7046029254386353131 : Int64)))])
  refine Go.on (fun _ k => XS.lxor X0.here hx rfl (hb hby d8_27) rfl k) ?_
  show Go _ _ _ _ _ _ _ _ (mkF m 28 #[Sj j0, .second, .val (.long ((((j0 ^^^ ((j0.toUInt64 >>> ((32 : Int32) &&& 0x3f).toInt64.toUInt64).toInt64)) * (-7046029254386353131 : Int64)) ^^^ ((((j0 ^^^ ((j0.toUInt64 >>> ((32 : Int32) &&& 0x3f).toInt64.toUInt64).toInt64)) * (-7046029254386353131 : Int64)).toUInt64 >>> ((29 : Int32) &&& 0x3f).toInt64.toUInt64).toInt64)) * (-7046029254386353131 : Int64))), .second] [(.long (((((j0 ^^^ ((j0.toUInt64 >>> ((32 : Int32) &&& 0x3f).toInt64.toUInt64).toInt64)) * (-7046029254386353131 : Int64)) ^^^ ((((j0 ^^^ ((j0.toUInt64 >>> ((32 : Int32) &&& 0x3f).toInt64.toUInt64).toInt64)) * (-7046029254386353131 : Int64)).toUInt64 >>> ((29 : Int32) &&& 0x3f).toInt64.toUInt64).toInt64)) * (-7046029254386353131 : Int64)) ^^^ ((((((j0 ^^^ ((j0.toUInt64 >>> ((32 : Int32) &&& 0x3f).toInt64.toUInt64).toInt64)) * (-7046029254386353131 : Int64)) ^^^ ((((j0 ^^^ ((j0.toUInt64 >>> ((32 : Int32) &&& 0x3f).toInt64.toUInt64).toInt64)) * (-7046029254386353131 : Int64)).toUInt64 >>> ((29 : Int32) &&& 0x3f).toInt64.toUInt64).toInt64)) * (-7046029254386353131 : Int64)).toUInt64 >>> ((32 : Int32) &&& 0x3f).toInt64.toUInt64).toInt64)))])
  refine Go.retV X0 hx Bd.returns rfl (Or.inr (Or.inl ⟨rfl, rfl, _, rfl⟩)) (hb hby d8_28) ?_ (by rw [hK1]; decide) (by rw [hK2]; decide)
  rw [e0, ← hQQ]
  exact ⟨rfl, N0, rfl⟩
theorem d7_0 : decode jdk_117_method_6_code 0 = .ok (.dload_n 0, 1) := by decide +kernel
theorem d7_1 : decode jdk_117_method_6_code 1 = .ok (.dload_n 0, 1) := by decide +kernel
theorem d7_2 : decode jdk_117_method_6_code 2 = .ok (.dcmp .l, 1) := by decide +kernel
theorem d7_3 : decode jdk_117_method_6_code 3 = .ok (.ifCond .eq 7, 3) := by decide +kernel
theorem d7_10 : decode jdk_117_method_6_code 10 = .ok (.iconst 0, 1) := by decide +kernel
theorem d7_11 : decode jdk_117_method_6_code 11 = .ok (.ireturn, 1) := by decide +kernel
theorem pn_1 : plainName "java/lang/Double" = true := by first | (simp [plainName, overriddenIn]; done) | decide +kernel
theorem ef_rm7 (m : MethodId) (d0 : UInt64) : entryFrame m #[(.double d0)] 2 = mkF m 0 #[.val (.double d0), .second] [] := by first | (simp [entryFrame, mkF, argsToLocals, Value.category]; done) | rfl
def Q_rm7 (Z : State) (d0 : UInt64) (h0 : Heap) (n0 : Nat) (v : Option Value) (h : Heap) (L : List Loc) : Prop := v = some (.int (0 : Int32)) ∧ Fr n0 L ∧ h = h0
set_option maxRecDepth 65536 in
set_option maxHeartbeats 40000000 in
theorem rm7 (l : Launch) (Z : State) (aw : Array Value) (hw : ∀ d ∈ tables_1, d.before aw Z = true) (ws : List Jvm.Cond) (d0 : UInt64) (h0 : Heap) (n0 : Nat) (Z0 : n0 ≤ h0.size) (hz : (cmpValue (FP.dcmp d0 d0) .l) = (0 : Int32)) :
    MetFree l (⟨"java/lang/Double", "isNaN", "(D)Z"⟩ : MethodName) (head1 (Jvm.Cond.code (⟨"java/lang/Double", "isNaN", "(D)Z"⟩ : MethodName) jdk_117_method_6_code 2 (some .boolean) :: ws) ({ frames := 0, cells := 0, slots := 0, locals := 0 } : Room)) (fun a U => a = #[(.double d0)] ∧ Z.Warmed39 U.vm ∧ U.heap = h0) (fun _ _ _ _ _ => True) (fun _ U o U' => ∃ v L, o = .returned v ∧ Q_rm7 Z d0 h0 n0 v U'.heap L ∧ FrameEnd U o U' L ({ frames := 0, cells := 0, slots := 0, locals := 0 } : Room).cells ({ frames := 0, cells := 0, slots := 0, locals := 0 } : Room).slots) := by
  refine MetFree.of_bodySF (plainFor_of_name pn_1) hisR ?_
  intro p e s m args below meth c s₁ Bd hml0 hP hK
  obtain ⟨rfl, hZ, hh⟩ := hP
  have hx := Bd.exec
  have hby := Bd.bytes
  have hml : c.maxLocals = 2 := hml0
  have hown : s.vm.findClass "java/lang/Double" = some m.cls := findClass_of_methodNamed Bd.named
  have hnm := (name_of_methodNamed Bd.named Bd.method).1
  have hlk : meth.locks = false := BodyLoose.notSynchronized Bd
  have X0 : Stand p l e ({ frames := 0, cells := 0, slots := 0, locals := 0 } : Room) s m #[(.double d0)] below meth c s₁ [] 0 0 := Stand.of_body Bd
  have e0 : s₁.heap = h0 := by rw [← hh, Bd.state]; rfl
  have N0 := Fr.nil n0
  have ZZ := Z0
  show Go p e below s ({ frames := 0, cells := 0, slots := 0, locals := 0 } : Room).cells ({ frames := 0, cells := 0, slots := 0, locals := 0 } : Room).slots (fun v h L => Q_rm7 Z d0 h0 n0 v h L) s₁ (entryFrame m #[(.double d0)] 2)
  refine Go.cast (ef_rm7 m d0) ?_
  refine Go.gen ?_
  intro K1 K2 QQ hK1 hK2 hQQ
  refine Go.on (fun _ k => XS.dloadN X0.here hx rfl (hb hby d7_0) rfl k) ?_
  refine Go.on (fun _ k => XS.dloadN X0.here hx rfl (hb hby d7_1) rfl k) ?_
  refine Go.on (fun _ k => XS.dcmpS X0.here hx rfl (hb hby d7_2) rfl rfl k) ?_
  show Go _ _ _ _ _ _ _ _ (mkF m 3 #[Sd d0, .second] [(.int (cmpValue (FP.dcmp d0 d0) .l))])
  have hc1 : (cmpValue (FP.dcmp d0 d0) .l) = (0 : Int32) := hz
  refine Go.on (fun _ k => XS.ifYes X0.here hx rfl (pc0 := 3) (pc' := 10) rfl (hb hby d7_3) rfl ((if0 _ _).trans (teq hc1).1) (by decide) (by decide) k) ?_
  refine Go.on (fun _ k => XS.iconst X0.here hx rfl (hb hby d7_10) k) ?_
  show Go _ _ _ _ _ _ _ _ (mkF m 11 #[Sd d0, .second] [(.int 0)])
  refine Go.retN X0 hx (t := .boolean) Bd.returns (by simp) (hb hby d7_11) ?_ (by rw [hK1]; decide) (by rw [hK2]; decide)
  rw [e0, ← hQQ]
  exact ⟨rfl, N0, rfl⟩
theorem pd_0 : parseMethodDescriptor "(D)Z" = some ⟨[.double], some .boolean⟩ := by decide +kernel
theorem d6_0 : decode jdk_117_method_23_code 0 = .ok (.dload_n 0, 1) := by decide +kernel
theorem d6_1 : decode jdk_117_method_23_code 1 = .ok (.invokestatic 122, 3) := by decide +kernel
theorem d6_4 : decode jdk_117_method_23_code 4 = .ok (.ifCond .ne 8, 3) := by decide +kernel
theorem d6_7 : decode jdk_117_method_23_code 7 = .ok (.dload_n 0, 1) := by decide +kernel
theorem d6_8 : decode jdk_117_method_23_code 8 = .ok (.invokestatic 134, 3) := by decide +kernel
theorem d6_11 : decode jdk_117_method_23_code 11 = .ok (.lreturn, 1) := by decide +kernel
theorem ef_rm6 (m : MethodId) (d0 : UInt64) : entryFrame m #[(.double d0)] 2 = mkF m 0 #[.val (.double d0), .second] [] := by first | (simp [entryFrame, mkF, argsToLocals, Value.category]; done) | rfl
def Q_rm6 (Z : State) (d0 : UInt64) (h0 : Heap) (n0 : Nat) (v : Option Value) (h : Heap) (L : List Loc) : Prop := v = some (.long (d0.toInt64)) ∧ Fr n0 L ∧ h = h0
set_option maxRecDepth 65536 in
set_option maxHeartbeats 40000000 in
theorem rm6 (l : Launch) (Z : State) (aw : Array Value) (hw : ∀ d ∈ tables_1, d.before aw Z = true) (ws : List Jvm.Cond) (d0 : UInt64) (h0 : Heap) (n0 : Nat) (Z0 : n0 ≤ h0.size) (hz : (cmpValue (FP.dcmp d0 d0) .l) = (0 : Int32)) :
    MetFree l (⟨"java/lang/Double", "doubleToLongBits", "(D)J"⟩ : MethodName) (head1 (Jvm.Cond.code (⟨"java/lang/Double", "doubleToLongBits", "(D)J"⟩ : MethodName) jdk_117_method_23_code 2 (some .long) :: ws) ({ frames := 1, cells := 0, slots := 0, locals := 15 } : Room)) (fun a U => a = #[(.double d0)] ∧ Z.Warmed39 U.vm ∧ U.heap = h0) (fun _ _ _ _ _ => True) (fun _ U o U' => ∃ v L, o = .returned v ∧ Q_rm6 Z d0 h0 n0 v U'.heap L ∧ FrameEnd U o U' L ({ frames := 1, cells := 0, slots := 0, locals := 15 } : Room).cells ({ frames := 1, cells := 0, slots := 0, locals := 15 } : Room).slots) := by
  refine MetFree.of_bodySF (plainFor_of_name pn_1) hisR ?_
  intro p e s m args below meth c s₁ Bd hml0 hP hK
  obtain ⟨rfl, hZ, hh⟩ := hP
  have hx := Bd.exec
  have hby := Bd.bytes
  have hml : c.maxLocals = 2 := hml0
  have hown : s.vm.findClass "java/lang/Double" = some m.cls := findClass_of_methodNamed Bd.named
  have hnm := (name_of_methodNamed Bd.named Bd.method).1
  have hlk : meth.locks = false := BodyLoose.notSynchronized Bd
  have X0 : Stand p l e ({ frames := 1, cells := 0, slots := 0, locals := 15 } : Room) s m #[(.double d0)] below meth c s₁ [] 0 0 := Stand.of_body Bd
  have e0 : s₁.heap = h0 := by rw [← hh, Bd.state]; rfl
  have N0 := Fr.nil n0
  have ZZ := Z0
  show Go p e below s ({ frames := 1, cells := 0, slots := 0, locals := 15 } : Room).cells ({ frames := 1, cells := 0, slots := 0, locals := 15 } : Room).slots (fun v h L => Q_rm6 Z d0 h0 n0 v h L) s₁ (entryFrame m #[(.double d0)] 2)
  refine Go.cast (ef_rm6 m d0) ?_
  refine Go.gen ?_
  intro K1 K2 QQ hK1 hK2 hQQ
  refine Go.on (fun _ k => XS.dloadN X0.here hx rfl (hb hby d6_0) rfl k) ?_
  show Go _ _ _ _ _ _ _ _ (mkF m 1 #[Sd d0, .second] [(.double d0)])
  obtain ⟨_, _, ⟨T1, L1, k1, n1⟩, -, X1, ⟨Lc1, hQ1, l1, y1, z1⟩, st1⟩ := Jvm.LawKit.callS X0 hx (y := (⟨"java/lang/Double", "isNaN", "(D)Z"⟩ : MethodName)) hown (mvT hZ (hw _ (List.mem_of_getElem? (i := 41) rfl))) (mvT hZ (hw _ (List.mem_of_getElem? (i := 42) rfl))) (mvT hZ (hw _ (List.mem_of_getElem? (i := 39) rfl))) (mvT hZ (hw _ (List.mem_of_getElem? (i := 43) rfl))) (by decide) (backOf (W := 0) (rm7 l Z aw hw [] d0  h0 n0 ZZ hz) hZ (hw _ (List.mem_of_getElem? (i := 43) rfl)) (hw _ (List.mem_of_getElem? (i := 39) rfl)) (by decide) (by decide)) (g := (mkF m 1 #[Sd d0, .second] [(.double d0)])) rfl (by rw [hml]; rfl) (argsL := [(.double d0)]) (rest := []) (lenOf pd_0 rfl) rfl (by show 2 * 0 + _ ≤ _; exact Nat.le_of_eq rfl) (hb hby d6_1) (fun _ _ => ⟨rfl, e0, (by decide : 0 + 0 ≤ _), (by decide : 0 + 0 ≤ _)⟩)
  dsimp only [Pt.U, Pt.locs, Pt.cells, Pt.slots] at X1 l1 y1 z1 st1 hQ1
  subst l1 y1 z1
  obtain ⟨rfl, N1q, e1⟩ := hQ1
  have N1 := Fr.app N0 N1q
  refine Go.on st1 ?_
  show Go _ _ _ _ _ _ _ _ (mkF m 4 #[Sd d0, .second] [(.int 0)])
  have hc2 : (0 : Int32) = (0 : Int32) := by decide
  refine Go.on (fun _ k => XS.ifNo X1.here hx rfl (hb hby d6_4) rfl ((if0 _ _).trans (teq hc2).2) k) ?_
  refine Go.on (fun _ k => XS.dloadN X1.here hx rfl (hb hby d6_7) rfl k) ?_
  show Go _ _ _ _ _ _ _ _ (mkF m 8 #[Sd d0, .second] [(.double d0)])
  obtain ⟨T3, X3, e3, st3⟩ := own_bits X1 hx hZ hown (hw _ (List.mem_of_getElem? (i := 44) rfl)) (hw _ (List.mem_of_getElem? (i := 46) rfl)) (hw _ (List.mem_of_getElem? (i := 45) rfl)) (hw _ (List.mem_of_getElem? (i := 39) rfl)) e1 (g := (mkF m 8 #[Sd d0, .second] [(.double d0)])) rfl (by rw [hml]; rfl) rfl (hb hby d6_8) (by decide) (W := 0) (by show 2 * 0 + _ ≤ _; exact Nat.le_of_eq rfl) (by decide)
  refine Go.on st3 ?_
  show Go _ _ _ _ _ _ _ _ (mkF m 11 #[Sd d0, .second] [(.long (d0.toInt64))])
  refine Go.retV X3 hx Bd.returns rfl (Or.inr (Or.inl ⟨rfl, rfl, _, rfl⟩)) (hb hby d6_11) ?_ (by rw [hK1]; decide) (by rw [hK2]; decide)
  rw [e3, ← hQQ]
  exact ⟨rfl, N1, rfl⟩
theorem pd_1 : parseMethodDescriptor "(D)J" = some ⟨[.double], some .long⟩ := by decide +kernel
theorem pd_2 : parseMethodDescriptor "(J)J" = some ⟨[.long], some .long⟩ := by decide +kernel
theorem d5_0 : decode prog_21_method_21_code 0 = .ok (.dload_n 1, 1) := by decide +kernel
theorem d5_1 : decode prog_21_method_21_code 1 = .ok (.invokestatic 162, 3) := by decide +kernel
theorem d5_4 : decode prog_21_method_21_code 4 = .ok (.invokestatic 168, 3) := by decide +kernel
theorem d5_7 : decode prog_21_method_21_code 7 = .ok (.iload_n 0, 1) := by decide +kernel
theorem d5_8 : decode prog_21_method_21_code 8 = .ok (.i2l, 1) := by decide +kernel
theorem d5_9 : decode prog_21_method_21_code 9 = .ok (.ladd, 1) := by decide +kernel
theorem d5_10 : decode prog_21_method_21_code 10 = .ok (.invokestatic 168, 3) := by decide +kernel
theorem d5_13 : decode prog_21_method_21_code 13 = .ok (.lreturn, 1) := by decide +kernel
theorem ef_rm5 (m : MethodId) (i0 : Int32) (d1 : UInt64) : entryFrame m #[(.int i0), (.double d1)] 3 = mkF m 0 #[.val (.int i0), .val (.double d1), .second] [] := by first | (simp [entryFrame, mkF, argsToLocals, Value.category]; done) | rfl
def Q_rm5 (Z : State) (i0 : Int32) (d1 : UInt64) (h0 : Heap) (n0 : Nat) (v : Option Value) (h : Heap) (L : List Loc) : Prop := v = some (.long (mixV ((mixV (d1.toInt64)) + (i0.toInt64)))) ∧ Fr n0 L ∧ h = h0
set_option maxRecDepth 65536 in
set_option maxHeartbeats 40000000 in
theorem rm5 (l : Launch) (Z : State) (aw : Array Value) (hw : ∀ d ∈ tables_1, d.before aw Z = true) (ws : List Jvm.Cond) (i0 : Int32) (d1 : UInt64) (h0 : Heap) (n0 : Nat) (Z0 : n0 ≤ h0.size) (hz : (cmpValue (FP.dcmp d1 d1) .l) = (0 : Int32)) :
    MetFree l (⟨"com/example/due_weight/dueweight/core/Pairs", "fingerprint", "(ID)J"⟩ : MethodName) (head1 (Jvm.Cond.code (⟨"com/example/due_weight/dueweight/core/Pairs", "fingerprint", "(ID)J"⟩ : MethodName) prog_21_method_21_code 3 (some .long) :: ws) ({ frames := 2, cells := 0, slots := 0, locals := 28 } : Room)) (fun a U => a = #[(.int i0), (.double d1)] ∧ Z.Warmed39 U.vm ∧ U.heap = h0) (fun _ _ _ _ _ => True) (fun _ U o U' => ∃ v L, o = .returned v ∧ Q_rm5 Z i0 d1 h0 n0 v U'.heap L ∧ FrameEnd U o U' L ({ frames := 2, cells := 0, slots := 0, locals := 28 } : Room).cells ({ frames := 2, cells := 0, slots := 0, locals := 28 } : Room).slots) := by
  refine MetFree.of_bodySF (plainFor_of_name pn_0) hisR ?_
  intro p e s m args below meth c s₁ Bd hml0 hP hK
  obtain ⟨rfl, hZ, hh⟩ := hP
  have hx := Bd.exec
  have hby := Bd.bytes
  have hml : c.maxLocals = 3 := hml0
  have hown : s.vm.findClass "com/example/due_weight/dueweight/core/Pairs" = some m.cls := findClass_of_methodNamed Bd.named
  have hnm := (name_of_methodNamed Bd.named Bd.method).1
  have hlk : meth.locks = false := BodyLoose.notSynchronized Bd
  have X0 : Stand p l e ({ frames := 2, cells := 0, slots := 0, locals := 28 } : Room) s m #[(.int i0), (.double d1)] below meth c s₁ [] 0 0 := Stand.of_body Bd
  have e0 : s₁.heap = h0 := by rw [← hh, Bd.state]; rfl
  have N0 := Fr.nil n0
  have ZZ := Z0
  show Go p e below s ({ frames := 2, cells := 0, slots := 0, locals := 28 } : Room).cells ({ frames := 2, cells := 0, slots := 0, locals := 28 } : Room).slots (fun v h L => Q_rm5 Z i0 d1 h0 n0 v h L) s₁ (entryFrame m #[(.int i0), (.double d1)] 3)
  refine Go.cast (ef_rm5 m i0 d1) ?_
  refine Go.gen ?_
  intro K1 K2 QQ hK1 hK2 hQQ
  refine Go.on (fun _ k => XS.dloadN X0.here hx rfl (hb hby d5_0) rfl k) ?_
  show Go _ _ _ _ _ _ _ _ (mkF m 1 #[Si i0, Sd d1, .second] [(.double d1)])
  obtain ⟨_, _, ⟨T1, L1, k1, n1⟩, -, X1, ⟨Lc1, hQ1, l1, y1, z1⟩, st1⟩ := Jvm.LawKit.callS X0 hx (y := (⟨"java/lang/Double", "doubleToLongBits", "(D)J"⟩ : MethodName)) hown (mvT hZ (hw _ (List.mem_of_getElem? (i := 37) rfl))) (mvT hZ (hw _ (List.mem_of_getElem? (i := 38) rfl))) (mvT hZ (hw _ (List.mem_of_getElem? (i := 39) rfl))) (mvT hZ (hw _ (List.mem_of_getElem? (i := 40) rfl))) (by decide) (backOf (W := 0) (rm6 l Z aw hw [] d1  h0 n0 ZZ hz) hZ (hw _ (List.mem_of_getElem? (i := 40) rfl)) (hw _ (List.mem_of_getElem? (i := 39) rfl)) (by decide) (by decide)) (g := (mkF m 1 #[Si i0, Sd d1, .second] [(.double d1)])) rfl (by rw [hml]; rfl) (argsL := [(.double d1)]) (rest := []) (lenOf pd_1 rfl) rfl (by show 2 * 0 + _ ≤ _; exact Nat.le_of_eq rfl) (hb hby d5_1) (fun _ _ => ⟨rfl, e0, (by decide : 0 + 0 ≤ _), (by decide : 0 + 0 ≤ _)⟩)
  dsimp only [Pt.U, Pt.locs, Pt.cells, Pt.slots] at X1 l1 y1 z1 st1 hQ1
  subst l1 y1 z1
  obtain ⟨rfl, N1q, e1⟩ := hQ1
  have N1 := Fr.app N0 N1q
  refine Go.on st1 ?_
  show Go _ _ _ _ _ _ _ _ (mkF m 4 #[Si i0, Sd d1, .second] [(.long (d1.toInt64))])
  obtain ⟨_, _, ⟨T2, L2, k2, n2⟩, -, X2, ⟨Lc2, hQ2, l2, y2, z2⟩, st2⟩ := Jvm.LawKit.callS X1 hx (y := (⟨"com/example/due_weight/dueweight/core/Pairs", "mix", "(J)J"⟩ : MethodName)) hown (mvT hZ (hw _ (List.mem_of_getElem? (i := 47) rfl))) (mvT hZ (hw _ (List.mem_of_getElem? (i := 48) rfl))) (mvT hZ (hw _ (List.mem_of_getElem? (i := 3) rfl))) (mvT hZ (hw _ (List.mem_of_getElem? (i := 49) rfl))) (by decide) (backOf (W := 0) (rm8 l Z aw hw [] (d1.toInt64)  h0 n0 ZZ ) hZ (hw _ (List.mem_of_getElem? (i := 49) rfl)) (hw _ (List.mem_of_getElem? (i := 3) rfl)) (by decide) (by decide)) (g := (mkF m 4 #[Si i0, Sd d1, .second] [(.long (d1.toInt64))])) rfl (by rw [hml]; rfl) (argsL := [(.long (d1.toInt64))]) (rest := []) (lenOf pd_2 rfl) rfl (by show 2 * 0 + _ ≤ _; exact Nat.le_of_eq rfl) (hb hby d5_4) (fun _ _ => ⟨rfl, e1, (by decide : 0 + 0 ≤ _), (by decide : 0 + 0 ≤ _)⟩)
  dsimp only [Pt.U, Pt.locs, Pt.cells, Pt.slots] at X2 l2 y2 z2 st2 hQ2
  subst l2 y2 z2
  obtain ⟨rfl, N2q, e2⟩ := hQ2
  have N2 := Fr.app N1 N2q
  refine Go.on st2 ?_
  show Go _ _ _ _ _ _ _ _ (mkF m 7 #[Si i0, Sd d1, .second] [(.long (mixV (d1.toInt64)))])
  refine Go.on (fun _ k => XS.iloadN X2.here hx rfl (hb hby d5_7) rfl k) ?_
  refine Go.on (fun _ k => XS.i2l X2.here hx rfl (hb hby d5_8) rfl k) ?_
  refine Go.on (fun _ k => XS.ladd X2.here hx rfl (hb hby d5_9) rfl k) ?_
  show Go _ _ _ _ _ _ _ _ (mkF m 10 #[Si i0, Sd d1, .second] [(.long ((mixV (d1.toInt64)) + (i0.toInt64)))])
  obtain ⟨_, _, ⟨T3, L3, k3, n3⟩, -, X3, ⟨Lc3, hQ3, l3, y3, z3⟩, st3⟩ := Jvm.LawKit.callS X2 hx (y := (⟨"com/example/due_weight/dueweight/core/Pairs", "mix", "(J)J"⟩ : MethodName)) hown (mvT hZ (hw _ (List.mem_of_getElem? (i := 47) rfl))) (mvT hZ (hw _ (List.mem_of_getElem? (i := 48) rfl))) (mvT hZ (hw _ (List.mem_of_getElem? (i := 3) rfl))) (mvT hZ (hw _ (List.mem_of_getElem? (i := 49) rfl))) (by decide) (backOf (W := 0) (rm8 l Z aw hw [] ((mixV (d1.toInt64)) + (i0.toInt64))  h0 n0 ZZ ) hZ (hw _ (List.mem_of_getElem? (i := 49) rfl)) (hw _ (List.mem_of_getElem? (i := 3) rfl)) (by decide) (by decide)) (g := (mkF m 10 #[Si i0, Sd d1, .second] [(.long ((mixV (d1.toInt64)) + (i0.toInt64)))])) rfl (by rw [hml]; rfl) (argsL := [(.long ((mixV (d1.toInt64)) + (i0.toInt64)))]) (rest := []) (lenOf pd_2 rfl) rfl (by show 2 * 0 + _ ≤ _; exact Nat.le_of_eq rfl) (hb hby d5_10) (fun _ _ => ⟨rfl, e2, (by decide : 0 + 0 ≤ _), (by decide : 0 + 0 ≤ _)⟩)
  dsimp only [Pt.U, Pt.locs, Pt.cells, Pt.slots] at X3 l3 y3 z3 st3 hQ3
  subst l3 y3 z3
  obtain ⟨rfl, N3q, e3⟩ := hQ3
  have N3 := Fr.app N2 N3q
  refine Go.on st3 ?_
  show Go _ _ _ _ _ _ _ _ (mkF m 13 #[Si i0, Sd d1, .second] [(.long (mixV ((mixV (d1.toInt64)) + (i0.toInt64))))])
  refine Go.retV X3 hx Bd.returns rfl (Or.inr (Or.inl ⟨rfl, rfl, _, rfl⟩)) (hb hby d5_13) ?_ (by rw [hK1]; decide) (by rw [hK2]; decide)
  rw [e3, ← hQQ]
  exact ⟨rfl, N3, rfl⟩
theorem d10_0 : decode jdk_29_method_28_code 0 = .ok (.iload_n 0, 1) := by decide +kernel
theorem d10_1 : decode jdk_29_method_28_code 1 = .ok (.i2l, 1) := by decide +kernel
theorem d10_2 : decode jdk_29_method_28_code 2 = .ok (.iload_n 1, 1) := by decide +kernel
theorem d10_3 : decode jdk_29_method_28_code 3 = .ok (.i2l, 1) := by decide +kernel
theorem d10_4 : decode jdk_29_method_28_code 4 = .ok (.lmul, 1) := by decide +kernel
theorem d10_5 : decode jdk_29_method_28_code 5 = .ok (.lstore_n 2, 1) := by decide +kernel
theorem d10_6 : decode jdk_29_method_28_code 6 = .ok (.lload_n 2, 1) := by decide +kernel
theorem d10_7 : decode jdk_29_method_28_code 7 = .ok (.l2i, 1) := by decide +kernel
theorem d10_8 : decode jdk_29_method_28_code 8 = .ok (.i2l, 1) := by decide +kernel
theorem d10_9 : decode jdk_29_method_28_code 9 = .ok (.lload_n 2, 1) := by decide +kernel
theorem d10_10 : decode jdk_29_method_28_code 10 = .ok (.lcmp, 1) := by decide +kernel
theorem d10_11 : decode jdk_29_method_28_code 11 = .ok (.ifCond .eq 13, 3) := by decide +kernel
theorem d10_24 : decode jdk_29_method_28_code 24 = .ok (.lload_n 2, 1) := by decide +kernel
theorem d10_25 : decode jdk_29_method_28_code 25 = .ok (.l2i, 1) := by decide +kernel
theorem d10_26 : decode jdk_29_method_28_code 26 = .ok (.ireturn, 1) := by decide +kernel
theorem ef_mul_2 (m : MethodId)  : entryFrame m #[(.int (2 : Int32)), (.int (2 : Int32))] 4 = mkF m 0 #[.val (.int (2 : Int32)), .val (.int (2 : Int32)), .unset, .unset] [] := by first | (simp [entryFrame, mkF, argsToLocals, Value.category]; done) | rfl
def Q_mul_2 (Z : State)  (h0 : Heap) (n0 : Nat) (v : Option Value) (h : Heap) (L : List Loc) : Prop := v = some (.int (4 : Int32)) ∧ Fr n0 L ∧ h = h0
set_option maxRecDepth 65536 in
set_option maxHeartbeats 40000000 in
theorem mul_2 (l : Launch) (Z : State) (aw : Array Value) (hw : ∀ d ∈ tables_1, d.before aw Z = true) (ws : List Jvm.Cond)  (h0 : Heap) (n0 : Nat) (Z0 : n0 ≤ h0.size) :
    MetFree l (⟨"java/lang/Math", "multiplyExact", "(II)I"⟩ : MethodName) (head1 (Jvm.Cond.code (⟨"java/lang/Math", "multiplyExact", "(II)I"⟩ : MethodName) jdk_29_method_28_code 4 (some .int) :: ws) ({ frames := 0, cells := 0, slots := 0, locals := 0 } : Room)) (fun a U => a = #[(.int (2 : Int32)), (.int (2 : Int32))] ∧ Z.Warmed39 U.vm ∧ U.heap = h0) (fun _ _ _ _ _ => True) (fun _ U o U' => ∃ v L, o = .returned v ∧ Q_mul_2 Z  h0 n0 v U'.heap L ∧ FrameEnd U o U' L ({ frames := 0, cells := 0, slots := 0, locals := 0 } : Room).cells ({ frames := 0, cells := 0, slots := 0, locals := 0 } : Room).slots) := by
  refine MetFree.of_bodySF (Jvm.Free.JP.mathPlain rfl (by decide +kernel)) hisR ?_
  intro p e s m args below meth c s₁ Bd hml0 hP hK
  obtain ⟨rfl, hZ, hh⟩ := hP
  have hx := Bd.exec
  have hby := Bd.bytes
  have hml : c.maxLocals = 4 := hml0
  have hown : s.vm.findClass "java/lang/Math" = some m.cls := findClass_of_methodNamed Bd.named
  have hnm := (name_of_methodNamed Bd.named Bd.method).1
  have hlk : meth.locks = false := BodyLoose.notSynchronized Bd
  have X0 : Stand p l e ({ frames := 0, cells := 0, slots := 0, locals := 0 } : Room) s m #[(.int (2 : Int32)), (.int (2 : Int32))] below meth c s₁ [] 0 0 := Stand.of_body Bd
  have e0 : s₁.heap = h0 := by rw [← hh, Bd.state]; rfl
  have N0 := Fr.nil n0
  have ZZ := Z0
  show Go p e below s ({ frames := 0, cells := 0, slots := 0, locals := 0 } : Room).cells ({ frames := 0, cells := 0, slots := 0, locals := 0 } : Room).slots (fun v h L => Q_mul_2 Z  h0 n0 v h L) s₁ (entryFrame m #[(.int (2 : Int32)), (.int (2 : Int32))] 4)
  refine Go.cast (ef_mul_2 m ) ?_
  refine Go.gen ?_
  intro K1 K2 QQ hK1 hK2 hQQ
  refine Go.on (fun _ k => XS.iloadN X0.here hx rfl (hb hby d10_0) rfl k) ?_
  refine Go.on (fun _ k => XS.i2l X0.here hx rfl (hb hby d10_1) rfl k) ?_
  refine Go.on (fun _ k => XS.iloadN X0.here hx rfl (hb hby d10_2) rfl k) ?_
  refine Go.on (fun _ k => XS.i2l X0.here hx rfl (hb hby d10_3) rfl k) ?_
  refine Go.on (fun _ k => XS.lmul X0.here hx rfl (hb hby d10_4) rfl k) ?_
  show Go _ _ _ _ _ _ _ _ (mkF m 5 #[Si 2, Si 2, .unset, .unset] [(.long (((2 : Int32).toInt64) * ((2 : Int32).toInt64)))])
  refine Go.on (fun _ k => XS.lstoreN X0.here hx rfl (hb hby d10_5) rfl (l' := #[.val (.int (2 : Int32)), .val (.int (2 : Int32)), .val (.long (((2 : Int32).toInt64) * ((2 : Int32).toInt64))), .second]) rfl k) ?_
  show Go _ _ _ _ _ _ _ _ (mkF m 6 #[Si 2, Si 2, .val (.long (((2 : Int32).toInt64) * ((2 : Int32).toInt64))), .second] [])
  refine Go.on (fun _ k => XS.lloadN X0.here hx rfl (hb hby d10_6) rfl k) ?_
  refine Go.on (fun _ k => XS.l2i X0.here hx rfl (hb hby d10_7) rfl k) ?_
  refine Go.on (fun _ k => XS.i2l X0.here hx rfl (hb hby d10_8) rfl k) ?_
  refine Go.on (fun _ k => XS.lloadN X0.here hx rfl (hb hby d10_9) rfl k) ?_
  refine Go.on (fun _ k => XS.lcmp X0.here hx rfl (hb hby d10_10) rfl k) ?_
  show Go _ _ _ _ _ _ _ _ (mkF m 11 #[Si 2, Si 2, .val (.long (((2 : Int32).toInt64) * ((2 : Int32).toInt64))), .second] [(.int (lcmpW (((((2 : Int32).toInt64) * ((2 : Int32).toInt64)).toInt32).toInt64) (((2 : Int32).toInt64) * ((2 : Int32).toInt64))))])
  have hc1 : (((((2 : Int32).toInt64) * ((2 : Int32).toInt64)).toInt32).toInt64) = (((2 : Int32).toInt64) * ((2 : Int32).toInt64)) := by decide
  refine Go.on (fun _ k => XS.ifYes X0.here hx rfl (pc0 := 11) (pc' := 24) rfl (hb hby d10_11) rfl ((if0 _ _).trans (teq (own_lc_eq.mpr hc1)).1) (by decide) (by decide) k) ?_
  refine Go.on (fun _ k => XS.lloadN X0.here hx rfl (hb hby d10_24) rfl k) ?_
  refine Go.on (fun _ k => XS.l2i X0.here hx rfl (hb hby d10_25) rfl k) ?_
  show Go _ _ _ _ _ _ _ _ (mkF m 26 #[Si 2, Si 2, .val (.long (((2 : Int32).toInt64) * ((2 : Int32).toInt64))), .second] [(.int ((((2 : Int32).toInt64) * ((2 : Int32).toInt64)).toInt32))])
  refine Go.retV X0 hx Bd.returns rfl (Or.inl ⟨rfl, Or.inl rfl, _, rfl⟩) (hb hby d10_26) ?_ (by rw [hK1]; decide) (by rw [hK2]; decide)
  rw [e0, ← hQQ]
  exact ⟨rfl, N0, rfl⟩
theorem d12_0 : decode jdk_29_method_69_code 0 = .ok (.iload_n 0, 1) := by decide +kernel
theorem d12_1 : decode jdk_29_method_69_code 1 = .ok (.iload_n 1, 1) := by decide +kernel
theorem d12_2 : decode jdk_29_method_69_code 2 = .ok (.if_icmp .gt 7, 3) := by decide +kernel
theorem d12_5 : decode jdk_29_method_69_code 5 = .ok (.iload_n 0, 1) := by decide +kernel
theorem d12_6 : decode jdk_29_method_69_code 6 = .ok (.goto 4, 3) := by decide +kernel
theorem d12_10 : decode jdk_29_method_69_code 10 = .ok (.ireturn, 1) := by decide +kernel
theorem ef_min_2 (m : MethodId)  : entryFrame m #[(.int (2 : Int32)), (.int (4 : Int32))] 2 = mkF m 0 #[.val (.int (2 : Int32)), .val (.int (4 : Int32))] [] := by first | (simp [entryFrame, mkF, argsToLocals, Value.category]; done) | rfl
def Q_min_2 (Z : State)  (h0 : Heap) (n0 : Nat) (v : Option Value) (h : Heap) (L : List Loc) : Prop := v = some (.int (2 : Int32)) ∧ Fr n0 L ∧ h = h0
set_option maxRecDepth 65536 in
set_option maxHeartbeats 40000000 in
theorem min_2 (l : Launch) (Z : State) (aw : Array Value) (hw : ∀ d ∈ tables_1, d.before aw Z = true) (ws : List Jvm.Cond)  (h0 : Heap) (n0 : Nat) (Z0 : n0 ≤ h0.size) :
    MetFree l (⟨"java/lang/Math", "min", "(II)I"⟩ : MethodName) (head1 (Jvm.Cond.code (⟨"java/lang/Math", "min", "(II)I"⟩ : MethodName) jdk_29_method_69_code 2 (some .int) :: ws) ({ frames := 0, cells := 0, slots := 0, locals := 0 } : Room)) (fun a U => a = #[(.int (2 : Int32)), (.int (4 : Int32))] ∧ Z.Warmed39 U.vm ∧ U.heap = h0) (fun _ _ _ _ _ => True) (fun _ U o U' => ∃ v L, o = .returned v ∧ Q_min_2 Z  h0 n0 v U'.heap L ∧ FrameEnd U o U' L ({ frames := 0, cells := 0, slots := 0, locals := 0 } : Room).cells ({ frames := 0, cells := 0, slots := 0, locals := 0 } : Room).slots) := by
  refine MetFree.of_bodySF (Jvm.Free.JP.mathPlain rfl (by decide +kernel)) hisR ?_
  intro p e s m args below meth c s₁ Bd hml0 hP hK
  obtain ⟨rfl, hZ, hh⟩ := hP
  have hx := Bd.exec
  have hby := Bd.bytes
  have hml : c.maxLocals = 2 := hml0
  have hown : s.vm.findClass "java/lang/Math" = some m.cls := findClass_of_methodNamed Bd.named
  have hnm := (name_of_methodNamed Bd.named Bd.method).1
  have hlk : meth.locks = false := BodyLoose.notSynchronized Bd
  have X0 : Stand p l e ({ frames := 0, cells := 0, slots := 0, locals := 0 } : Room) s m #[(.int (2 : Int32)), (.int (4 : Int32))] below meth c s₁ [] 0 0 := Stand.of_body Bd
  have e0 : s₁.heap = h0 := by rw [← hh, Bd.state]; rfl
  have N0 := Fr.nil n0
  have ZZ := Z0
  show Go p e below s ({ frames := 0, cells := 0, slots := 0, locals := 0 } : Room).cells ({ frames := 0, cells := 0, slots := 0, locals := 0 } : Room).slots (fun v h L => Q_min_2 Z  h0 n0 v h L) s₁ (entryFrame m #[(.int (2 : Int32)), (.int (4 : Int32))] 2)
  refine Go.cast (ef_min_2 m ) ?_
  refine Go.gen ?_
  intro K1 K2 QQ hK1 hK2 hQQ
  refine Go.on (fun _ k => XS.iloadN X0.here hx rfl (hb hby d12_0) rfl k) ?_
  refine Go.on (fun _ k => XS.iloadN X0.here hx rfl (hb hby d12_1) rfl k) ?_
  show Go _ _ _ _ _ _ _ _ (mkF m 2 #[Si 2, Si 4] [(.int 4), (.int 2)])
  have hc1 : ¬ ((4 : Int32) < (2 : Int32)) := by decide
  refine Go.on (fun _ k => XS.icmpNo X0.here hx rfl (hb hby d12_2) rfl (flt hc1).2.2.1 k) ?_
  refine Go.on (fun _ k => XS.iloadN X0.here hx rfl (hb hby d12_5) rfl k) ?_
  refine Go.on (fun _ k => XS.goto X0.here hx rfl (pc0 := 6) (pc' := 10) rfl (hb hby d12_6) (by decide) (by decide) k) ?_
  show Go _ _ _ _ _ _ _ _ (mkF m 10 #[Si 2, Si 4] [(.int 2)])
  refine Go.retV X0 hx Bd.returns rfl (Or.inl ⟨rfl, Or.inl rfl, _, rfl⟩) (hb hby d12_10) ?_ (by rw [hK1]; decide) (by rw [hK2]; decide)
  rw [e0, ← hQQ]
  exact ⟨rfl, N0, rfl⟩
theorem pd_3 : parseMethodDescriptor "(II)I" = some ⟨[.int, .int], some .int⟩ := by decide +kernel
theorem d11_0 : decode jdk_65_method_123_code 0 = .ok (.iload_n 1, 1) := by decide +kernel
theorem d11_1 : decode jdk_65_method_123_code 1 = .ok (.aload_n 0, 1) := by decide +kernel
theorem d11_2 : decode jdk_65_method_123_code 2 = .ok (.arraylength, 1) := by decide +kernel
theorem d11_3 : decode jdk_65_method_123_code 3 = .ok (.if_icmp .ne 11, 3) := by decide +kernel
theorem d11_14 : decode jdk_65_method_123_code 14 = .ok (.iload_n 1, 1) := by decide +kernel
theorem d11_15 : decode jdk_65_method_123_code 15 = .ok (.newarray .int, 2) := by decide +kernel
theorem d11_17 : decode jdk_65_method_123_code 17 = .ok (.astore_n 2, 1) := by decide +kernel
theorem d11_18 : decode jdk_65_method_123_code 18 = .ok (.aload_n 0, 1) := by decide +kernel
theorem d11_19 : decode jdk_65_method_123_code 19 = .ok (.iconst 0, 1) := by decide +kernel
theorem d11_20 : decode jdk_65_method_123_code 20 = .ok (.aload_n 2, 1) := by decide +kernel
theorem d11_21 : decode jdk_65_method_123_code 21 = .ok (.iconst 0, 1) := by decide +kernel
theorem d11_22 : decode jdk_65_method_123_code 22 = .ok (.aload_n 0, 1) := by decide +kernel
theorem d11_23 : decode jdk_65_method_123_code 23 = .ok (.arraylength, 1) := by decide +kernel
theorem d11_24 : decode jdk_65_method_123_code 24 = .ok (.iload_n 1, 1) := by decide +kernel
theorem d11_25 : decode jdk_65_method_123_code 25 = .ok (.invokestatic 304, 3) := by decide +kernel
theorem d11_28 : decode jdk_65_method_123_code 28 = .ok (.invokestatic 150, 3) := by decide +kernel
theorem d11_31 : decode jdk_65_method_123_code 31 = .ok (.aload_n 2, 1) := by decide +kernel
theorem d11_32 : decode jdk_65_method_123_code 32 = .ok (.areturn, 1) := by decide +kernel
theorem pn_2 : plainName "java/util/Arrays" = true := by first | (simp [plainName, overriddenIn]; done) | decide +kernel
theorem ef_copy_int_2 (m : MethodId) (a0 : Addr) : entryFrame m #[(.ref a0), (.int (4 : Int32))] 3 = mkF m 0 #[.val (.ref a0), .val (.int (4 : Int32)), .unset] [] := by first | (simp [entryFrame, mkF, argsToLocals, Value.category]; done) | rfl
def Q_copy_int_2 (Z : State) (a0 : Addr) (k_a0 : ClassId) (m0 : Int32) (m1 : Int32) (h0 : Heap) (n0 : Nat) (v : Option Value) (h : Heap) (L : List Loc) : Prop := ∃ (ar : Addr) (k_ar : ClassId), v = some (.ref ar) ∧ Fr n0 L ∧ Keep h0 h [] ∧ h0.size ≤ ar ∧ Arv Z h ar k_ar .int (4 : Int32) [(.int m0), (.int m1), (.int (0 : Int32)), (.int (0 : Int32))] (.int (0 : Int32))
set_option maxRecDepth 65536 in
set_option maxHeartbeats 40000000 in
theorem copy_int_2 (l : Launch) (Z : State) (aw : Array Value) (hw : ∀ d ∈ tables_1, d.before aw Z = true) (ws : List Jvm.Cond) (a0 : Addr) (k_a0 : ClassId) (m0 : Int32) (m1 : Int32) (h0 : Heap) (n0 : Nat) (Z0 : n0 ≤ h0.size) (V_a0 : Arv Z h0 a0 k_a0 .int (2 : Int32) [(.int m0), (.int m1)] (.int (0 : Int32))) :
    MetFree l (⟨"java/util/Arrays", "copyOf", "([II)[I"⟩ : MethodName) (head1 (Jvm.Cond.code (⟨"java/util/Arrays", "copyOf", "([II)[I"⟩ : MethodName) jdk_65_method_123_code 3 (some (.array .int)) :: ws) ({ frames := 1, cells := 1, slots := 4, locals := 18 } : Room)) (fun a U => a = #[(.ref a0), (.int (4 : Int32))] ∧ Z.Warmed39 U.vm ∧ U.heap = h0) (fun _ _ _ _ _ => True) (fun _ U o U' => ∃ v L, o = .returned v ∧ Q_copy_int_2 Z a0 k_a0 m0 m1 h0 n0 v U'.heap L ∧ FrameEnd U o U' L ({ frames := 1, cells := 1, slots := 4, locals := 18 } : Room).cells ({ frames := 1, cells := 1, slots := 4, locals := 18 } : Room).slots) := by
  refine MetFree.of_bodySF (plainFor_of_name pn_2) hisR ?_
  intro p e s m args below meth c s₁ Bd hml0 hP hK
  obtain ⟨rfl, hZ, hh⟩ := hP
  have hx := Bd.exec
  have hby := Bd.bytes
  have hml : c.maxLocals = 3 := hml0
  have hown : s.vm.findClass "java/util/Arrays" = some m.cls := findClass_of_methodNamed Bd.named
  have hnm := (name_of_methodNamed Bd.named Bd.method).1
  have hlk : meth.locks = false := BodyLoose.notSynchronized Bd
  have X0 : Stand p l e ({ frames := 1, cells := 1, slots := 4, locals := 18 } : Room) s m #[(.ref a0), (.int (4 : Int32))] below meth c s₁ [] 0 0 := Stand.of_body Bd
  have e0 : s₁.heap = h0 := by rw [← hh, Bd.state]; rfl
  have N0 := Fr.nil n0
  have ZZ := Z0
  show Go p e below s ({ frames := 1, cells := 1, slots := 4, locals := 18 } : Room).cells ({ frames := 1, cells := 1, slots := 4, locals := 18 } : Room).slots (fun v h L => Q_copy_int_2 Z a0 k_a0 m0 m1 h0 n0 v h L) s₁ (entryFrame m #[(.ref a0), (.int (4 : Int32))] 3)
  refine Go.cast (ef_copy_int_2 m a0) ?_
  refine Go.gen ?_
  intro K1 K2 QQ hK1 hK2 hQQ
  have KP : Keep h0 h0 [] := Keep.refl _ _
  refine Go.on (fun _ k => XS.iloadN X0.here hx rfl (hb hby d11_0) rfl k) ?_
  refine Go.on (fun _ k => XS.aloadN X0.here hx rfl (hb hby d11_1) rfl rfl k) ?_
  show Go _ _ _ _ _ _ _ _ (mkF m 2 #[Sr a0, Si 4, .unset] [(.ref a0), (.int 4)])
  obtain ⟨cl1, Ar1, -, S1, N1n, -, -⟩ := id V_a0
  refine Go.on (X0.arraylength hx (by rw [e0]; exact Ar1.1) (State.isArrayOf_alike hZ.alike Ar1.2.1) (g := (mkF m 2 #[Sr a0, Si 4, .unset] [(.ref a0), (.int 4)])) rfl rfl (hb hby d11_2)) ?_
  rw [len_of S1 N1n]
  show Go _ _ _ _ _ _ _ _ (mkF m 3 #[Sr a0, Si 4, .unset] [(.int 2), (.int 4)])
  have hc2 : ¬ ((4 : Int32) = (2 : Int32)) := by decide
  refine Go.on (fun _ k => XS.icmpYes X0.here hx rfl (pc0 := 3) (pc' := 14) rfl (hb hby d11_3) rfl (feq hc2).2 (by decide) (by decide) k) ?_
  refine Go.on (fun _ k => XS.iloadN X0.here hx rfl (hb hby d11_14) rfl k) ?_
  show Go _ _ _ _ _ _ _ _ (mkF m 15 #[Sr a0, Si 4, .unset] [(.int 4)])
  obtain ⟨T3, h3, k_ar, X3, e3, E3, A3, st3⟩ := newP X0 hx hZ (hw _ (List.mem_of_getElem? (i := 10) rfl)) e0 (g := (mkF m 15 #[Sr a0, Si 4, .unset] [(.int 4)])) rfl (hb hby d11_15) rfl (by decide) (cap := 4) (by decide) (by decide) (by decide) (by decide)
  obtain ⟨ar, g3⟩ : ∃ z, z = h0.size := ⟨_, rfl⟩
  have ne_a0_ar : a0 ≠ ar := Nat.ne_of_lt (Nat.lt_of_lt_of_le V_a0.lt (Nat.le_of_eq g3.symm))
  have g_ar : n0 ≤ ar := Nat.le_trans ZZ (Nat.le_of_eq g3.symm)
  have sz_ar : h0.size ≤ ar := Nat.le_trans KP.1 (Nat.le_of_eq g3.symm)
  rw [← g3] at A3 st3
  replace V_a0 := V_a0.ext E3
  replace ZZ := Nat.le_trans ZZ E3.1
  replace KP := KP.ext E3
  have V_ar : Arv Z h3 ar k_ar .int (4 : Int32) [(.int (0 : Int32)), (.int (0 : Int32)), (.int (0 : Int32)), (.int (0 : Int32))] (.int (0 : Int32)) := (Arv.new A3 (by decide)).pad (pad_rep [] (.int (0 : Int32)) 4)
  refine Go.on st3 ?_
  show Go _ _ _ _ _ _ _ _ (mkF m 17 #[Sr a0, Si 4, .unset] [(.ref ar)])
  refine Go.on (fun _ k => XS.astoreN X3.here hx rfl (hb hby d11_17) rfl rfl (l' := #[.val (.ref a0), .val (.int (4 : Int32)), .val (.ref ar)]) rfl k) ?_
  show Go _ _ _ _ _ _ _ _ (mkF m 18 #[Sr a0, Si 4, Sr ar] [])
  refine Go.on (fun _ k => XS.aloadN X3.here hx rfl (hb hby d11_18) rfl rfl k) ?_
  refine Go.on (fun _ k => XS.iconst X3.here hx rfl (hb hby d11_19) k) ?_
  refine Go.on (fun _ k => XS.aloadN X3.here hx rfl (hb hby d11_20) rfl rfl k) ?_
  refine Go.on (fun _ k => XS.iconst X3.here hx rfl (hb hby d11_21) k) ?_
  refine Go.on (fun _ k => XS.aloadN X3.here hx rfl (hb hby d11_22) rfl rfl k) ?_
  show Go _ _ _ _ _ _ _ _ (mkF m 23 #[Sr a0, Si 4, Sr ar] [(.ref a0), (.int 0), (.ref ar), (.int 0), (.ref a0)])
  obtain ⟨cl4, Ar4, -, S4, N4n, -, -⟩ := id V_a0
  refine Go.on (X3.arraylength hx (by rw [e3]; exact Ar4.1) (State.isArrayOf_alike hZ.alike Ar4.2.1) (g := (mkF m 23 #[Sr a0, Si 4, Sr ar] [(.ref a0), (.int 0), (.ref ar), (.int 0), (.ref a0)])) rfl rfl (hb hby d11_23)) ?_
  rw [len_of S4 N4n]
  show Go _ _ _ _ _ _ _ _ (mkF m 24 #[Sr a0, Si 4, Sr ar] [(.int 2), (.int 0), (.ref ar), (.int 0), (.ref a0)])
  refine Go.on (fun _ k => XS.iloadN X3.here hx rfl (hb hby d11_24) rfl k) ?_
  show Go _ _ _ _ _ _ _ _ (mkF m 25 #[Sr a0, Si 4, Sr ar] [(.int 4), (.int 2), (.int 0), (.ref ar), (.int 0), (.ref a0)])
  obtain ⟨_, _, ⟨T5, L5, k5, n5⟩, -, X5, ⟨Lc5, hQ5, l5, y5, z5⟩, st5⟩ := Jvm.LawKit.callS X3 hx (y := (⟨"java/lang/Math", "min", "(II)I"⟩ : MethodName)) hown (mvT hZ (hw _ (List.mem_of_getElem? (i := 66) rfl))) (mvT hZ (hw _ (List.mem_of_getElem? (i := 67) rfl))) (mvT hZ (hw _ (List.mem_of_getElem? (i := 60) rfl))) (mvT hZ (hw _ (List.mem_of_getElem? (i := 68) rfl))) (by decide) (backOf (W := 4) (min_2 l Z aw hw []   h3 n0 ZZ ) hZ (hw _ (List.mem_of_getElem? (i := 68) rfl)) (hw _ (List.mem_of_getElem? (i := 60) rfl)) (by decide) (by decide)) (g := (mkF m 25 #[Sr a0, Si 4, Sr ar] [(.int 4), (.int 2), (.int 0), (.ref ar), (.int 0), (.ref a0)])) rfl (by rw [hml]; rfl) (argsL := [(.int (2 : Int32)), (.int (4 : Int32))]) (rest := [(.int (0 : Int32)), (.ref ar), (.int (0 : Int32)), (.ref a0)]) (lenOf pd_3 rfl) rfl (by show 2 * 0 + _ ≤ _; exact Nat.le_of_eq rfl) (hb hby d11_25) (fun _ _ => ⟨rfl, e3, (by decide : 1 + 0 ≤ _), (by decide : 4 + 0 ≤ _)⟩)
  dsimp only [Pt.U, Pt.locs, Pt.cells, Pt.slots] at X5 l5 y5 z5 st5 hQ5
  subst l5 y5 z5
  obtain ⟨rfl, N5q, e5⟩ := hQ5
  have N5 := Fr.app N0 N5q
  refine Go.on st5 ?_
  show Go _ _ _ _ _ _ _ _ (mkF m 28 #[Sr a0, Si 4, Sr ar] [(.int 2), (.int 0), (.ref ar), (.int 0), (.ref a0)])
  obtain ⟨T6, h6, L6, X6, e6, N6, K6q, V_ar', st6⟩ := cpA X5 hx hZ hown (hw _ (List.mem_of_getElem? (i := 69) rfl)) (hw _ (List.mem_of_getElem? (i := 72) rfl)) (hw _ (List.mem_of_getElem? (i := 70) rfl)) (hw _ (List.mem_of_getElem? (i := 71) rfl)) e5 V_a0 V_ar (us := [(.int m0), (.int m1)]) (Or.inl ⟨rfl, rfl⟩) (by decide) (by decide) (by decide) (by decide) (by decide) rfl (Nat.le_of_ble_eq_true rfl) N5 g_ar (g := (mkF m 28 #[Sr a0, Si 4, Sr ar] [(.int 2), (.int 0), (.ref ar), (.int 0), (.ref a0)])) rfl (by rw [hml]; rfl) rfl (hb hby d11_28) (by decide) (W := 0) (by show 2 * 0 + _ ≤ _; exact Nat.le_of_eq rfl) (by decide)
  replace V_a0 := V_a0.keep K6q (ninS ne_a0_ar nin0)
  replace ZZ := Nat.le_trans ZZ K6q.1
  replace KP := KP.trans K6q (allS (Or.inr sz_ar) all0)
  have V_ar : Arv Z h6 ar k_ar .int (4 : Int32) [(.int m0), (.int m1), (.int (0 : Int32)), (.int (0 : Int32))] (.int (0 : Int32)) := V_ar'
  refine Go.on st6 ?_
  show Go _ _ _ _ _ _ _ _ (mkF m 31 #[Sr a0, Si 4, Sr ar] [])
  refine Go.on (fun _ k => XS.aloadN X6.here hx rfl (hb hby d11_31) rfl rfl k) ?_
  show Go _ _ _ _ _ _ _ _ (mkF m 32 #[Sr a0, Si 4, Sr ar] [(.ref ar)])
  refine Go.retV X6 hx Bd.returns rfl (Or.inr (Or.inr (Or.inr (Or.inr ⟨rfl, rfl, rfl⟩)))) (hb hby d11_32) ?_ (by rw [hK1]; decide) (by rw [hK2]; decide)
  rw [e6, ← hQQ]
  exact ⟨ar, k_ar, rfl, N6, KP, sz_ar, V_ar⟩
theorem d13_0 : decode jdk_65_method_127_code 0 = .ok (.iload_n 1, 1) := by decide +kernel
theorem d13_1 : decode jdk_65_method_127_code 1 = .ok (.aload_n 0, 1) := by decide +kernel
theorem d13_2 : decode jdk_65_method_127_code 2 = .ok (.arraylength, 1) := by decide +kernel
theorem d13_3 : decode jdk_65_method_127_code 3 = .ok (.if_icmp .ne 11, 3) := by decide +kernel
theorem d13_14 : decode jdk_65_method_127_code 14 = .ok (.iload_n 1, 1) := by decide +kernel
theorem d13_15 : decode jdk_65_method_127_code 15 = .ok (.newarray .double, 2) := by decide +kernel
theorem d13_17 : decode jdk_65_method_127_code 17 = .ok (.astore_n 2, 1) := by decide +kernel
theorem d13_18 : decode jdk_65_method_127_code 18 = .ok (.aload_n 0, 1) := by decide +kernel
theorem d13_19 : decode jdk_65_method_127_code 19 = .ok (.iconst 0, 1) := by decide +kernel
theorem d13_20 : decode jdk_65_method_127_code 20 = .ok (.aload_n 2, 1) := by decide +kernel
theorem d13_21 : decode jdk_65_method_127_code 21 = .ok (.iconst 0, 1) := by decide +kernel
theorem d13_22 : decode jdk_65_method_127_code 22 = .ok (.aload_n 0, 1) := by decide +kernel
theorem d13_23 : decode jdk_65_method_127_code 23 = .ok (.arraylength, 1) := by decide +kernel
theorem d13_24 : decode jdk_65_method_127_code 24 = .ok (.iload_n 1, 1) := by decide +kernel
theorem d13_25 : decode jdk_65_method_127_code 25 = .ok (.invokestatic 304, 3) := by decide +kernel
theorem d13_28 : decode jdk_65_method_127_code 28 = .ok (.invokestatic 150, 3) := by decide +kernel
theorem d13_31 : decode jdk_65_method_127_code 31 = .ok (.aload_n 2, 1) := by decide +kernel
theorem d13_32 : decode jdk_65_method_127_code 32 = .ok (.areturn, 1) := by decide +kernel
theorem ef_copy_double_2 (m : MethodId) (a0 : Addr) : entryFrame m #[(.ref a0), (.int (4 : Int32))] 3 = mkF m 0 #[.val (.ref a0), .val (.int (4 : Int32)), .unset] [] := by first | (simp [entryFrame, mkF, argsToLocals, Value.category]; done) | rfl
def Q_copy_double_2 (Z : State) (a0 : Addr) (k_a0 : ClassId) (h0 : Heap) (n0 : Nat) (v : Option Value) (h : Heap) (L : List Loc) : Prop := ∃ (ar : Addr) (k_ar : ClassId), v = some (.ref ar) ∧ Fr n0 L ∧ Keep h0 h [] ∧ h0.size ≤ ar ∧ Arv Z h ar k_ar .double (4 : Int32) [(.double (4607182418800017408 : UInt64)), (.double (4607182418800017408 : UInt64)), (.double (0 : UInt64)), (.double (0 : UInt64))] (.double (0 : UInt64))
set_option maxRecDepth 65536 in
set_option maxHeartbeats 40000000 in
theorem copy_double_2 (l : Launch) (Z : State) (aw : Array Value) (hw : ∀ d ∈ tables_1, d.before aw Z = true) (ws : List Jvm.Cond) (a0 : Addr) (k_a0 : ClassId) (h0 : Heap) (n0 : Nat) (Z0 : n0 ≤ h0.size) (V_a0 : Arv Z h0 a0 k_a0 .double (2 : Int32) [(.double (4607182418800017408 : UInt64)), (.double (4607182418800017408 : UInt64))] (.double (0 : UInt64))) :
    MetFree l (⟨"java/util/Arrays", "copyOf", "([DI)[D"⟩ : MethodName) (head1 (Jvm.Cond.code (⟨"java/util/Arrays", "copyOf", "([DI)[D"⟩ : MethodName) jdk_65_method_127_code 3 (some (.array .double)) :: ws) ({ frames := 1, cells := 1, slots := 4, locals := 18 } : Room)) (fun a U => a = #[(.ref a0), (.int (4 : Int32))] ∧ Z.Warmed39 U.vm ∧ U.heap = h0) (fun _ _ _ _ _ => True) (fun _ U o U' => ∃ v L, o = .returned v ∧ Q_copy_double_2 Z a0 k_a0 h0 n0 v U'.heap L ∧ FrameEnd U o U' L ({ frames := 1, cells := 1, slots := 4, locals := 18 } : Room).cells ({ frames := 1, cells := 1, slots := 4, locals := 18 } : Room).slots) := by
  refine MetFree.of_bodySF (plainFor_of_name pn_2) hisR ?_
  intro p e s m args below meth c s₁ Bd hml0 hP hK
  obtain ⟨rfl, hZ, hh⟩ := hP
  have hx := Bd.exec
  have hby := Bd.bytes
  have hml : c.maxLocals = 3 := hml0
  have hown : s.vm.findClass "java/util/Arrays" = some m.cls := findClass_of_methodNamed Bd.named
  have hnm := (name_of_methodNamed Bd.named Bd.method).1
  have hlk : meth.locks = false := BodyLoose.notSynchronized Bd
  have X0 : Stand p l e ({ frames := 1, cells := 1, slots := 4, locals := 18 } : Room) s m #[(.ref a0), (.int (4 : Int32))] below meth c s₁ [] 0 0 := Stand.of_body Bd
  have e0 : s₁.heap = h0 := by rw [← hh, Bd.state]; rfl
  have N0 := Fr.nil n0
  have ZZ := Z0
  show Go p e below s ({ frames := 1, cells := 1, slots := 4, locals := 18 } : Room).cells ({ frames := 1, cells := 1, slots := 4, locals := 18 } : Room).slots (fun v h L => Q_copy_double_2 Z a0 k_a0 h0 n0 v h L) s₁ (entryFrame m #[(.ref a0), (.int (4 : Int32))] 3)
  refine Go.cast (ef_copy_double_2 m a0) ?_
  refine Go.gen ?_
  intro K1 K2 QQ hK1 hK2 hQQ
  have KP : Keep h0 h0 [] := Keep.refl _ _
  refine Go.on (fun _ k => XS.iloadN X0.here hx rfl (hb hby d13_0) rfl k) ?_
  refine Go.on (fun _ k => XS.aloadN X0.here hx rfl (hb hby d13_1) rfl rfl k) ?_
  show Go _ _ _ _ _ _ _ _ (mkF m 2 #[Sr a0, Si 4, .unset] [(.ref a0), (.int 4)])
  obtain ⟨cl1, Ar1, -, S1, N1n, -, -⟩ := id V_a0
  refine Go.on (X0.arraylength hx (by rw [e0]; exact Ar1.1) (State.isArrayOf_alike hZ.alike Ar1.2.1) (g := (mkF m 2 #[Sr a0, Si 4, .unset] [(.ref a0), (.int 4)])) rfl rfl (hb hby d13_2)) ?_
  rw [len_of S1 N1n]
  show Go _ _ _ _ _ _ _ _ (mkF m 3 #[Sr a0, Si 4, .unset] [(.int 2), (.int 4)])
  have hc2 : ¬ ((4 : Int32) = (2 : Int32)) := by decide
  refine Go.on (fun _ k => XS.icmpYes X0.here hx rfl (pc0 := 3) (pc' := 14) rfl (hb hby d13_3) rfl (feq hc2).2 (by decide) (by decide) k) ?_
  refine Go.on (fun _ k => XS.iloadN X0.here hx rfl (hb hby d13_14) rfl k) ?_
  show Go _ _ _ _ _ _ _ _ (mkF m 15 #[Sr a0, Si 4, .unset] [(.int 4)])
  obtain ⟨T3, h3, k_ar, X3, e3, E3, A3, st3⟩ := newP X0 hx hZ (hw _ (List.mem_of_getElem? (i := 13) rfl)) e0 (g := (mkF m 15 #[Sr a0, Si 4, .unset] [(.int 4)])) rfl (hb hby d13_15) rfl (by decide) (cap := 4) (by decide) (by decide) (by decide) (by decide)
  obtain ⟨ar, g3⟩ : ∃ z, z = h0.size := ⟨_, rfl⟩
  have ne_a0_ar : a0 ≠ ar := Nat.ne_of_lt (Nat.lt_of_lt_of_le V_a0.lt (Nat.le_of_eq g3.symm))
  have g_ar : n0 ≤ ar := Nat.le_trans ZZ (Nat.le_of_eq g3.symm)
  have sz_ar : h0.size ≤ ar := Nat.le_trans KP.1 (Nat.le_of_eq g3.symm)
  rw [← g3] at A3 st3
  replace V_a0 := V_a0.ext E3
  replace ZZ := Nat.le_trans ZZ E3.1
  replace KP := KP.ext E3
  have V_ar : Arv Z h3 ar k_ar .double (4 : Int32) [(.double (0 : UInt64)), (.double (0 : UInt64)), (.double (0 : UInt64)), (.double (0 : UInt64))] (.double (0 : UInt64)) := (Arv.new A3 (by decide)).pad (pad_rep [] (.double (0 : UInt64)) 4)
  refine Go.on st3 ?_
  show Go _ _ _ _ _ _ _ _ (mkF m 17 #[Sr a0, Si 4, .unset] [(.ref ar)])
  refine Go.on (fun _ k => XS.astoreN X3.here hx rfl (hb hby d13_17) rfl rfl (l' := #[.val (.ref a0), .val (.int (4 : Int32)), .val (.ref ar)]) rfl k) ?_
  show Go _ _ _ _ _ _ _ _ (mkF m 18 #[Sr a0, Si 4, Sr ar] [])
  refine Go.on (fun _ k => XS.aloadN X3.here hx rfl (hb hby d13_18) rfl rfl k) ?_
  refine Go.on (fun _ k => XS.iconst X3.here hx rfl (hb hby d13_19) k) ?_
  refine Go.on (fun _ k => XS.aloadN X3.here hx rfl (hb hby d13_20) rfl rfl k) ?_
  refine Go.on (fun _ k => XS.iconst X3.here hx rfl (hb hby d13_21) k) ?_
  refine Go.on (fun _ k => XS.aloadN X3.here hx rfl (hb hby d13_22) rfl rfl k) ?_
  show Go _ _ _ _ _ _ _ _ (mkF m 23 #[Sr a0, Si 4, Sr ar] [(.ref a0), (.int 0), (.ref ar), (.int 0), (.ref a0)])
  obtain ⟨cl4, Ar4, -, S4, N4n, -, -⟩ := id V_a0
  refine Go.on (X3.arraylength hx (by rw [e3]; exact Ar4.1) (State.isArrayOf_alike hZ.alike Ar4.2.1) (g := (mkF m 23 #[Sr a0, Si 4, Sr ar] [(.ref a0), (.int 0), (.ref ar), (.int 0), (.ref a0)])) rfl rfl (hb hby d13_23)) ?_
  rw [len_of S4 N4n]
  show Go _ _ _ _ _ _ _ _ (mkF m 24 #[Sr a0, Si 4, Sr ar] [(.int 2), (.int 0), (.ref ar), (.int 0), (.ref a0)])
  refine Go.on (fun _ k => XS.iloadN X3.here hx rfl (hb hby d13_24) rfl k) ?_
  show Go _ _ _ _ _ _ _ _ (mkF m 25 #[Sr a0, Si 4, Sr ar] [(.int 4), (.int 2), (.int 0), (.ref ar), (.int 0), (.ref a0)])
  obtain ⟨_, _, ⟨T5, L5, k5, n5⟩, -, X5, ⟨Lc5, hQ5, l5, y5, z5⟩, st5⟩ := Jvm.LawKit.callS X3 hx (y := (⟨"java/lang/Math", "min", "(II)I"⟩ : MethodName)) hown (mvT hZ (hw _ (List.mem_of_getElem? (i := 66) rfl))) (mvT hZ (hw _ (List.mem_of_getElem? (i := 67) rfl))) (mvT hZ (hw _ (List.mem_of_getElem? (i := 60) rfl))) (mvT hZ (hw _ (List.mem_of_getElem? (i := 68) rfl))) (by decide) (backOf (W := 4) (min_2 l Z aw hw []   h3 n0 ZZ ) hZ (hw _ (List.mem_of_getElem? (i := 68) rfl)) (hw _ (List.mem_of_getElem? (i := 60) rfl)) (by decide) (by decide)) (g := (mkF m 25 #[Sr a0, Si 4, Sr ar] [(.int 4), (.int 2), (.int 0), (.ref ar), (.int 0), (.ref a0)])) rfl (by rw [hml]; rfl) (argsL := [(.int (2 : Int32)), (.int (4 : Int32))]) (rest := [(.int (0 : Int32)), (.ref ar), (.int (0 : Int32)), (.ref a0)]) (lenOf pd_3 rfl) rfl (by show 2 * 0 + _ ≤ _; exact Nat.le_of_eq rfl) (hb hby d13_25) (fun _ _ => ⟨rfl, e3, (by decide : 1 + 0 ≤ _), (by decide : 4 + 0 ≤ _)⟩)
  dsimp only [Pt.U, Pt.locs, Pt.cells, Pt.slots] at X5 l5 y5 z5 st5 hQ5
  subst l5 y5 z5
  obtain ⟨rfl, N5q, e5⟩ := hQ5
  have N5 := Fr.app N0 N5q
  refine Go.on st5 ?_
  show Go _ _ _ _ _ _ _ _ (mkF m 28 #[Sr a0, Si 4, Sr ar] [(.int 2), (.int 0), (.ref ar), (.int 0), (.ref a0)])
  obtain ⟨T6, h6, L6, X6, e6, N6, K6q, V_ar', st6⟩ := cpA X5 hx hZ hown (hw _ (List.mem_of_getElem? (i := 69) rfl)) (hw _ (List.mem_of_getElem? (i := 72) rfl)) (hw _ (List.mem_of_getElem? (i := 70) rfl)) (hw _ (List.mem_of_getElem? (i := 71) rfl)) e5 V_a0 V_ar (us := [(.double (4607182418800017408 : UInt64)), (.double (4607182418800017408 : UInt64))]) (Or.inl ⟨rfl, rfl⟩) (by decide) (by decide) (by decide) (by decide) (by decide) rfl (Nat.le_of_ble_eq_true rfl) N5 g_ar (g := (mkF m 28 #[Sr a0, Si 4, Sr ar] [(.int 2), (.int 0), (.ref ar), (.int 0), (.ref a0)])) rfl (by rw [hml]; rfl) rfl (hb hby d13_28) (by decide) (W := 0) (by show 2 * 0 + _ ≤ _; exact Nat.le_of_eq rfl) (by decide)
  replace V_a0 := V_a0.keep K6q (ninS ne_a0_ar nin0)
  replace ZZ := Nat.le_trans ZZ K6q.1
  replace KP := KP.trans K6q (allS (Or.inr sz_ar) all0)
  have V_ar : Arv Z h6 ar k_ar .double (4 : Int32) [(.double (4607182418800017408 : UInt64)), (.double (4607182418800017408 : UInt64)), (.double (0 : UInt64)), (.double (0 : UInt64))] (.double (0 : UInt64)) := V_ar'
  refine Go.on st6 ?_
  show Go _ _ _ _ _ _ _ _ (mkF m 31 #[Sr a0, Si 4, Sr ar] [])
  refine Go.on (fun _ k => XS.aloadN X6.here hx rfl (hb hby d13_31) rfl rfl k) ?_
  show Go _ _ _ _ _ _ _ _ (mkF m 32 #[Sr a0, Si 4, Sr ar] [(.ref ar)])
  refine Go.retV X6 hx Bd.returns rfl (Or.inr (Or.inr (Or.inr (Or.inr ⟨rfl, rfl, rfl⟩)))) (hb hby d13_32) ?_ (by rw [hK1]; decide) (by rw [hK2]; decide)
  rw [e6, ← hQQ]
  exact ⟨ar, k_ar, rfl, N6, KP, sz_ar, V_ar⟩
theorem ef_mul_4 (m : MethodId)  : entryFrame m #[(.int (4 : Int32)), (.int (2 : Int32))] 4 = mkF m 0 #[.val (.int (4 : Int32)), .val (.int (2 : Int32)), .unset, .unset] [] := by first | (simp [entryFrame, mkF, argsToLocals, Value.category]; done) | rfl
def Q_mul_4 (Z : State)  (h0 : Heap) (n0 : Nat) (v : Option Value) (h : Heap) (L : List Loc) : Prop := v = some (.int (8 : Int32)) ∧ Fr n0 L ∧ h = h0
set_option maxRecDepth 65536 in
set_option maxHeartbeats 40000000 in
theorem mul_4 (l : Launch) (Z : State) (aw : Array Value) (hw : ∀ d ∈ tables_1, d.before aw Z = true) (ws : List Jvm.Cond)  (h0 : Heap) (n0 : Nat) (Z0 : n0 ≤ h0.size) :
    MetFree l (⟨"java/lang/Math", "multiplyExact", "(II)I"⟩ : MethodName) (head1 (Jvm.Cond.code (⟨"java/lang/Math", "multiplyExact", "(II)I"⟩ : MethodName) jdk_29_method_28_code 4 (some .int) :: ws) ({ frames := 0, cells := 0, slots := 0, locals := 0 } : Room)) (fun a U => a = #[(.int (4 : Int32)), (.int (2 : Int32))] ∧ Z.Warmed39 U.vm ∧ U.heap = h0) (fun _ _ _ _ _ => True) (fun _ U o U' => ∃ v L, o = .returned v ∧ Q_mul_4 Z  h0 n0 v U'.heap L ∧ FrameEnd U o U' L ({ frames := 0, cells := 0, slots := 0, locals := 0 } : Room).cells ({ frames := 0, cells := 0, slots := 0, locals := 0 } : Room).slots) := by
  refine MetFree.of_bodySF (Jvm.Free.JP.mathPlain rfl (by decide +kernel)) hisR ?_
  intro p e s m args below meth c s₁ Bd hml0 hP hK
  obtain ⟨rfl, hZ, hh⟩ := hP
  have hx := Bd.exec
  have hby := Bd.bytes
  have hml : c.maxLocals = 4 := hml0
  have hown : s.vm.findClass "java/lang/Math" = some m.cls := findClass_of_methodNamed Bd.named
  have hnm := (name_of_methodNamed Bd.named Bd.method).1
  have hlk : meth.locks = false := BodyLoose.notSynchronized Bd
  have X0 : Stand p l e ({ frames := 0, cells := 0, slots := 0, locals := 0 } : Room) s m #[(.int (4 : Int32)), (.int (2 : Int32))] below meth c s₁ [] 0 0 := Stand.of_body Bd
  have e0 : s₁.heap = h0 := by rw [← hh, Bd.state]; rfl
  have N0 := Fr.nil n0
  have ZZ := Z0
  show Go p e below s ({ frames := 0, cells := 0, slots := 0, locals := 0 } : Room).cells ({ frames := 0, cells := 0, slots := 0, locals := 0 } : Room).slots (fun v h L => Q_mul_4 Z  h0 n0 v h L) s₁ (entryFrame m #[(.int (4 : Int32)), (.int (2 : Int32))] 4)
  refine Go.cast (ef_mul_4 m ) ?_
  refine Go.gen ?_
  intro K1 K2 QQ hK1 hK2 hQQ
  refine Go.on (fun _ k => XS.iloadN X0.here hx rfl (hb hby d10_0) rfl k) ?_
  refine Go.on (fun _ k => XS.i2l X0.here hx rfl (hb hby d10_1) rfl k) ?_
  refine Go.on (fun _ k => XS.iloadN X0.here hx rfl (hb hby d10_2) rfl k) ?_
  refine Go.on (fun _ k => XS.i2l X0.here hx rfl (hb hby d10_3) rfl k) ?_
  refine Go.on (fun _ k => XS.lmul X0.here hx rfl (hb hby d10_4) rfl k) ?_
  show Go _ _ _ _ _ _ _ _ (mkF m 5 #[Si 4, Si 2, .unset, .unset] [(.long (((4 : Int32).toInt64) * ((2 : Int32).toInt64)))])
  refine Go.on (fun _ k => XS.lstoreN X0.here hx rfl (hb hby d10_5) rfl (l' := #[.val (.int (4 : Int32)), .val (.int (2 : Int32)), .val (.long (((4 : Int32).toInt64) * ((2 : Int32).toInt64))), .second]) rfl k) ?_
  show Go _ _ _ _ _ _ _ _ (mkF m 6 #[Si 4, Si 2, .val (.long (((4 : Int32).toInt64) * ((2 : Int32).toInt64))), .second] [])
  refine Go.on (fun _ k => XS.lloadN X0.here hx rfl (hb hby d10_6) rfl k) ?_
  refine Go.on (fun _ k => XS.l2i X0.here hx rfl (hb hby d10_7) rfl k) ?_
  refine Go.on (fun _ k => XS.i2l X0.here hx rfl (hb hby d10_8) rfl k) ?_
  refine Go.on (fun _ k => XS.lloadN X0.here hx rfl (hb hby d10_9) rfl k) ?_
  refine Go.on (fun _ k => XS.lcmp X0.here hx rfl (hb hby d10_10) rfl k) ?_
  show Go _ _ _ _ _ _ _ _ (mkF m 11 #[Si 4, Si 2, .val (.long (((4 : Int32).toInt64) * ((2 : Int32).toInt64))), .second] [(.int (lcmpW (((((4 : Int32).toInt64) * ((2 : Int32).toInt64)).toInt32).toInt64) (((4 : Int32).toInt64) * ((2 : Int32).toInt64))))])
  have hc1 : (((((4 : Int32).toInt64) * ((2 : Int32).toInt64)).toInt32).toInt64) = (((4 : Int32).toInt64) * ((2 : Int32).toInt64)) := by decide
  refine Go.on (fun _ k => XS.ifYes X0.here hx rfl (pc0 := 11) (pc' := 24) rfl (hb hby d10_11) rfl ((if0 _ _).trans (teq (own_lc_eq.mpr hc1)).1) (by decide) (by decide) k) ?_
  refine Go.on (fun _ k => XS.lloadN X0.here hx rfl (hb hby d10_24) rfl k) ?_
  refine Go.on (fun _ k => XS.l2i X0.here hx rfl (hb hby d10_25) rfl k) ?_
  show Go _ _ _ _ _ _ _ _ (mkF m 26 #[Si 4, Si 2, .val (.long (((4 : Int32).toInt64) * ((2 : Int32).toInt64))), .second] [(.int ((((4 : Int32).toInt64) * ((2 : Int32).toInt64)).toInt32))])
  refine Go.retV X0 hx Bd.returns rfl (Or.inl ⟨rfl, Or.inl rfl, _, rfl⟩) (hb hby d10_26) ?_ (by rw [hK1]; decide) (by rw [hK2]; decide)
  rw [e0, ← hQQ]
  exact ⟨rfl, N0, rfl⟩
theorem ef_min_4 (m : MethodId)  : entryFrame m #[(.int (4 : Int32)), (.int (8 : Int32))] 2 = mkF m 0 #[.val (.int (4 : Int32)), .val (.int (8 : Int32))] [] := by first | (simp [entryFrame, mkF, argsToLocals, Value.category]; done) | rfl
def Q_min_4 (Z : State)  (h0 : Heap) (n0 : Nat) (v : Option Value) (h : Heap) (L : List Loc) : Prop := v = some (.int (4 : Int32)) ∧ Fr n0 L ∧ h = h0
set_option maxRecDepth 65536 in
set_option maxHeartbeats 40000000 in
theorem min_4 (l : Launch) (Z : State) (aw : Array Value) (hw : ∀ d ∈ tables_1, d.before aw Z = true) (ws : List Jvm.Cond)  (h0 : Heap) (n0 : Nat) (Z0 : n0 ≤ h0.size) :
    MetFree l (⟨"java/lang/Math", "min", "(II)I"⟩ : MethodName) (head1 (Jvm.Cond.code (⟨"java/lang/Math", "min", "(II)I"⟩ : MethodName) jdk_29_method_69_code 2 (some .int) :: ws) ({ frames := 0, cells := 0, slots := 0, locals := 0 } : Room)) (fun a U => a = #[(.int (4 : Int32)), (.int (8 : Int32))] ∧ Z.Warmed39 U.vm ∧ U.heap = h0) (fun _ _ _ _ _ => True) (fun _ U o U' => ∃ v L, o = .returned v ∧ Q_min_4 Z  h0 n0 v U'.heap L ∧ FrameEnd U o U' L ({ frames := 0, cells := 0, slots := 0, locals := 0 } : Room).cells ({ frames := 0, cells := 0, slots := 0, locals := 0 } : Room).slots) := by
  refine MetFree.of_bodySF (Jvm.Free.JP.mathPlain rfl (by decide +kernel)) hisR ?_
  intro p e s m args below meth c s₁ Bd hml0 hP hK
  obtain ⟨rfl, hZ, hh⟩ := hP
  have hx := Bd.exec
  have hby := Bd.bytes
  have hml : c.maxLocals = 2 := hml0
  have hown : s.vm.findClass "java/lang/Math" = some m.cls := findClass_of_methodNamed Bd.named
  have hnm := (name_of_methodNamed Bd.named Bd.method).1
  have hlk : meth.locks = false := BodyLoose.notSynchronized Bd
  have X0 : Stand p l e ({ frames := 0, cells := 0, slots := 0, locals := 0 } : Room) s m #[(.int (4 : Int32)), (.int (8 : Int32))] below meth c s₁ [] 0 0 := Stand.of_body Bd
  have e0 : s₁.heap = h0 := by rw [← hh, Bd.state]; rfl
  have N0 := Fr.nil n0
  have ZZ := Z0
  show Go p e below s ({ frames := 0, cells := 0, slots := 0, locals := 0 } : Room).cells ({ frames := 0, cells := 0, slots := 0, locals := 0 } : Room).slots (fun v h L => Q_min_4 Z  h0 n0 v h L) s₁ (entryFrame m #[(.int (4 : Int32)), (.int (8 : Int32))] 2)
  refine Go.cast (ef_min_4 m ) ?_
  refine Go.gen ?_
  intro K1 K2 QQ hK1 hK2 hQQ
  refine Go.on (fun _ k => XS.iloadN X0.here hx rfl (hb hby d12_0) rfl k) ?_
  refine Go.on (fun _ k => XS.iloadN X0.here hx rfl (hb hby d12_1) rfl k) ?_
  show Go _ _ _ _ _ _ _ _ (mkF m 2 #[Si 4, Si 8] [(.int 8), (.int 4)])
  have hc1 : ¬ ((8 : Int32) < (4 : Int32)) := by decide
  refine Go.on (fun _ k => XS.icmpNo X0.here hx rfl (hb hby d12_2) rfl (flt hc1).2.2.1 k) ?_
  refine Go.on (fun _ k => XS.iloadN X0.here hx rfl (hb hby d12_5) rfl k) ?_
  refine Go.on (fun _ k => XS.goto X0.here hx rfl (pc0 := 6) (pc' := 10) rfl (hb hby d12_6) (by decide) (by decide) k) ?_
  show Go _ _ _ _ _ _ _ _ (mkF m 10 #[Si 4, Si 8] [(.int 4)])
  refine Go.retV X0 hx Bd.returns rfl (Or.inl ⟨rfl, Or.inl rfl, _, rfl⟩) (hb hby d12_10) ?_ (by rw [hK1]; decide) (by rw [hK2]; decide)
  rw [e0, ← hQQ]
  exact ⟨rfl, N0, rfl⟩
theorem ef_copy_int_4 (m : MethodId) (a0 : Addr) : entryFrame m #[(.ref a0), (.int (8 : Int32))] 3 = mkF m 0 #[.val (.ref a0), .val (.int (8 : Int32)), .unset] [] := by first | (simp [entryFrame, mkF, argsToLocals, Value.category]; done) | rfl
def Q_copy_int_4 (Z : State) (a0 : Addr) (k_a0 : ClassId) (m0 : Int32) (m1 : Int32) (m2 : Int32) (m3 : Int32) (h0 : Heap) (n0 : Nat) (v : Option Value) (h : Heap) (L : List Loc) : Prop := ∃ (ar : Addr) (k_ar : ClassId), v = some (.ref ar) ∧ Fr n0 L ∧ Keep h0 h [] ∧ h0.size ≤ ar ∧ Arv Z h ar k_ar .int (8 : Int32) [(.int m0), (.int m1), (.int m2), (.int m3), (.int (0 : Int32)), (.int (0 : Int32)), (.int (0 : Int32)), (.int (0 : Int32))] (.int (0 : Int32))
set_option maxRecDepth 65536 in
set_option maxHeartbeats 40000000 in
theorem copy_int_4 (l : Launch) (Z : State) (aw : Array Value) (hw : ∀ d ∈ tables_1, d.before aw Z = true) (ws : List Jvm.Cond) (a0 : Addr) (k_a0 : ClassId) (m0 : Int32) (m1 : Int32) (m2 : Int32) (m3 : Int32) (h0 : Heap) (n0 : Nat) (Z0 : n0 ≤ h0.size) (V_a0 : Arv Z h0 a0 k_a0 .int (4 : Int32) [(.int m0), (.int m1), (.int m2), (.int m3)] (.int (0 : Int32))) :
    MetFree l (⟨"java/util/Arrays", "copyOf", "([II)[I"⟩ : MethodName) (head1 (Jvm.Cond.code (⟨"java/util/Arrays", "copyOf", "([II)[I"⟩ : MethodName) jdk_65_method_123_code 3 (some (.array .int)) :: ws) ({ frames := 1, cells := 1, slots := 8, locals := 18 } : Room)) (fun a U => a = #[(.ref a0), (.int (8 : Int32))] ∧ Z.Warmed39 U.vm ∧ U.heap = h0) (fun _ _ _ _ _ => True) (fun _ U o U' => ∃ v L, o = .returned v ∧ Q_copy_int_4 Z a0 k_a0 m0 m1 m2 m3 h0 n0 v U'.heap L ∧ FrameEnd U o U' L ({ frames := 1, cells := 1, slots := 8, locals := 18 } : Room).cells ({ frames := 1, cells := 1, slots := 8, locals := 18 } : Room).slots) := by
  refine MetFree.of_bodySF (plainFor_of_name pn_2) hisR ?_
  intro p e s m args below meth c s₁ Bd hml0 hP hK
  obtain ⟨rfl, hZ, hh⟩ := hP
  have hx := Bd.exec
  have hby := Bd.bytes
  have hml : c.maxLocals = 3 := hml0
  have hown : s.vm.findClass "java/util/Arrays" = some m.cls := findClass_of_methodNamed Bd.named
  have hnm := (name_of_methodNamed Bd.named Bd.method).1
  have hlk : meth.locks = false := BodyLoose.notSynchronized Bd
  have X0 : Stand p l e ({ frames := 1, cells := 1, slots := 8, locals := 18 } : Room) s m #[(.ref a0), (.int (8 : Int32))] below meth c s₁ [] 0 0 := Stand.of_body Bd
  have e0 : s₁.heap = h0 := by rw [← hh, Bd.state]; rfl
  have N0 := Fr.nil n0
  have ZZ := Z0
  show Go p e below s ({ frames := 1, cells := 1, slots := 8, locals := 18 } : Room).cells ({ frames := 1, cells := 1, slots := 8, locals := 18 } : Room).slots (fun v h L => Q_copy_int_4 Z a0 k_a0 m0 m1 m2 m3 h0 n0 v h L) s₁ (entryFrame m #[(.ref a0), (.int (8 : Int32))] 3)
  refine Go.cast (ef_copy_int_4 m a0) ?_
  refine Go.gen ?_
  intro K1 K2 QQ hK1 hK2 hQQ
  have KP : Keep h0 h0 [] := Keep.refl _ _
  refine Go.on (fun _ k => XS.iloadN X0.here hx rfl (hb hby d11_0) rfl k) ?_
  refine Go.on (fun _ k => XS.aloadN X0.here hx rfl (hb hby d11_1) rfl rfl k) ?_
  show Go _ _ _ _ _ _ _ _ (mkF m 2 #[Sr a0, Si 8, .unset] [(.ref a0), (.int 8)])
  obtain ⟨cl1, Ar1, -, S1, N1n, -, -⟩ := id V_a0
  refine Go.on (X0.arraylength hx (by rw [e0]; exact Ar1.1) (State.isArrayOf_alike hZ.alike Ar1.2.1) (g := (mkF m 2 #[Sr a0, Si 8, .unset] [(.ref a0), (.int 8)])) rfl rfl (hb hby d11_2)) ?_
  rw [len_of S1 N1n]
  show Go _ _ _ _ _ _ _ _ (mkF m 3 #[Sr a0, Si 8, .unset] [(.int 4), (.int 8)])
  have hc2 : ¬ ((8 : Int32) = (4 : Int32)) := by decide
  refine Go.on (fun _ k => XS.icmpYes X0.here hx rfl (pc0 := 3) (pc' := 14) rfl (hb hby d11_3) rfl (feq hc2).2 (by decide) (by decide) k) ?_
  refine Go.on (fun _ k => XS.iloadN X0.here hx rfl (hb hby d11_14) rfl k) ?_
  show Go _ _ _ _ _ _ _ _ (mkF m 15 #[Sr a0, Si 8, .unset] [(.int 8)])
  obtain ⟨T3, h3, k_ar, X3, e3, E3, A3, st3⟩ := newP X0 hx hZ (hw _ (List.mem_of_getElem? (i := 10) rfl)) e0 (g := (mkF m 15 #[Sr a0, Si 8, .unset] [(.int 8)])) rfl (hb hby d11_15) rfl (by decide) (cap := 8) (by decide) (by decide) (by decide) (by decide)
  obtain ⟨ar, g3⟩ : ∃ z, z = h0.size := ⟨_, rfl⟩
  have ne_a0_ar : a0 ≠ ar := Nat.ne_of_lt (Nat.lt_of_lt_of_le V_a0.lt (Nat.le_of_eq g3.symm))
  have g_ar : n0 ≤ ar := Nat.le_trans ZZ (Nat.le_of_eq g3.symm)
  have sz_ar : h0.size ≤ ar := Nat.le_trans KP.1 (Nat.le_of_eq g3.symm)
  rw [← g3] at A3 st3
  replace V_a0 := V_a0.ext E3
  replace ZZ := Nat.le_trans ZZ E3.1
  replace KP := KP.ext E3
  have V_ar : Arv Z h3 ar k_ar .int (8 : Int32) [(.int (0 : Int32)), (.int (0 : Int32)), (.int (0 : Int32)), (.int (0 : Int32)), (.int (0 : Int32)), (.int (0 : Int32)), (.int (0 : Int32)), (.int (0 : Int32))] (.int (0 : Int32)) := (Arv.new A3 (by decide)).pad (pad_rep [] (.int (0 : Int32)) 8)
  refine Go.on st3 ?_
  show Go _ _ _ _ _ _ _ _ (mkF m 17 #[Sr a0, Si 8, .unset] [(.ref ar)])
  refine Go.on (fun _ k => XS.astoreN X3.here hx rfl (hb hby d11_17) rfl rfl (l' := #[.val (.ref a0), .val (.int (8 : Int32)), .val (.ref ar)]) rfl k) ?_
  show Go _ _ _ _ _ _ _ _ (mkF m 18 #[Sr a0, Si 8, Sr ar] [])
  refine Go.on (fun _ k => XS.aloadN X3.here hx rfl (hb hby d11_18) rfl rfl k) ?_
  refine Go.on (fun _ k => XS.iconst X3.here hx rfl (hb hby d11_19) k) ?_
  refine Go.on (fun _ k => XS.aloadN X3.here hx rfl (hb hby d11_20) rfl rfl k) ?_
  refine Go.on (fun _ k => XS.iconst X3.here hx rfl (hb hby d11_21) k) ?_
  refine Go.on (fun _ k => XS.aloadN X3.here hx rfl (hb hby d11_22) rfl rfl k) ?_
  show Go _ _ _ _ _ _ _ _ (mkF m 23 #[Sr a0, Si 8, Sr ar] [(.ref a0), (.int 0), (.ref ar), (.int 0), (.ref a0)])
  obtain ⟨cl4, Ar4, -, S4, N4n, -, -⟩ := id V_a0
  refine Go.on (X3.arraylength hx (by rw [e3]; exact Ar4.1) (State.isArrayOf_alike hZ.alike Ar4.2.1) (g := (mkF m 23 #[Sr a0, Si 8, Sr ar] [(.ref a0), (.int 0), (.ref ar), (.int 0), (.ref a0)])) rfl rfl (hb hby d11_23)) ?_
  rw [len_of S4 N4n]
  show Go _ _ _ _ _ _ _ _ (mkF m 24 #[Sr a0, Si 8, Sr ar] [(.int 4), (.int 0), (.ref ar), (.int 0), (.ref a0)])
  refine Go.on (fun _ k => XS.iloadN X3.here hx rfl (hb hby d11_24) rfl k) ?_
  show Go _ _ _ _ _ _ _ _ (mkF m 25 #[Sr a0, Si 8, Sr ar] [(.int 8), (.int 4), (.int 0), (.ref ar), (.int 0), (.ref a0)])
  obtain ⟨_, _, ⟨T5, L5, k5, n5⟩, -, X5, ⟨Lc5, hQ5, l5, y5, z5⟩, st5⟩ := Jvm.LawKit.callS X3 hx (y := (⟨"java/lang/Math", "min", "(II)I"⟩ : MethodName)) hown (mvT hZ (hw _ (List.mem_of_getElem? (i := 66) rfl))) (mvT hZ (hw _ (List.mem_of_getElem? (i := 67) rfl))) (mvT hZ (hw _ (List.mem_of_getElem? (i := 60) rfl))) (mvT hZ (hw _ (List.mem_of_getElem? (i := 68) rfl))) (by decide) (backOf (W := 4) (min_4 l Z aw hw []   h3 n0 ZZ ) hZ (hw _ (List.mem_of_getElem? (i := 68) rfl)) (hw _ (List.mem_of_getElem? (i := 60) rfl)) (by decide) (by decide)) (g := (mkF m 25 #[Sr a0, Si 8, Sr ar] [(.int 8), (.int 4), (.int 0), (.ref ar), (.int 0), (.ref a0)])) rfl (by rw [hml]; rfl) (argsL := [(.int (4 : Int32)), (.int (8 : Int32))]) (rest := [(.int (0 : Int32)), (.ref ar), (.int (0 : Int32)), (.ref a0)]) (lenOf pd_3 rfl) rfl (by show 2 * 0 + _ ≤ _; exact Nat.le_of_eq rfl) (hb hby d11_25) (fun _ _ => ⟨rfl, e3, (by decide : 1 + 0 ≤ _), (by decide : 8 + 0 ≤ _)⟩)
  dsimp only [Pt.U, Pt.locs, Pt.cells, Pt.slots] at X5 l5 y5 z5 st5 hQ5
  subst l5 y5 z5
  obtain ⟨rfl, N5q, e5⟩ := hQ5
  have N5 := Fr.app N0 N5q
  refine Go.on st5 ?_
  show Go _ _ _ _ _ _ _ _ (mkF m 28 #[Sr a0, Si 8, Sr ar] [(.int 4), (.int 0), (.ref ar), (.int 0), (.ref a0)])
  obtain ⟨T6, h6, L6, X6, e6, N6, K6q, V_ar', st6⟩ := cpA X5 hx hZ hown (hw _ (List.mem_of_getElem? (i := 69) rfl)) (hw _ (List.mem_of_getElem? (i := 72) rfl)) (hw _ (List.mem_of_getElem? (i := 70) rfl)) (hw _ (List.mem_of_getElem? (i := 71) rfl)) e5 V_a0 V_ar (us := [(.int m0), (.int m1), (.int m2), (.int m3)]) (Or.inl ⟨rfl, rfl⟩) (by decide) (by decide) (by decide) (by decide) (by decide) rfl (Nat.le_of_ble_eq_true rfl) N5 g_ar (g := (mkF m 28 #[Sr a0, Si 8, Sr ar] [(.int 4), (.int 0), (.ref ar), (.int 0), (.ref a0)])) rfl (by rw [hml]; rfl) rfl (hb hby d11_28) (by decide) (W := 0) (by show 2 * 0 + _ ≤ _; exact Nat.le_of_eq rfl) (by decide)
  replace V_a0 := V_a0.keep K6q (ninS ne_a0_ar nin0)
  replace ZZ := Nat.le_trans ZZ K6q.1
  replace KP := KP.trans K6q (allS (Or.inr sz_ar) all0)
  have V_ar : Arv Z h6 ar k_ar .int (8 : Int32) [(.int m0), (.int m1), (.int m2), (.int m3), (.int (0 : Int32)), (.int (0 : Int32)), (.int (0 : Int32)), (.int (0 : Int32))] (.int (0 : Int32)) := V_ar'
  refine Go.on st6 ?_
  show Go _ _ _ _ _ _ _ _ (mkF m 31 #[Sr a0, Si 8, Sr ar] [])
  refine Go.on (fun _ k => XS.aloadN X6.here hx rfl (hb hby d11_31) rfl rfl k) ?_
  show Go _ _ _ _ _ _ _ _ (mkF m 32 #[Sr a0, Si 8, Sr ar] [(.ref ar)])
  refine Go.retV X6 hx Bd.returns rfl (Or.inr (Or.inr (Or.inr (Or.inr ⟨rfl, rfl, rfl⟩)))) (hb hby d11_32) ?_ (by rw [hK1]; decide) (by rw [hK2]; decide)
  rw [e6, ← hQQ]
  exact ⟨ar, k_ar, rfl, N6, KP, sz_ar, V_ar⟩
theorem ef_copy_double_4 (m : MethodId) (a0 : Addr) : entryFrame m #[(.ref a0), (.int (8 : Int32))] 3 = mkF m 0 #[.val (.ref a0), .val (.int (8 : Int32)), .unset] [] := by first | (simp [entryFrame, mkF, argsToLocals, Value.category]; done) | rfl
def Q_copy_double_4 (Z : State) (a0 : Addr) (k_a0 : ClassId) (h0 : Heap) (n0 : Nat) (v : Option Value) (h : Heap) (L : List Loc) : Prop := ∃ (ar : Addr) (k_ar : ClassId), v = some (.ref ar) ∧ Fr n0 L ∧ Keep h0 h [] ∧ h0.size ≤ ar ∧ Arv Z h ar k_ar .double (8 : Int32) [(.double (4607182418800017408 : UInt64)), (.double (4607182418800017408 : UInt64)), (.double (4607182418800017408 : UInt64)), (.double (4607182418800017408 : UInt64)), (.double (0 : UInt64)), (.double (0 : UInt64)), (.double (0 : UInt64)), (.double (0 : UInt64))] (.double (0 : UInt64))
set_option maxRecDepth 65536 in
set_option maxHeartbeats 40000000 in
theorem copy_double_4 (l : Launch) (Z : State) (aw : Array Value) (hw : ∀ d ∈ tables_1, d.before aw Z = true) (ws : List Jvm.Cond) (a0 : Addr) (k_a0 : ClassId) (h0 : Heap) (n0 : Nat) (Z0 : n0 ≤ h0.size) (V_a0 : Arv Z h0 a0 k_a0 .double (4 : Int32) [(.double (4607182418800017408 : UInt64)), (.double (4607182418800017408 : UInt64)), (.double (4607182418800017408 : UInt64)), (.double (4607182418800017408 : UInt64))] (.double (0 : UInt64))) :
    MetFree l (⟨"java/util/Arrays", "copyOf", "([DI)[D"⟩ : MethodName) (head1 (Jvm.Cond.code (⟨"java/util/Arrays", "copyOf", "([DI)[D"⟩ : MethodName) jdk_65_method_127_code 3 (some (.array .double)) :: ws) ({ frames := 1, cells := 1, slots := 8, locals := 18 } : Room)) (fun a U => a = #[(.ref a0), (.int (8 : Int32))] ∧ Z.Warmed39 U.vm ∧ U.heap = h0) (fun _ _ _ _ _ => True) (fun _ U o U' => ∃ v L, o = .returned v ∧ Q_copy_double_4 Z a0 k_a0 h0 n0 v U'.heap L ∧ FrameEnd U o U' L ({ frames := 1, cells := 1, slots := 8, locals := 18 } : Room).cells ({ frames := 1, cells := 1, slots := 8, locals := 18 } : Room).slots) := by
  refine MetFree.of_bodySF (plainFor_of_name pn_2) hisR ?_
  intro p e s m args below meth c s₁ Bd hml0 hP hK
  obtain ⟨rfl, hZ, hh⟩ := hP
  have hx := Bd.exec
  have hby := Bd.bytes
  have hml : c.maxLocals = 3 := hml0
  have hown : s.vm.findClass "java/util/Arrays" = some m.cls := findClass_of_methodNamed Bd.named
  have hnm := (name_of_methodNamed Bd.named Bd.method).1
  have hlk : meth.locks = false := BodyLoose.notSynchronized Bd
  have X0 : Stand p l e ({ frames := 1, cells := 1, slots := 8, locals := 18 } : Room) s m #[(.ref a0), (.int (8 : Int32))] below meth c s₁ [] 0 0 := Stand.of_body Bd
  have e0 : s₁.heap = h0 := by rw [← hh, Bd.state]; rfl
  have N0 := Fr.nil n0
  have ZZ := Z0
  show Go p e below s ({ frames := 1, cells := 1, slots := 8, locals := 18 } : Room).cells ({ frames := 1, cells := 1, slots := 8, locals := 18 } : Room).slots (fun v h L => Q_copy_double_4 Z a0 k_a0 h0 n0 v h L) s₁ (entryFrame m #[(.ref a0), (.int (8 : Int32))] 3)
  refine Go.cast (ef_copy_double_4 m a0) ?_
  refine Go.gen ?_
  intro K1 K2 QQ hK1 hK2 hQQ
  have KP : Keep h0 h0 [] := Keep.refl _ _
  refine Go.on (fun _ k => XS.iloadN X0.here hx rfl (hb hby d13_0) rfl k) ?_
  refine Go.on (fun _ k => XS.aloadN X0.here hx rfl (hb hby d13_1) rfl rfl k) ?_
  show Go _ _ _ _ _ _ _ _ (mkF m 2 #[Sr a0, Si 8, .unset] [(.ref a0), (.int 8)])
  obtain ⟨cl1, Ar1, -, S1, N1n, -, -⟩ := id V_a0
  refine Go.on (X0.arraylength hx (by rw [e0]; exact Ar1.1) (State.isArrayOf_alike hZ.alike Ar1.2.1) (g := (mkF m 2 #[Sr a0, Si 8, .unset] [(.ref a0), (.int 8)])) rfl rfl (hb hby d13_2)) ?_
  rw [len_of S1 N1n]
  show Go _ _ _ _ _ _ _ _ (mkF m 3 #[Sr a0, Si 8, .unset] [(.int 4), (.int 8)])
  have hc2 : ¬ ((8 : Int32) = (4 : Int32)) := by decide
  refine Go.on (fun _ k => XS.icmpYes X0.here hx rfl (pc0 := 3) (pc' := 14) rfl (hb hby d13_3) rfl (feq hc2).2 (by decide) (by decide) k) ?_
  refine Go.on (fun _ k => XS.iloadN X0.here hx rfl (hb hby d13_14) rfl k) ?_
  show Go _ _ _ _ _ _ _ _ (mkF m 15 #[Sr a0, Si 8, .unset] [(.int 8)])
  obtain ⟨T3, h3, k_ar, X3, e3, E3, A3, st3⟩ := newP X0 hx hZ (hw _ (List.mem_of_getElem? (i := 13) rfl)) e0 (g := (mkF m 15 #[Sr a0, Si 8, .unset] [(.int 8)])) rfl (hb hby d13_15) rfl (by decide) (cap := 8) (by decide) (by decide) (by decide) (by decide)
  obtain ⟨ar, g3⟩ : ∃ z, z = h0.size := ⟨_, rfl⟩
  have ne_a0_ar : a0 ≠ ar := Nat.ne_of_lt (Nat.lt_of_lt_of_le V_a0.lt (Nat.le_of_eq g3.symm))
  have g_ar : n0 ≤ ar := Nat.le_trans ZZ (Nat.le_of_eq g3.symm)
  have sz_ar : h0.size ≤ ar := Nat.le_trans KP.1 (Nat.le_of_eq g3.symm)
  rw [← g3] at A3 st3
  replace V_a0 := V_a0.ext E3
  replace ZZ := Nat.le_trans ZZ E3.1
  replace KP := KP.ext E3
  have V_ar : Arv Z h3 ar k_ar .double (8 : Int32) [(.double (0 : UInt64)), (.double (0 : UInt64)), (.double (0 : UInt64)), (.double (0 : UInt64)), (.double (0 : UInt64)), (.double (0 : UInt64)), (.double (0 : UInt64)), (.double (0 : UInt64))] (.double (0 : UInt64)) := (Arv.new A3 (by decide)).pad (pad_rep [] (.double (0 : UInt64)) 8)
  refine Go.on st3 ?_
  show Go _ _ _ _ _ _ _ _ (mkF m 17 #[Sr a0, Si 8, .unset] [(.ref ar)])
  refine Go.on (fun _ k => XS.astoreN X3.here hx rfl (hb hby d13_17) rfl rfl (l' := #[.val (.ref a0), .val (.int (8 : Int32)), .val (.ref ar)]) rfl k) ?_
  show Go _ _ _ _ _ _ _ _ (mkF m 18 #[Sr a0, Si 8, Sr ar] [])
  refine Go.on (fun _ k => XS.aloadN X3.here hx rfl (hb hby d13_18) rfl rfl k) ?_
  refine Go.on (fun _ k => XS.iconst X3.here hx rfl (hb hby d13_19) k) ?_
  refine Go.on (fun _ k => XS.aloadN X3.here hx rfl (hb hby d13_20) rfl rfl k) ?_
  refine Go.on (fun _ k => XS.iconst X3.here hx rfl (hb hby d13_21) k) ?_
  refine Go.on (fun _ k => XS.aloadN X3.here hx rfl (hb hby d13_22) rfl rfl k) ?_
  show Go _ _ _ _ _ _ _ _ (mkF m 23 #[Sr a0, Si 8, Sr ar] [(.ref a0), (.int 0), (.ref ar), (.int 0), (.ref a0)])
  obtain ⟨cl4, Ar4, -, S4, N4n, -, -⟩ := id V_a0
  refine Go.on (X3.arraylength hx (by rw [e3]; exact Ar4.1) (State.isArrayOf_alike hZ.alike Ar4.2.1) (g := (mkF m 23 #[Sr a0, Si 8, Sr ar] [(.ref a0), (.int 0), (.ref ar), (.int 0), (.ref a0)])) rfl rfl (hb hby d13_23)) ?_
  rw [len_of S4 N4n]
  show Go _ _ _ _ _ _ _ _ (mkF m 24 #[Sr a0, Si 8, Sr ar] [(.int 4), (.int 0), (.ref ar), (.int 0), (.ref a0)])
  refine Go.on (fun _ k => XS.iloadN X3.here hx rfl (hb hby d13_24) rfl k) ?_
  show Go _ _ _ _ _ _ _ _ (mkF m 25 #[Sr a0, Si 8, Sr ar] [(.int 8), (.int 4), (.int 0), (.ref ar), (.int 0), (.ref a0)])
  obtain ⟨_, _, ⟨T5, L5, k5, n5⟩, -, X5, ⟨Lc5, hQ5, l5, y5, z5⟩, st5⟩ := Jvm.LawKit.callS X3 hx (y := (⟨"java/lang/Math", "min", "(II)I"⟩ : MethodName)) hown (mvT hZ (hw _ (List.mem_of_getElem? (i := 66) rfl))) (mvT hZ (hw _ (List.mem_of_getElem? (i := 67) rfl))) (mvT hZ (hw _ (List.mem_of_getElem? (i := 60) rfl))) (mvT hZ (hw _ (List.mem_of_getElem? (i := 68) rfl))) (by decide) (backOf (W := 4) (min_4 l Z aw hw []   h3 n0 ZZ ) hZ (hw _ (List.mem_of_getElem? (i := 68) rfl)) (hw _ (List.mem_of_getElem? (i := 60) rfl)) (by decide) (by decide)) (g := (mkF m 25 #[Sr a0, Si 8, Sr ar] [(.int 8), (.int 4), (.int 0), (.ref ar), (.int 0), (.ref a0)])) rfl (by rw [hml]; rfl) (argsL := [(.int (4 : Int32)), (.int (8 : Int32))]) (rest := [(.int (0 : Int32)), (.ref ar), (.int (0 : Int32)), (.ref a0)]) (lenOf pd_3 rfl) rfl (by show 2 * 0 + _ ≤ _; exact Nat.le_of_eq rfl) (hb hby d13_25) (fun _ _ => ⟨rfl, e3, (by decide : 1 + 0 ≤ _), (by decide : 8 + 0 ≤ _)⟩)
  dsimp only [Pt.U, Pt.locs, Pt.cells, Pt.slots] at X5 l5 y5 z5 st5 hQ5
  subst l5 y5 z5
  obtain ⟨rfl, N5q, e5⟩ := hQ5
  have N5 := Fr.app N0 N5q
  refine Go.on st5 ?_
  show Go _ _ _ _ _ _ _ _ (mkF m 28 #[Sr a0, Si 8, Sr ar] [(.int 4), (.int 0), (.ref ar), (.int 0), (.ref a0)])
  obtain ⟨T6, h6, L6, X6, e6, N6, K6q, V_ar', st6⟩ := cpA X5 hx hZ hown (hw _ (List.mem_of_getElem? (i := 69) rfl)) (hw _ (List.mem_of_getElem? (i := 72) rfl)) (hw _ (List.mem_of_getElem? (i := 70) rfl)) (hw _ (List.mem_of_getElem? (i := 71) rfl)) e5 V_a0 V_ar (us := [(.double (4607182418800017408 : UInt64)), (.double (4607182418800017408 : UInt64)), (.double (4607182418800017408 : UInt64)), (.double (4607182418800017408 : UInt64))]) (Or.inl ⟨rfl, rfl⟩) (by decide) (by decide) (by decide) (by decide) (by decide) rfl (Nat.le_of_ble_eq_true rfl) N5 g_ar (g := (mkF m 28 #[Sr a0, Si 8, Sr ar] [(.int 4), (.int 0), (.ref ar), (.int 0), (.ref a0)])) rfl (by rw [hml]; rfl) rfl (hb hby d13_28) (by decide) (W := 0) (by show 2 * 0 + _ ≤ _; exact Nat.le_of_eq rfl) (by decide)
  replace V_a0 := V_a0.keep K6q (ninS ne_a0_ar nin0)
  replace ZZ := Nat.le_trans ZZ K6q.1
  replace KP := KP.trans K6q (allS (Or.inr sz_ar) all0)
  have V_ar : Arv Z h6 ar k_ar .double (8 : Int32) [(.double (4607182418800017408 : UInt64)), (.double (4607182418800017408 : UInt64)), (.double (4607182418800017408 : UInt64)), (.double (4607182418800017408 : UInt64)), (.double (0 : UInt64)), (.double (0 : UInt64)), (.double (0 : UInt64)), (.double (0 : UInt64))] (.double (0 : UInt64)) := V_ar'
  refine Go.on st6 ?_
  show Go _ _ _ _ _ _ _ _ (mkF m 31 #[Sr a0, Si 8, Sr ar] [])
  refine Go.on (fun _ k => XS.aloadN X6.here hx rfl (hb hby d13_31) rfl rfl k) ?_
  show Go _ _ _ _ _ _ _ _ (mkF m 32 #[Sr a0, Si 8, Sr ar] [(.ref ar)])
  refine Go.retV X6 hx Bd.returns rfl (Or.inr (Or.inr (Or.inr (Or.inr ⟨rfl, rfl, rfl⟩)))) (hb hby d13_32) ?_ (by rw [hK1]; decide) (by rw [hK2]; decide)
  rw [e6, ← hQQ]
  exact ⟨ar, k_ar, rfl, N6, KP, sz_ar, V_ar⟩
theorem ef_mul_8 (m : MethodId)  : entryFrame m #[(.int (8 : Int32)), (.int (2 : Int32))] 4 = mkF m 0 #[.val (.int (8 : Int32)), .val (.int (2 : Int32)), .unset, .unset] [] := by first | (simp [entryFrame, mkF, argsToLocals, Value.category]; done) | rfl
def Q_mul_8 (Z : State)  (h0 : Heap) (n0 : Nat) (v : Option Value) (h : Heap) (L : List Loc) : Prop := v = some (.int (16 : Int32)) ∧ Fr n0 L ∧ h = h0
set_option maxRecDepth 65536 in
set_option maxHeartbeats 40000000 in
theorem mul_8 (l : Launch) (Z : State) (aw : Array Value) (hw : ∀ d ∈ tables_1, d.before aw Z = true) (ws : List Jvm.Cond)  (h0 : Heap) (n0 : Nat) (Z0 : n0 ≤ h0.size) :
    MetFree l (⟨"java/lang/Math", "multiplyExact", "(II)I"⟩ : MethodName) (head1 (Jvm.Cond.code (⟨"java/lang/Math", "multiplyExact", "(II)I"⟩ : MethodName) jdk_29_method_28_code 4 (some .int) :: ws) ({ frames := 0, cells := 0, slots := 0, locals := 0 } : Room)) (fun a U => a = #[(.int (8 : Int32)), (.int (2 : Int32))] ∧ Z.Warmed39 U.vm ∧ U.heap = h0) (fun _ _ _ _ _ => True) (fun _ U o U' => ∃ v L, o = .returned v ∧ Q_mul_8 Z  h0 n0 v U'.heap L ∧ FrameEnd U o U' L ({ frames := 0, cells := 0, slots := 0, locals := 0 } : Room).cells ({ frames := 0, cells := 0, slots := 0, locals := 0 } : Room).slots) := by
  refine MetFree.of_bodySF (Jvm.Free.JP.mathPlain rfl (by decide +kernel)) hisR ?_
  intro p e s m args below meth c s₁ Bd hml0 hP hK
  obtain ⟨rfl, hZ, hh⟩ := hP
  have hx := Bd.exec
  have hby := Bd.bytes
  have hml : c.maxLocals = 4 := hml0
  have hown : s.vm.findClass "java/lang/Math" = some m.cls := findClass_of_methodNamed Bd.named
  have hnm := (name_of_methodNamed Bd.named Bd.method).1
  have hlk : meth.locks = false := BodyLoose.notSynchronized Bd
  have X0 : Stand p l e ({ frames := 0, cells := 0, slots := 0, locals := 0 } : Room) s m #[(.int (8 : Int32)), (.int (2 : Int32))] below meth c s₁ [] 0 0 := Stand.of_body Bd
  have e0 : s₁.heap = h0 := by rw [← hh, Bd.state]; rfl
  have N0 := Fr.nil n0
  have ZZ := Z0
  show Go p e below s ({ frames := 0, cells := 0, slots := 0, locals := 0 } : Room).cells ({ frames := 0, cells := 0, slots := 0, locals := 0 } : Room).slots (fun v h L => Q_mul_8 Z  h0 n0 v h L) s₁ (entryFrame m #[(.int (8 : Int32)), (.int (2 : Int32))] 4)
  refine Go.cast (ef_mul_8 m ) ?_
  refine Go.gen ?_
  intro K1 K2 QQ hK1 hK2 hQQ
  refine Go.on (fun _ k => XS.iloadN X0.here hx rfl (hb hby d10_0) rfl k) ?_
  refine Go.on (fun _ k => XS.i2l X0.here hx rfl (hb hby d10_1) rfl k) ?_
  refine Go.on (fun _ k => XS.iloadN X0.here hx rfl (hb hby d10_2) rfl k) ?_
  refine Go.on (fun _ k => XS.i2l X0.here hx rfl (hb hby d10_3) rfl k) ?_
  refine Go.on (fun _ k => XS.lmul X0.here hx rfl (hb hby d10_4) rfl k) ?_
  show Go _ _ _ _ _ _ _ _ (mkF m 5 #[Si 8, Si 2, .unset, .unset] [(.long (((8 : Int32).toInt64) * ((2 : Int32).toInt64)))])
  refine Go.on (fun _ k => XS.lstoreN X0.here hx rfl (hb hby d10_5) rfl (l' := #[.val (.int (8 : Int32)), .val (.int (2 : Int32)), .val (.long (((8 : Int32).toInt64) * ((2 : Int32).toInt64))), .second]) rfl k) ?_
  show Go _ _ _ _ _ _ _ _ (mkF m 6 #[Si 8, Si 2, .val (.long (((8 : Int32).toInt64) * ((2 : Int32).toInt64))), .second] [])
  refine Go.on (fun _ k => XS.lloadN X0.here hx rfl (hb hby d10_6) rfl k) ?_
  refine Go.on (fun _ k => XS.l2i X0.here hx rfl (hb hby d10_7) rfl k) ?_
  refine Go.on (fun _ k => XS.i2l X0.here hx rfl (hb hby d10_8) rfl k) ?_
  refine Go.on (fun _ k => XS.lloadN X0.here hx rfl (hb hby d10_9) rfl k) ?_
  refine Go.on (fun _ k => XS.lcmp X0.here hx rfl (hb hby d10_10) rfl k) ?_
  show Go _ _ _ _ _ _ _ _ (mkF m 11 #[Si 8, Si 2, .val (.long (((8 : Int32).toInt64) * ((2 : Int32).toInt64))), .second] [(.int (lcmpW (((((8 : Int32).toInt64) * ((2 : Int32).toInt64)).toInt32).toInt64) (((8 : Int32).toInt64) * ((2 : Int32).toInt64))))])
  have hc1 : (((((8 : Int32).toInt64) * ((2 : Int32).toInt64)).toInt32).toInt64) = (((8 : Int32).toInt64) * ((2 : Int32).toInt64)) := by decide
  refine Go.on (fun _ k => XS.ifYes X0.here hx rfl (pc0 := 11) (pc' := 24) rfl (hb hby d10_11) rfl ((if0 _ _).trans (teq (own_lc_eq.mpr hc1)).1) (by decide) (by decide) k) ?_
  refine Go.on (fun _ k => XS.lloadN X0.here hx rfl (hb hby d10_24) rfl k) ?_
  refine Go.on (fun _ k => XS.l2i X0.here hx rfl (hb hby d10_25) rfl k) ?_
  show Go _ _ _ _ _ _ _ _ (mkF m 26 #[Si 8, Si 2, .val (.long (((8 : Int32).toInt64) * ((2 : Int32).toInt64))), .second] [(.int ((((8 : Int32).toInt64) * ((2 : Int32).toInt64)).toInt32))])
  refine Go.retV X0 hx Bd.returns rfl (Or.inl ⟨rfl, Or.inl rfl, _, rfl⟩) (hb hby d10_26) ?_ (by rw [hK1]; decide) (by rw [hK2]; decide)
  rw [e0, ← hQQ]
  exact ⟨rfl, N0, rfl⟩
theorem ef_min_8 (m : MethodId)  : entryFrame m #[(.int (8 : Int32)), (.int (16 : Int32))] 2 = mkF m 0 #[.val (.int (8 : Int32)), .val (.int (16 : Int32))] [] := by first | (simp [entryFrame, mkF, argsToLocals, Value.category]; done) | rfl
def Q_min_8 (Z : State)  (h0 : Heap) (n0 : Nat) (v : Option Value) (h : Heap) (L : List Loc) : Prop := v = some (.int (8 : Int32)) ∧ Fr n0 L ∧ h = h0
set_option maxRecDepth 65536 in
set_option maxHeartbeats 40000000 in
theorem min_8 (l : Launch) (Z : State) (aw : Array Value) (hw : ∀ d ∈ tables_1, d.before aw Z = true) (ws : List Jvm.Cond)  (h0 : Heap) (n0 : Nat) (Z0 : n0 ≤ h0.size) :
    MetFree l (⟨"java/lang/Math", "min", "(II)I"⟩ : MethodName) (head1 (Jvm.Cond.code (⟨"java/lang/Math", "min", "(II)I"⟩ : MethodName) jdk_29_method_69_code 2 (some .int) :: ws) ({ frames := 0, cells := 0, slots := 0, locals := 0 } : Room)) (fun a U => a = #[(.int (8 : Int32)), (.int (16 : Int32))] ∧ Z.Warmed39 U.vm ∧ U.heap = h0) (fun _ _ _ _ _ => True) (fun _ U o U' => ∃ v L, o = .returned v ∧ Q_min_8 Z  h0 n0 v U'.heap L ∧ FrameEnd U o U' L ({ frames := 0, cells := 0, slots := 0, locals := 0 } : Room).cells ({ frames := 0, cells := 0, slots := 0, locals := 0 } : Room).slots) := by
  refine MetFree.of_bodySF (Jvm.Free.JP.mathPlain rfl (by decide +kernel)) hisR ?_
  intro p e s m args below meth c s₁ Bd hml0 hP hK
  obtain ⟨rfl, hZ, hh⟩ := hP
  have hx := Bd.exec
  have hby := Bd.bytes
  have hml : c.maxLocals = 2 := hml0
  have hown : s.vm.findClass "java/lang/Math" = some m.cls := findClass_of_methodNamed Bd.named
  have hnm := (name_of_methodNamed Bd.named Bd.method).1
  have hlk : meth.locks = false := BodyLoose.notSynchronized Bd
  have X0 : Stand p l e ({ frames := 0, cells := 0, slots := 0, locals := 0 } : Room) s m #[(.int (8 : Int32)), (.int (16 : Int32))] below meth c s₁ [] 0 0 := Stand.of_body Bd
  have e0 : s₁.heap = h0 := by rw [← hh, Bd.state]; rfl
  have N0 := Fr.nil n0
  have ZZ := Z0
  show Go p e below s ({ frames := 0, cells := 0, slots := 0, locals := 0 } : Room).cells ({ frames := 0, cells := 0, slots := 0, locals := 0 } : Room).slots (fun v h L => Q_min_8 Z  h0 n0 v h L) s₁ (entryFrame m #[(.int (8 : Int32)), (.int (16 : Int32))] 2)
  refine Go.cast (ef_min_8 m ) ?_
  refine Go.gen ?_
  intro K1 K2 QQ hK1 hK2 hQQ
  refine Go.on (fun _ k => XS.iloadN X0.here hx rfl (hb hby d12_0) rfl k) ?_
  refine Go.on (fun _ k => XS.iloadN X0.here hx rfl (hb hby d12_1) rfl k) ?_
  show Go _ _ _ _ _ _ _ _ (mkF m 2 #[Si 8, Si 16] [(.int 16), (.int 8)])
  have hc1 : ¬ ((16 : Int32) < (8 : Int32)) := by decide
  refine Go.on (fun _ k => XS.icmpNo X0.here hx rfl (hb hby d12_2) rfl (flt hc1).2.2.1 k) ?_
  refine Go.on (fun _ k => XS.iloadN X0.here hx rfl (hb hby d12_5) rfl k) ?_
  refine Go.on (fun _ k => XS.goto X0.here hx rfl (pc0 := 6) (pc' := 10) rfl (hb hby d12_6) (by decide) (by decide) k) ?_
  show Go _ _ _ _ _ _ _ _ (mkF m 10 #[Si 8, Si 16] [(.int 8)])
  refine Go.retV X0 hx Bd.returns rfl (Or.inl ⟨rfl, Or.inl rfl, _, rfl⟩) (hb hby d12_10) ?_ (by rw [hK1]; decide) (by rw [hK2]; decide)
  rw [e0, ← hQQ]
  exact ⟨rfl, N0, rfl⟩
theorem ef_copy_int_8 (m : MethodId) (a0 : Addr) : entryFrame m #[(.ref a0), (.int (16 : Int32))] 3 = mkF m 0 #[.val (.ref a0), .val (.int (16 : Int32)), .unset] [] := by first | (simp [entryFrame, mkF, argsToLocals, Value.category]; done) | rfl
def Q_copy_int_8 (Z : State) (a0 : Addr) (k_a0 : ClassId) (m0 : Int32) (m1 : Int32) (m2 : Int32) (m3 : Int32) (m4 : Int32) (m5 : Int32) (m6 : Int32) (m7 : Int32) (h0 : Heap) (n0 : Nat) (v : Option Value) (h : Heap) (L : List Loc) : Prop := ∃ (ar : Addr) (k_ar : ClassId), v = some (.ref ar) ∧ Fr n0 L ∧ Keep h0 h [] ∧ h0.size ≤ ar ∧ Arv Z h ar k_ar .int (16 : Int32) [(.int m0), (.int m1), (.int m2), (.int m3), (.int m4), (.int m5), (.int m6), (.int m7), (.int (0 : Int32)), (.int (0 : Int32)), (.int (0 : Int32)), (.int (0 : Int32)), (.int (0 : Int32)), (.int (0 : Int32)), (.int (0 : Int32)), (.int (0 : Int32))] (.int (0 : Int32))
set_option maxRecDepth 65536 in
set_option maxHeartbeats 40000000 in
theorem copy_int_8 (l : Launch) (Z : State) (aw : Array Value) (hw : ∀ d ∈ tables_1, d.before aw Z = true) (ws : List Jvm.Cond) (a0 : Addr) (k_a0 : ClassId) (m0 : Int32) (m1 : Int32) (m2 : Int32) (m3 : Int32) (m4 : Int32) (m5 : Int32) (m6 : Int32) (m7 : Int32) (h0 : Heap) (n0 : Nat) (Z0 : n0 ≤ h0.size) (V_a0 : Arv Z h0 a0 k_a0 .int (8 : Int32) [(.int m0), (.int m1), (.int m2), (.int m3), (.int m4), (.int m5), (.int m6), (.int m7)] (.int (0 : Int32))) :
    MetFree l (⟨"java/util/Arrays", "copyOf", "([II)[I"⟩ : MethodName) (head1 (Jvm.Cond.code (⟨"java/util/Arrays", "copyOf", "([II)[I"⟩ : MethodName) jdk_65_method_123_code 3 (some (.array .int)) :: ws) ({ frames := 1, cells := 1, slots := 16, locals := 18 } : Room)) (fun a U => a = #[(.ref a0), (.int (16 : Int32))] ∧ Z.Warmed39 U.vm ∧ U.heap = h0) (fun _ _ _ _ _ => True) (fun _ U o U' => ∃ v L, o = .returned v ∧ Q_copy_int_8 Z a0 k_a0 m0 m1 m2 m3 m4 m5 m6 m7 h0 n0 v U'.heap L ∧ FrameEnd U o U' L ({ frames := 1, cells := 1, slots := 16, locals := 18 } : Room).cells ({ frames := 1, cells := 1, slots := 16, locals := 18 } : Room).slots) := by
  refine MetFree.of_bodySF (plainFor_of_name pn_2) hisR ?_
  intro p e s m args below meth c s₁ Bd hml0 hP hK
  obtain ⟨rfl, hZ, hh⟩ := hP
  have hx := Bd.exec
  have hby := Bd.bytes
  have hml : c.maxLocals = 3 := hml0
  have hown : s.vm.findClass "java/util/Arrays" = some m.cls := findClass_of_methodNamed Bd.named
  have hnm := (name_of_methodNamed Bd.named Bd.method).1
  have hlk : meth.locks = false := BodyLoose.notSynchronized Bd
  have X0 : Stand p l e ({ frames := 1, cells := 1, slots := 16, locals := 18 } : Room) s m #[(.ref a0), (.int (16 : Int32))] below meth c s₁ [] 0 0 := Stand.of_body Bd
  have e0 : s₁.heap = h0 := by rw [← hh, Bd.state]; rfl
  have N0 := Fr.nil n0
  have ZZ := Z0
  show Go p e below s ({ frames := 1, cells := 1, slots := 16, locals := 18 } : Room).cells ({ frames := 1, cells := 1, slots := 16, locals := 18 } : Room).slots (fun v h L => Q_copy_int_8 Z a0 k_a0 m0 m1 m2 m3 m4 m5 m6 m7 h0 n0 v h L) s₁ (entryFrame m #[(.ref a0), (.int (16 : Int32))] 3)
  refine Go.cast (ef_copy_int_8 m a0) ?_
  refine Go.gen ?_
  intro K1 K2 QQ hK1 hK2 hQQ
  have KP : Keep h0 h0 [] := Keep.refl _ _
  refine Go.on (fun _ k => XS.iloadN X0.here hx rfl (hb hby d11_0) rfl k) ?_
  refine Go.on (fun _ k => XS.aloadN X0.here hx rfl (hb hby d11_1) rfl rfl k) ?_
  show Go _ _ _ _ _ _ _ _ (mkF m 2 #[Sr a0, Si 16, .unset] [(.ref a0), (.int 16)])
  obtain ⟨cl1, Ar1, -, S1, N1n, -, -⟩ := id V_a0
  refine Go.on (X0.arraylength hx (by rw [e0]; exact Ar1.1) (State.isArrayOf_alike hZ.alike Ar1.2.1) (g := (mkF m 2 #[Sr a0, Si 16, .unset] [(.ref a0), (.int 16)])) rfl rfl (hb hby d11_2)) ?_
  rw [len_of S1 N1n]
  show Go _ _ _ _ _ _ _ _ (mkF m 3 #[Sr a0, Si 16, .unset] [(.int 8), (.int 16)])
  have hc2 : ¬ ((16 : Int32) = (8 : Int32)) := by decide
  refine Go.on (fun _ k => XS.icmpYes X0.here hx rfl (pc0 := 3) (pc' := 14) rfl (hb hby d11_3) rfl (feq hc2).2 (by decide) (by decide) k) ?_
  refine Go.on (fun _ k => XS.iloadN X0.here hx rfl (hb hby d11_14) rfl k) ?_
  show Go _ _ _ _ _ _ _ _ (mkF m 15 #[Sr a0, Si 16, .unset] [(.int 16)])
  obtain ⟨T3, h3, k_ar, X3, e3, E3, A3, st3⟩ := newP X0 hx hZ (hw _ (List.mem_of_getElem? (i := 10) rfl)) e0 (g := (mkF m 15 #[Sr a0, Si 16, .unset] [(.int 16)])) rfl (hb hby d11_15) rfl (by decide) (cap := 16) (by decide) (by decide) (by decide) (by decide)
  obtain ⟨ar, g3⟩ : ∃ z, z = h0.size := ⟨_, rfl⟩
  have ne_a0_ar : a0 ≠ ar := Nat.ne_of_lt (Nat.lt_of_lt_of_le V_a0.lt (Nat.le_of_eq g3.symm))
  have g_ar : n0 ≤ ar := Nat.le_trans ZZ (Nat.le_of_eq g3.symm)
  have sz_ar : h0.size ≤ ar := Nat.le_trans KP.1 (Nat.le_of_eq g3.symm)
  rw [← g3] at A3 st3
  replace V_a0 := V_a0.ext E3
  replace ZZ := Nat.le_trans ZZ E3.1
  replace KP := KP.ext E3
  have V_ar : Arv Z h3 ar k_ar .int (16 : Int32) [(.int (0 : Int32)), (.int (0 : Int32)), (.int (0 : Int32)), (.int (0 : Int32)), (.int (0 : Int32)), (.int (0 : Int32)), (.int (0 : Int32)), (.int (0 : Int32)), (.int (0 : Int32)), (.int (0 : Int32)), (.int (0 : Int32)), (.int (0 : Int32)), (.int (0 : Int32)), (.int (0 : Int32)), (.int (0 : Int32)), (.int (0 : Int32))] (.int (0 : Int32)) := (Arv.new A3 (by decide)).pad (pad_rep [] (.int (0 : Int32)) 16)
  refine Go.on st3 ?_
  show Go _ _ _ _ _ _ _ _ (mkF m 17 #[Sr a0, Si 16, .unset] [(.ref ar)])
  refine Go.on (fun _ k => XS.astoreN X3.here hx rfl (hb hby d11_17) rfl rfl (l' := #[.val (.ref a0), .val (.int (16 : Int32)), .val (.ref ar)]) rfl k) ?_
  show Go _ _ _ _ _ _ _ _ (mkF m 18 #[Sr a0, Si 16, Sr ar] [])
  refine Go.on (fun _ k => XS.aloadN X3.here hx rfl (hb hby d11_18) rfl rfl k) ?_
  refine Go.on (fun _ k => XS.iconst X3.here hx rfl (hb hby d11_19) k) ?_
  refine Go.on (fun _ k => XS.aloadN X3.here hx rfl (hb hby d11_20) rfl rfl k) ?_
  refine Go.on (fun _ k => XS.iconst X3.here hx rfl (hb hby d11_21) k) ?_
  refine Go.on (fun _ k => XS.aloadN X3.here hx rfl (hb hby d11_22) rfl rfl k) ?_
  show Go _ _ _ _ _ _ _ _ (mkF m 23 #[Sr a0, Si 16, Sr ar] [(.ref a0), (.int 0), (.ref ar), (.int 0), (.ref a0)])
  obtain ⟨cl4, Ar4, -, S4, N4n, -, -⟩ := id V_a0
  refine Go.on (X3.arraylength hx (by rw [e3]; exact Ar4.1) (State.isArrayOf_alike hZ.alike Ar4.2.1) (g := (mkF m 23 #[Sr a0, Si 16, Sr ar] [(.ref a0), (.int 0), (.ref ar), (.int 0), (.ref a0)])) rfl rfl (hb hby d11_23)) ?_
  rw [len_of S4 N4n]
  show Go _ _ _ _ _ _ _ _ (mkF m 24 #[Sr a0, Si 16, Sr ar] [(.int 8), (.int 0), (.ref ar), (.int 0), (.ref a0)])
  refine Go.on (fun _ k => XS.iloadN X3.here hx rfl (hb hby d11_24) rfl k) ?_
  show Go _ _ _ _ _ _ _ _ (mkF m 25 #[Sr a0, Si 16, Sr ar] [(.int 16), (.int 8), (.int 0), (.ref ar), (.int 0), (.ref a0)])
  obtain ⟨_, _, ⟨T5, L5, k5, n5⟩, -, X5, ⟨Lc5, hQ5, l5, y5, z5⟩, st5⟩ := Jvm.LawKit.callS X3 hx (y := (⟨"java/lang/Math", "min", "(II)I"⟩ : MethodName)) hown (mvT hZ (hw _ (List.mem_of_getElem? (i := 66) rfl))) (mvT hZ (hw _ (List.mem_of_getElem? (i := 67) rfl))) (mvT hZ (hw _ (List.mem_of_getElem? (i := 60) rfl))) (mvT hZ (hw _ (List.mem_of_getElem? (i := 68) rfl))) (by decide) (backOf (W := 4) (min_8 l Z aw hw []   h3 n0 ZZ ) hZ (hw _ (List.mem_of_getElem? (i := 68) rfl)) (hw _ (List.mem_of_getElem? (i := 60) rfl)) (by decide) (by decide)) (g := (mkF m 25 #[Sr a0, Si 16, Sr ar] [(.int 16), (.int 8), (.int 0), (.ref ar), (.int 0), (.ref a0)])) rfl (by rw [hml]; rfl) (argsL := [(.int (8 : Int32)), (.int (16 : Int32))]) (rest := [(.int (0 : Int32)), (.ref ar), (.int (0 : Int32)), (.ref a0)]) (lenOf pd_3 rfl) rfl (by show 2 * 0 + _ ≤ _; exact Nat.le_of_eq rfl) (hb hby d11_25) (fun _ _ => ⟨rfl, e3, (by decide : 1 + 0 ≤ _), (by decide : 16 + 0 ≤ _)⟩)
  dsimp only [Pt.U, Pt.locs, Pt.cells, Pt.slots] at X5 l5 y5 z5 st5 hQ5
  subst l5 y5 z5
  obtain ⟨rfl, N5q, e5⟩ := hQ5
  have N5 := Fr.app N0 N5q
  refine Go.on st5 ?_
  show Go _ _ _ _ _ _ _ _ (mkF m 28 #[Sr a0, Si 16, Sr ar] [(.int 8), (.int 0), (.ref ar), (.int 0), (.ref a0)])
  obtain ⟨T6, h6, L6, X6, e6, N6, K6q, V_ar', st6⟩ := cpA X5 hx hZ hown (hw _ (List.mem_of_getElem? (i := 69) rfl)) (hw _ (List.mem_of_getElem? (i := 72) rfl)) (hw _ (List.mem_of_getElem? (i := 70) rfl)) (hw _ (List.mem_of_getElem? (i := 71) rfl)) e5 V_a0 V_ar (us := [(.int m0), (.int m1), (.int m2), (.int m3), (.int m4), (.int m5), (.int m6), (.int m7)]) (Or.inl ⟨rfl, rfl⟩) (by decide) (by decide) (by decide) (by decide) (by decide) rfl (Nat.le_of_ble_eq_true rfl) N5 g_ar (g := (mkF m 28 #[Sr a0, Si 16, Sr ar] [(.int 8), (.int 0), (.ref ar), (.int 0), (.ref a0)])) rfl (by rw [hml]; rfl) rfl (hb hby d11_28) (by decide) (W := 0) (by show 2 * 0 + _ ≤ _; exact Nat.le_of_eq rfl) (by decide)
  replace V_a0 := V_a0.keep K6q (ninS ne_a0_ar nin0)
  replace ZZ := Nat.le_trans ZZ K6q.1
  replace KP := KP.trans K6q (allS (Or.inr sz_ar) all0)
  have V_ar : Arv Z h6 ar k_ar .int (16 : Int32) [(.int m0), (.int m1), (.int m2), (.int m3), (.int m4), (.int m5), (.int m6), (.int m7), (.int (0 : Int32)), (.int (0 : Int32)), (.int (0 : Int32)), (.int (0 : Int32)), (.int (0 : Int32)), (.int (0 : Int32)), (.int (0 : Int32)), (.int (0 : Int32))] (.int (0 : Int32)) := V_ar'
  refine Go.on st6 ?_
  show Go _ _ _ _ _ _ _ _ (mkF m 31 #[Sr a0, Si 16, Sr ar] [])
  refine Go.on (fun _ k => XS.aloadN X6.here hx rfl (hb hby d11_31) rfl rfl k) ?_
  show Go _ _ _ _ _ _ _ _ (mkF m 32 #[Sr a0, Si 16, Sr ar] [(.ref ar)])
  refine Go.retV X6 hx Bd.returns rfl (Or.inr (Or.inr (Or.inr (Or.inr ⟨rfl, rfl, rfl⟩)))) (hb hby d11_32) ?_ (by rw [hK1]; decide) (by rw [hK2]; decide)
  rw [e6, ← hQQ]
  exact ⟨ar, k_ar, rfl, N6, KP, sz_ar, V_ar⟩
theorem ef_copy_double_8 (m : MethodId) (a0 : Addr) : entryFrame m #[(.ref a0), (.int (16 : Int32))] 3 = mkF m 0 #[.val (.ref a0), .val (.int (16 : Int32)), .unset] [] := by first | (simp [entryFrame, mkF, argsToLocals, Value.category]; done) | rfl
def Q_copy_double_8 (Z : State) (a0 : Addr) (k_a0 : ClassId) (h0 : Heap) (n0 : Nat) (v : Option Value) (h : Heap) (L : List Loc) : Prop := ∃ (ar : Addr) (k_ar : ClassId), v = some (.ref ar) ∧ Fr n0 L ∧ Keep h0 h [] ∧ h0.size ≤ ar ∧ Arv Z h ar k_ar .double (16 : Int32) [(.double (4607182418800017408 : UInt64)), (.double (4607182418800017408 : UInt64)), (.double (4607182418800017408 : UInt64)), (.double (4607182418800017408 : UInt64)), (.double (4607182418800017408 : UInt64)), (.double (4607182418800017408 : UInt64)), (.double (4607182418800017408 : UInt64)), (.double (4607182418800017408 : UInt64)), (.double (0 : UInt64)), (.double (0 : UInt64)), (.double (0 : UInt64)), (.double (0 : UInt64)), (.double (0 : UInt64)), (.double (0 : UInt64)), (.double (0 : UInt64)), (.double (0 : UInt64))] (.double (0 : UInt64))
set_option maxRecDepth 65536 in
set_option maxHeartbeats 40000000 in
theorem copy_double_8 (l : Launch) (Z : State) (aw : Array Value) (hw : ∀ d ∈ tables_1, d.before aw Z = true) (ws : List Jvm.Cond) (a0 : Addr) (k_a0 : ClassId) (h0 : Heap) (n0 : Nat) (Z0 : n0 ≤ h0.size) (V_a0 : Arv Z h0 a0 k_a0 .double (8 : Int32) [(.double (4607182418800017408 : UInt64)), (.double (4607182418800017408 : UInt64)), (.double (4607182418800017408 : UInt64)), (.double (4607182418800017408 : UInt64)), (.double (4607182418800017408 : UInt64)), (.double (4607182418800017408 : UInt64)), (.double (4607182418800017408 : UInt64)), (.double (4607182418800017408 : UInt64))] (.double (0 : UInt64))) :
    MetFree l (⟨"java/util/Arrays", "copyOf", "([DI)[D"⟩ : MethodName) (head1 (Jvm.Cond.code (⟨"java/util/Arrays", "copyOf", "([DI)[D"⟩ : MethodName) jdk_65_method_127_code 3 (some (.array .double)) :: ws) ({ frames := 1, cells := 1, slots := 16, locals := 18 } : Room)) (fun a U => a = #[(.ref a0), (.int (16 : Int32))] ∧ Z.Warmed39 U.vm ∧ U.heap = h0) (fun _ _ _ _ _ => True) (fun _ U o U' => ∃ v L, o = .returned v ∧ Q_copy_double_8 Z a0 k_a0 h0 n0 v U'.heap L ∧ FrameEnd U o U' L ({ frames := 1, cells := 1, slots := 16, locals := 18 } : Room).cells ({ frames := 1, cells := 1, slots := 16, locals := 18 } : Room).slots) := by
  refine MetFree.of_bodySF (plainFor_of_name pn_2) hisR ?_
  intro p e s m args below meth c s₁ Bd hml0 hP hK
  obtain ⟨rfl, hZ, hh⟩ := hP
  have hx := Bd.exec
  have hby := Bd.bytes
  have hml : c.maxLocals = 3 := hml0
  have hown : s.vm.findClass "java/util/Arrays" = some m.cls := findClass_of_methodNamed Bd.named
  have hnm := (name_of_methodNamed Bd.named Bd.method).1
  have hlk : meth.locks = false := BodyLoose.notSynchronized Bd
  have X0 : Stand p l e ({ frames := 1, cells := 1, slots := 16, locals := 18 } : Room) s m #[(.ref a0), (.int (16 : Int32))] below meth c s₁ [] 0 0 := Stand.of_body Bd
  have e0 : s₁.heap = h0 := by rw [← hh, Bd.state]; rfl
  have N0 := Fr.nil n0
  have ZZ := Z0
  show Go p e below s ({ frames := 1, cells := 1, slots := 16, locals := 18 } : Room).cells ({ frames := 1, cells := 1, slots := 16, locals := 18 } : Room).slots (fun v h L => Q_copy_double_8 Z a0 k_a0 h0 n0 v h L) s₁ (entryFrame m #[(.ref a0), (.int (16 : Int32))] 3)
  refine Go.cast (ef_copy_double_8 m a0) ?_
  refine Go.gen ?_
  intro K1 K2 QQ hK1 hK2 hQQ
  have KP : Keep h0 h0 [] := Keep.refl _ _
  refine Go.on (fun _ k => XS.iloadN X0.here hx rfl (hb hby d13_0) rfl k) ?_
  refine Go.on (fun _ k => XS.aloadN X0.here hx rfl (hb hby d13_1) rfl rfl k) ?_
  show Go _ _ _ _ _ _ _ _ (mkF m 2 #[Sr a0, Si 16, .unset] [(.ref a0), (.int 16)])
  obtain ⟨cl1, Ar1, -, S1, N1n, -, -⟩ := id V_a0
  refine Go.on (X0.arraylength hx (by rw [e0]; exact Ar1.1) (State.isArrayOf_alike hZ.alike Ar1.2.1) (g := (mkF m 2 #[Sr a0, Si 16, .unset] [(.ref a0), (.int 16)])) rfl rfl (hb hby d13_2)) ?_
  rw [len_of S1 N1n]
  show Go _ _ _ _ _ _ _ _ (mkF m 3 #[Sr a0, Si 16, .unset] [(.int 8), (.int 16)])
  have hc2 : ¬ ((16 : Int32) = (8 : Int32)) := by decide
  refine Go.on (fun _ k => XS.icmpYes X0.here hx rfl (pc0 := 3) (pc' := 14) rfl (hb hby d13_3) rfl (feq hc2).2 (by decide) (by decide) k) ?_
  refine Go.on (fun _ k => XS.iloadN X0.here hx rfl (hb hby d13_14) rfl k) ?_
  show Go _ _ _ _ _ _ _ _ (mkF m 15 #[Sr a0, Si 16, .unset] [(.int 16)])
  obtain ⟨T3, h3, k_ar, X3, e3, E3, A3, st3⟩ := newP X0 hx hZ (hw _ (List.mem_of_getElem? (i := 13) rfl)) e0 (g := (mkF m 15 #[Sr a0, Si 16, .unset] [(.int 16)])) rfl (hb hby d13_15) rfl (by decide) (cap := 16) (by decide) (by decide) (by decide) (by decide)
  obtain ⟨ar, g3⟩ : ∃ z, z = h0.size := ⟨_, rfl⟩
  have ne_a0_ar : a0 ≠ ar := Nat.ne_of_lt (Nat.lt_of_lt_of_le V_a0.lt (Nat.le_of_eq g3.symm))
  have g_ar : n0 ≤ ar := Nat.le_trans ZZ (Nat.le_of_eq g3.symm)
  have sz_ar : h0.size ≤ ar := Nat.le_trans KP.1 (Nat.le_of_eq g3.symm)
  rw [← g3] at A3 st3
  replace V_a0 := V_a0.ext E3
  replace ZZ := Nat.le_trans ZZ E3.1
  replace KP := KP.ext E3
  have V_ar : Arv Z h3 ar k_ar .double (16 : Int32) [(.double (0 : UInt64)), (.double (0 : UInt64)), (.double (0 : UInt64)), (.double (0 : UInt64)), (.double (0 : UInt64)), (.double (0 : UInt64)), (.double (0 : UInt64)), (.double (0 : UInt64)), (.double (0 : UInt64)), (.double (0 : UInt64)), (.double (0 : UInt64)), (.double (0 : UInt64)), (.double (0 : UInt64)), (.double (0 : UInt64)), (.double (0 : UInt64)), (.double (0 : UInt64))] (.double (0 : UInt64)) := (Arv.new A3 (by decide)).pad (pad_rep [] (.double (0 : UInt64)) 16)
  refine Go.on st3 ?_
  show Go _ _ _ _ _ _ _ _ (mkF m 17 #[Sr a0, Si 16, .unset] [(.ref ar)])
  refine Go.on (fun _ k => XS.astoreN X3.here hx rfl (hb hby d13_17) rfl rfl (l' := #[.val (.ref a0), .val (.int (16 : Int32)), .val (.ref ar)]) rfl k) ?_
  show Go _ _ _ _ _ _ _ _ (mkF m 18 #[Sr a0, Si 16, Sr ar] [])
  refine Go.on (fun _ k => XS.aloadN X3.here hx rfl (hb hby d13_18) rfl rfl k) ?_
  refine Go.on (fun _ k => XS.iconst X3.here hx rfl (hb hby d13_19) k) ?_
  refine Go.on (fun _ k => XS.aloadN X3.here hx rfl (hb hby d13_20) rfl rfl k) ?_
  refine Go.on (fun _ k => XS.iconst X3.here hx rfl (hb hby d13_21) k) ?_
  refine Go.on (fun _ k => XS.aloadN X3.here hx rfl (hb hby d13_22) rfl rfl k) ?_
  show Go _ _ _ _ _ _ _ _ (mkF m 23 #[Sr a0, Si 16, Sr ar] [(.ref a0), (.int 0), (.ref ar), (.int 0), (.ref a0)])
  obtain ⟨cl4, Ar4, -, S4, N4n, -, -⟩ := id V_a0
  refine Go.on (X3.arraylength hx (by rw [e3]; exact Ar4.1) (State.isArrayOf_alike hZ.alike Ar4.2.1) (g := (mkF m 23 #[Sr a0, Si 16, Sr ar] [(.ref a0), (.int 0), (.ref ar), (.int 0), (.ref a0)])) rfl rfl (hb hby d13_23)) ?_
  rw [len_of S4 N4n]
  show Go _ _ _ _ _ _ _ _ (mkF m 24 #[Sr a0, Si 16, Sr ar] [(.int 8), (.int 0), (.ref ar), (.int 0), (.ref a0)])
  refine Go.on (fun _ k => XS.iloadN X3.here hx rfl (hb hby d13_24) rfl k) ?_
  show Go _ _ _ _ _ _ _ _ (mkF m 25 #[Sr a0, Si 16, Sr ar] [(.int 16), (.int 8), (.int 0), (.ref ar), (.int 0), (.ref a0)])
  obtain ⟨_, _, ⟨T5, L5, k5, n5⟩, -, X5, ⟨Lc5, hQ5, l5, y5, z5⟩, st5⟩ := Jvm.LawKit.callS X3 hx (y := (⟨"java/lang/Math", "min", "(II)I"⟩ : MethodName)) hown (mvT hZ (hw _ (List.mem_of_getElem? (i := 66) rfl))) (mvT hZ (hw _ (List.mem_of_getElem? (i := 67) rfl))) (mvT hZ (hw _ (List.mem_of_getElem? (i := 60) rfl))) (mvT hZ (hw _ (List.mem_of_getElem? (i := 68) rfl))) (by decide) (backOf (W := 4) (min_8 l Z aw hw []   h3 n0 ZZ ) hZ (hw _ (List.mem_of_getElem? (i := 68) rfl)) (hw _ (List.mem_of_getElem? (i := 60) rfl)) (by decide) (by decide)) (g := (mkF m 25 #[Sr a0, Si 16, Sr ar] [(.int 16), (.int 8), (.int 0), (.ref ar), (.int 0), (.ref a0)])) rfl (by rw [hml]; rfl) (argsL := [(.int (8 : Int32)), (.int (16 : Int32))]) (rest := [(.int (0 : Int32)), (.ref ar), (.int (0 : Int32)), (.ref a0)]) (lenOf pd_3 rfl) rfl (by show 2 * 0 + _ ≤ _; exact Nat.le_of_eq rfl) (hb hby d13_25) (fun _ _ => ⟨rfl, e3, (by decide : 1 + 0 ≤ _), (by decide : 16 + 0 ≤ _)⟩)
  dsimp only [Pt.U, Pt.locs, Pt.cells, Pt.slots] at X5 l5 y5 z5 st5 hQ5
  subst l5 y5 z5
  obtain ⟨rfl, N5q, e5⟩ := hQ5
  have N5 := Fr.app N0 N5q
  refine Go.on st5 ?_
  show Go _ _ _ _ _ _ _ _ (mkF m 28 #[Sr a0, Si 16, Sr ar] [(.int 8), (.int 0), (.ref ar), (.int 0), (.ref a0)])
  obtain ⟨T6, h6, L6, X6, e6, N6, K6q, V_ar', st6⟩ := cpA X5 hx hZ hown (hw _ (List.mem_of_getElem? (i := 69) rfl)) (hw _ (List.mem_of_getElem? (i := 72) rfl)) (hw _ (List.mem_of_getElem? (i := 70) rfl)) (hw _ (List.mem_of_getElem? (i := 71) rfl)) e5 V_a0 V_ar (us := [(.double (4607182418800017408 : UInt64)), (.double (4607182418800017408 : UInt64)), (.double (4607182418800017408 : UInt64)), (.double (4607182418800017408 : UInt64)), (.double (4607182418800017408 : UInt64)), (.double (4607182418800017408 : UInt64)), (.double (4607182418800017408 : UInt64)), (.double (4607182418800017408 : UInt64))]) (Or.inl ⟨rfl, rfl⟩) (by decide) (by decide) (by decide) (by decide) (by decide) rfl (Nat.le_of_ble_eq_true rfl) N5 g_ar (g := (mkF m 28 #[Sr a0, Si 16, Sr ar] [(.int 8), (.int 0), (.ref ar), (.int 0), (.ref a0)])) rfl (by rw [hml]; rfl) rfl (hb hby d13_28) (by decide) (W := 0) (by show 2 * 0 + _ ≤ _; exact Nat.le_of_eq rfl) (by decide)
  replace V_a0 := V_a0.keep K6q (ninS ne_a0_ar nin0)
  replace ZZ := Nat.le_trans ZZ K6q.1
  replace KP := KP.trans K6q (allS (Or.inr sz_ar) all0)
  have V_ar : Arv Z h6 ar k_ar .double (16 : Int32) [(.double (4607182418800017408 : UInt64)), (.double (4607182418800017408 : UInt64)), (.double (4607182418800017408 : UInt64)), (.double (4607182418800017408 : UInt64)), (.double (4607182418800017408 : UInt64)), (.double (4607182418800017408 : UInt64)), (.double (4607182418800017408 : UInt64)), (.double (4607182418800017408 : UInt64)), (.double (0 : UInt64)), (.double (0 : UInt64)), (.double (0 : UInt64)), (.double (0 : UInt64)), (.double (0 : UInt64)), (.double (0 : UInt64)), (.double (0 : UInt64)), (.double (0 : UInt64))] (.double (0 : UInt64)) := V_ar'
  refine Go.on st6 ?_
  show Go _ _ _ _ _ _ _ _ (mkF m 31 #[Sr a0, Si 16, Sr ar] [])
  refine Go.on (fun _ k => XS.aloadN X6.here hx rfl (hb hby d13_31) rfl rfl k) ?_
  show Go _ _ _ _ _ _ _ _ (mkF m 32 #[Sr a0, Si 16, Sr ar] [(.ref ar)])
  refine Go.retV X6 hx Bd.returns rfl (Or.inr (Or.inr (Or.inr (Or.inr ⟨rfl, rfl, rfl⟩)))) (hb hby d13_32) ?_ (by rw [hK1]; decide) (by rw [hK2]; decide)
  rw [e6, ← hQQ]
  exact ⟨ar, k_ar, rfl, N6, KP, sz_ar, V_ar⟩
theorem d4_0 : decode prog_21_method_6_code 0 = .ok (.iconst (-1), 1) := by decide +kernel
theorem d4_1 : decode prog_21_method_6_code 1 = .ok (.istore_n 2, 1) := by decide +kernel
theorem d4_2 : decode prog_21_method_6_code 2 = .ok (.aload_n 0, 1) := by decide +kernel
theorem d4_3 : decode prog_21_method_6_code 3 = .ok (.getfield 25, 3) := by decide +kernel
theorem d4_6 : decode prog_21_method_6_code 6 = .ok (.ifnonnull 38, 3) := by decide +kernel
theorem d4_9 : decode prog_21_method_6_code 9 = .ok (.iconst 0, 1) := by decide +kernel
theorem d4_10 : decode prog_21_method_6_code 10 = .ok (.istore_n 3, 1) := by decide +kernel
theorem d4_11 : decode prog_21_method_6_code 11 = .ok (.iload_n 3, 1) := by decide +kernel
theorem d4_12 : decode prog_21_method_6_code 12 = .ok (.aload_n 0, 1) := by decide +kernel
theorem d4_13 : decode prog_21_method_6_code 13 = .ok (.getfield 21, 3) := by decide +kernel
theorem d4_16 : decode prog_21_method_6_code 16 = .ok (.if_icmp .ge 25, 3) := by decide +kernel
theorem d4_19 : decode prog_21_method_6_code 19 = .ok (.iload_n 2, 1) := by decide +kernel
theorem d4_20 : decode prog_21_method_6_code 20 = .ok (.ifCond .ge 21, 3) := by decide +kernel
theorem d4_23 : decode prog_21_method_6_code 23 = .ok (.aload_n 0, 1) := by decide +kernel
theorem d4_24 : decode prog_21_method_6_code 24 = .ok (.getfield 7, 3) := by decide +kernel
theorem d4_27 : decode prog_21_method_6_code 27 = .ok (.iload_n 3, 1) := by decide +kernel
theorem d4_28 : decode prog_21_method_6_code 28 = .ok (.iaload, 1) := by decide +kernel
theorem d4_29 : decode prog_21_method_6_code 29 = .ok (.iload_n 1, 1) := by decide +kernel
theorem d4_30 : decode prog_21_method_6_code 30 = .ok (.if_icmp .ne 5, 3) := by decide +kernel
theorem d4_33 : decode prog_21_method_6_code 33 = .ok (.iload_n 3, 1) := by decide +kernel
theorem d4_34 : decode prog_21_method_6_code 34 = .ok (.istore_n 2, 1) := by decide +kernel
theorem d4_35 : decode prog_21_method_6_code 35 = .ok (.iinc 3 1, 3) := by decide +kernel
theorem d4_38 : decode prog_21_method_6_code 38 = .ok (.goto (-27), 3) := by decide +kernel
theorem d4_41 : decode prog_21_method_6_code 41 = .ok (.goto 63, 3) := by decide +kernel
theorem d4_104 : decode prog_21_method_6_code 104 = .ok (.iload_n 2, 1) := by decide +kernel
theorem d4_105 : decode prog_21_method_6_code 105 = .ok (.ireturn, 1) := by decide +kernel
theorem ef_ixl (m : MethodId) (a0 : Addr) (i1 : Int32) : entryFrame m #[(.ref a0), (.int i1)] 4 = mkF m 0 #[.val (.ref a0), .val (.int i1), .unset, .unset] [] := by first | (simp [entryFrame, mkF, argsToLocals, Value.category]; done) | rfl
def Q_ixl (Z : State) (a0 : Addr) (i1 : Int32) (ml : List Int32) (zs : List Value) (ln : Int32) (am : Addr) (k_am : ClassId) (cp : Int32) (us : List Value) (h0 : Heap) (n0 : Nat) (v : Option Value) (h : Heap) (L : List Loc) : Prop := v = some (.int (findL ml i1 0)) ∧ Fr n0 L ∧ h = h0
set_option maxRecDepth 65536 in
set_option maxHeartbeats 40000000 in
theorem ixl (l : Launch) (Z : State) (aw : Array Value) (hw : ∀ d ∈ tables_1, d.before aw Z = true) (ws : List Jvm.Cond) (a0 : Addr) (i1 : Int32) (ml : List Int32) (zs : List Value) (ln : Int32) (am : Addr) (k_am : ClassId) (cp : Int32) (us : List Value) (h0 : Heap) (n0 : Nat) (Z0 : n0 ≤ h0.size) (F_slots_a0 : Fld Z h0 a0 "com/example/due_weight/dueweight/core/Pairs" "slots" "[I" .null) (F_length_a0 : Fld Z h0 a0 "com/example/due_weight/dueweight/core/Pairs" "length" "I" (.int ln)) (F_members_a0 : Fld Z h0 a0 "com/example/due_weight/dueweight/core/Pairs" "members" "[I" (.ref am)) (V_am : Arv Z h0 am k_am .int cp us (.int (0 : Int32))) (hl : ml.length = ln.toNatClampNeg) (hc : ¬ ln < 0 ∧ ¬ cp < ln) (hus : us = ml.map Value.int ++ zs) :
    MetFree l (⟨"com/example/due_weight/dueweight/core/Pairs", "indexOf", "(I)I"⟩ : MethodName) (head1 (Jvm.Cond.code (⟨"com/example/due_weight/dueweight/core/Pairs", "indexOf", "(I)I"⟩ : MethodName) prog_21_method_6_code 4 (some .int) :: ws) ({ frames := 0, cells := 0, slots := 0, locals := 0 } : Room)) (fun a U => a = #[(.ref a0), (.int i1)] ∧ Z.Warmed39 U.vm ∧ U.heap = h0) (fun _ _ _ _ _ => True) (fun _ U o U' => ∃ v L, o = .returned v ∧ Q_ixl Z a0 i1 ml zs ln am k_am cp us h0 n0 v U'.heap L ∧ FrameEnd U o U' L ({ frames := 0, cells := 0, slots := 0, locals := 0 } : Room).cells ({ frames := 0, cells := 0, slots := 0, locals := 0 } : Room).slots) := by
  refine MetFree.of_bodySF (plainFor_of_name pn_0) hisR ?_
  intro p e s m args below meth c s₁ Bd hml0 hP hK
  obtain ⟨rfl, hZ, hh⟩ := hP
  have hx := Bd.exec
  have hby := Bd.bytes
  have hml : c.maxLocals = 4 := hml0
  have hown : s.vm.findClass "com/example/due_weight/dueweight/core/Pairs" = some m.cls := findClass_of_methodNamed Bd.named
  have hnm := (name_of_methodNamed Bd.named Bd.method).1
  have hlk : meth.locks = false := BodyLoose.notSynchronized Bd
  have X0 : Stand p l e ({ frames := 0, cells := 0, slots := 0, locals := 0 } : Room) s m #[(.ref a0), (.int i1)] below meth c s₁ [] 0 0 := Stand.of_body Bd
  have e0 : s₁.heap = h0 := by rw [← hh, Bd.state]; rfl
  have N0 := Fr.nil n0
  have ZZ := Z0
  show Go p e below s ({ frames := 0, cells := 0, slots := 0, locals := 0 } : Room).cells ({ frames := 0, cells := 0, slots := 0, locals := 0 } : Room).slots (fun v h L => Q_ixl Z a0 i1 ml zs ln am k_am cp us h0 n0 v h L) s₁ (entryFrame m #[(.ref a0), (.int i1)] 4)
  refine Go.cast (ef_ixl m a0 i1) ?_
  refine Go.gen ?_
  intro K1 K2 QQ hK1 hK2 hQQ
  have hL : ∀ (suf : List Int32) (iv : Int32) (jj : Nat) (T1 : State) (locs1 : List Loc), Stand p l e ({ frames := 0, cells := 0, slots := 0, locals := 0 } : Room) s m #[(.ref a0), (.int i1)] below meth c T1 locs1 0 0 → T1.heap = h0 → Fr n0 locs1 → iv.toInt = (jj : Int) → ml.drop jj = suf → findL ml i1 0 = findL suf i1 iv → Go p e below s K1 K2 QQ T1 (mkF m 11 #[Sr a0, Si i1, .val (.int (-1 : Int32)), Si iv] []) := by
    intro suf
    induction suf with
    | nil =>
      intro iv jj T1 locs1 X1 e1 N1 hj hd hr
      show Go _ _ _ _ _ _ _ _ (mkF m 11 #[Sr a0, Si i1, .val (.int (-1 : Int32)), Si iv] [])
      refine Go.on (fun _ k => XS.iloadN X1.here hx rfl (hb hby d4_11) rfl k) ?_
      refine Go.on (fun _ k => XS.aloadN X1.here hx rfl (hb hby d4_12) rfl rfl k) ?_
      show Go _ _ _ _ _ _ _ _ (mkF m 13 #[Sr a0, Si i1, .val (.int (-1 : Int32)), Si iv] [(.ref a0), (.int iv)])
      obtain ⟨T2, X2, e2, st2⟩ := getF X1 hx hZ hown (host := "") (Or.inl (hw _ (List.mem_of_getElem? (i := 30) rfl))) Via.refl e1 F_length_a0 (g := (mkF m 13 #[Sr a0, Si i1, .val (.int (-1 : Int32)), Si iv] [(.ref a0), (.int iv)])) rfl rfl (hb hby d4_13)
      refine Go.on st2 ?_
      show Go _ _ _ _ _ _ _ _ (mkF m 16 #[Sr a0, Si i1, .val (.int (-1 : Int32)), Si iv] [(.int ln), (.int iv)])
      have hc3 : ¬ (iv < ln) := own_nlt hl hc hd hj
      refine Go.on (fun _ k => XS.icmpYes X2.here hx rfl (pc0 := 16) (pc' := 41) rfl (hb hby d4_16) rfl (flt hc3).2.1 (by decide) (by decide) k) ?_
      refine Go.on (fun _ k => XS.goto X2.here hx rfl (pc0 := 41) (pc' := 104) rfl (hb hby d4_41) (by decide) (by decide) k) ?_
      refine Go.on (fun _ k => XS.iloadN X2.here hx rfl (hb hby d4_104) rfl k) ?_
      show Go _ _ _ _ _ _ _ _ (mkF m 105 #[Sr a0, Si i1, .val (.int (-1 : Int32)), Si iv] [(.int (-1 : Int32))])
      refine Go.retV X2 hx Bd.returns rfl (Or.inl ⟨rfl, Or.inl rfl, _, rfl⟩) (hb hby d4_105) ?_ (by rw [hK1]; decide) (by rw [hK2]; decide)
      rw [e2, ← hQQ]
      refine ⟨?_, N1, rfl⟩
      rw [hr]; rfl
    | cons mm_ rr_ ih =>
      intro iv jj T1 locs1 X1 e1 N1 hj hd hr
      show Go _ _ _ _ _ _ _ _ (mkF m 11 #[Sr a0, Si i1, .val (.int (-1 : Int32)), Si iv] [])
      refine Go.on (fun _ k => XS.iloadN X1.here hx rfl (hb hby d4_11) rfl k) ?_
      refine Go.on (fun _ k => XS.aloadN X1.here hx rfl (hb hby d4_12) rfl rfl k) ?_
      show Go _ _ _ _ _ _ _ _ (mkF m 13 #[Sr a0, Si i1, .val (.int (-1 : Int32)), Si iv] [(.ref a0), (.int iv)])
      obtain ⟨T4, X4, e4, st4⟩ := getF X1 hx hZ hown (host := "") (Or.inl (hw _ (List.mem_of_getElem? (i := 30) rfl))) Via.refl e1 F_length_a0 (g := (mkF m 13 #[Sr a0, Si i1, .val (.int (-1 : Int32)), Si iv] [(.ref a0), (.int iv)])) rfl rfl (hb hby d4_13)
      refine Go.on st4 ?_
      show Go _ _ _ _ _ _ _ _ (mkF m 16 #[Sr a0, Si i1, .val (.int (-1 : Int32)), Si iv] [(.int ln), (.int iv)])
      have hc5 : iv < ln := own_lt hl hc hd hj
      refine Go.on (fun _ k => XS.icmpNo X4.here hx rfl (hb hby d4_16) rfl (tlt hc5).2.1 k) ?_
      refine Go.on (fun _ k => XS.iloadN X4.here hx rfl (hb hby d4_19) rfl k) ?_
      show Go _ _ _ _ _ _ _ _ (mkF m 20 #[Sr a0, Si i1, .val (.int (-1 : Int32)), Si iv] [(.int (-1 : Int32))])
      have hc6 : (-1 : Int32) < (0 : Int32) := by decide
      refine Go.on (fun _ k => XS.ifNo X4.here hx rfl (hb hby d4_20) rfl ((if0 _ _).trans (tlt hc6).2.1) k) ?_
      refine Go.on (fun _ k => XS.aloadN X4.here hx rfl (hb hby d4_23) rfl rfl k) ?_
      show Go _ _ _ _ _ _ _ _ (mkF m 24 #[Sr a0, Si i1, .val (.int (-1 : Int32)), Si iv] [(.ref a0)])
      obtain ⟨T7, X7, e7, st7⟩ := getF X4 hx hZ hown (host := "") (Or.inl (hw _ (List.mem_of_getElem? (i := 11) rfl))) Via.refl e4 F_members_a0 (g := (mkF m 24 #[Sr a0, Si i1, .val (.int (-1 : Int32)), Si iv] [(.ref a0)])) rfl rfl (hb hby d4_24)
      refine Go.on st7 ?_
      show Go _ _ _ _ _ _ _ _ (mkF m 27 #[Sr a0, Si i1, .val (.int (-1 : Int32)), Si iv] [(.ref am)])
      refine Go.on (fun _ k => XS.iloadN X7.here hx rfl (hb hby d4_27) rfl k) ?_
      show Go _ _ _ _ _ _ _ _ (mkF m 28 #[Sr a0, Si i1, .val (.int (-1 : Int32)), Si iv] [(.int iv), (.ref am)])
      obtain ⟨cl8, Ar8, -, S8, -, H8, -⟩ := id V_am
      have hin8 : ¬ (iv < 0 ∨ cl8.slots.size ≤ (iv).toNatClampNeg) := inb_of S8 (own_inb hl hc hd hj)
      refine Go.on (X7.iaload hx (j := iv) (v := (.int mm_)) (by rw [e7]; exact Ar8.1) (State.isArrayOf_alike hZ.alike Ar8.2.1) Ar8.2.2 hin8 (H8.at hin8 (own_hat hus hd hj)) (g := (mkF m 28 #[Sr a0, Si i1, .val (.int (-1 : Int32)), Si iv] [(.int iv), (.ref am)])) rfl rfl (hb hby d4_28)) ?_
      show Go _ _ _ _ _ _ _ _ (mkF m 29 #[Sr a0, Si i1, .val (.int (-1 : Int32)), Si iv] [(.int mm_)])
      refine Go.on (fun _ k => XS.iloadN X7.here hx rfl (hb hby d4_29) rfl k) ?_
      show Go _ _ _ _ _ _ _ _ (mkF m 30 #[Sr a0, Si i1, .val (.int (-1 : Int32)), Si iv] [(.int i1), (.int mm_)])
      by_cases hc9 : mm_ = i1
      · -- pc 30 yes
        refine Go.on (fun _ k => XS.icmpNo X7.here hx rfl (hb hby d4_30) rfl (teq hc9).2 k) ?_
        show Go _ _ _ _ _ _ _ _ (mkF m 33 #[Sr a0, Si i1, .val (.int (-1 : Int32)), Si iv] [])
        refine Go.on (fun _ k => XS.iloadN X7.here hx rfl (hb hby d4_33) rfl k) ?_
        show Go _ _ _ _ _ _ _ _ (mkF m 34 #[Sr a0, Si i1, .val (.int (-1 : Int32)), Si iv] [(.int iv)])
        refine Go.on (fun _ k => XS.istoreN X7.here hx rfl (hb hby d4_34) rfl (l' := #[.val (.ref a0), .val (.int i1), .val (.int iv), .val (.int iv)]) rfl k) ?_
        show Go _ _ _ _ _ _ _ _ (mkF m 35 #[Sr a0, Si i1, Si iv, Si iv] [])
        refine Go.on (fun _ k => XS.iinc X7.here hx rfl (hb hby d4_35) rfl (l' := #[.val (.ref a0), .val (.int i1), .val (.int iv), .val (.int (iv + (1 : Int32)))]) rfl k) ?_
        show Go _ _ _ _ _ _ _ _ (mkF m 38 #[Sr a0, Si i1, Si iv, .val (.int (iv + (1 : Int32)))] [])
        refine Go.on (fun _ k => XS.goto X7.here hx rfl (pc0 := 38) (pc' := 11) rfl (hb hby d4_38) (by decide) (by decide) k) ?_
        show Go _ _ _ _ _ _ _ _ (mkF m 11 #[Sr a0, Si i1, Si iv, .val (.int (iv + (1 : Int32)))] [])
        refine Go.on (fun _ k => XS.iloadN X7.here hx rfl (hb hby d4_11) rfl k) ?_
        refine Go.on (fun _ k => XS.aloadN X7.here hx rfl (hb hby d4_12) rfl rfl k) ?_
        show Go _ _ _ _ _ _ _ _ (mkF m 13 #[Sr a0, Si i1, Si iv, .val (.int (iv + (1 : Int32)))] [(.ref a0), (.int (iv + (1 : Int32)))])
        obtain ⟨T10, X10, e10, st10⟩ := getF X7 hx hZ hown (host := "") (Or.inl (hw _ (List.mem_of_getElem? (i := 30) rfl))) Via.refl e7 F_length_a0 (g := (mkF m 13 #[Sr a0, Si i1, Si iv, .val (.int (iv + (1 : Int32)))] [(.ref a0), (.int (iv + (1 : Int32)))])) rfl rfl (hb hby d4_13)
        refine Go.on st10 ?_
        show Go _ _ _ _ _ _ _ _ (mkF m 16 #[Sr a0, Si i1, Si iv, .val (.int (iv + (1 : Int32)))] [(.int ln), (.int (iv + (1 : Int32)))])
        by_cases hc11 : (iv + (1 : Int32)) < ln
        · -- pc 16 yes
          refine Go.on (fun _ k => XS.icmpNo X10.here hx rfl (hb hby d4_16) rfl (tlt hc11).2.1 k) ?_
          show Go _ _ _ _ _ _ _ _ (mkF m 19 #[Sr a0, Si i1, Si iv, .val (.int (iv + (1 : Int32)))] [])
          refine Go.on (fun _ k => XS.iloadN X10.here hx rfl (hb hby d4_19) rfl k) ?_
          show Go _ _ _ _ _ _ _ _ (mkF m 20 #[Sr a0, Si i1, Si iv, .val (.int (iv + (1 : Int32)))] [(.int iv)])
          have hc12 : ¬ (iv < (0 : Int32)) := own_nneg hj
          refine Go.on (fun _ k => XS.ifYes X10.here hx rfl (pc0 := 20) (pc' := 41) rfl (hb hby d4_20) rfl ((if0 _ _).trans (flt hc12).2.1) (by decide) (by decide) k) ?_
          refine Go.on (fun _ k => XS.goto X10.here hx rfl (pc0 := 41) (pc' := 104) rfl (hb hby d4_41) (by decide) (by decide) k) ?_
          refine Go.on (fun _ k => XS.iloadN X10.here hx rfl (hb hby d4_104) rfl k) ?_
          show Go _ _ _ _ _ _ _ _ (mkF m 105 #[Sr a0, Si i1, Si iv, .val (.int (iv + (1 : Int32)))] [(.int iv)])
          refine Go.retV X10 hx Bd.returns rfl (Or.inl ⟨rfl, Or.inl rfl, _, rfl⟩) (hb hby d4_105) ?_ (by rw [hK1]; decide) (by rw [hK2]; decide)
          rw [e10, ← hQQ]
          refine ⟨?_, N1, rfl⟩
          rw [hr, findL, if_pos hc9]
        · -- pc 16 no
          refine Go.on (fun _ k => XS.icmpYes X10.here hx rfl (pc0 := 16) (pc' := 41) rfl (hb hby d4_16) rfl (flt hc11).2.1 (by decide) (by decide) k) ?_
          show Go _ _ _ _ _ _ _ _ (mkF m 41 #[Sr a0, Si i1, Si iv, .val (.int (iv + (1 : Int32)))] [])
          refine Go.on (fun _ k => XS.goto X10.here hx rfl (pc0 := 41) (pc' := 104) rfl (hb hby d4_41) (by decide) (by decide) k) ?_
          refine Go.on (fun _ k => XS.iloadN X10.here hx rfl (hb hby d4_104) rfl k) ?_
          show Go _ _ _ _ _ _ _ _ (mkF m 105 #[Sr a0, Si i1, Si iv, .val (.int (iv + (1 : Int32)))] [(.int iv)])
          refine Go.retV X10 hx Bd.returns rfl (Or.inl ⟨rfl, Or.inl rfl, _, rfl⟩) (hb hby d4_105) ?_ (by rw [hK1]; decide) (by rw [hK2]; decide)
          rw [e10, ← hQQ]
          refine ⟨?_, N1, rfl⟩
          rw [hr, findL, if_pos hc9]
      · -- pc 30 no
        refine Go.on (fun _ k => XS.icmpYes X7.here hx rfl (pc0 := 30) (pc' := 35) rfl (hb hby d4_30) rfl (feq hc9).2 (by decide) (by decide) k) ?_
        show Go _ _ _ _ _ _ _ _ (mkF m 35 #[Sr a0, Si i1, .val (.int (-1 : Int32)), Si iv] [])
        refine Go.on (fun _ k => XS.iinc X7.here hx rfl (hb hby d4_35) rfl (l' := #[.val (.ref a0), .val (.int i1), .val (.int (-1 : Int32)), .val (.int (iv + (1 : Int32)))]) rfl k) ?_
        show Go _ _ _ _ _ _ _ _ (mkF m 38 #[Sr a0, Si i1, .val (.int (-1 : Int32)), .val (.int (iv + (1 : Int32)))] [])
        refine Go.on (fun _ k => XS.goto X7.here hx rfl (pc0 := 38) (pc' := 11) rfl (hb hby d4_38) (by decide) (by decide) k) ?_
        show Go _ _ _ _ _ _ _ _ (mkF m 11 #[Sr a0, Si i1, .val (.int (-1 : Int32)), .val (.int (iv + (1 : Int32)))] [])
        exact ih _ (jj + 1) _ _ X7 e7 N1 (own_inc hl hd hj) (own_nxt hd) (by rw [hr, findL, if_neg hc9])
  refine Go.on (fun _ k => XS.iconst X0.here hx rfl (hb hby d4_0) k) ?_
  show Go _ _ _ _ _ _ _ _ (mkF m 1 #[Sr a0, Si i1, .unset, .unset] [(.int (-1 : Int32))])
  refine Go.on (fun _ k => XS.istoreN X0.here hx rfl (hb hby d4_1) rfl (l' := #[.val (.ref a0), .val (.int i1), .val (.int (-1 : Int32)), .unset]) rfl k) ?_
  show Go _ _ _ _ _ _ _ _ (mkF m 2 #[Sr a0, Si i1, .val (.int (-1 : Int32)), .unset] [])
  refine Go.on (fun _ k => XS.aloadN X0.here hx rfl (hb hby d4_2) rfl rfl k) ?_
  show Go _ _ _ _ _ _ _ _ (mkF m 3 #[Sr a0, Si i1, .val (.int (-1 : Int32)), .unset] [(.ref a0)])
  obtain ⟨T13, X13, e13, st13⟩ := getF X0 hx hZ hown (host := "") (Or.inl (hw _ (List.mem_of_getElem? (i := 28) rfl))) Via.refl e0 F_slots_a0 (g := (mkF m 3 #[Sr a0, Si i1, .val (.int (-1 : Int32)), .unset] [(.ref a0)])) rfl rfl (hb hby d4_3)
  refine Go.on st13 ?_
  show Go _ _ _ _ _ _ _ _ (mkF m 6 #[Sr a0, Si i1, .val (.int (-1 : Int32)), .unset] [.null])
  refine Go.on (fun _ k => XS.ifnonnullNo X13.here hx rfl (hb hby d4_6) rfl k) ?_
  show Go _ _ _ _ _ _ _ _ (mkF m 9 #[Sr a0, Si i1, .val (.int (-1 : Int32)), .unset] [])
  refine Go.on (fun _ k => XS.iconst X13.here hx rfl (hb hby d4_9) k) ?_
  show Go _ _ _ _ _ _ _ _ (mkF m 10 #[Sr a0, Si i1, .val (.int (-1 : Int32)), .unset] [(.int 0)])
  refine Go.on (fun _ k => XS.istoreN X13.here hx rfl (hb hby d4_10) rfl (l' := #[.val (.ref a0), .val (.int i1), .val (.int (-1 : Int32)), .val (.int (0 : Int32))]) rfl k) ?_
  show Go _ _ _ _ _ _ _ _ (mkF m 11 #[Sr a0, Si i1, .val (.int (-1 : Int32)), Si 0] [])
  exact hL ml _ 0 _ _ X13 e13 N0 rfl rfl rfl
theorem pd_4 : parseMethodDescriptor "(I)I" = some ⟨[.int], some .int⟩ := by decide +kernel
theorem pd_5 : parseMethodDescriptor "(ID)J" = some ⟨[.int, .double], some .long⟩ := by decide +kernel
theorem d3_0 : decode prog_21_method_7_code 0 = .ok (.aload_n 0, 1) := by decide +kernel
theorem d3_1 : decode prog_21_method_7_code 1 = .ok (.iload_n 1, 1) := by decide +kernel
theorem d3_2 : decode prog_21_method_7_code 2 = .ok (.invokevirtual 32, 3) := by decide +kernel
theorem d3_5 : decode prog_21_method_7_code 5 = .ok (.istore 4, 2) := by decide +kernel
theorem d3_7 : decode prog_21_method_7_code 7 = .ok (.iload 4, 2) := by decide +kernel
theorem d3_9 : decode prog_21_method_7_code 9 = .ok (.ifCond .ge 125, 3) := by decide +kernel
theorem d3_12 : decode prog_21_method_7_code 12 = .ok (.aload_n 0, 1) := by decide +kernel
theorem d3_13 : decode prog_21_method_7_code 13 = .ok (.getfield 21, 3) := by decide +kernel
theorem d3_16 : decode prog_21_method_7_code 16 = .ok (.aload_n 0, 1) := by decide +kernel
theorem d3_17 : decode prog_21_method_7_code 17 = .ok (.getfield 7, 3) := by decide +kernel
theorem d3_20 : decode prog_21_method_7_code 20 = .ok (.arraylength, 1) := by decide +kernel
theorem d3_21 : decode prog_21_method_7_code 21 = .ok (.if_icmp .ne 38, 3) := by decide +kernel
theorem d3_59 : decode prog_21_method_7_code 59 = .ok (.aload_n 0, 1) := by decide +kernel
theorem d3_60 : decode prog_21_method_7_code 60 = .ok (.dup, 1) := by decide +kernel
theorem d3_61 : decode prog_21_method_7_code 61 = .ok (.getfield 21, 3) := by decide +kernel
theorem d3_64 : decode prog_21_method_7_code 64 = .ok (.dup_x1, 1) := by decide +kernel
theorem d3_65 : decode prog_21_method_7_code 65 = .ok (.iconst 1, 1) := by decide +kernel
theorem d3_66 : decode prog_21_method_7_code 66 = .ok (.iadd, 1) := by decide +kernel
theorem d3_67 : decode prog_21_method_7_code 67 = .ok (.putfield 21, 3) := by decide +kernel
theorem d3_70 : decode prog_21_method_7_code 70 = .ok (.istore 4, 2) := by decide +kernel
theorem d3_72 : decode prog_21_method_7_code 72 = .ok (.aload_n 0, 1) := by decide +kernel
theorem d3_73 : decode prog_21_method_7_code 73 = .ok (.getfield 7, 3) := by decide +kernel
theorem d3_76 : decode prog_21_method_7_code 76 = .ok (.iload 4, 2) := by decide +kernel
theorem d3_78 : decode prog_21_method_7_code 78 = .ok (.iload_n 1, 1) := by decide +kernel
theorem d3_79 : decode prog_21_method_7_code 79 = .ok (.iastore, 1) := by decide +kernel
theorem d3_80 : decode prog_21_method_7_code 80 = .ok (.aload_n 0, 1) := by decide +kernel
theorem d3_81 : decode prog_21_method_7_code 81 = .ok (.getfield 13, 3) := by decide +kernel
theorem d3_84 : decode prog_21_method_7_code 84 = .ok (.iload 4, 2) := by decide +kernel
theorem d3_86 : decode prog_21_method_7_code 86 = .ok (.dload_n 2, 1) := by decide +kernel
theorem d3_87 : decode prog_21_method_7_code 87 = .ok (.dastore, 1) := by decide +kernel
theorem d3_88 : decode prog_21_method_7_code 88 = .ok (.aload_n 0, 1) := by decide +kernel
theorem d3_89 : decode prog_21_method_7_code 89 = .ok (.getfield 25, 3) := by decide +kernel
theorem d3_92 : decode prog_21_method_7_code 92 = .ok (.ifnull 26, 3) := by decide +kernel
theorem d3_118 : decode prog_21_method_7_code 118 = .ok (.aload_n 0, 1) := by decide +kernel
theorem d3_119 : decode prog_21_method_7_code 119 = .ok (.getfield 21, 3) := by decide +kernel
theorem d3_122 : decode prog_21_method_7_code 122 = .ok (.bipush 8, 2) := by decide +kernel
theorem d3_124 : decode prog_21_method_7_code 124 = .ok (.if_icmp .le 91, 3) := by decide +kernel
theorem d3_215 : decode prog_21_method_7_code 215 = .ok (.aload_n 0, 1) := by decide +kernel
theorem d3_216 : decode prog_21_method_7_code 216 = .ok (.dup, 1) := by decide +kernel
theorem d3_217 : decode prog_21_method_7_code 217 = .ok (.getfield 64, 3) := by decide +kernel
theorem d3_220 : decode prog_21_method_7_code 220 = .ok (.iload_n 1, 1) := by decide +kernel
theorem d3_221 : decode prog_21_method_7_code 221 = .ok (.aload_n 0, 1) := by decide +kernel
theorem d3_222 : decode prog_21_method_7_code 222 = .ok (.getfield 13, 3) := by decide +kernel
theorem d3_225 : decode prog_21_method_7_code 225 = .ok (.iload 4, 2) := by decide +kernel
theorem d3_227 : decode prog_21_method_7_code 227 = .ok (.daload, 1) := by decide +kernel
theorem d3_228 : decode prog_21_method_7_code 228 = .ok (.invokestatic 68, 3) := by decide +kernel
theorem d3_231 : decode prog_21_method_7_code 231 = .ok (.ladd, 1) := by decide +kernel
theorem d3_232 : decode prog_21_method_7_code 232 = .ok (.putfield 64, 3) := by decide +kernel
theorem d3_235 : decode prog_21_method_7_code 235 = .ok (.aload_n 0, 1) := by decide +kernel
theorem d3_236 : decode prog_21_method_7_code 236 = .ok (.getfield 71, 3) := by decide +kernel
theorem d3_239 : decode prog_21_method_7_code 239 = .ok (.ifnull 16, 3) := by decide +kernel
theorem d3_255 : decode prog_21_method_7_code 255 = .ok (.iload 4, 2) := by decide +kernel
theorem d3_257 : decode prog_21_method_7_code 257 = .ok (.ireturn, 1) := by decide +kernel
theorem ef_add_0 (m : MethodId) (a0 : Addr) (i1 : Int32) : entryFrame m #[(.ref a0), (.int i1), (.double (4607182418800017408 : UInt64))] 5 = mkF m 0 #[.val (.ref a0), .val (.int i1), .val (.double (4607182418800017408 : UInt64)), .second, .unset] [] := by first | (simp [entryFrame, mkF, argsToLocals, Value.category]; done) | rfl
def Q_add_0 (Z : State) (a0 : Addr) (i1 : Int32) (am : Addr) (wa : Addr) (fp0 : Int64) (k_am : ClassId) (k_wa : ClassId) (h0 : Heap) (n0 : Nat) (v : Option Value) (h : Heap) (L : List Loc) : Prop := ∃ (mb wb : Addr) (k_mb k_wb : ClassId) (fq : Int64), v = some (.int (0 : Int32)) ∧ Fr n0 L ∧ Keep h0 h [a0, am, wa] ∧ Exa Z h a0 "com/example/due_weight/dueweight/core/Pairs" ∧ Fld Z h a0 "com/example/due_weight/dueweight/core/Pairs" "members" "[I" (.ref mb) ∧ Fld Z h a0 "com/example/due_weight/dueweight/core/Pairs" "weights" "[D" (.ref wb) ∧ Fld Z h a0 "com/example/due_weight/dueweight/core/Pairs" "exact" "Z" (.int (1 : Int32)) ∧ Fld Z h a0 "com/example/due_weight/dueweight/core/Pairs" "slots" "[I" .null ∧ Fld Z h a0 "com/example/due_weight/dueweight/core/Pairs" "length" "I" (.int (1 : Int32)) ∧ Fld Z h a0 "com/example/due_weight/dueweight/core/Pairs" "fingerprint" "J" (.long fq) ∧ Fld Z h a0 "com/example/due_weight/dueweight/core/Pairs" "history" "Lcom/example/due_weight/dueweight/core/Pairs$History;" .null ∧ Fld Z h a0 "com/example/due_weight/dueweight/core/Pairs" "shift" "I" (.int (0 : Int32)) ∧ Arv Z h mb k_mb .int (2 : Int32) [(.int i1), (.int (0 : Int32))] (.int (0 : Int32)) ∧ Arv Z h wb k_wb .double (2 : Int32) [(.double (4607182418800017408 : UInt64)), (.double (0 : UInt64))] (.double (0 : UInt64)) ∧ n0 ≤ mb ∧ n0 ≤ wb ∧ a0 ≠ mb ∧ a0 ≠ wb ∧ mb ≠ wb
set_option maxRecDepth 65536 in
set_option maxHeartbeats 40000000 in
theorem add_0 (l : Launch) (Z : State) (aw : Array Value) (hw : ∀ d ∈ tables_1, d.before aw Z = true) (ws : List Jvm.Cond) (a0 : Addr) (i1 : Int32) (am : Addr) (wa : Addr) (fp0 : Int64) (k_am : ClassId) (k_wa : ClassId) (h0 : Heap) (n0 : Nat) (Z0 : n0 ≤ h0.size) (E_a0 : Exa Z h0 a0 "com/example/due_weight/dueweight/core/Pairs") (F_members_a0 : Fld Z h0 a0 "com/example/due_weight/dueweight/core/Pairs" "members" "[I" (.ref am)) (F_weights_a0 : Fld Z h0 a0 "com/example/due_weight/dueweight/core/Pairs" "weights" "[D" (.ref wa)) (F_exact_a0 : Fld Z h0 a0 "com/example/due_weight/dueweight/core/Pairs" "exact" "Z" (.int (1 : Int32))) (F_slots_a0 : Fld Z h0 a0 "com/example/due_weight/dueweight/core/Pairs" "slots" "[I" .null) (F_length_a0 : Fld Z h0 a0 "com/example/due_weight/dueweight/core/Pairs" "length" "I" (.int (0 : Int32))) (F_fingerprint_a0 : Fld Z h0 a0 "com/example/due_weight/dueweight/core/Pairs" "fingerprint" "J" (.long fp0)) (F_history_a0 : Fld Z h0 a0 "com/example/due_weight/dueweight/core/Pairs" "history" "Lcom/example/due_weight/dueweight/core/Pairs$History;" .null) (F_shift_a0 : Fld Z h0 a0 "com/example/due_weight/dueweight/core/Pairs" "shift" "I" (.int (0 : Int32))) (V_am : Arv Z h0 am k_am .int (2 : Int32) [(.int (0 : Int32)), (.int (0 : Int32))] (.int (0 : Int32))) (V_wa : Arv Z h0 wa k_wa .double (2 : Int32) [(.double (0 : UInt64)), (.double (0 : UInt64))] (.double (0 : UInt64))) (g_a0 : n0 ≤ a0) (g_am : n0 ≤ am) (g_wa : n0 ≤ wa) (ne_a0_am : a0 ≠ am) (ne_a0_wa : a0 ≠ wa) (ne_am_wa : am ≠ wa) :
    MetFree l (⟨"com/example/due_weight/dueweight/core/Pairs", "add", "(ID)I"⟩ : MethodName) (head1 (Jvm.Cond.code (⟨"com/example/due_weight/dueweight/core/Pairs", "add", "(ID)I"⟩ : MethodName) prog_21_method_7_code 5 (some .int) :: ws) ({ frames := 3, cells := 0, slots := 0, locals := 45 } : Room)) (fun a U => a = #[(.ref a0), (.int i1), (.double (4607182418800017408 : UInt64))] ∧ Z.Warmed39 U.vm ∧ U.heap = h0) (fun _ _ _ _ _ => True) (fun _ U o U' => ∃ v L, o = .returned v ∧ Q_add_0 Z a0 i1 am wa fp0 k_am k_wa h0 n0 v U'.heap L ∧ FrameEnd U o U' L ({ frames := 3, cells := 0, slots := 0, locals := 45 } : Room).cells ({ frames := 3, cells := 0, slots := 0, locals := 45 } : Room).slots) := by
  refine MetFree.of_bodySF (plainFor_of_name pn_0) hisR ?_
  intro p e s m args below meth c s₁ Bd hml0 hP hK
  obtain ⟨rfl, hZ, hh⟩ := hP
  have hx := Bd.exec
  have hby := Bd.bytes
  have hml : c.maxLocals = 5 := hml0
  have hown : s.vm.findClass "com/example/due_weight/dueweight/core/Pairs" = some m.cls := findClass_of_methodNamed Bd.named
  have hnm := (name_of_methodNamed Bd.named Bd.method).1
  have hlk : meth.locks = false := BodyLoose.notSynchronized Bd
  have X0 : Stand p l e ({ frames := 3, cells := 0, slots := 0, locals := 45 } : Room) s m #[(.ref a0), (.int i1), (.double (4607182418800017408 : UInt64))] below meth c s₁ [] 0 0 := Stand.of_body Bd
  have e0 : s₁.heap = h0 := by rw [← hh, Bd.state]; rfl
  have N0 := Fr.nil n0
  have ZZ := Z0
  show Go p e below s ({ frames := 3, cells := 0, slots := 0, locals := 45 } : Room).cells ({ frames := 3, cells := 0, slots := 0, locals := 45 } : Room).slots (fun v h L => Q_add_0 Z a0 i1 am wa fp0 k_am k_wa h0 n0 v h L) s₁ (entryFrame m #[(.ref a0), (.int i1), (.double (4607182418800017408 : UInt64))] 5)
  refine Go.cast (ef_add_0 m a0 i1) ?_
  refine Go.gen ?_
  intro K1 K2 QQ hK1 hK2 hQQ
  have KP : Keep h0 h0 [a0, am, wa] := Keep.refl _ _
  refine Go.on (fun _ k => XS.aloadN X0.here hx rfl (hb hby d3_0) rfl rfl k) ?_
  refine Go.on (fun _ k => XS.iloadN X0.here hx rfl (hb hby d3_1) rfl k) ?_
  show Go _ _ _ _ _ _ _ _ (mkF m 2 #[Sr a0, Si i1, Sd 4607182418800017408, .second, .unset] [(.int i1), (.ref a0)])
  obtain ⟨cq1, kq1, q1a, q1b, q1c⟩ := isOf hZ e0 E_a0
  obtain ⟨_, _, ⟨T1, L1, k1, n1⟩, -, X1, ⟨Lc1, hQ1, l1, y1, z1⟩, st1⟩ := X0.virtualBack hx (y := (⟨"com/example/due_weight/dueweight/core/Pairs", "indexOf", "(I)I"⟩ : MethodName)) (z := (⟨"com/example/due_weight/dueweight/core/Pairs", "indexOf", "(I)I"⟩ : MethodName)) hown (mvT hZ (hw _ (List.mem_of_getElem? (i := 23) rfl))) (mvT hZ (hw _ (List.mem_of_getElem? (i := 24) rfl))) (notFace_of_selects (args := #[]) (mvT hZ (hw _ (List.mem_of_getElem? (i := 26) rfl)))) (mvT hZ (hw _ (List.mem_of_getElem? (i := 26) rfl))) (mvT hZ (hw _ (List.mem_of_getElem? (i := 25) rfl))) (by decide) (backOf (W := 0) (ixl l Z aw hw [] a0 i1 ([] : List Int32) [(.int (0 : Int32)), (.int (0 : Int32))] (0 : Int32) am k_am (2 : Int32) [(.int (0 : Int32)), (.int (0 : Int32))] h0 n0 ZZ F_slots_a0 F_length_a0 F_members_a0 V_am rfl (by decide) rfl) hZ (hw _ (List.mem_of_getElem? (i := 27) rfl)) (hw _ (List.mem_of_getElem? (i := 3) rfl)) (by decide) (by decide)) q1a q1c (g := (mkF m 2 #[Sr a0, Si i1, Sd 4607182418800017408, .second, .unset] [(.int i1), (.ref a0)])) rfl (by rw [hml]; rfl) (Steps.refl _) (argsL := [(.int i1)]) (rest := []) (lenOf pd_4 rfl) rfl (by show 2 * 0 + _ ≤ _; exact Nat.le_of_eq rfl) (hb hby d3_2) (fun _ _ => ⟨rfl, e0, (by decide : 0 + 0 ≤ _), (by decide : 0 + 0 ≤ _)⟩)
  dsimp only [Pt.U, Pt.locs, Pt.cells, Pt.slots] at X1 l1 y1 z1 st1 hQ1
  subst l1 y1 z1
  obtain ⟨rfl, N1q, e1⟩ := hQ1
  have N1 := Fr.app N0 N1q
  refine Go.on (fun _ k => st1.trans k) ?_
  show Go _ _ _ _ _ _ _ _ (mkF m 5 #[Sr a0, Si i1, Sd 4607182418800017408, .second, .unset] [(.int (findL ([] : List Int32) i1 0))])
  generalize hix : (findL ([] : List Int32) i1 0) = ix
  show Go _ _ _ _ _ _ _ _ (mkF m 5 #[Sr a0, Si i1, Sd 4607182418800017408, .second, .unset] [(.int ix)])
  refine Go.on (fun _ k => XS.istore X1.here hx rfl (hb hby d3_5) rfl (l' := #[.val (.ref a0), .val (.int i1), .val (.double (4607182418800017408 : UInt64)), .second, .val (.int ix)]) rfl k) ?_
  show Go _ _ _ _ _ _ _ _ (mkF m 7 #[Sr a0, Si i1, Sd 4607182418800017408, .second, Si ix] [])
  refine Go.on (fun _ k => XS.iload X1.here hx rfl (hb hby d3_7) rfl k) ?_
  show Go _ _ _ _ _ _ _ _ (mkF m 9 #[Sr a0, Si i1, Sd 4607182418800017408, .second, Si ix] [(.int ix)])
  have hc2 : ix < (0 : Int32) := by rw [← hix]; simp only [findL]; decide
  refine Go.on (fun _ k => XS.ifNo X1.here hx rfl (hb hby d3_9) rfl ((if0 _ _).trans (tlt hc2).2.1) k) ?_
  refine Go.on (fun _ k => XS.aloadN X1.here hx rfl (hb hby d3_12) rfl rfl k) ?_
  show Go _ _ _ _ _ _ _ _ (mkF m 13 #[Sr a0, Si i1, Sd 4607182418800017408, .second, Si ix] [(.ref a0)])
  obtain ⟨T3, X3, e3, st3⟩ := getF X1 hx hZ hown (host := "") (Or.inl (hw _ (List.mem_of_getElem? (i := 30) rfl))) Via.refl e1 F_length_a0 (g := (mkF m 13 #[Sr a0, Si i1, Sd 4607182418800017408, .second, Si ix] [(.ref a0)])) rfl rfl (hb hby d3_13)
  refine Go.on st3 ?_
  show Go _ _ _ _ _ _ _ _ (mkF m 16 #[Sr a0, Si i1, Sd 4607182418800017408, .second, Si ix] [(.int 0)])
  refine Go.on (fun _ k => XS.aloadN X3.here hx rfl (hb hby d3_16) rfl rfl k) ?_
  show Go _ _ _ _ _ _ _ _ (mkF m 17 #[Sr a0, Si i1, Sd 4607182418800017408, .second, Si ix] [(.ref a0), (.int 0)])
  obtain ⟨T4, X4, e4, st4⟩ := getF X3 hx hZ hown (host := "") (Or.inl (hw _ (List.mem_of_getElem? (i := 11) rfl))) Via.refl e3 F_members_a0 (g := (mkF m 17 #[Sr a0, Si i1, Sd 4607182418800017408, .second, Si ix] [(.ref a0), (.int 0)])) rfl rfl (hb hby d3_17)
  refine Go.on st4 ?_
  show Go _ _ _ _ _ _ _ _ (mkF m 20 #[Sr a0, Si i1, Sd 4607182418800017408, .second, Si ix] [(.ref am), (.int 0)])
  obtain ⟨cl5, Ar5, -, S5, N5n, -, -⟩ := id V_am
  refine Go.on (X4.arraylength hx (by rw [e4]; exact Ar5.1) (State.isArrayOf_alike hZ.alike Ar5.2.1) (g := (mkF m 20 #[Sr a0, Si i1, Sd 4607182418800017408, .second, Si ix] [(.ref am), (.int 0)])) rfl rfl (hb hby d3_20)) ?_
  rw [len_of S5 N5n]
  show Go _ _ _ _ _ _ _ _ (mkF m 21 #[Sr a0, Si i1, Sd 4607182418800017408, .second, Si ix] [(.int 2), (.int 0)])
  have hc6 : ¬ ((0 : Int32) = (2 : Int32)) := by decide
  refine Go.on (fun _ k => XS.icmpYes X4.here hx rfl (pc0 := 21) (pc' := 59) rfl (hb hby d3_21) rfl (feq hc6).2 (by decide) (by decide) k) ?_
  refine Go.on (fun _ k => XS.aloadN X4.here hx rfl (hb hby d3_59) rfl rfl k) ?_
  refine Go.on (fun _ k => XS.dup X4.here hx rfl (hb hby d3_60) rfl rfl k) ?_
  show Go _ _ _ _ _ _ _ _ (mkF m 61 #[Sr a0, Si i1, Sd 4607182418800017408, .second, Si ix] [(.ref a0), (.ref a0)])
  obtain ⟨T7, X7, e7, st7⟩ := getF X4 hx hZ hown (host := "") (Or.inl (hw _ (List.mem_of_getElem? (i := 30) rfl))) Via.refl e4 F_length_a0 (g := (mkF m 61 #[Sr a0, Si i1, Sd 4607182418800017408, .second, Si ix] [(.ref a0), (.ref a0)])) rfl rfl (hb hby d3_61)
  refine Go.on st7 ?_
  show Go _ _ _ _ _ _ _ _ (mkF m 64 #[Sr a0, Si i1, Sd 4607182418800017408, .second, Si ix] [(.int 0), (.ref a0)])
  refine Go.on (fun _ k => XS.dupX1 X7.here hx rfl (hb hby d3_64) rfl rfl rfl k) ?_
  show Go _ _ _ _ _ _ _ _ (mkF m 65 #[Sr a0, Si i1, Sd 4607182418800017408, .second, Si ix] [(.int 0), (.ref a0), (.int 0)])
  refine Go.on (fun _ k => XS.iconst X7.here hx rfl (hb hby d3_65) k) ?_
  refine Go.on (fun _ k => XS.iadd X7.here hx rfl (hb hby d3_66) rfl k) ?_
  show Go _ _ _ _ _ _ _ _ (mkF m 67 #[Sr a0, Si i1, Sd 4607182418800017408, .second, Si ix] [(.int 1), (.ref a0), (.int 0)])
  obtain ⟨T8, h8, X8, e8, W8, st8⟩ := putF X7 hx hZ hown (host := "") (Or.inl (hw _ (List.mem_of_getElem? (i := 30) rfl))) Via.refl e7 F_length_a0 E_a0 (Or.inl (hw _ (List.mem_of_getElem? (i := 31) rfl))) (hw _ (List.mem_of_getElem? (i := 2) rfl)) (ty := .int) (by decide) rfl rfl (g := (mkF m 67 #[Sr a0, Si i1, Sd 4607182418800017408, .second, Si ix] [(.int 1), (.ref a0), (.int 0)])) rfl rfl (hb hby d3_67)
  refine Go.on st8 ?_
  replace F_length_a0 := F_length_a0.same W8
  replace E_a0 := E_a0.wr W8
  replace F_members_a0 := F_members_a0.other W8 (Or.inr (slot_ne (Or.inl (hw _ (List.mem_of_getElem? (i := 12) rfl))) (Or.inl (hw _ (List.mem_of_getElem? (i := 31) rfl))) (by decide) (t := (.array .int)) (t' := .int) (by decide) (by decide)))
  replace F_weights_a0 := F_weights_a0.other W8 (Or.inr (slot_ne (Or.inl (hw _ (List.mem_of_getElem? (i := 15) rfl))) (Or.inl (hw _ (List.mem_of_getElem? (i := 31) rfl))) (by decide) (t := (.array .double)) (t' := .int) (by decide) (by decide)))
  replace F_exact_a0 := F_exact_a0.other W8 (Or.inr (slot_ne (Or.inl (hw _ (List.mem_of_getElem? (i := 17) rfl))) (Or.inl (hw _ (List.mem_of_getElem? (i := 31) rfl))) (by decide) (t := .boolean) (t' := .int) (by decide) (by decide)))
  replace F_slots_a0 := F_slots_a0.other W8 (Or.inr (slot_ne (Or.inl (hw _ (List.mem_of_getElem? (i := 29) rfl))) (Or.inl (hw _ (List.mem_of_getElem? (i := 31) rfl))) (by decide) (t := (.array .int)) (t' := .int) (by decide) (by decide)))
  replace F_fingerprint_a0 := F_fingerprint_a0.other W8 (Or.inr (slot_ne (Or.inl (hw _ (List.mem_of_getElem? (i := 33) rfl))) (Or.inl (hw _ (List.mem_of_getElem? (i := 31) rfl))) (by decide) (t := .long) (t' := .int) (by decide) (by decide)))
  replace F_history_a0 := F_history_a0.other W8 (Or.inr (slot_ne (Or.inl (hw _ (List.mem_of_getElem? (i := 52) rfl))) (Or.inl (hw _ (List.mem_of_getElem? (i := 31) rfl))) (by decide) (t := (.object "com/example/due_weight/dueweight/core/Pairs$History")) (t' := .int) (by decide) (by decide)))
  replace F_shift_a0 := F_shift_a0.other W8 (Or.inr (slot_ne (Or.inl (hw _ (List.mem_of_getElem? (i := 86) rfl))) (Or.inl (hw _ (List.mem_of_getElem? (i := 31) rfl))) (by decide) (t := .int) (t' := .int) (by decide) (by decide)))
  replace V_am := V_am.other W8 (Ne.symm ne_a0_am)
  replace V_wa := V_wa.other W8 (Ne.symm ne_a0_wa)
  have N8 := Fr.snoc X8 N1 g_a0
  replace ZZ := Nat.le_trans ZZ (Keep.of_wr W8).1
  replace KP := KP.wr W8 (Or.inl (List.mem_of_getElem? (i := 0) rfl))
  show Go _ _ _ _ _ _ _ _ (mkF m 70 #[Sr a0, Si i1, Sd 4607182418800017408, .second, Si ix] [(.int 0)])
  refine Go.on (fun _ k => XS.istore X8.here hx rfl (hb hby d3_70) rfl (l' := #[.val (.ref a0), .val (.int i1), .val (.double (4607182418800017408 : UInt64)), .second, .val (.int (0 : Int32))]) rfl k) ?_
  show Go _ _ _ _ _ _ _ _ (mkF m 72 #[Sr a0, Si i1, Sd 4607182418800017408, .second, Si 0] [])
  refine Go.on (fun _ k => XS.aloadN X8.here hx rfl (hb hby d3_72) rfl rfl k) ?_
  show Go _ _ _ _ _ _ _ _ (mkF m 73 #[Sr a0, Si i1, Sd 4607182418800017408, .second, Si 0] [(.ref a0)])
  obtain ⟨T9, X9, e9, st9⟩ := getF X8 hx hZ hown (host := "") (Or.inl (hw _ (List.mem_of_getElem? (i := 11) rfl))) Via.refl e8 F_members_a0 (g := (mkF m 73 #[Sr a0, Si i1, Sd 4607182418800017408, .second, Si 0] [(.ref a0)])) rfl rfl (hb hby d3_73)
  refine Go.on st9 ?_
  show Go _ _ _ _ _ _ _ _ (mkF m 76 #[Sr a0, Si i1, Sd 4607182418800017408, .second, Si 0] [(.ref am)])
  refine Go.on (fun _ k => XS.iload X9.here hx rfl (hb hby d3_76) rfl k) ?_
  refine Go.on (fun _ k => XS.iloadN X9.here hx rfl (hb hby d3_78) rfl k) ?_
  show Go _ _ _ _ _ _ _ _ (mkF m 79 #[Sr a0, Si i1, Sd 4607182418800017408, .second, Si 0] [(.int i1), (.int 0), (.ref am)])
  obtain ⟨cl10, Ar10, q10, S10, N10n, H10, G10⟩ := id V_am
  have hin10 : ¬ ((0 : Int32) < 0 ∨ cl10.slots.size ≤ ((0 : Int32)).toNatClampNeg) := inb_of S10 ⟨by decide, by decide⟩
  obtain ⟨T10, h10, X10, e10, W10, st10⟩ := stI X9 hx hZ e9 Ar10 (j := (0 : Int32)) hin10 (g := (mkF m 79 #[Sr a0, Si i1, Sd 4607182418800017408, .second, Si 0] [(.int i1), (.int 0), (.ref am)])) rfl rfl (hb hby d3_79)
  replace V_am := Arv.set Ar10 q10 S10 N10n H10 G10 rfl W10 0 rfl (Nat.le_of_ble_eq_true rfl)
  replace E_a0 := E_a0.wr W10
  replace F_members_a0 := F_members_a0.other W10 (Or.inl ne_a0_am)
  replace F_weights_a0 := F_weights_a0.other W10 (Or.inl ne_a0_am)
  replace F_exact_a0 := F_exact_a0.other W10 (Or.inl ne_a0_am)
  replace F_slots_a0 := F_slots_a0.other W10 (Or.inl ne_a0_am)
  replace F_length_a0 := F_length_a0.other W10 (Or.inl ne_a0_am)
  replace F_fingerprint_a0 := F_fingerprint_a0.other W10 (Or.inl ne_a0_am)
  replace F_history_a0 := F_history_a0.other W10 (Or.inl ne_a0_am)
  replace F_shift_a0 := F_shift_a0.other W10 (Or.inl ne_a0_am)
  replace V_wa := V_wa.other W10 (Ne.symm ne_am_wa)
  refine Go.on st10 ?_
  have N10 := Fr.snoc X10 N8 g_am
  replace ZZ := Nat.le_trans ZZ (Keep.of_wr W10).1
  replace KP := KP.wr W10 (Or.inl (List.mem_of_getElem? (i := 1) rfl))
  change Arv Z h10 am k_am .int (2 : Int32) [(.int i1), (.int (0 : Int32))] (.int (0 : Int32)) at V_am
  show Go _ _ _ _ _ _ _ _ (mkF m 80 #[Sr a0, Si i1, Sd 4607182418800017408, .second, Si 0] [])
  refine Go.on (fun _ k => XS.aloadN X10.here hx rfl (hb hby d3_80) rfl rfl k) ?_
  show Go _ _ _ _ _ _ _ _ (mkF m 81 #[Sr a0, Si i1, Sd 4607182418800017408, .second, Si 0] [(.ref a0)])
  obtain ⟨T11, X11, e11, st11⟩ := getF X10 hx hZ hown (host := "") (Or.inl (hw _ (List.mem_of_getElem? (i := 14) rfl))) Via.refl e10 F_weights_a0 (g := (mkF m 81 #[Sr a0, Si i1, Sd 4607182418800017408, .second, Si 0] [(.ref a0)])) rfl rfl (hb hby d3_81)
  refine Go.on st11 ?_
  show Go _ _ _ _ _ _ _ _ (mkF m 84 #[Sr a0, Si i1, Sd 4607182418800017408, .second, Si 0] [(.ref wa)])
  refine Go.on (fun _ k => XS.iload X11.here hx rfl (hb hby d3_84) rfl k) ?_
  refine Go.on (fun _ k => XS.dloadN X11.here hx rfl (hb hby d3_86) rfl k) ?_
  show Go _ _ _ _ _ _ _ _ (mkF m 87 #[Sr a0, Si i1, Sd 4607182418800017408, .second, Si 0] [(.double 4607182418800017408), (.int 0), (.ref wa)])
  obtain ⟨cl12, Ar12, q12, S12, N12n, H12, G12⟩ := id V_wa
  have hin12 : ¬ ((0 : Int32) < 0 ∨ cl12.slots.size ≤ ((0 : Int32)).toNatClampNeg) := inb_of S12 ⟨by decide, by decide⟩
  obtain ⟨T12, h12, X12, e12, W12, st12⟩ := stD X11 hx hZ e11 Ar12 (j := (0 : Int32)) hin12 (g := (mkF m 87 #[Sr a0, Si i1, Sd 4607182418800017408, .second, Si 0] [(.double 4607182418800017408), (.int 0), (.ref wa)])) rfl rfl (hb hby d3_87)
  replace V_wa := Arv.set Ar12 q12 S12 N12n H12 G12 rfl W12 0 rfl (Nat.le_of_ble_eq_true rfl)
  replace E_a0 := E_a0.wr W12
  replace F_members_a0 := F_members_a0.other W12 (Or.inl ne_a0_wa)
  replace F_weights_a0 := F_weights_a0.other W12 (Or.inl ne_a0_wa)
  replace F_exact_a0 := F_exact_a0.other W12 (Or.inl ne_a0_wa)
  replace F_slots_a0 := F_slots_a0.other W12 (Or.inl ne_a0_wa)
  replace F_length_a0 := F_length_a0.other W12 (Or.inl ne_a0_wa)
  replace F_fingerprint_a0 := F_fingerprint_a0.other W12 (Or.inl ne_a0_wa)
  replace F_history_a0 := F_history_a0.other W12 (Or.inl ne_a0_wa)
  replace F_shift_a0 := F_shift_a0.other W12 (Or.inl ne_a0_wa)
  replace V_am := V_am.other W12 ne_am_wa
  refine Go.on st12 ?_
  have N12 := Fr.snoc X12 N10 g_wa
  replace ZZ := Nat.le_trans ZZ (Keep.of_wr W12).1
  replace KP := KP.wr W12 (Or.inl (List.mem_of_getElem? (i := 2) rfl))
  change Arv Z h12 wa k_wa .double (2 : Int32) [(.double (4607182418800017408 : UInt64)), (.double (0 : UInt64))] (.double (0 : UInt64)) at V_wa
  show Go _ _ _ _ _ _ _ _ (mkF m 88 #[Sr a0, Si i1, Sd 4607182418800017408, .second, Si 0] [])
  refine Go.on (fun _ k => XS.aloadN X12.here hx rfl (hb hby d3_88) rfl rfl k) ?_
  show Go _ _ _ _ _ _ _ _ (mkF m 89 #[Sr a0, Si i1, Sd 4607182418800017408, .second, Si 0] [(.ref a0)])
  obtain ⟨T13, X13, e13, st13⟩ := getF X12 hx hZ hown (host := "") (Or.inl (hw _ (List.mem_of_getElem? (i := 28) rfl))) Via.refl e12 F_slots_a0 (g := (mkF m 89 #[Sr a0, Si i1, Sd 4607182418800017408, .second, Si 0] [(.ref a0)])) rfl rfl (hb hby d3_89)
  refine Go.on st13 ?_
  show Go _ _ _ _ _ _ _ _ (mkF m 92 #[Sr a0, Si i1, Sd 4607182418800017408, .second, Si 0] [.null])
  refine Go.on (fun _ k => XS.ifnullYes X13.here hx rfl (pc0 := 92) (pc' := 118) rfl (hb hby d3_92) rfl (by decide) (by decide) k) ?_
  show Go _ _ _ _ _ _ _ _ (mkF m 118 #[Sr a0, Si i1, Sd 4607182418800017408, .second, Si 0] [])
  refine Go.on (fun _ k => XS.aloadN X13.here hx rfl (hb hby d3_118) rfl rfl k) ?_
  show Go _ _ _ _ _ _ _ _ (mkF m 119 #[Sr a0, Si i1, Sd 4607182418800017408, .second, Si 0] [(.ref a0)])
  obtain ⟨T14, X14, e14, st14⟩ := getF X13 hx hZ hown (host := "") (Or.inl (hw _ (List.mem_of_getElem? (i := 30) rfl))) Via.refl e13 F_length_a0 (g := (mkF m 119 #[Sr a0, Si i1, Sd 4607182418800017408, .second, Si 0] [(.ref a0)])) rfl rfl (hb hby d3_119)
  refine Go.on st14 ?_
  show Go _ _ _ _ _ _ _ _ (mkF m 122 #[Sr a0, Si i1, Sd 4607182418800017408, .second, Si 0] [(.int 1)])
  refine Go.on (fun _ k => XS.bipush X14.here hx rfl (hb hby d3_122) k) ?_
  show Go _ _ _ _ _ _ _ _ (mkF m 124 #[Sr a0, Si i1, Sd 4607182418800017408, .second, Si 0] [(.int 8), (.int 1)])
  have hc15 : ¬ ((8 : Int32) < (1 : Int32)) := by decide
  refine Go.on (fun _ k => XS.icmpYes X14.here hx rfl (pc0 := 124) (pc' := 215) rfl (hb hby d3_124) rfl (flt hc15).2.2.2 (by decide) (by decide) k) ?_
  refine Go.on (fun _ k => XS.aloadN X14.here hx rfl (hb hby d3_215) rfl rfl k) ?_
  refine Go.on (fun _ k => XS.dup X14.here hx rfl (hb hby d3_216) rfl rfl k) ?_
  show Go _ _ _ _ _ _ _ _ (mkF m 217 #[Sr a0, Si i1, Sd 4607182418800017408, .second, Si 0] [(.ref a0), (.ref a0)])
  obtain ⟨T16, X16, e16, st16⟩ := getF X14 hx hZ hown (host := "") (Or.inl (hw _ (List.mem_of_getElem? (i := 32) rfl))) Via.refl e14 F_fingerprint_a0 (g := (mkF m 217 #[Sr a0, Si i1, Sd 4607182418800017408, .second, Si 0] [(.ref a0), (.ref a0)])) rfl rfl (hb hby d3_217)
  refine Go.on st16 ?_
  show Go _ _ _ _ _ _ _ _ (mkF m 220 #[Sr a0, Si i1, Sd 4607182418800017408, .second, Si 0] [(.long fp0), (.ref a0)])
  refine Go.on (fun _ k => XS.iloadN X16.here hx rfl (hb hby d3_220) rfl k) ?_
  refine Go.on (fun _ k => XS.aloadN X16.here hx rfl (hb hby d3_221) rfl rfl k) ?_
  show Go _ _ _ _ _ _ _ _ (mkF m 222 #[Sr a0, Si i1, Sd 4607182418800017408, .second, Si 0] [(.ref a0), (.int i1), (.long fp0), (.ref a0)])
  obtain ⟨T17, X17, e17, st17⟩ := getF X16 hx hZ hown (host := "") (Or.inl (hw _ (List.mem_of_getElem? (i := 14) rfl))) Via.refl e16 F_weights_a0 (g := (mkF m 222 #[Sr a0, Si i1, Sd 4607182418800017408, .second, Si 0] [(.ref a0), (.int i1), (.long fp0), (.ref a0)])) rfl rfl (hb hby d3_222)
  refine Go.on st17 ?_
  show Go _ _ _ _ _ _ _ _ (mkF m 225 #[Sr a0, Si i1, Sd 4607182418800017408, .second, Si 0] [(.ref wa), (.int i1), (.long fp0), (.ref a0)])
  refine Go.on (fun _ k => XS.iload X17.here hx rfl (hb hby d3_225) rfl k) ?_
  show Go _ _ _ _ _ _ _ _ (mkF m 227 #[Sr a0, Si i1, Sd 4607182418800017408, .second, Si 0] [(.int 0), (.ref wa), (.int i1), (.long fp0), (.ref a0)])
  obtain ⟨cl18, Ar18, -, S18, -, H18, -⟩ := id V_wa
  have hin18 : ¬ ((0 : Int32) < 0 ∨ cl18.slots.size ≤ ((0 : Int32)).toNatClampNeg) := inb_of S18 ⟨by decide, by decide⟩
  refine Go.on (X17.daload hx (j := (0 : Int32)) (v := (.double (4607182418800017408 : UInt64))) (by rw [e17]; exact Ar18.1) (State.isArrayOf_alike hZ.alike Ar18.2.1) Ar18.2.2 hin18 (H18.at hin18 (rfl)) (g := (mkF m 227 #[Sr a0, Si i1, Sd 4607182418800017408, .second, Si 0] [(.int 0), (.ref wa), (.int i1), (.long fp0), (.ref a0)])) rfl rfl (hb hby d3_227)) ?_
  show Go _ _ _ _ _ _ _ _ (mkF m 228 #[Sr a0, Si i1, Sd 4607182418800017408, .second, Si 0] [(.double 4607182418800017408), (.int i1), (.long fp0), (.ref a0)])
  obtain ⟨_, _, ⟨T19, L19, k19, n19⟩, -, X19, ⟨Lc19, hQ19, l19, y19, z19⟩, st19⟩ := Jvm.LawKit.callS X17 hx (y := (⟨"com/example/due_weight/dueweight/core/Pairs", "fingerprint", "(ID)J"⟩ : MethodName)) hown (mvT hZ (hw _ (List.mem_of_getElem? (i := 34) rfl))) (mvT hZ (hw _ (List.mem_of_getElem? (i := 35) rfl))) (mvT hZ (hw _ (List.mem_of_getElem? (i := 3) rfl))) (mvT hZ (hw _ (List.mem_of_getElem? (i := 36) rfl))) (by decide) (backOf (W := 3) (rm5 l Z aw hw [] i1 (4607182418800017408 : UInt64)  h12 n0 ZZ (by decide +kernel)) hZ (hw _ (List.mem_of_getElem? (i := 36) rfl)) (hw _ (List.mem_of_getElem? (i := 3) rfl)) (by decide) (by decide)) (g := (mkF m 228 #[Sr a0, Si i1, Sd 4607182418800017408, .second, Si 0] [(.double 4607182418800017408), (.int i1), (.long fp0), (.ref a0)])) rfl (by rw [hml]; rfl) (argsL := [(.int i1), (.double (4607182418800017408 : UInt64))]) (rest := [(.long fp0), (.ref a0)]) (lenOf pd_5 rfl) rfl (by show 2 * 0 + _ ≤ _; exact Nat.le_of_eq rfl) (hb hby d3_228) (fun _ _ => ⟨rfl, e17, (by decide : 0 + 0 ≤ _), (by decide : 0 + 0 ≤ _)⟩)
  dsimp only [Pt.U, Pt.locs, Pt.cells, Pt.slots] at X19 l19 y19 z19 st19 hQ19
  subst l19 y19 z19
  obtain ⟨rfl, N19q, e19⟩ := hQ19
  have N19 := Fr.app N12 N19q
  refine Go.on st19 ?_
  show Go _ _ _ _ _ _ _ _ (mkF m 231 #[Sr a0, Si i1, Sd 4607182418800017408, .second, Si 0] [(.long (mixV ((mixV ((4607182418800017408 : UInt64).toInt64)) + (i1.toInt64)))), (.long fp0), (.ref a0)])
  generalize hfv : (mixV ((mixV ((4607182418800017408 : UInt64).toInt64)) + (i1.toInt64))) = fv
  show Go _ _ _ _ _ _ _ _ (mkF m 231 #[Sr a0, Si i1, Sd 4607182418800017408, .second, Si 0] [(.long fv), (.long fp0), (.ref a0)])
  refine Go.on (fun _ k => XS.ladd X19.here hx rfl (hb hby d3_231) rfl k) ?_
  show Go _ _ _ _ _ _ _ _ (mkF m 232 #[Sr a0, Si i1, Sd 4607182418800017408, .second, Si 0] [(.long (fp0 + fv)), (.ref a0)])
  obtain ⟨T20, h20, X20, e20, W20, st20⟩ := putF X19 hx hZ hown (host := "") (Or.inl (hw _ (List.mem_of_getElem? (i := 32) rfl))) Via.refl e19 F_fingerprint_a0 E_a0 (Or.inl (hw _ (List.mem_of_getElem? (i := 33) rfl))) (hw _ (List.mem_of_getElem? (i := 2) rfl)) (ty := .long) (by decide) rfl rfl (g := (mkF m 232 #[Sr a0, Si i1, Sd 4607182418800017408, .second, Si 0] [(.long (fp0 + fv)), (.ref a0)])) rfl rfl (hb hby d3_232)
  refine Go.on st20 ?_
  replace F_fingerprint_a0 := F_fingerprint_a0.same W20
  replace E_a0 := E_a0.wr W20
  replace F_members_a0 := F_members_a0.other W20 (Or.inr (slot_ne (Or.inl (hw _ (List.mem_of_getElem? (i := 12) rfl))) (Or.inl (hw _ (List.mem_of_getElem? (i := 33) rfl))) (by decide) (t := (.array .int)) (t' := .long) (by decide) (by decide)))
  replace F_weights_a0 := F_weights_a0.other W20 (Or.inr (slot_ne (Or.inl (hw _ (List.mem_of_getElem? (i := 15) rfl))) (Or.inl (hw _ (List.mem_of_getElem? (i := 33) rfl))) (by decide) (t := (.array .double)) (t' := .long) (by decide) (by decide)))
  replace F_exact_a0 := F_exact_a0.other W20 (Or.inr (slot_ne (Or.inl (hw _ (List.mem_of_getElem? (i := 17) rfl))) (Or.inl (hw _ (List.mem_of_getElem? (i := 33) rfl))) (by decide) (t := .boolean) (t' := .long) (by decide) (by decide)))
  replace F_slots_a0 := F_slots_a0.other W20 (Or.inr (slot_ne (Or.inl (hw _ (List.mem_of_getElem? (i := 29) rfl))) (Or.inl (hw _ (List.mem_of_getElem? (i := 33) rfl))) (by decide) (t := (.array .int)) (t' := .long) (by decide) (by decide)))
  replace F_length_a0 := F_length_a0.other W20 (Or.inr (slot_ne (Or.inl (hw _ (List.mem_of_getElem? (i := 31) rfl))) (Or.inl (hw _ (List.mem_of_getElem? (i := 33) rfl))) (by decide) (t := .int) (t' := .long) (by decide) (by decide)))
  replace F_history_a0 := F_history_a0.other W20 (Or.inr (slot_ne (Or.inl (hw _ (List.mem_of_getElem? (i := 52) rfl))) (Or.inl (hw _ (List.mem_of_getElem? (i := 33) rfl))) (by decide) (t := (.object "com/example/due_weight/dueweight/core/Pairs$History")) (t' := .long) (by decide) (by decide)))
  replace F_shift_a0 := F_shift_a0.other W20 (Or.inr (slot_ne (Or.inl (hw _ (List.mem_of_getElem? (i := 86) rfl))) (Or.inl (hw _ (List.mem_of_getElem? (i := 33) rfl))) (by decide) (t := .int) (t' := .long) (by decide) (by decide)))
  replace V_am := V_am.other W20 (Ne.symm ne_a0_am)
  replace V_wa := V_wa.other W20 (Ne.symm ne_a0_wa)
  have N20 := Fr.snoc X20 N19 g_a0
  replace ZZ := Nat.le_trans ZZ (Keep.of_wr W20).1
  replace KP := KP.wr W20 (Or.inl (List.mem_of_getElem? (i := 0) rfl))
  show Go _ _ _ _ _ _ _ _ (mkF m 235 #[Sr a0, Si i1, Sd 4607182418800017408, .second, Si 0] [])
  refine Go.on (fun _ k => XS.aloadN X20.here hx rfl (hb hby d3_235) rfl rfl k) ?_
  show Go _ _ _ _ _ _ _ _ (mkF m 236 #[Sr a0, Si i1, Sd 4607182418800017408, .second, Si 0] [(.ref a0)])
  obtain ⟨T21, X21, e21, st21⟩ := getF X20 hx hZ hown (host := "") (Or.inl (hw _ (List.mem_of_getElem? (i := 51) rfl))) Via.refl e20 F_history_a0 (g := (mkF m 236 #[Sr a0, Si i1, Sd 4607182418800017408, .second, Si 0] [(.ref a0)])) rfl rfl (hb hby d3_236)
  refine Go.on st21 ?_
  show Go _ _ _ _ _ _ _ _ (mkF m 239 #[Sr a0, Si i1, Sd 4607182418800017408, .second, Si 0] [.null])
  refine Go.on (fun _ k => XS.ifnullYes X21.here hx rfl (pc0 := 239) (pc' := 255) rfl (hb hby d3_239) rfl (by decide) (by decide) k) ?_
  show Go _ _ _ _ _ _ _ _ (mkF m 255 #[Sr a0, Si i1, Sd 4607182418800017408, .second, Si 0] [])
  refine Go.on (fun _ k => XS.iload X21.here hx rfl (hb hby d3_255) rfl k) ?_
  show Go _ _ _ _ _ _ _ _ (mkF m 257 #[Sr a0, Si i1, Sd 4607182418800017408, .second, Si 0] [(.int 0)])
  refine Go.retV X21 hx Bd.returns rfl (Or.inl ⟨rfl, Or.inl rfl, _, rfl⟩) (hb hby d3_257) ?_ (by rw [hK1]; decide) (by rw [hK2]; decide)
  rw [e21, ← hQQ]
  exact ⟨am, wa, k_am, k_wa, _, rfl, N20, KP, E_a0, F_members_a0, F_weights_a0, F_exact_a0, F_slots_a0, F_length_a0, F_fingerprint_a0, F_history_a0, F_shift_a0, V_am, V_wa, g_am, g_wa, ne_a0_am, ne_a0_wa, ne_am_wa⟩
theorem ef_add_1 (m : MethodId) (a0 : Addr) (i1 : Int32) : entryFrame m #[(.ref a0), (.int i1), (.double (4607182418800017408 : UInt64))] 5 = mkF m 0 #[.val (.ref a0), .val (.int i1), .val (.double (4607182418800017408 : UInt64)), .second, .unset] [] := by first | (simp [entryFrame, mkF, argsToLocals, Value.category]; done) | rfl
def Q_add_1 (Z : State) (a0 : Addr) (i1 : Int32) (am : Addr) (wa : Addr) (fp0 : Int64) (k_am : ClassId) (m0 : Int32) (k_wa : ClassId) (h0 : Heap) (n0 : Nat) (v : Option Value) (h : Heap) (L : List Loc) : Prop := ∃ (mb wb : Addr) (k_mb k_wb : ClassId) (fq : Int64), v = some (.int (1 : Int32)) ∧ Fr n0 L ∧ Keep h0 h [a0, am, wa] ∧ Exa Z h a0 "com/example/due_weight/dueweight/core/Pairs" ∧ Fld Z h a0 "com/example/due_weight/dueweight/core/Pairs" "members" "[I" (.ref mb) ∧ Fld Z h a0 "com/example/due_weight/dueweight/core/Pairs" "weights" "[D" (.ref wb) ∧ Fld Z h a0 "com/example/due_weight/dueweight/core/Pairs" "exact" "Z" (.int (1 : Int32)) ∧ Fld Z h a0 "com/example/due_weight/dueweight/core/Pairs" "slots" "[I" .null ∧ Fld Z h a0 "com/example/due_weight/dueweight/core/Pairs" "length" "I" (.int (2 : Int32)) ∧ Fld Z h a0 "com/example/due_weight/dueweight/core/Pairs" "fingerprint" "J" (.long fq) ∧ Fld Z h a0 "com/example/due_weight/dueweight/core/Pairs" "history" "Lcom/example/due_weight/dueweight/core/Pairs$History;" .null ∧ Fld Z h a0 "com/example/due_weight/dueweight/core/Pairs" "shift" "I" (.int (0 : Int32)) ∧ Arv Z h mb k_mb .int (2 : Int32) [(.int m0), (.int i1)] (.int (0 : Int32)) ∧ Arv Z h wb k_wb .double (2 : Int32) [(.double (4607182418800017408 : UInt64)), (.double (4607182418800017408 : UInt64))] (.double (0 : UInt64)) ∧ n0 ≤ mb ∧ n0 ≤ wb ∧ a0 ≠ mb ∧ a0 ≠ wb ∧ mb ≠ wb
set_option maxRecDepth 65536 in
set_option maxHeartbeats 40000000 in
theorem add_1 (l : Launch) (Z : State) (aw : Array Value) (hw : ∀ d ∈ tables_1, d.before aw Z = true) (ws : List Jvm.Cond) (a0 : Addr) (i1 : Int32) (am : Addr) (wa : Addr) (fp0 : Int64) (k_am : ClassId) (m0 : Int32) (k_wa : ClassId) (h0 : Heap) (n0 : Nat) (Z0 : n0 ≤ h0.size) (E_a0 : Exa Z h0 a0 "com/example/due_weight/dueweight/core/Pairs") (F_members_a0 : Fld Z h0 a0 "com/example/due_weight/dueweight/core/Pairs" "members" "[I" (.ref am)) (F_weights_a0 : Fld Z h0 a0 "com/example/due_weight/dueweight/core/Pairs" "weights" "[D" (.ref wa)) (F_exact_a0 : Fld Z h0 a0 "com/example/due_weight/dueweight/core/Pairs" "exact" "Z" (.int (1 : Int32))) (F_slots_a0 : Fld Z h0 a0 "com/example/due_weight/dueweight/core/Pairs" "slots" "[I" .null) (F_length_a0 : Fld Z h0 a0 "com/example/due_weight/dueweight/core/Pairs" "length" "I" (.int (1 : Int32))) (F_fingerprint_a0 : Fld Z h0 a0 "com/example/due_weight/dueweight/core/Pairs" "fingerprint" "J" (.long fp0)) (F_history_a0 : Fld Z h0 a0 "com/example/due_weight/dueweight/core/Pairs" "history" "Lcom/example/due_weight/dueweight/core/Pairs$History;" .null) (F_shift_a0 : Fld Z h0 a0 "com/example/due_weight/dueweight/core/Pairs" "shift" "I" (.int (0 : Int32))) (V_am : Arv Z h0 am k_am .int (2 : Int32) [(.int m0), (.int (0 : Int32))] (.int (0 : Int32))) (V_wa : Arv Z h0 wa k_wa .double (2 : Int32) [(.double (4607182418800017408 : UInt64)), (.double (0 : UInt64))] (.double (0 : UInt64))) (g_a0 : n0 ≤ a0) (g_am : n0 ≤ am) (g_wa : n0 ≤ wa) (ne_a0_am : a0 ≠ am) (ne_a0_wa : a0 ≠ wa) (ne_am_wa : am ≠ wa) (hne0 : ¬ (m0 = i1)) :
    MetFree l (⟨"com/example/due_weight/dueweight/core/Pairs", "add", "(ID)I"⟩ : MethodName) (head1 (Jvm.Cond.code (⟨"com/example/due_weight/dueweight/core/Pairs", "add", "(ID)I"⟩ : MethodName) prog_21_method_7_code 5 (some .int) :: ws) ({ frames := 3, cells := 0, slots := 0, locals := 45 } : Room)) (fun a U => a = #[(.ref a0), (.int i1), (.double (4607182418800017408 : UInt64))] ∧ Z.Warmed39 U.vm ∧ U.heap = h0) (fun _ _ _ _ _ => True) (fun _ U o U' => ∃ v L, o = .returned v ∧ Q_add_1 Z a0 i1 am wa fp0 k_am m0 k_wa h0 n0 v U'.heap L ∧ FrameEnd U o U' L ({ frames := 3, cells := 0, slots := 0, locals := 45 } : Room).cells ({ frames := 3, cells := 0, slots := 0, locals := 45 } : Room).slots) := by
  refine MetFree.of_bodySF (plainFor_of_name pn_0) hisR ?_
  intro p e s m args below meth c s₁ Bd hml0 hP hK
  obtain ⟨rfl, hZ, hh⟩ := hP
  have hx := Bd.exec
  have hby := Bd.bytes
  have hml : c.maxLocals = 5 := hml0
  have hown : s.vm.findClass "com/example/due_weight/dueweight/core/Pairs" = some m.cls := findClass_of_methodNamed Bd.named
  have hnm := (name_of_methodNamed Bd.named Bd.method).1
  have hlk : meth.locks = false := BodyLoose.notSynchronized Bd
  have X0 : Stand p l e ({ frames := 3, cells := 0, slots := 0, locals := 45 } : Room) s m #[(.ref a0), (.int i1), (.double (4607182418800017408 : UInt64))] below meth c s₁ [] 0 0 := Stand.of_body Bd
  have e0 : s₁.heap = h0 := by rw [← hh, Bd.state]; rfl
  have N0 := Fr.nil n0
  have ZZ := Z0
  show Go p e below s ({ frames := 3, cells := 0, slots := 0, locals := 45 } : Room).cells ({ frames := 3, cells := 0, slots := 0, locals := 45 } : Room).slots (fun v h L => Q_add_1 Z a0 i1 am wa fp0 k_am m0 k_wa h0 n0 v h L) s₁ (entryFrame m #[(.ref a0), (.int i1), (.double (4607182418800017408 : UInt64))] 5)
  refine Go.cast (ef_add_1 m a0 i1) ?_
  refine Go.gen ?_
  intro K1 K2 QQ hK1 hK2 hQQ
  have KP : Keep h0 h0 [a0, am, wa] := Keep.refl _ _
  refine Go.on (fun _ k => XS.aloadN X0.here hx rfl (hb hby d3_0) rfl rfl k) ?_
  refine Go.on (fun _ k => XS.iloadN X0.here hx rfl (hb hby d3_1) rfl k) ?_
  show Go _ _ _ _ _ _ _ _ (mkF m 2 #[Sr a0, Si i1, Sd 4607182418800017408, .second, .unset] [(.int i1), (.ref a0)])
  obtain ⟨cq1, kq1, q1a, q1b, q1c⟩ := isOf hZ e0 E_a0
  obtain ⟨_, _, ⟨T1, L1, k1, n1⟩, -, X1, ⟨Lc1, hQ1, l1, y1, z1⟩, st1⟩ := X0.virtualBack hx (y := (⟨"com/example/due_weight/dueweight/core/Pairs", "indexOf", "(I)I"⟩ : MethodName)) (z := (⟨"com/example/due_weight/dueweight/core/Pairs", "indexOf", "(I)I"⟩ : MethodName)) hown (mvT hZ (hw _ (List.mem_of_getElem? (i := 23) rfl))) (mvT hZ (hw _ (List.mem_of_getElem? (i := 24) rfl))) (notFace_of_selects (args := #[]) (mvT hZ (hw _ (List.mem_of_getElem? (i := 26) rfl)))) (mvT hZ (hw _ (List.mem_of_getElem? (i := 26) rfl))) (mvT hZ (hw _ (List.mem_of_getElem? (i := 25) rfl))) (by decide) (backOf (W := 0) (ixl l Z aw hw [] a0 i1 [m0] [(.int (0 : Int32))] (1 : Int32) am k_am (2 : Int32) [(.int m0), (.int (0 : Int32))] h0 n0 ZZ F_slots_a0 F_length_a0 F_members_a0 V_am rfl (by decide) rfl) hZ (hw _ (List.mem_of_getElem? (i := 27) rfl)) (hw _ (List.mem_of_getElem? (i := 3) rfl)) (by decide) (by decide)) q1a q1c (g := (mkF m 2 #[Sr a0, Si i1, Sd 4607182418800017408, .second, .unset] [(.int i1), (.ref a0)])) rfl (by rw [hml]; rfl) (Steps.refl _) (argsL := [(.int i1)]) (rest := []) (lenOf pd_4 rfl) rfl (by show 2 * 0 + _ ≤ _; exact Nat.le_of_eq rfl) (hb hby d3_2) (fun _ _ => ⟨rfl, e0, (by decide : 0 + 0 ≤ _), (by decide : 0 + 0 ≤ _)⟩)
  dsimp only [Pt.U, Pt.locs, Pt.cells, Pt.slots] at X1 l1 y1 z1 st1 hQ1
  subst l1 y1 z1
  obtain ⟨rfl, N1q, e1⟩ := hQ1
  have N1 := Fr.app N0 N1q
  refine Go.on (fun _ k => st1.trans k) ?_
  show Go _ _ _ _ _ _ _ _ (mkF m 5 #[Sr a0, Si i1, Sd 4607182418800017408, .second, .unset] [(.int (findL [m0] i1 0))])
  generalize hix : (findL [m0] i1 0) = ix
  show Go _ _ _ _ _ _ _ _ (mkF m 5 #[Sr a0, Si i1, Sd 4607182418800017408, .second, .unset] [(.int ix)])
  refine Go.on (fun _ k => XS.istore X1.here hx rfl (hb hby d3_5) rfl (l' := #[.val (.ref a0), .val (.int i1), .val (.double (4607182418800017408 : UInt64)), .second, .val (.int ix)]) rfl k) ?_
  show Go _ _ _ _ _ _ _ _ (mkF m 7 #[Sr a0, Si i1, Sd 4607182418800017408, .second, Si ix] [])
  refine Go.on (fun _ k => XS.iload X1.here hx rfl (hb hby d3_7) rfl k) ?_
  show Go _ _ _ _ _ _ _ _ (mkF m 9 #[Sr a0, Si i1, Sd 4607182418800017408, .second, Si ix] [(.int ix)])
  have hc2 : ix < (0 : Int32) := by rw [← hix]; simp only [findL, if_neg hne0]; decide
  refine Go.on (fun _ k => XS.ifNo X1.here hx rfl (hb hby d3_9) rfl ((if0 _ _).trans (tlt hc2).2.1) k) ?_
  refine Go.on (fun _ k => XS.aloadN X1.here hx rfl (hb hby d3_12) rfl rfl k) ?_
  show Go _ _ _ _ _ _ _ _ (mkF m 13 #[Sr a0, Si i1, Sd 4607182418800017408, .second, Si ix] [(.ref a0)])
  obtain ⟨T3, X3, e3, st3⟩ := getF X1 hx hZ hown (host := "") (Or.inl (hw _ (List.mem_of_getElem? (i := 30) rfl))) Via.refl e1 F_length_a0 (g := (mkF m 13 #[Sr a0, Si i1, Sd 4607182418800017408, .second, Si ix] [(.ref a0)])) rfl rfl (hb hby d3_13)
  refine Go.on st3 ?_
  show Go _ _ _ _ _ _ _ _ (mkF m 16 #[Sr a0, Si i1, Sd 4607182418800017408, .second, Si ix] [(.int 1)])
  refine Go.on (fun _ k => XS.aloadN X3.here hx rfl (hb hby d3_16) rfl rfl k) ?_
  show Go _ _ _ _ _ _ _ _ (mkF m 17 #[Sr a0, Si i1, Sd 4607182418800017408, .second, Si ix] [(.ref a0), (.int 1)])
  obtain ⟨T4, X4, e4, st4⟩ := getF X3 hx hZ hown (host := "") (Or.inl (hw _ (List.mem_of_getElem? (i := 11) rfl))) Via.refl e3 F_members_a0 (g := (mkF m 17 #[Sr a0, Si i1, Sd 4607182418800017408, .second, Si ix] [(.ref a0), (.int 1)])) rfl rfl (hb hby d3_17)
  refine Go.on st4 ?_
  show Go _ _ _ _ _ _ _ _ (mkF m 20 #[Sr a0, Si i1, Sd 4607182418800017408, .second, Si ix] [(.ref am), (.int 1)])
  obtain ⟨cl5, Ar5, -, S5, N5n, -, -⟩ := id V_am
  refine Go.on (X4.arraylength hx (by rw [e4]; exact Ar5.1) (State.isArrayOf_alike hZ.alike Ar5.2.1) (g := (mkF m 20 #[Sr a0, Si i1, Sd 4607182418800017408, .second, Si ix] [(.ref am), (.int 1)])) rfl rfl (hb hby d3_20)) ?_
  rw [len_of S5 N5n]
  show Go _ _ _ _ _ _ _ _ (mkF m 21 #[Sr a0, Si i1, Sd 4607182418800017408, .second, Si ix] [(.int 2), (.int 1)])
  have hc6 : ¬ ((1 : Int32) = (2 : Int32)) := by decide
  refine Go.on (fun _ k => XS.icmpYes X4.here hx rfl (pc0 := 21) (pc' := 59) rfl (hb hby d3_21) rfl (feq hc6).2 (by decide) (by decide) k) ?_
  refine Go.on (fun _ k => XS.aloadN X4.here hx rfl (hb hby d3_59) rfl rfl k) ?_
  refine Go.on (fun _ k => XS.dup X4.here hx rfl (hb hby d3_60) rfl rfl k) ?_
  show Go _ _ _ _ _ _ _ _ (mkF m 61 #[Sr a0, Si i1, Sd 4607182418800017408, .second, Si ix] [(.ref a0), (.ref a0)])
  obtain ⟨T7, X7, e7, st7⟩ := getF X4 hx hZ hown (host := "") (Or.inl (hw _ (List.mem_of_getElem? (i := 30) rfl))) Via.refl e4 F_length_a0 (g := (mkF m 61 #[Sr a0, Si i1, Sd 4607182418800017408, .second, Si ix] [(.ref a0), (.ref a0)])) rfl rfl (hb hby d3_61)
  refine Go.on st7 ?_
  show Go _ _ _ _ _ _ _ _ (mkF m 64 #[Sr a0, Si i1, Sd 4607182418800017408, .second, Si ix] [(.int 1), (.ref a0)])
  refine Go.on (fun _ k => XS.dupX1 X7.here hx rfl (hb hby d3_64) rfl rfl rfl k) ?_
  show Go _ _ _ _ _ _ _ _ (mkF m 65 #[Sr a0, Si i1, Sd 4607182418800017408, .second, Si ix] [(.int 1), (.ref a0), (.int 1)])
  refine Go.on (fun _ k => XS.iconst X7.here hx rfl (hb hby d3_65) k) ?_
  refine Go.on (fun _ k => XS.iadd X7.here hx rfl (hb hby d3_66) rfl k) ?_
  show Go _ _ _ _ _ _ _ _ (mkF m 67 #[Sr a0, Si i1, Sd 4607182418800017408, .second, Si ix] [(.int 2), (.ref a0), (.int 1)])
  obtain ⟨T8, h8, X8, e8, W8, st8⟩ := putF X7 hx hZ hown (host := "") (Or.inl (hw _ (List.mem_of_getElem? (i := 30) rfl))) Via.refl e7 F_length_a0 E_a0 (Or.inl (hw _ (List.mem_of_getElem? (i := 31) rfl))) (hw _ (List.mem_of_getElem? (i := 2) rfl)) (ty := .int) (by decide) rfl rfl (g := (mkF m 67 #[Sr a0, Si i1, Sd 4607182418800017408, .second, Si ix] [(.int 2), (.ref a0), (.int 1)])) rfl rfl (hb hby d3_67)
  refine Go.on st8 ?_
  replace F_length_a0 := F_length_a0.same W8
  replace E_a0 := E_a0.wr W8
  replace F_members_a0 := F_members_a0.other W8 (Or.inr (slot_ne (Or.inl (hw _ (List.mem_of_getElem? (i := 12) rfl))) (Or.inl (hw _ (List.mem_of_getElem? (i := 31) rfl))) (by decide) (t := (.array .int)) (t' := .int) (by decide) (by decide)))
  replace F_weights_a0 := F_weights_a0.other W8 (Or.inr (slot_ne (Or.inl (hw _ (List.mem_of_getElem? (i := 15) rfl))) (Or.inl (hw _ (List.mem_of_getElem? (i := 31) rfl))) (by decide) (t := (.array .double)) (t' := .int) (by decide) (by decide)))
  replace F_exact_a0 := F_exact_a0.other W8 (Or.inr (slot_ne (Or.inl (hw _ (List.mem_of_getElem? (i := 17) rfl))) (Or.inl (hw _ (List.mem_of_getElem? (i := 31) rfl))) (by decide) (t := .boolean) (t' := .int) (by decide) (by decide)))
  replace F_slots_a0 := F_slots_a0.other W8 (Or.inr (slot_ne (Or.inl (hw _ (List.mem_of_getElem? (i := 29) rfl))) (Or.inl (hw _ (List.mem_of_getElem? (i := 31) rfl))) (by decide) (t := (.array .int)) (t' := .int) (by decide) (by decide)))
  replace F_fingerprint_a0 := F_fingerprint_a0.other W8 (Or.inr (slot_ne (Or.inl (hw _ (List.mem_of_getElem? (i := 33) rfl))) (Or.inl (hw _ (List.mem_of_getElem? (i := 31) rfl))) (by decide) (t := .long) (t' := .int) (by decide) (by decide)))
  replace F_history_a0 := F_history_a0.other W8 (Or.inr (slot_ne (Or.inl (hw _ (List.mem_of_getElem? (i := 52) rfl))) (Or.inl (hw _ (List.mem_of_getElem? (i := 31) rfl))) (by decide) (t := (.object "com/example/due_weight/dueweight/core/Pairs$History")) (t' := .int) (by decide) (by decide)))
  replace F_shift_a0 := F_shift_a0.other W8 (Or.inr (slot_ne (Or.inl (hw _ (List.mem_of_getElem? (i := 86) rfl))) (Or.inl (hw _ (List.mem_of_getElem? (i := 31) rfl))) (by decide) (t := .int) (t' := .int) (by decide) (by decide)))
  replace V_am := V_am.other W8 (Ne.symm ne_a0_am)
  replace V_wa := V_wa.other W8 (Ne.symm ne_a0_wa)
  have N8 := Fr.snoc X8 N1 g_a0
  replace ZZ := Nat.le_trans ZZ (Keep.of_wr W8).1
  replace KP := KP.wr W8 (Or.inl (List.mem_of_getElem? (i := 0) rfl))
  show Go _ _ _ _ _ _ _ _ (mkF m 70 #[Sr a0, Si i1, Sd 4607182418800017408, .second, Si ix] [(.int 1)])
  refine Go.on (fun _ k => XS.istore X8.here hx rfl (hb hby d3_70) rfl (l' := #[.val (.ref a0), .val (.int i1), .val (.double (4607182418800017408 : UInt64)), .second, .val (.int (1 : Int32))]) rfl k) ?_
  show Go _ _ _ _ _ _ _ _ (mkF m 72 #[Sr a0, Si i1, Sd 4607182418800017408, .second, Si 1] [])
  refine Go.on (fun _ k => XS.aloadN X8.here hx rfl (hb hby d3_72) rfl rfl k) ?_
  show Go _ _ _ _ _ _ _ _ (mkF m 73 #[Sr a0, Si i1, Sd 4607182418800017408, .second, Si 1] [(.ref a0)])
  obtain ⟨T9, X9, e9, st9⟩ := getF X8 hx hZ hown (host := "") (Or.inl (hw _ (List.mem_of_getElem? (i := 11) rfl))) Via.refl e8 F_members_a0 (g := (mkF m 73 #[Sr a0, Si i1, Sd 4607182418800017408, .second, Si 1] [(.ref a0)])) rfl rfl (hb hby d3_73)
  refine Go.on st9 ?_
  show Go _ _ _ _ _ _ _ _ (mkF m 76 #[Sr a0, Si i1, Sd 4607182418800017408, .second, Si 1] [(.ref am)])
  refine Go.on (fun _ k => XS.iload X9.here hx rfl (hb hby d3_76) rfl k) ?_
  refine Go.on (fun _ k => XS.iloadN X9.here hx rfl (hb hby d3_78) rfl k) ?_
  show Go _ _ _ _ _ _ _ _ (mkF m 79 #[Sr a0, Si i1, Sd 4607182418800017408, .second, Si 1] [(.int i1), (.int 1), (.ref am)])
  obtain ⟨cl10, Ar10, q10, S10, N10n, H10, G10⟩ := id V_am
  have hin10 : ¬ ((1 : Int32) < 0 ∨ cl10.slots.size ≤ ((1 : Int32)).toNatClampNeg) := inb_of S10 ⟨by decide, by decide⟩
  obtain ⟨T10, h10, X10, e10, W10, st10⟩ := stI X9 hx hZ e9 Ar10 (j := (1 : Int32)) hin10 (g := (mkF m 79 #[Sr a0, Si i1, Sd 4607182418800017408, .second, Si 1] [(.int i1), (.int 1), (.ref am)])) rfl rfl (hb hby d3_79)
  replace V_am := Arv.set Ar10 q10 S10 N10n H10 G10 rfl W10 1 rfl (Nat.le_of_ble_eq_true rfl)
  replace E_a0 := E_a0.wr W10
  replace F_members_a0 := F_members_a0.other W10 (Or.inl ne_a0_am)
  replace F_weights_a0 := F_weights_a0.other W10 (Or.inl ne_a0_am)
  replace F_exact_a0 := F_exact_a0.other W10 (Or.inl ne_a0_am)
  replace F_slots_a0 := F_slots_a0.other W10 (Or.inl ne_a0_am)
  replace F_length_a0 := F_length_a0.other W10 (Or.inl ne_a0_am)
  replace F_fingerprint_a0 := F_fingerprint_a0.other W10 (Or.inl ne_a0_am)
  replace F_history_a0 := F_history_a0.other W10 (Or.inl ne_a0_am)
  replace F_shift_a0 := F_shift_a0.other W10 (Or.inl ne_a0_am)
  replace V_wa := V_wa.other W10 (Ne.symm ne_am_wa)
  refine Go.on st10 ?_
  have N10 := Fr.snoc X10 N8 g_am
  replace ZZ := Nat.le_trans ZZ (Keep.of_wr W10).1
  replace KP := KP.wr W10 (Or.inl (List.mem_of_getElem? (i := 1) rfl))
  change Arv Z h10 am k_am .int (2 : Int32) [(.int m0), (.int i1)] (.int (0 : Int32)) at V_am
  show Go _ _ _ _ _ _ _ _ (mkF m 80 #[Sr a0, Si i1, Sd 4607182418800017408, .second, Si 1] [])
  refine Go.on (fun _ k => XS.aloadN X10.here hx rfl (hb hby d3_80) rfl rfl k) ?_
  show Go _ _ _ _ _ _ _ _ (mkF m 81 #[Sr a0, Si i1, Sd 4607182418800017408, .second, Si 1] [(.ref a0)])
  obtain ⟨T11, X11, e11, st11⟩ := getF X10 hx hZ hown (host := "") (Or.inl (hw _ (List.mem_of_getElem? (i := 14) rfl))) Via.refl e10 F_weights_a0 (g := (mkF m 81 #[Sr a0, Si i1, Sd 4607182418800017408, .second, Si 1] [(.ref a0)])) rfl rfl (hb hby d3_81)
  refine Go.on st11 ?_
  show Go _ _ _ _ _ _ _ _ (mkF m 84 #[Sr a0, Si i1, Sd 4607182418800017408, .second, Si 1] [(.ref wa)])
  refine Go.on (fun _ k => XS.iload X11.here hx rfl (hb hby d3_84) rfl k) ?_
  refine Go.on (fun _ k => XS.dloadN X11.here hx rfl (hb hby d3_86) rfl k) ?_
  show Go _ _ _ _ _ _ _ _ (mkF m 87 #[Sr a0, Si i1, Sd 4607182418800017408, .second, Si 1] [(.double 4607182418800017408), (.int 1), (.ref wa)])
  obtain ⟨cl12, Ar12, q12, S12, N12n, H12, G12⟩ := id V_wa
  have hin12 : ¬ ((1 : Int32) < 0 ∨ cl12.slots.size ≤ ((1 : Int32)).toNatClampNeg) := inb_of S12 ⟨by decide, by decide⟩
  obtain ⟨T12, h12, X12, e12, W12, st12⟩ := stD X11 hx hZ e11 Ar12 (j := (1 : Int32)) hin12 (g := (mkF m 87 #[Sr a0, Si i1, Sd 4607182418800017408, .second, Si 1] [(.double 4607182418800017408), (.int 1), (.ref wa)])) rfl rfl (hb hby d3_87)
  replace V_wa := Arv.set Ar12 q12 S12 N12n H12 G12 rfl W12 1 rfl (Nat.le_of_ble_eq_true rfl)
  replace E_a0 := E_a0.wr W12
  replace F_members_a0 := F_members_a0.other W12 (Or.inl ne_a0_wa)
  replace F_weights_a0 := F_weights_a0.other W12 (Or.inl ne_a0_wa)
  replace F_exact_a0 := F_exact_a0.other W12 (Or.inl ne_a0_wa)
  replace F_slots_a0 := F_slots_a0.other W12 (Or.inl ne_a0_wa)
  replace F_length_a0 := F_length_a0.other W12 (Or.inl ne_a0_wa)
  replace F_fingerprint_a0 := F_fingerprint_a0.other W12 (Or.inl ne_a0_wa)
  replace F_history_a0 := F_history_a0.other W12 (Or.inl ne_a0_wa)
  replace F_shift_a0 := F_shift_a0.other W12 (Or.inl ne_a0_wa)
  replace V_am := V_am.other W12 ne_am_wa
  refine Go.on st12 ?_
  have N12 := Fr.snoc X12 N10 g_wa
  replace ZZ := Nat.le_trans ZZ (Keep.of_wr W12).1
  replace KP := KP.wr W12 (Or.inl (List.mem_of_getElem? (i := 2) rfl))
  change Arv Z h12 wa k_wa .double (2 : Int32) [(.double (4607182418800017408 : UInt64)), (.double (4607182418800017408 : UInt64))] (.double (0 : UInt64)) at V_wa
  show Go _ _ _ _ _ _ _ _ (mkF m 88 #[Sr a0, Si i1, Sd 4607182418800017408, .second, Si 1] [])
  refine Go.on (fun _ k => XS.aloadN X12.here hx rfl (hb hby d3_88) rfl rfl k) ?_
  show Go _ _ _ _ _ _ _ _ (mkF m 89 #[Sr a0, Si i1, Sd 4607182418800017408, .second, Si 1] [(.ref a0)])
  obtain ⟨T13, X13, e13, st13⟩ := getF X12 hx hZ hown (host := "") (Or.inl (hw _ (List.mem_of_getElem? (i := 28) rfl))) Via.refl e12 F_slots_a0 (g := (mkF m 89 #[Sr a0, Si i1, Sd 4607182418800017408, .second, Si 1] [(.ref a0)])) rfl rfl (hb hby d3_89)
  refine Go.on st13 ?_
  show Go _ _ _ _ _ _ _ _ (mkF m 92 #[Sr a0, Si i1, Sd 4607182418800017408, .second, Si 1] [.null])
  refine Go.on (fun _ k => XS.ifnullYes X13.here hx rfl (pc0 := 92) (pc' := 118) rfl (hb hby d3_92) rfl (by decide) (by decide) k) ?_
  show Go _ _ _ _ _ _ _ _ (mkF m 118 #[Sr a0, Si i1, Sd 4607182418800017408, .second, Si 1] [])
  refine Go.on (fun _ k => XS.aloadN X13.here hx rfl (hb hby d3_118) rfl rfl k) ?_
  show Go _ _ _ _ _ _ _ _ (mkF m 119 #[Sr a0, Si i1, Sd 4607182418800017408, .second, Si 1] [(.ref a0)])
  obtain ⟨T14, X14, e14, st14⟩ := getF X13 hx hZ hown (host := "") (Or.inl (hw _ (List.mem_of_getElem? (i := 30) rfl))) Via.refl e13 F_length_a0 (g := (mkF m 119 #[Sr a0, Si i1, Sd 4607182418800017408, .second, Si 1] [(.ref a0)])) rfl rfl (hb hby d3_119)
  refine Go.on st14 ?_
  show Go _ _ _ _ _ _ _ _ (mkF m 122 #[Sr a0, Si i1, Sd 4607182418800017408, .second, Si 1] [(.int 2)])
  refine Go.on (fun _ k => XS.bipush X14.here hx rfl (hb hby d3_122) k) ?_
  show Go _ _ _ _ _ _ _ _ (mkF m 124 #[Sr a0, Si i1, Sd 4607182418800017408, .second, Si 1] [(.int 8), (.int 2)])
  have hc15 : ¬ ((8 : Int32) < (2 : Int32)) := by decide
  refine Go.on (fun _ k => XS.icmpYes X14.here hx rfl (pc0 := 124) (pc' := 215) rfl (hb hby d3_124) rfl (flt hc15).2.2.2 (by decide) (by decide) k) ?_
  refine Go.on (fun _ k => XS.aloadN X14.here hx rfl (hb hby d3_215) rfl rfl k) ?_
  refine Go.on (fun _ k => XS.dup X14.here hx rfl (hb hby d3_216) rfl rfl k) ?_
  show Go _ _ _ _ _ _ _ _ (mkF m 217 #[Sr a0, Si i1, Sd 4607182418800017408, .second, Si 1] [(.ref a0), (.ref a0)])
  obtain ⟨T16, X16, e16, st16⟩ := getF X14 hx hZ hown (host := "") (Or.inl (hw _ (List.mem_of_getElem? (i := 32) rfl))) Via.refl e14 F_fingerprint_a0 (g := (mkF m 217 #[Sr a0, Si i1, Sd 4607182418800017408, .second, Si 1] [(.ref a0), (.ref a0)])) rfl rfl (hb hby d3_217)
  refine Go.on st16 ?_
  show Go _ _ _ _ _ _ _ _ (mkF m 220 #[Sr a0, Si i1, Sd 4607182418800017408, .second, Si 1] [(.long fp0), (.ref a0)])
  refine Go.on (fun _ k => XS.iloadN X16.here hx rfl (hb hby d3_220) rfl k) ?_
  refine Go.on (fun _ k => XS.aloadN X16.here hx rfl (hb hby d3_221) rfl rfl k) ?_
  show Go _ _ _ _ _ _ _ _ (mkF m 222 #[Sr a0, Si i1, Sd 4607182418800017408, .second, Si 1] [(.ref a0), (.int i1), (.long fp0), (.ref a0)])
  obtain ⟨T17, X17, e17, st17⟩ := getF X16 hx hZ hown (host := "") (Or.inl (hw _ (List.mem_of_getElem? (i := 14) rfl))) Via.refl e16 F_weights_a0 (g := (mkF m 222 #[Sr a0, Si i1, Sd 4607182418800017408, .second, Si 1] [(.ref a0), (.int i1), (.long fp0), (.ref a0)])) rfl rfl (hb hby d3_222)
  refine Go.on st17 ?_
  show Go _ _ _ _ _ _ _ _ (mkF m 225 #[Sr a0, Si i1, Sd 4607182418800017408, .second, Si 1] [(.ref wa), (.int i1), (.long fp0), (.ref a0)])
  refine Go.on (fun _ k => XS.iload X17.here hx rfl (hb hby d3_225) rfl k) ?_
  show Go _ _ _ _ _ _ _ _ (mkF m 227 #[Sr a0, Si i1, Sd 4607182418800017408, .second, Si 1] [(.int 1), (.ref wa), (.int i1), (.long fp0), (.ref a0)])
  obtain ⟨cl18, Ar18, -, S18, -, H18, -⟩ := id V_wa
  have hin18 : ¬ ((1 : Int32) < 0 ∨ cl18.slots.size ≤ ((1 : Int32)).toNatClampNeg) := inb_of S18 ⟨by decide, by decide⟩
  refine Go.on (X17.daload hx (j := (1 : Int32)) (v := (.double (4607182418800017408 : UInt64))) (by rw [e17]; exact Ar18.1) (State.isArrayOf_alike hZ.alike Ar18.2.1) Ar18.2.2 hin18 (H18.at hin18 (rfl)) (g := (mkF m 227 #[Sr a0, Si i1, Sd 4607182418800017408, .second, Si 1] [(.int 1), (.ref wa), (.int i1), (.long fp0), (.ref a0)])) rfl rfl (hb hby d3_227)) ?_
  show Go _ _ _ _ _ _ _ _ (mkF m 228 #[Sr a0, Si i1, Sd 4607182418800017408, .second, Si 1] [(.double 4607182418800017408), (.int i1), (.long fp0), (.ref a0)])
  obtain ⟨_, _, ⟨T19, L19, k19, n19⟩, -, X19, ⟨Lc19, hQ19, l19, y19, z19⟩, st19⟩ := Jvm.LawKit.callS X17 hx (y := (⟨"com/example/due_weight/dueweight/core/Pairs", "fingerprint", "(ID)J"⟩ : MethodName)) hown (mvT hZ (hw _ (List.mem_of_getElem? (i := 34) rfl))) (mvT hZ (hw _ (List.mem_of_getElem? (i := 35) rfl))) (mvT hZ (hw _ (List.mem_of_getElem? (i := 3) rfl))) (mvT hZ (hw _ (List.mem_of_getElem? (i := 36) rfl))) (by decide) (backOf (W := 3) (rm5 l Z aw hw [] i1 (4607182418800017408 : UInt64)  h12 n0 ZZ (by decide +kernel)) hZ (hw _ (List.mem_of_getElem? (i := 36) rfl)) (hw _ (List.mem_of_getElem? (i := 3) rfl)) (by decide) (by decide)) (g := (mkF m 228 #[Sr a0, Si i1, Sd 4607182418800017408, .second, Si 1] [(.double 4607182418800017408), (.int i1), (.long fp0), (.ref a0)])) rfl (by rw [hml]; rfl) (argsL := [(.int i1), (.double (4607182418800017408 : UInt64))]) (rest := [(.long fp0), (.ref a0)]) (lenOf pd_5 rfl) rfl (by show 2 * 0 + _ ≤ _; exact Nat.le_of_eq rfl) (hb hby d3_228) (fun _ _ => ⟨rfl, e17, (by decide : 0 + 0 ≤ _), (by decide : 0 + 0 ≤ _)⟩)
  dsimp only [Pt.U, Pt.locs, Pt.cells, Pt.slots] at X19 l19 y19 z19 st19 hQ19
  subst l19 y19 z19
  obtain ⟨rfl, N19q, e19⟩ := hQ19
  have N19 := Fr.app N12 N19q
  refine Go.on st19 ?_
  show Go _ _ _ _ _ _ _ _ (mkF m 231 #[Sr a0, Si i1, Sd 4607182418800017408, .second, Si 1] [(.long (mixV ((mixV ((4607182418800017408 : UInt64).toInt64)) + (i1.toInt64)))), (.long fp0), (.ref a0)])
  generalize hfv : (mixV ((mixV ((4607182418800017408 : UInt64).toInt64)) + (i1.toInt64))) = fv
  show Go _ _ _ _ _ _ _ _ (mkF m 231 #[Sr a0, Si i1, Sd 4607182418800017408, .second, Si 1] [(.long fv), (.long fp0), (.ref a0)])
  refine Go.on (fun _ k => XS.ladd X19.here hx rfl (hb hby d3_231) rfl k) ?_
  show Go _ _ _ _ _ _ _ _ (mkF m 232 #[Sr a0, Si i1, Sd 4607182418800017408, .second, Si 1] [(.long (fp0 + fv)), (.ref a0)])
  obtain ⟨T20, h20, X20, e20, W20, st20⟩ := putF X19 hx hZ hown (host := "") (Or.inl (hw _ (List.mem_of_getElem? (i := 32) rfl))) Via.refl e19 F_fingerprint_a0 E_a0 (Or.inl (hw _ (List.mem_of_getElem? (i := 33) rfl))) (hw _ (List.mem_of_getElem? (i := 2) rfl)) (ty := .long) (by decide) rfl rfl (g := (mkF m 232 #[Sr a0, Si i1, Sd 4607182418800017408, .second, Si 1] [(.long (fp0 + fv)), (.ref a0)])) rfl rfl (hb hby d3_232)
  refine Go.on st20 ?_
  replace F_fingerprint_a0 := F_fingerprint_a0.same W20
  replace E_a0 := E_a0.wr W20
  replace F_members_a0 := F_members_a0.other W20 (Or.inr (slot_ne (Or.inl (hw _ (List.mem_of_getElem? (i := 12) rfl))) (Or.inl (hw _ (List.mem_of_getElem? (i := 33) rfl))) (by decide) (t := (.array .int)) (t' := .long) (by decide) (by decide)))
  replace F_weights_a0 := F_weights_a0.other W20 (Or.inr (slot_ne (Or.inl (hw _ (List.mem_of_getElem? (i := 15) rfl))) (Or.inl (hw _ (List.mem_of_getElem? (i := 33) rfl))) (by decide) (t := (.array .double)) (t' := .long) (by decide) (by decide)))
  replace F_exact_a0 := F_exact_a0.other W20 (Or.inr (slot_ne (Or.inl (hw _ (List.mem_of_getElem? (i := 17) rfl))) (Or.inl (hw _ (List.mem_of_getElem? (i := 33) rfl))) (by decide) (t := .boolean) (t' := .long) (by decide) (by decide)))
  replace F_slots_a0 := F_slots_a0.other W20 (Or.inr (slot_ne (Or.inl (hw _ (List.mem_of_getElem? (i := 29) rfl))) (Or.inl (hw _ (List.mem_of_getElem? (i := 33) rfl))) (by decide) (t := (.array .int)) (t' := .long) (by decide) (by decide)))
  replace F_length_a0 := F_length_a0.other W20 (Or.inr (slot_ne (Or.inl (hw _ (List.mem_of_getElem? (i := 31) rfl))) (Or.inl (hw _ (List.mem_of_getElem? (i := 33) rfl))) (by decide) (t := .int) (t' := .long) (by decide) (by decide)))
  replace F_history_a0 := F_history_a0.other W20 (Or.inr (slot_ne (Or.inl (hw _ (List.mem_of_getElem? (i := 52) rfl))) (Or.inl (hw _ (List.mem_of_getElem? (i := 33) rfl))) (by decide) (t := (.object "com/example/due_weight/dueweight/core/Pairs$History")) (t' := .long) (by decide) (by decide)))
  replace F_shift_a0 := F_shift_a0.other W20 (Or.inr (slot_ne (Or.inl (hw _ (List.mem_of_getElem? (i := 86) rfl))) (Or.inl (hw _ (List.mem_of_getElem? (i := 33) rfl))) (by decide) (t := .int) (t' := .long) (by decide) (by decide)))
  replace V_am := V_am.other W20 (Ne.symm ne_a0_am)
  replace V_wa := V_wa.other W20 (Ne.symm ne_a0_wa)
  have N20 := Fr.snoc X20 N19 g_a0
  replace ZZ := Nat.le_trans ZZ (Keep.of_wr W20).1
  replace KP := KP.wr W20 (Or.inl (List.mem_of_getElem? (i := 0) rfl))
  show Go _ _ _ _ _ _ _ _ (mkF m 235 #[Sr a0, Si i1, Sd 4607182418800017408, .second, Si 1] [])
  refine Go.on (fun _ k => XS.aloadN X20.here hx rfl (hb hby d3_235) rfl rfl k) ?_
  show Go _ _ _ _ _ _ _ _ (mkF m 236 #[Sr a0, Si i1, Sd 4607182418800017408, .second, Si 1] [(.ref a0)])
  obtain ⟨T21, X21, e21, st21⟩ := getF X20 hx hZ hown (host := "") (Or.inl (hw _ (List.mem_of_getElem? (i := 51) rfl))) Via.refl e20 F_history_a0 (g := (mkF m 236 #[Sr a0, Si i1, Sd 4607182418800017408, .second, Si 1] [(.ref a0)])) rfl rfl (hb hby d3_236)
  refine Go.on st21 ?_
  show Go _ _ _ _ _ _ _ _ (mkF m 239 #[Sr a0, Si i1, Sd 4607182418800017408, .second, Si 1] [.null])
  refine Go.on (fun _ k => XS.ifnullYes X21.here hx rfl (pc0 := 239) (pc' := 255) rfl (hb hby d3_239) rfl (by decide) (by decide) k) ?_
  show Go _ _ _ _ _ _ _ _ (mkF m 255 #[Sr a0, Si i1, Sd 4607182418800017408, .second, Si 1] [])
  refine Go.on (fun _ k => XS.iload X21.here hx rfl (hb hby d3_255) rfl k) ?_
  show Go _ _ _ _ _ _ _ _ (mkF m 257 #[Sr a0, Si i1, Sd 4607182418800017408, .second, Si 1] [(.int 1)])
  refine Go.retV X21 hx Bd.returns rfl (Or.inl ⟨rfl, Or.inl rfl, _, rfl⟩) (hb hby d3_257) ?_ (by rw [hK1]; decide) (by rw [hK2]; decide)
  rw [e21, ← hQQ]
  exact ⟨am, wa, k_am, k_wa, _, rfl, N20, KP, E_a0, F_members_a0, F_weights_a0, F_exact_a0, F_slots_a0, F_length_a0, F_fingerprint_a0, F_history_a0, F_shift_a0, V_am, V_wa, g_am, g_wa, ne_a0_am, ne_a0_wa, ne_am_wa⟩
theorem pd_6 : parseMethodDescriptor "([II)[I" = some ⟨[(.array .int), .int], some (.array .int)⟩ := by decide +kernel
theorem pd_7 : parseMethodDescriptor "([DI)[D" = some ⟨[(.array .double), .int], some (.array .double)⟩ := by decide +kernel
theorem d3_24 : decode prog_21_method_7_code 24 = .ok (.aload_n 0, 1) := by decide +kernel
theorem d3_25 : decode prog_21_method_7_code 25 = .ok (.aload_n 0, 1) := by decide +kernel
theorem d3_26 : decode prog_21_method_7_code 26 = .ok (.getfield 7, 3) := by decide +kernel
theorem d3_29 : decode prog_21_method_7_code 29 = .ok (.aload_n 0, 1) := by decide +kernel
theorem d3_30 : decode prog_21_method_7_code 30 = .ok (.getfield 21, 3) := by decide +kernel
theorem d3_33 : decode prog_21_method_7_code 33 = .ok (.iconst 2, 1) := by decide +kernel
theorem d3_34 : decode prog_21_method_7_code 34 = .ok (.invokestatic 36, 3) := by decide +kernel
theorem d3_37 : decode prog_21_method_7_code 37 = .ok (.invokestatic 42, 3) := by decide +kernel
theorem d3_40 : decode prog_21_method_7_code 40 = .ok (.putfield 7, 3) := by decide +kernel
theorem d3_43 : decode prog_21_method_7_code 43 = .ok (.aload_n 0, 1) := by decide +kernel
theorem d3_44 : decode prog_21_method_7_code 44 = .ok (.aload_n 0, 1) := by decide +kernel
theorem d3_45 : decode prog_21_method_7_code 45 = .ok (.getfield 13, 3) := by decide +kernel
theorem d3_48 : decode prog_21_method_7_code 48 = .ok (.aload_n 0, 1) := by decide +kernel
theorem d3_49 : decode prog_21_method_7_code 49 = .ok (.getfield 7, 3) := by decide +kernel
theorem d3_52 : decode prog_21_method_7_code 52 = .ok (.arraylength, 1) := by decide +kernel
theorem d3_53 : decode prog_21_method_7_code 53 = .ok (.invokestatic 48, 3) := by decide +kernel
theorem d3_56 : decode prog_21_method_7_code 56 = .ok (.putfield 13, 3) := by decide +kernel
theorem ef_add_2 (m : MethodId) (a0 : Addr) (i1 : Int32) : entryFrame m #[(.ref a0), (.int i1), (.double (4607182418800017408 : UInt64))] 5 = mkF m 0 #[.val (.ref a0), .val (.int i1), .val (.double (4607182418800017408 : UInt64)), .second, .unset] [] := by first | (simp [entryFrame, mkF, argsToLocals, Value.category]; done) | rfl
def Q_add_2 (Z : State) (a0 : Addr) (i1 : Int32) (am : Addr) (wa : Addr) (fp0 : Int64) (k_am : ClassId) (m0 : Int32) (m1 : Int32) (k_wa : ClassId) (h0 : Heap) (n0 : Nat) (v : Option Value) (h : Heap) (L : List Loc) : Prop := ∃ (mb wb : Addr) (k_mb k_wb : ClassId) (fq : Int64), v = some (.int (2 : Int32)) ∧ Fr n0 L ∧ Keep h0 h [a0, am, wa] ∧ Exa Z h a0 "com/example/due_weight/dueweight/core/Pairs" ∧ Fld Z h a0 "com/example/due_weight/dueweight/core/Pairs" "members" "[I" (.ref mb) ∧ Fld Z h a0 "com/example/due_weight/dueweight/core/Pairs" "weights" "[D" (.ref wb) ∧ Fld Z h a0 "com/example/due_weight/dueweight/core/Pairs" "exact" "Z" (.int (1 : Int32)) ∧ Fld Z h a0 "com/example/due_weight/dueweight/core/Pairs" "slots" "[I" .null ∧ Fld Z h a0 "com/example/due_weight/dueweight/core/Pairs" "length" "I" (.int (3 : Int32)) ∧ Fld Z h a0 "com/example/due_weight/dueweight/core/Pairs" "fingerprint" "J" (.long fq) ∧ Fld Z h a0 "com/example/due_weight/dueweight/core/Pairs" "history" "Lcom/example/due_weight/dueweight/core/Pairs$History;" .null ∧ Fld Z h a0 "com/example/due_weight/dueweight/core/Pairs" "shift" "I" (.int (0 : Int32)) ∧ Arv Z h mb k_mb .int (4 : Int32) [(.int m0), (.int m1), (.int i1), (.int (0 : Int32))] (.int (0 : Int32)) ∧ Arv Z h wb k_wb .double (4 : Int32) [(.double (4607182418800017408 : UInt64)), (.double (4607182418800017408 : UInt64)), (.double (4607182418800017408 : UInt64)), (.double (0 : UInt64))] (.double (0 : UInt64)) ∧ n0 ≤ mb ∧ n0 ≤ wb ∧ a0 ≠ mb ∧ a0 ≠ wb ∧ mb ≠ wb
set_option maxRecDepth 65536 in
set_option maxHeartbeats 40000000 in
theorem add_2 (l : Launch) (Z : State) (aw : Array Value) (hw : ∀ d ∈ tables_1, d.before aw Z = true) (ws : List Jvm.Cond) (a0 : Addr) (i1 : Int32) (am : Addr) (wa : Addr) (fp0 : Int64) (k_am : ClassId) (m0 : Int32) (m1 : Int32) (k_wa : ClassId) (h0 : Heap) (n0 : Nat) (Z0 : n0 ≤ h0.size) (E_a0 : Exa Z h0 a0 "com/example/due_weight/dueweight/core/Pairs") (F_members_a0 : Fld Z h0 a0 "com/example/due_weight/dueweight/core/Pairs" "members" "[I" (.ref am)) (F_weights_a0 : Fld Z h0 a0 "com/example/due_weight/dueweight/core/Pairs" "weights" "[D" (.ref wa)) (F_exact_a0 : Fld Z h0 a0 "com/example/due_weight/dueweight/core/Pairs" "exact" "Z" (.int (1 : Int32))) (F_slots_a0 : Fld Z h0 a0 "com/example/due_weight/dueweight/core/Pairs" "slots" "[I" .null) (F_length_a0 : Fld Z h0 a0 "com/example/due_weight/dueweight/core/Pairs" "length" "I" (.int (2 : Int32))) (F_fingerprint_a0 : Fld Z h0 a0 "com/example/due_weight/dueweight/core/Pairs" "fingerprint" "J" (.long fp0)) (F_history_a0 : Fld Z h0 a0 "com/example/due_weight/dueweight/core/Pairs" "history" "Lcom/example/due_weight/dueweight/core/Pairs$History;" .null) (F_shift_a0 : Fld Z h0 a0 "com/example/due_weight/dueweight/core/Pairs" "shift" "I" (.int (0 : Int32))) (V_am : Arv Z h0 am k_am .int (2 : Int32) [(.int m0), (.int m1)] (.int (0 : Int32))) (V_wa : Arv Z h0 wa k_wa .double (2 : Int32) [(.double (4607182418800017408 : UInt64)), (.double (4607182418800017408 : UInt64))] (.double (0 : UInt64))) (g_a0 : n0 ≤ a0) (g_am : n0 ≤ am) (g_wa : n0 ≤ wa) (ne_a0_am : a0 ≠ am) (ne_a0_wa : a0 ≠ wa) (ne_am_wa : am ≠ wa) (hne0 : ¬ (m0 = i1)) (hne1 : ¬ (m1 = i1)) :
    MetFree l (⟨"com/example/due_weight/dueweight/core/Pairs", "add", "(ID)I"⟩ : MethodName) (head1 (Jvm.Cond.code (⟨"com/example/due_weight/dueweight/core/Pairs", "add", "(ID)I"⟩ : MethodName) prog_21_method_7_code 5 (some .int) :: ws) ({ frames := 3, cells := 2, slots := 8, locals := 45 } : Room)) (fun a U => a = #[(.ref a0), (.int i1), (.double (4607182418800017408 : UInt64))] ∧ Z.Warmed39 U.vm ∧ U.heap = h0) (fun _ _ _ _ _ => True) (fun _ U o U' => ∃ v L, o = .returned v ∧ Q_add_2 Z a0 i1 am wa fp0 k_am m0 m1 k_wa h0 n0 v U'.heap L ∧ FrameEnd U o U' L ({ frames := 3, cells := 2, slots := 8, locals := 45 } : Room).cells ({ frames := 3, cells := 2, slots := 8, locals := 45 } : Room).slots) := by
  refine MetFree.of_bodySF (plainFor_of_name pn_0) hisR ?_
  intro p e s m args below meth c s₁ Bd hml0 hP hK
  obtain ⟨rfl, hZ, hh⟩ := hP
  have hx := Bd.exec
  have hby := Bd.bytes
  have hml : c.maxLocals = 5 := hml0
  have hown : s.vm.findClass "com/example/due_weight/dueweight/core/Pairs" = some m.cls := findClass_of_methodNamed Bd.named
  have hnm := (name_of_methodNamed Bd.named Bd.method).1
  have hlk : meth.locks = false := BodyLoose.notSynchronized Bd
  have X0 : Stand p l e ({ frames := 3, cells := 2, slots := 8, locals := 45 } : Room) s m #[(.ref a0), (.int i1), (.double (4607182418800017408 : UInt64))] below meth c s₁ [] 0 0 := Stand.of_body Bd
  have e0 : s₁.heap = h0 := by rw [← hh, Bd.state]; rfl
  have N0 := Fr.nil n0
  have ZZ := Z0
  show Go p e below s ({ frames := 3, cells := 2, slots := 8, locals := 45 } : Room).cells ({ frames := 3, cells := 2, slots := 8, locals := 45 } : Room).slots (fun v h L => Q_add_2 Z a0 i1 am wa fp0 k_am m0 m1 k_wa h0 n0 v h L) s₁ (entryFrame m #[(.ref a0), (.int i1), (.double (4607182418800017408 : UInt64))] 5)
  refine Go.cast (ef_add_2 m a0 i1) ?_
  refine Go.gen ?_
  intro K1 K2 QQ hK1 hK2 hQQ
  have KP : Keep h0 h0 [a0, am, wa] := Keep.refl _ _
  refine Go.on (fun _ k => XS.aloadN X0.here hx rfl (hb hby d3_0) rfl rfl k) ?_
  refine Go.on (fun _ k => XS.iloadN X0.here hx rfl (hb hby d3_1) rfl k) ?_
  show Go _ _ _ _ _ _ _ _ (mkF m 2 #[Sr a0, Si i1, Sd 4607182418800017408, .second, .unset] [(.int i1), (.ref a0)])
  obtain ⟨cq1, kq1, q1a, q1b, q1c⟩ := isOf hZ e0 E_a0
  obtain ⟨_, _, ⟨T1, L1, k1, n1⟩, -, X1, ⟨Lc1, hQ1, l1, y1, z1⟩, st1⟩ := X0.virtualBack hx (y := (⟨"com/example/due_weight/dueweight/core/Pairs", "indexOf", "(I)I"⟩ : MethodName)) (z := (⟨"com/example/due_weight/dueweight/core/Pairs", "indexOf", "(I)I"⟩ : MethodName)) hown (mvT hZ (hw _ (List.mem_of_getElem? (i := 23) rfl))) (mvT hZ (hw _ (List.mem_of_getElem? (i := 24) rfl))) (notFace_of_selects (args := #[]) (mvT hZ (hw _ (List.mem_of_getElem? (i := 26) rfl)))) (mvT hZ (hw _ (List.mem_of_getElem? (i := 26) rfl))) (mvT hZ (hw _ (List.mem_of_getElem? (i := 25) rfl))) (by decide) (backOf (W := 0) (ixl l Z aw hw [] a0 i1 [m0, m1] [] (2 : Int32) am k_am (2 : Int32) [(.int m0), (.int m1)] h0 n0 ZZ F_slots_a0 F_length_a0 F_members_a0 V_am rfl (by decide) rfl) hZ (hw _ (List.mem_of_getElem? (i := 27) rfl)) (hw _ (List.mem_of_getElem? (i := 3) rfl)) (by decide) (by decide)) q1a q1c (g := (mkF m 2 #[Sr a0, Si i1, Sd 4607182418800017408, .second, .unset] [(.int i1), (.ref a0)])) rfl (by rw [hml]; rfl) (Steps.refl _) (argsL := [(.int i1)]) (rest := []) (lenOf pd_4 rfl) rfl (by show 2 * 0 + _ ≤ _; exact Nat.le_of_eq rfl) (hb hby d3_2) (fun _ _ => ⟨rfl, e0, (by decide : 0 + 0 ≤ _), (by decide : 0 + 0 ≤ _)⟩)
  dsimp only [Pt.U, Pt.locs, Pt.cells, Pt.slots] at X1 l1 y1 z1 st1 hQ1
  subst l1 y1 z1
  obtain ⟨rfl, N1q, e1⟩ := hQ1
  have N1 := Fr.app N0 N1q
  refine Go.on (fun _ k => st1.trans k) ?_
  show Go _ _ _ _ _ _ _ _ (mkF m 5 #[Sr a0, Si i1, Sd 4607182418800017408, .second, .unset] [(.int (findL [m0, m1] i1 0))])
  generalize hix : (findL [m0, m1] i1 0) = ix
  show Go _ _ _ _ _ _ _ _ (mkF m 5 #[Sr a0, Si i1, Sd 4607182418800017408, .second, .unset] [(.int ix)])
  refine Go.on (fun _ k => XS.istore X1.here hx rfl (hb hby d3_5) rfl (l' := #[.val (.ref a0), .val (.int i1), .val (.double (4607182418800017408 : UInt64)), .second, .val (.int ix)]) rfl k) ?_
  show Go _ _ _ _ _ _ _ _ (mkF m 7 #[Sr a0, Si i1, Sd 4607182418800017408, .second, Si ix] [])
  refine Go.on (fun _ k => XS.iload X1.here hx rfl (hb hby d3_7) rfl k) ?_
  show Go _ _ _ _ _ _ _ _ (mkF m 9 #[Sr a0, Si i1, Sd 4607182418800017408, .second, Si ix] [(.int ix)])
  have hc2 : ix < (0 : Int32) := by rw [← hix]; simp only [findL, if_neg hne0, if_neg hne1]; decide
  refine Go.on (fun _ k => XS.ifNo X1.here hx rfl (hb hby d3_9) rfl ((if0 _ _).trans (tlt hc2).2.1) k) ?_
  refine Go.on (fun _ k => XS.aloadN X1.here hx rfl (hb hby d3_12) rfl rfl k) ?_
  show Go _ _ _ _ _ _ _ _ (mkF m 13 #[Sr a0, Si i1, Sd 4607182418800017408, .second, Si ix] [(.ref a0)])
  obtain ⟨T3, X3, e3, st3⟩ := getF X1 hx hZ hown (host := "") (Or.inl (hw _ (List.mem_of_getElem? (i := 30) rfl))) Via.refl e1 F_length_a0 (g := (mkF m 13 #[Sr a0, Si i1, Sd 4607182418800017408, .second, Si ix] [(.ref a0)])) rfl rfl (hb hby d3_13)
  refine Go.on st3 ?_
  show Go _ _ _ _ _ _ _ _ (mkF m 16 #[Sr a0, Si i1, Sd 4607182418800017408, .second, Si ix] [(.int 2)])
  refine Go.on (fun _ k => XS.aloadN X3.here hx rfl (hb hby d3_16) rfl rfl k) ?_
  show Go _ _ _ _ _ _ _ _ (mkF m 17 #[Sr a0, Si i1, Sd 4607182418800017408, .second, Si ix] [(.ref a0), (.int 2)])
  obtain ⟨T4, X4, e4, st4⟩ := getF X3 hx hZ hown (host := "") (Or.inl (hw _ (List.mem_of_getElem? (i := 11) rfl))) Via.refl e3 F_members_a0 (g := (mkF m 17 #[Sr a0, Si i1, Sd 4607182418800017408, .second, Si ix] [(.ref a0), (.int 2)])) rfl rfl (hb hby d3_17)
  refine Go.on st4 ?_
  show Go _ _ _ _ _ _ _ _ (mkF m 20 #[Sr a0, Si i1, Sd 4607182418800017408, .second, Si ix] [(.ref am), (.int 2)])
  obtain ⟨cl5, Ar5, -, S5, N5n, -, -⟩ := id V_am
  refine Go.on (X4.arraylength hx (by rw [e4]; exact Ar5.1) (State.isArrayOf_alike hZ.alike Ar5.2.1) (g := (mkF m 20 #[Sr a0, Si i1, Sd 4607182418800017408, .second, Si ix] [(.ref am), (.int 2)])) rfl rfl (hb hby d3_20)) ?_
  rw [len_of S5 N5n]
  show Go _ _ _ _ _ _ _ _ (mkF m 21 #[Sr a0, Si i1, Sd 4607182418800017408, .second, Si ix] [(.int 2), (.int 2)])
  have hc6 : (2 : Int32) = (2 : Int32) := by decide
  refine Go.on (fun _ k => XS.icmpNo X4.here hx rfl (hb hby d3_21) rfl (teq hc6).2 k) ?_
  refine Go.on (fun _ k => XS.aloadN X4.here hx rfl (hb hby d3_24) rfl rfl k) ?_
  refine Go.on (fun _ k => XS.aloadN X4.here hx rfl (hb hby d3_25) rfl rfl k) ?_
  show Go _ _ _ _ _ _ _ _ (mkF m 26 #[Sr a0, Si i1, Sd 4607182418800017408, .second, Si ix] [(.ref a0), (.ref a0)])
  obtain ⟨T7, X7, e7, st7⟩ := getF X4 hx hZ hown (host := "") (Or.inl (hw _ (List.mem_of_getElem? (i := 11) rfl))) Via.refl e4 F_members_a0 (g := (mkF m 26 #[Sr a0, Si i1, Sd 4607182418800017408, .second, Si ix] [(.ref a0), (.ref a0)])) rfl rfl (hb hby d3_26)
  refine Go.on st7 ?_
  show Go _ _ _ _ _ _ _ _ (mkF m 29 #[Sr a0, Si i1, Sd 4607182418800017408, .second, Si ix] [(.ref am), (.ref a0)])
  refine Go.on (fun _ k => XS.aloadN X7.here hx rfl (hb hby d3_29) rfl rfl k) ?_
  show Go _ _ _ _ _ _ _ _ (mkF m 30 #[Sr a0, Si i1, Sd 4607182418800017408, .second, Si ix] [(.ref a0), (.ref am), (.ref a0)])
  obtain ⟨T8, X8, e8, st8⟩ := getF X7 hx hZ hown (host := "") (Or.inl (hw _ (List.mem_of_getElem? (i := 30) rfl))) Via.refl e7 F_length_a0 (g := (mkF m 30 #[Sr a0, Si i1, Sd 4607182418800017408, .second, Si ix] [(.ref a0), (.ref am), (.ref a0)])) rfl rfl (hb hby d3_30)
  refine Go.on st8 ?_
  show Go _ _ _ _ _ _ _ _ (mkF m 33 #[Sr a0, Si i1, Sd 4607182418800017408, .second, Si ix] [(.int 2), (.ref am), (.ref a0)])
  refine Go.on (fun _ k => XS.iconst X8.here hx rfl (hb hby d3_33) k) ?_
  show Go _ _ _ _ _ _ _ _ (mkF m 34 #[Sr a0, Si i1, Sd 4607182418800017408, .second, Si ix] [(.int 2), (.int 2), (.ref am), (.ref a0)])
  obtain ⟨_, _, ⟨T9, L9, k9, n9⟩, -, X9, ⟨Lc9, hQ9, l9, y9, z9⟩, st9⟩ := Jvm.LawKit.callS X8 hx (y := (⟨"java/lang/Math", "multiplyExact", "(II)I"⟩ : MethodName)) hown (mvT hZ (hw _ (List.mem_of_getElem? (i := 58) rfl))) (mvT hZ (hw _ (List.mem_of_getElem? (i := 59) rfl))) (mvT hZ (hw _ (List.mem_of_getElem? (i := 60) rfl))) (mvT hZ (hw _ (List.mem_of_getElem? (i := 61) rfl))) (by decide) (backOf (W := 2) (mul_2 l Z aw hw []   h0 n0 ZZ ) hZ (hw _ (List.mem_of_getElem? (i := 61) rfl)) (hw _ (List.mem_of_getElem? (i := 60) rfl)) (by decide) (by decide)) (g := (mkF m 34 #[Sr a0, Si i1, Sd 4607182418800017408, .second, Si ix] [(.int 2), (.int 2), (.ref am), (.ref a0)])) rfl (by rw [hml]; rfl) (argsL := [(.int (2 : Int32)), (.int (2 : Int32))]) (rest := [(.ref am), (.ref a0)]) (lenOf pd_3 rfl) rfl (by show 2 * 0 + _ ≤ _; exact Nat.le_of_eq rfl) (hb hby d3_34) (fun _ _ => ⟨rfl, e8, (by decide : 0 + 0 ≤ _), (by decide : 0 + 0 ≤ _)⟩)
  dsimp only [Pt.U, Pt.locs, Pt.cells, Pt.slots] at X9 l9 y9 z9 st9 hQ9
  subst l9 y9 z9
  obtain ⟨rfl, N9q, e9⟩ := hQ9
  have N9 := Fr.app N1 N9q
  refine Go.on st9 ?_
  show Go _ _ _ _ _ _ _ _ (mkF m 37 #[Sr a0, Si i1, Sd 4607182418800017408, .second, Si ix] [(.int 4), (.ref am), (.ref a0)])
  obtain ⟨_, _, ⟨T10, L10, k10, n10⟩, -, X10, ⟨Lc10, hQ10, l10, y10, z10⟩, st10⟩ := Jvm.LawKit.callS X9 hx (y := (⟨"java/util/Arrays", "copyOf", "([II)[I"⟩ : MethodName)) hown (mvT hZ (hw _ (List.mem_of_getElem? (i := 62) rfl))) (mvT hZ (hw _ (List.mem_of_getElem? (i := 63) rfl))) (mvT hZ (hw _ (List.mem_of_getElem? (i := 64) rfl))) (mvT hZ (hw _ (List.mem_of_getElem? (i := 65) rfl))) (by decide) (backOf (W := 1) (copy_int_2 l Z aw hw [] am k_am m0 m1 h0 n0 ZZ V_am) hZ (hw _ (List.mem_of_getElem? (i := 65) rfl)) (hw _ (List.mem_of_getElem? (i := 64) rfl)) (by decide) (by decide)) (g := (mkF m 37 #[Sr a0, Si i1, Sd 4607182418800017408, .second, Si ix] [(.int 4), (.ref am), (.ref a0)])) rfl (by rw [hml]; rfl) (argsL := [(.ref am), (.int (4 : Int32))]) (rest := [(.ref a0)]) (lenOf pd_6 rfl) rfl (by show 2 * 0 + _ ≤ _; exact Nat.le_of_eq rfl) (hb hby d3_37) (fun _ _ => ⟨rfl, e9, (by decide : 0 + 1 ≤ _), (by decide : 0 + 4 ≤ _)⟩)
  dsimp only [Pt.U, Pt.locs, Pt.cells, Pt.slots] at X10 l10 y10 z10 st10 hQ10
  subst l10 y10 z10
  obtain ⟨h10, e10⟩ : ∃ q, T10.heap = q := ⟨_, rfl⟩
  rw [e10] at hQ10
  obtain ⟨mb, k_mb, rfl, N10q, K10q, szq10, V_mb⟩ := hQ10
  have N10 := Fr.app N9 N10q
  have g_mb : n0 ≤ mb := Nat.le_trans ZZ szq10
  have sz_mb : h0.size ≤ mb := Nat.le_trans KP.1 szq10
  have ne_a0_mb : a0 ≠ mb := Nat.ne_of_lt (Nat.lt_of_lt_of_le E_a0.lt szq10)
  have ne_am_mb : am ≠ mb := Nat.ne_of_lt (Nat.lt_of_lt_of_le V_am.lt szq10)
  have ne_wa_mb : wa ≠ mb := Nat.ne_of_lt (Nat.lt_of_lt_of_le V_wa.lt szq10)
  replace E_a0 := E_a0.keep K10q
  replace F_members_a0 := F_members_a0.keep K10q nin0
  replace F_weights_a0 := F_weights_a0.keep K10q nin0
  replace F_exact_a0 := F_exact_a0.keep K10q nin0
  replace F_slots_a0 := F_slots_a0.keep K10q nin0
  replace F_length_a0 := F_length_a0.keep K10q nin0
  replace F_fingerprint_a0 := F_fingerprint_a0.keep K10q nin0
  replace F_history_a0 := F_history_a0.keep K10q nin0
  replace F_shift_a0 := F_shift_a0.keep K10q nin0
  replace V_am := V_am.keep K10q nin0
  replace V_wa := V_wa.keep K10q nin0
  replace ZZ := Nat.le_trans ZZ K10q.1
  replace KP := KP.trans K10q all0
  refine Go.on st10 ?_
  show Go _ _ _ _ _ _ _ _ (mkF m 40 #[Sr a0, Si i1, Sd 4607182418800017408, .second, Si ix] [(.ref mb), (.ref a0)])
  obtain ⟨T11, h11, X11, e11, W11, st11⟩ := putF X10 hx hZ hown (host := "") (Or.inl (hw _ (List.mem_of_getElem? (i := 11) rfl))) Via.refl e10 F_members_a0 E_a0 (Or.inl (hw _ (List.mem_of_getElem? (i := 12) rfl))) (hw _ (List.mem_of_getElem? (i := 2) rfl)) (ty := (.array .int)) (by decide) rfl rfl (g := (mkF m 40 #[Sr a0, Si i1, Sd 4607182418800017408, .second, Si ix] [(.ref mb), (.ref a0)])) rfl rfl (hb hby d3_40)
  refine Go.on st11 ?_
  replace F_members_a0 := F_members_a0.same W11
  replace E_a0 := E_a0.wr W11
  replace F_weights_a0 := F_weights_a0.other W11 (Or.inr (slot_ne (Or.inl (hw _ (List.mem_of_getElem? (i := 15) rfl))) (Or.inl (hw _ (List.mem_of_getElem? (i := 12) rfl))) (by decide) (t := (.array .double)) (t' := (.array .int)) (by decide) (by decide)))
  replace F_exact_a0 := F_exact_a0.other W11 (Or.inr (slot_ne (Or.inl (hw _ (List.mem_of_getElem? (i := 17) rfl))) (Or.inl (hw _ (List.mem_of_getElem? (i := 12) rfl))) (by decide) (t := .boolean) (t' := (.array .int)) (by decide) (by decide)))
  replace F_slots_a0 := F_slots_a0.other W11 (Or.inr (slot_ne (Or.inl (hw _ (List.mem_of_getElem? (i := 29) rfl))) (Or.inl (hw _ (List.mem_of_getElem? (i := 12) rfl))) (by decide) (t := (.array .int)) (t' := (.array .int)) (by decide) (by decide)))
  replace F_length_a0 := F_length_a0.other W11 (Or.inr (slot_ne (Or.inl (hw _ (List.mem_of_getElem? (i := 31) rfl))) (Or.inl (hw _ (List.mem_of_getElem? (i := 12) rfl))) (by decide) (t := .int) (t' := (.array .int)) (by decide) (by decide)))
  replace F_fingerprint_a0 := F_fingerprint_a0.other W11 (Or.inr (slot_ne (Or.inl (hw _ (List.mem_of_getElem? (i := 33) rfl))) (Or.inl (hw _ (List.mem_of_getElem? (i := 12) rfl))) (by decide) (t := .long) (t' := (.array .int)) (by decide) (by decide)))
  replace F_history_a0 := F_history_a0.other W11 (Or.inr (slot_ne (Or.inl (hw _ (List.mem_of_getElem? (i := 52) rfl))) (Or.inl (hw _ (List.mem_of_getElem? (i := 12) rfl))) (by decide) (t := (.object "com/example/due_weight/dueweight/core/Pairs$History")) (t' := (.array .int)) (by decide) (by decide)))
  replace F_shift_a0 := F_shift_a0.other W11 (Or.inr (slot_ne (Or.inl (hw _ (List.mem_of_getElem? (i := 86) rfl))) (Or.inl (hw _ (List.mem_of_getElem? (i := 12) rfl))) (by decide) (t := .int) (t' := (.array .int)) (by decide) (by decide)))
  replace V_am := V_am.other W11 (Ne.symm ne_a0_am)
  replace V_wa := V_wa.other W11 (Ne.symm ne_a0_wa)
  replace V_mb := V_mb.other W11 (Ne.symm ne_a0_mb)
  have N11 := Fr.snoc X11 N10 g_a0
  replace ZZ := Nat.le_trans ZZ (Keep.of_wr W11).1
  replace KP := KP.wr W11 (Or.inl (List.mem_of_getElem? (i := 0) rfl))
  show Go _ _ _ _ _ _ _ _ (mkF m 43 #[Sr a0, Si i1, Sd 4607182418800017408, .second, Si ix] [])
  refine Go.on (fun _ k => XS.aloadN X11.here hx rfl (hb hby d3_43) rfl rfl k) ?_
  refine Go.on (fun _ k => XS.aloadN X11.here hx rfl (hb hby d3_44) rfl rfl k) ?_
  show Go _ _ _ _ _ _ _ _ (mkF m 45 #[Sr a0, Si i1, Sd 4607182418800017408, .second, Si ix] [(.ref a0), (.ref a0)])
  obtain ⟨T12, X12, e12, st12⟩ := getF X11 hx hZ hown (host := "") (Or.inl (hw _ (List.mem_of_getElem? (i := 14) rfl))) Via.refl e11 F_weights_a0 (g := (mkF m 45 #[Sr a0, Si i1, Sd 4607182418800017408, .second, Si ix] [(.ref a0), (.ref a0)])) rfl rfl (hb hby d3_45)
  refine Go.on st12 ?_
  show Go _ _ _ _ _ _ _ _ (mkF m 48 #[Sr a0, Si i1, Sd 4607182418800017408, .second, Si ix] [(.ref wa), (.ref a0)])
  refine Go.on (fun _ k => XS.aloadN X12.here hx rfl (hb hby d3_48) rfl rfl k) ?_
  show Go _ _ _ _ _ _ _ _ (mkF m 49 #[Sr a0, Si i1, Sd 4607182418800017408, .second, Si ix] [(.ref a0), (.ref wa), (.ref a0)])
  obtain ⟨T13, X13, e13, st13⟩ := getF X12 hx hZ hown (host := "") (Or.inl (hw _ (List.mem_of_getElem? (i := 11) rfl))) Via.refl e12 F_members_a0 (g := (mkF m 49 #[Sr a0, Si i1, Sd 4607182418800017408, .second, Si ix] [(.ref a0), (.ref wa), (.ref a0)])) rfl rfl (hb hby d3_49)
  refine Go.on st13 ?_
  show Go _ _ _ _ _ _ _ _ (mkF m 52 #[Sr a0, Si i1, Sd 4607182418800017408, .second, Si ix] [(.ref mb), (.ref wa), (.ref a0)])
  obtain ⟨cl14, Ar14, -, S14, N14n, -, -⟩ := id V_mb
  refine Go.on (X13.arraylength hx (by rw [e13]; exact Ar14.1) (State.isArrayOf_alike hZ.alike Ar14.2.1) (g := (mkF m 52 #[Sr a0, Si i1, Sd 4607182418800017408, .second, Si ix] [(.ref mb), (.ref wa), (.ref a0)])) rfl rfl (hb hby d3_52)) ?_
  rw [len_of S14 N14n]
  show Go _ _ _ _ _ _ _ _ (mkF m 53 #[Sr a0, Si i1, Sd 4607182418800017408, .second, Si ix] [(.int 4), (.ref wa), (.ref a0)])
  obtain ⟨_, _, ⟨T15, L15, k15, n15⟩, -, X15, ⟨Lc15, hQ15, l15, y15, z15⟩, st15⟩ := Jvm.LawKit.callS X13 hx (y := (⟨"java/util/Arrays", "copyOf", "([DI)[D"⟩ : MethodName)) hown (mvT hZ (hw _ (List.mem_of_getElem? (i := 73) rfl))) (mvT hZ (hw _ (List.mem_of_getElem? (i := 74) rfl))) (mvT hZ (hw _ (List.mem_of_getElem? (i := 64) rfl))) (mvT hZ (hw _ (List.mem_of_getElem? (i := 75) rfl))) (by decide) (backOf (W := 1) (copy_double_2 l Z aw hw [] wa k_wa h11 n0 ZZ V_wa) hZ (hw _ (List.mem_of_getElem? (i := 75) rfl)) (hw _ (List.mem_of_getElem? (i := 64) rfl)) (by decide) (by decide)) (g := (mkF m 53 #[Sr a0, Si i1, Sd 4607182418800017408, .second, Si ix] [(.int 4), (.ref wa), (.ref a0)])) rfl (by rw [hml]; rfl) (argsL := [(.ref wa), (.int (4 : Int32))]) (rest := [(.ref a0)]) (lenOf pd_7 rfl) rfl (by show 2 * 0 + _ ≤ _; exact Nat.le_of_eq rfl) (hb hby d3_53) (fun _ _ => ⟨rfl, e13, (by decide : 1 + 1 ≤ _), (by decide : 4 + 4 ≤ _)⟩)
  dsimp only [Pt.U, Pt.locs, Pt.cells, Pt.slots] at X15 l15 y15 z15 st15 hQ15
  subst l15 y15 z15
  obtain ⟨h15, e15⟩ : ∃ q, T15.heap = q := ⟨_, rfl⟩
  rw [e15] at hQ15
  obtain ⟨wb, k_wb, rfl, N15q, K15q, szq15, V_wb⟩ := hQ15
  have N15 := Fr.app N11 N15q
  have g_wb : n0 ≤ wb := Nat.le_trans ZZ szq15
  have sz_wb : h0.size ≤ wb := Nat.le_trans KP.1 szq15
  have ne_a0_wb : a0 ≠ wb := Nat.ne_of_lt (Nat.lt_of_lt_of_le E_a0.lt szq15)
  have ne_am_wb : am ≠ wb := Nat.ne_of_lt (Nat.lt_of_lt_of_le V_am.lt szq15)
  have ne_wa_wb : wa ≠ wb := Nat.ne_of_lt (Nat.lt_of_lt_of_le V_wa.lt szq15)
  have ne_mb_wb : mb ≠ wb := Nat.ne_of_lt (Nat.lt_of_lt_of_le V_mb.lt szq15)
  replace E_a0 := E_a0.keep K15q
  replace F_members_a0 := F_members_a0.keep K15q nin0
  replace F_weights_a0 := F_weights_a0.keep K15q nin0
  replace F_exact_a0 := F_exact_a0.keep K15q nin0
  replace F_slots_a0 := F_slots_a0.keep K15q nin0
  replace F_length_a0 := F_length_a0.keep K15q nin0
  replace F_fingerprint_a0 := F_fingerprint_a0.keep K15q nin0
  replace F_history_a0 := F_history_a0.keep K15q nin0
  replace F_shift_a0 := F_shift_a0.keep K15q nin0
  replace V_am := V_am.keep K15q nin0
  replace V_wa := V_wa.keep K15q nin0
  replace V_mb := V_mb.keep K15q nin0
  replace ZZ := Nat.le_trans ZZ K15q.1
  replace KP := KP.trans K15q all0
  refine Go.on st15 ?_
  show Go _ _ _ _ _ _ _ _ (mkF m 56 #[Sr a0, Si i1, Sd 4607182418800017408, .second, Si ix] [(.ref wb), (.ref a0)])
  obtain ⟨T16, h16, X16, e16, W16, st16⟩ := putF X15 hx hZ hown (host := "") (Or.inl (hw _ (List.mem_of_getElem? (i := 14) rfl))) Via.refl e15 F_weights_a0 E_a0 (Or.inl (hw _ (List.mem_of_getElem? (i := 15) rfl))) (hw _ (List.mem_of_getElem? (i := 2) rfl)) (ty := (.array .double)) (by decide) rfl rfl (g := (mkF m 56 #[Sr a0, Si i1, Sd 4607182418800017408, .second, Si ix] [(.ref wb), (.ref a0)])) rfl rfl (hb hby d3_56)
  refine Go.on st16 ?_
  replace F_weights_a0 := F_weights_a0.same W16
  replace E_a0 := E_a0.wr W16
  replace F_members_a0 := F_members_a0.other W16 (Or.inr (slot_ne (Or.inl (hw _ (List.mem_of_getElem? (i := 12) rfl))) (Or.inl (hw _ (List.mem_of_getElem? (i := 15) rfl))) (by decide) (t := (.array .int)) (t' := (.array .double)) (by decide) (by decide)))
  replace F_exact_a0 := F_exact_a0.other W16 (Or.inr (slot_ne (Or.inl (hw _ (List.mem_of_getElem? (i := 17) rfl))) (Or.inl (hw _ (List.mem_of_getElem? (i := 15) rfl))) (by decide) (t := .boolean) (t' := (.array .double)) (by decide) (by decide)))
  replace F_slots_a0 := F_slots_a0.other W16 (Or.inr (slot_ne (Or.inl (hw _ (List.mem_of_getElem? (i := 29) rfl))) (Or.inl (hw _ (List.mem_of_getElem? (i := 15) rfl))) (by decide) (t := (.array .int)) (t' := (.array .double)) (by decide) (by decide)))
  replace F_length_a0 := F_length_a0.other W16 (Or.inr (slot_ne (Or.inl (hw _ (List.mem_of_getElem? (i := 31) rfl))) (Or.inl (hw _ (List.mem_of_getElem? (i := 15) rfl))) (by decide) (t := .int) (t' := (.array .double)) (by decide) (by decide)))
  replace F_fingerprint_a0 := F_fingerprint_a0.other W16 (Or.inr (slot_ne (Or.inl (hw _ (List.mem_of_getElem? (i := 33) rfl))) (Or.inl (hw _ (List.mem_of_getElem? (i := 15) rfl))) (by decide) (t := .long) (t' := (.array .double)) (by decide) (by decide)))
  replace F_history_a0 := F_history_a0.other W16 (Or.inr (slot_ne (Or.inl (hw _ (List.mem_of_getElem? (i := 52) rfl))) (Or.inl (hw _ (List.mem_of_getElem? (i := 15) rfl))) (by decide) (t := (.object "com/example/due_weight/dueweight/core/Pairs$History")) (t' := (.array .double)) (by decide) (by decide)))
  replace F_shift_a0 := F_shift_a0.other W16 (Or.inr (slot_ne (Or.inl (hw _ (List.mem_of_getElem? (i := 86) rfl))) (Or.inl (hw _ (List.mem_of_getElem? (i := 15) rfl))) (by decide) (t := .int) (t' := (.array .double)) (by decide) (by decide)))
  replace V_am := V_am.other W16 (Ne.symm ne_a0_am)
  replace V_wa := V_wa.other W16 (Ne.symm ne_a0_wa)
  replace V_mb := V_mb.other W16 (Ne.symm ne_a0_mb)
  replace V_wb := V_wb.other W16 (Ne.symm ne_a0_wb)
  have N16 := Fr.snoc X16 N15 g_a0
  replace ZZ := Nat.le_trans ZZ (Keep.of_wr W16).1
  replace KP := KP.wr W16 (Or.inl (List.mem_of_getElem? (i := 0) rfl))
  show Go _ _ _ _ _ _ _ _ (mkF m 59 #[Sr a0, Si i1, Sd 4607182418800017408, .second, Si ix] [])
  refine Go.on (fun _ k => XS.aloadN X16.here hx rfl (hb hby d3_59) rfl rfl k) ?_
  refine Go.on (fun _ k => XS.dup X16.here hx rfl (hb hby d3_60) rfl rfl k) ?_
  show Go _ _ _ _ _ _ _ _ (mkF m 61 #[Sr a0, Si i1, Sd 4607182418800017408, .second, Si ix] [(.ref a0), (.ref a0)])
  obtain ⟨T17, X17, e17, st17⟩ := getF X16 hx hZ hown (host := "") (Or.inl (hw _ (List.mem_of_getElem? (i := 30) rfl))) Via.refl e16 F_length_a0 (g := (mkF m 61 #[Sr a0, Si i1, Sd 4607182418800017408, .second, Si ix] [(.ref a0), (.ref a0)])) rfl rfl (hb hby d3_61)
  refine Go.on st17 ?_
  show Go _ _ _ _ _ _ _ _ (mkF m 64 #[Sr a0, Si i1, Sd 4607182418800017408, .second, Si ix] [(.int 2), (.ref a0)])
  refine Go.on (fun _ k => XS.dupX1 X17.here hx rfl (hb hby d3_64) rfl rfl rfl k) ?_
  show Go _ _ _ _ _ _ _ _ (mkF m 65 #[Sr a0, Si i1, Sd 4607182418800017408, .second, Si ix] [(.int 2), (.ref a0), (.int 2)])
  refine Go.on (fun _ k => XS.iconst X17.here hx rfl (hb hby d3_65) k) ?_
  refine Go.on (fun _ k => XS.iadd X17.here hx rfl (hb hby d3_66) rfl k) ?_
  show Go _ _ _ _ _ _ _ _ (mkF m 67 #[Sr a0, Si i1, Sd 4607182418800017408, .second, Si ix] [(.int 3), (.ref a0), (.int 2)])
  obtain ⟨T18, h18, X18, e18, W18, st18⟩ := putF X17 hx hZ hown (host := "") (Or.inl (hw _ (List.mem_of_getElem? (i := 30) rfl))) Via.refl e17 F_length_a0 E_a0 (Or.inl (hw _ (List.mem_of_getElem? (i := 31) rfl))) (hw _ (List.mem_of_getElem? (i := 2) rfl)) (ty := .int) (by decide) rfl rfl (g := (mkF m 67 #[Sr a0, Si i1, Sd 4607182418800017408, .second, Si ix] [(.int 3), (.ref a0), (.int 2)])) rfl rfl (hb hby d3_67)
  refine Go.on st18 ?_
  replace F_length_a0 := F_length_a0.same W18
  replace E_a0 := E_a0.wr W18
  replace F_members_a0 := F_members_a0.other W18 (Or.inr (slot_ne (Or.inl (hw _ (List.mem_of_getElem? (i := 12) rfl))) (Or.inl (hw _ (List.mem_of_getElem? (i := 31) rfl))) (by decide) (t := (.array .int)) (t' := .int) (by decide) (by decide)))
  replace F_weights_a0 := F_weights_a0.other W18 (Or.inr (slot_ne (Or.inl (hw _ (List.mem_of_getElem? (i := 15) rfl))) (Or.inl (hw _ (List.mem_of_getElem? (i := 31) rfl))) (by decide) (t := (.array .double)) (t' := .int) (by decide) (by decide)))
  replace F_exact_a0 := F_exact_a0.other W18 (Or.inr (slot_ne (Or.inl (hw _ (List.mem_of_getElem? (i := 17) rfl))) (Or.inl (hw _ (List.mem_of_getElem? (i := 31) rfl))) (by decide) (t := .boolean) (t' := .int) (by decide) (by decide)))
  replace F_slots_a0 := F_slots_a0.other W18 (Or.inr (slot_ne (Or.inl (hw _ (List.mem_of_getElem? (i := 29) rfl))) (Or.inl (hw _ (List.mem_of_getElem? (i := 31) rfl))) (by decide) (t := (.array .int)) (t' := .int) (by decide) (by decide)))
  replace F_fingerprint_a0 := F_fingerprint_a0.other W18 (Or.inr (slot_ne (Or.inl (hw _ (List.mem_of_getElem? (i := 33) rfl))) (Or.inl (hw _ (List.mem_of_getElem? (i := 31) rfl))) (by decide) (t := .long) (t' := .int) (by decide) (by decide)))
  replace F_history_a0 := F_history_a0.other W18 (Or.inr (slot_ne (Or.inl (hw _ (List.mem_of_getElem? (i := 52) rfl))) (Or.inl (hw _ (List.mem_of_getElem? (i := 31) rfl))) (by decide) (t := (.object "com/example/due_weight/dueweight/core/Pairs$History")) (t' := .int) (by decide) (by decide)))
  replace F_shift_a0 := F_shift_a0.other W18 (Or.inr (slot_ne (Or.inl (hw _ (List.mem_of_getElem? (i := 86) rfl))) (Or.inl (hw _ (List.mem_of_getElem? (i := 31) rfl))) (by decide) (t := .int) (t' := .int) (by decide) (by decide)))
  replace V_am := V_am.other W18 (Ne.symm ne_a0_am)
  replace V_wa := V_wa.other W18 (Ne.symm ne_a0_wa)
  replace V_mb := V_mb.other W18 (Ne.symm ne_a0_mb)
  replace V_wb := V_wb.other W18 (Ne.symm ne_a0_wb)
  have N18 := Fr.snoc X18 N16 g_a0
  replace ZZ := Nat.le_trans ZZ (Keep.of_wr W18).1
  replace KP := KP.wr W18 (Or.inl (List.mem_of_getElem? (i := 0) rfl))
  show Go _ _ _ _ _ _ _ _ (mkF m 70 #[Sr a0, Si i1, Sd 4607182418800017408, .second, Si ix] [(.int 2)])
  refine Go.on (fun _ k => XS.istore X18.here hx rfl (hb hby d3_70) rfl (l' := #[.val (.ref a0), .val (.int i1), .val (.double (4607182418800017408 : UInt64)), .second, .val (.int (2 : Int32))]) rfl k) ?_
  show Go _ _ _ _ _ _ _ _ (mkF m 72 #[Sr a0, Si i1, Sd 4607182418800017408, .second, Si 2] [])
  refine Go.on (fun _ k => XS.aloadN X18.here hx rfl (hb hby d3_72) rfl rfl k) ?_
  show Go _ _ _ _ _ _ _ _ (mkF m 73 #[Sr a0, Si i1, Sd 4607182418800017408, .second, Si 2] [(.ref a0)])
  obtain ⟨T19, X19, e19, st19⟩ := getF X18 hx hZ hown (host := "") (Or.inl (hw _ (List.mem_of_getElem? (i := 11) rfl))) Via.refl e18 F_members_a0 (g := (mkF m 73 #[Sr a0, Si i1, Sd 4607182418800017408, .second, Si 2] [(.ref a0)])) rfl rfl (hb hby d3_73)
  refine Go.on st19 ?_
  show Go _ _ _ _ _ _ _ _ (mkF m 76 #[Sr a0, Si i1, Sd 4607182418800017408, .second, Si 2] [(.ref mb)])
  refine Go.on (fun _ k => XS.iload X19.here hx rfl (hb hby d3_76) rfl k) ?_
  refine Go.on (fun _ k => XS.iloadN X19.here hx rfl (hb hby d3_78) rfl k) ?_
  show Go _ _ _ _ _ _ _ _ (mkF m 79 #[Sr a0, Si i1, Sd 4607182418800017408, .second, Si 2] [(.int i1), (.int 2), (.ref mb)])
  obtain ⟨cl20, Ar20, q20, S20, N20n, H20, G20⟩ := id V_mb
  have hin20 : ¬ ((2 : Int32) < 0 ∨ cl20.slots.size ≤ ((2 : Int32)).toNatClampNeg) := inb_of S20 ⟨by decide, by decide⟩
  obtain ⟨T20, h20, X20, e20, W20, st20⟩ := stI X19 hx hZ e19 Ar20 (j := (2 : Int32)) hin20 (g := (mkF m 79 #[Sr a0, Si i1, Sd 4607182418800017408, .second, Si 2] [(.int i1), (.int 2), (.ref mb)])) rfl rfl (hb hby d3_79)
  replace V_mb := Arv.set Ar20 q20 S20 N20n H20 G20 rfl W20 2 rfl (Nat.le_of_ble_eq_true rfl)
  replace E_a0 := E_a0.wr W20
  replace F_members_a0 := F_members_a0.other W20 (Or.inl ne_a0_mb)
  replace F_weights_a0 := F_weights_a0.other W20 (Or.inl ne_a0_mb)
  replace F_exact_a0 := F_exact_a0.other W20 (Or.inl ne_a0_mb)
  replace F_slots_a0 := F_slots_a0.other W20 (Or.inl ne_a0_mb)
  replace F_length_a0 := F_length_a0.other W20 (Or.inl ne_a0_mb)
  replace F_fingerprint_a0 := F_fingerprint_a0.other W20 (Or.inl ne_a0_mb)
  replace F_history_a0 := F_history_a0.other W20 (Or.inl ne_a0_mb)
  replace F_shift_a0 := F_shift_a0.other W20 (Or.inl ne_a0_mb)
  replace V_am := V_am.other W20 ne_am_mb
  replace V_wa := V_wa.other W20 ne_wa_mb
  replace V_wb := V_wb.other W20 (Ne.symm ne_mb_wb)
  refine Go.on st20 ?_
  have N20 := Fr.snoc X20 N18 g_mb
  replace ZZ := Nat.le_trans ZZ (Keep.of_wr W20).1
  replace KP := KP.wr W20 (Or.inr sz_mb)
  change Arv Z h20 mb k_mb .int (4 : Int32) [(.int m0), (.int m1), (.int i1), (.int (0 : Int32))] (.int (0 : Int32)) at V_mb
  show Go _ _ _ _ _ _ _ _ (mkF m 80 #[Sr a0, Si i1, Sd 4607182418800017408, .second, Si 2] [])
  refine Go.on (fun _ k => XS.aloadN X20.here hx rfl (hb hby d3_80) rfl rfl k) ?_
  show Go _ _ _ _ _ _ _ _ (mkF m 81 #[Sr a0, Si i1, Sd 4607182418800017408, .second, Si 2] [(.ref a0)])
  obtain ⟨T21, X21, e21, st21⟩ := getF X20 hx hZ hown (host := "") (Or.inl (hw _ (List.mem_of_getElem? (i := 14) rfl))) Via.refl e20 F_weights_a0 (g := (mkF m 81 #[Sr a0, Si i1, Sd 4607182418800017408, .second, Si 2] [(.ref a0)])) rfl rfl (hb hby d3_81)
  refine Go.on st21 ?_
  show Go _ _ _ _ _ _ _ _ (mkF m 84 #[Sr a0, Si i1, Sd 4607182418800017408, .second, Si 2] [(.ref wb)])
  refine Go.on (fun _ k => XS.iload X21.here hx rfl (hb hby d3_84) rfl k) ?_
  refine Go.on (fun _ k => XS.dloadN X21.here hx rfl (hb hby d3_86) rfl k) ?_
  show Go _ _ _ _ _ _ _ _ (mkF m 87 #[Sr a0, Si i1, Sd 4607182418800017408, .second, Si 2] [(.double 4607182418800017408), (.int 2), (.ref wb)])
  obtain ⟨cl22, Ar22, q22, S22, N22n, H22, G22⟩ := id V_wb
  have hin22 : ¬ ((2 : Int32) < 0 ∨ cl22.slots.size ≤ ((2 : Int32)).toNatClampNeg) := inb_of S22 ⟨by decide, by decide⟩
  obtain ⟨T22, h22, X22, e22, W22, st22⟩ := stD X21 hx hZ e21 Ar22 (j := (2 : Int32)) hin22 (g := (mkF m 87 #[Sr a0, Si i1, Sd 4607182418800017408, .second, Si 2] [(.double 4607182418800017408), (.int 2), (.ref wb)])) rfl rfl (hb hby d3_87)
  replace V_wb := Arv.set Ar22 q22 S22 N22n H22 G22 rfl W22 2 rfl (Nat.le_of_ble_eq_true rfl)
  replace E_a0 := E_a0.wr W22
  replace F_members_a0 := F_members_a0.other W22 (Or.inl ne_a0_wb)
  replace F_weights_a0 := F_weights_a0.other W22 (Or.inl ne_a0_wb)
  replace F_exact_a0 := F_exact_a0.other W22 (Or.inl ne_a0_wb)
  replace F_slots_a0 := F_slots_a0.other W22 (Or.inl ne_a0_wb)
  replace F_length_a0 := F_length_a0.other W22 (Or.inl ne_a0_wb)
  replace F_fingerprint_a0 := F_fingerprint_a0.other W22 (Or.inl ne_a0_wb)
  replace F_history_a0 := F_history_a0.other W22 (Or.inl ne_a0_wb)
  replace F_shift_a0 := F_shift_a0.other W22 (Or.inl ne_a0_wb)
  replace V_am := V_am.other W22 ne_am_wb
  replace V_wa := V_wa.other W22 ne_wa_wb
  replace V_mb := V_mb.other W22 ne_mb_wb
  refine Go.on st22 ?_
  have N22 := Fr.snoc X22 N20 g_wb
  replace ZZ := Nat.le_trans ZZ (Keep.of_wr W22).1
  replace KP := KP.wr W22 (Or.inr sz_wb)
  change Arv Z h22 wb k_wb .double (4 : Int32) [(.double (4607182418800017408 : UInt64)), (.double (4607182418800017408 : UInt64)), (.double (4607182418800017408 : UInt64)), (.double (0 : UInt64))] (.double (0 : UInt64)) at V_wb
  show Go _ _ _ _ _ _ _ _ (mkF m 88 #[Sr a0, Si i1, Sd 4607182418800017408, .second, Si 2] [])
  refine Go.on (fun _ k => XS.aloadN X22.here hx rfl (hb hby d3_88) rfl rfl k) ?_
  show Go _ _ _ _ _ _ _ _ (mkF m 89 #[Sr a0, Si i1, Sd 4607182418800017408, .second, Si 2] [(.ref a0)])
  obtain ⟨T23, X23, e23, st23⟩ := getF X22 hx hZ hown (host := "") (Or.inl (hw _ (List.mem_of_getElem? (i := 28) rfl))) Via.refl e22 F_slots_a0 (g := (mkF m 89 #[Sr a0, Si i1, Sd 4607182418800017408, .second, Si 2] [(.ref a0)])) rfl rfl (hb hby d3_89)
  refine Go.on st23 ?_
  show Go _ _ _ _ _ _ _ _ (mkF m 92 #[Sr a0, Si i1, Sd 4607182418800017408, .second, Si 2] [.null])
  refine Go.on (fun _ k => XS.ifnullYes X23.here hx rfl (pc0 := 92) (pc' := 118) rfl (hb hby d3_92) rfl (by decide) (by decide) k) ?_
  show Go _ _ _ _ _ _ _ _ (mkF m 118 #[Sr a0, Si i1, Sd 4607182418800017408, .second, Si 2] [])
  refine Go.on (fun _ k => XS.aloadN X23.here hx rfl (hb hby d3_118) rfl rfl k) ?_
  show Go _ _ _ _ _ _ _ _ (mkF m 119 #[Sr a0, Si i1, Sd 4607182418800017408, .second, Si 2] [(.ref a0)])
  obtain ⟨T24, X24, e24, st24⟩ := getF X23 hx hZ hown (host := "") (Or.inl (hw _ (List.mem_of_getElem? (i := 30) rfl))) Via.refl e23 F_length_a0 (g := (mkF m 119 #[Sr a0, Si i1, Sd 4607182418800017408, .second, Si 2] [(.ref a0)])) rfl rfl (hb hby d3_119)
  refine Go.on st24 ?_
  show Go _ _ _ _ _ _ _ _ (mkF m 122 #[Sr a0, Si i1, Sd 4607182418800017408, .second, Si 2] [(.int 3)])
  refine Go.on (fun _ k => XS.bipush X24.here hx rfl (hb hby d3_122) k) ?_
  show Go _ _ _ _ _ _ _ _ (mkF m 124 #[Sr a0, Si i1, Sd 4607182418800017408, .second, Si 2] [(.int 8), (.int 3)])
  have hc25 : ¬ ((8 : Int32) < (3 : Int32)) := by decide
  refine Go.on (fun _ k => XS.icmpYes X24.here hx rfl (pc0 := 124) (pc' := 215) rfl (hb hby d3_124) rfl (flt hc25).2.2.2 (by decide) (by decide) k) ?_
  refine Go.on (fun _ k => XS.aloadN X24.here hx rfl (hb hby d3_215) rfl rfl k) ?_
  refine Go.on (fun _ k => XS.dup X24.here hx rfl (hb hby d3_216) rfl rfl k) ?_
  show Go _ _ _ _ _ _ _ _ (mkF m 217 #[Sr a0, Si i1, Sd 4607182418800017408, .second, Si 2] [(.ref a0), (.ref a0)])
  obtain ⟨T26, X26, e26, st26⟩ := getF X24 hx hZ hown (host := "") (Or.inl (hw _ (List.mem_of_getElem? (i := 32) rfl))) Via.refl e24 F_fingerprint_a0 (g := (mkF m 217 #[Sr a0, Si i1, Sd 4607182418800017408, .second, Si 2] [(.ref a0), (.ref a0)])) rfl rfl (hb hby d3_217)
  refine Go.on st26 ?_
  show Go _ _ _ _ _ _ _ _ (mkF m 220 #[Sr a0, Si i1, Sd 4607182418800017408, .second, Si 2] [(.long fp0), (.ref a0)])
  refine Go.on (fun _ k => XS.iloadN X26.here hx rfl (hb hby d3_220) rfl k) ?_
  refine Go.on (fun _ k => XS.aloadN X26.here hx rfl (hb hby d3_221) rfl rfl k) ?_
  show Go _ _ _ _ _ _ _ _ (mkF m 222 #[Sr a0, Si i1, Sd 4607182418800017408, .second, Si 2] [(.ref a0), (.int i1), (.long fp0), (.ref a0)])
  obtain ⟨T27, X27, e27, st27⟩ := getF X26 hx hZ hown (host := "") (Or.inl (hw _ (List.mem_of_getElem? (i := 14) rfl))) Via.refl e26 F_weights_a0 (g := (mkF m 222 #[Sr a0, Si i1, Sd 4607182418800017408, .second, Si 2] [(.ref a0), (.int i1), (.long fp0), (.ref a0)])) rfl rfl (hb hby d3_222)
  refine Go.on st27 ?_
  show Go _ _ _ _ _ _ _ _ (mkF m 225 #[Sr a0, Si i1, Sd 4607182418800017408, .second, Si 2] [(.ref wb), (.int i1), (.long fp0), (.ref a0)])
  refine Go.on (fun _ k => XS.iload X27.here hx rfl (hb hby d3_225) rfl k) ?_
  show Go _ _ _ _ _ _ _ _ (mkF m 227 #[Sr a0, Si i1, Sd 4607182418800017408, .second, Si 2] [(.int 2), (.ref wb), (.int i1), (.long fp0), (.ref a0)])
  obtain ⟨cl28, Ar28, -, S28, -, H28, -⟩ := id V_wb
  have hin28 : ¬ ((2 : Int32) < 0 ∨ cl28.slots.size ≤ ((2 : Int32)).toNatClampNeg) := inb_of S28 ⟨by decide, by decide⟩
  refine Go.on (X27.daload hx (j := (2 : Int32)) (v := (.double (4607182418800017408 : UInt64))) (by rw [e27]; exact Ar28.1) (State.isArrayOf_alike hZ.alike Ar28.2.1) Ar28.2.2 hin28 (H28.at hin28 (rfl)) (g := (mkF m 227 #[Sr a0, Si i1, Sd 4607182418800017408, .second, Si 2] [(.int 2), (.ref wb), (.int i1), (.long fp0), (.ref a0)])) rfl rfl (hb hby d3_227)) ?_
  show Go _ _ _ _ _ _ _ _ (mkF m 228 #[Sr a0, Si i1, Sd 4607182418800017408, .second, Si 2] [(.double 4607182418800017408), (.int i1), (.long fp0), (.ref a0)])
  obtain ⟨_, _, ⟨T29, L29, k29, n29⟩, -, X29, ⟨Lc29, hQ29, l29, y29, z29⟩, st29⟩ := Jvm.LawKit.callS X27 hx (y := (⟨"com/example/due_weight/dueweight/core/Pairs", "fingerprint", "(ID)J"⟩ : MethodName)) hown (mvT hZ (hw _ (List.mem_of_getElem? (i := 34) rfl))) (mvT hZ (hw _ (List.mem_of_getElem? (i := 35) rfl))) (mvT hZ (hw _ (List.mem_of_getElem? (i := 3) rfl))) (mvT hZ (hw _ (List.mem_of_getElem? (i := 36) rfl))) (by decide) (backOf (W := 3) (rm5 l Z aw hw [] i1 (4607182418800017408 : UInt64)  h22 n0 ZZ (by decide +kernel)) hZ (hw _ (List.mem_of_getElem? (i := 36) rfl)) (hw _ (List.mem_of_getElem? (i := 3) rfl)) (by decide) (by decide)) (g := (mkF m 228 #[Sr a0, Si i1, Sd 4607182418800017408, .second, Si 2] [(.double 4607182418800017408), (.int i1), (.long fp0), (.ref a0)])) rfl (by rw [hml]; rfl) (argsL := [(.int i1), (.double (4607182418800017408 : UInt64))]) (rest := [(.long fp0), (.ref a0)]) (lenOf pd_5 rfl) rfl (by show 2 * 0 + _ ≤ _; exact Nat.le_of_eq rfl) (hb hby d3_228) (fun _ _ => ⟨rfl, e27, (by decide : 2 + 0 ≤ _), (by decide : 8 + 0 ≤ _)⟩)
  dsimp only [Pt.U, Pt.locs, Pt.cells, Pt.slots] at X29 l29 y29 z29 st29 hQ29
  subst l29 y29 z29
  obtain ⟨rfl, N29q, e29⟩ := hQ29
  have N29 := Fr.app N22 N29q
  refine Go.on st29 ?_
  show Go _ _ _ _ _ _ _ _ (mkF m 231 #[Sr a0, Si i1, Sd 4607182418800017408, .second, Si 2] [(.long (mixV ((mixV ((4607182418800017408 : UInt64).toInt64)) + (i1.toInt64)))), (.long fp0), (.ref a0)])
  generalize hfv : (mixV ((mixV ((4607182418800017408 : UInt64).toInt64)) + (i1.toInt64))) = fv
  show Go _ _ _ _ _ _ _ _ (mkF m 231 #[Sr a0, Si i1, Sd 4607182418800017408, .second, Si 2] [(.long fv), (.long fp0), (.ref a0)])
  refine Go.on (fun _ k => XS.ladd X29.here hx rfl (hb hby d3_231) rfl k) ?_
  show Go _ _ _ _ _ _ _ _ (mkF m 232 #[Sr a0, Si i1, Sd 4607182418800017408, .second, Si 2] [(.long (fp0 + fv)), (.ref a0)])
  obtain ⟨T30, h30, X30, e30, W30, st30⟩ := putF X29 hx hZ hown (host := "") (Or.inl (hw _ (List.mem_of_getElem? (i := 32) rfl))) Via.refl e29 F_fingerprint_a0 E_a0 (Or.inl (hw _ (List.mem_of_getElem? (i := 33) rfl))) (hw _ (List.mem_of_getElem? (i := 2) rfl)) (ty := .long) (by decide) rfl rfl (g := (mkF m 232 #[Sr a0, Si i1, Sd 4607182418800017408, .second, Si 2] [(.long (fp0 + fv)), (.ref a0)])) rfl rfl (hb hby d3_232)
  refine Go.on st30 ?_
  replace F_fingerprint_a0 := F_fingerprint_a0.same W30
  replace E_a0 := E_a0.wr W30
  replace F_members_a0 := F_members_a0.other W30 (Or.inr (slot_ne (Or.inl (hw _ (List.mem_of_getElem? (i := 12) rfl))) (Or.inl (hw _ (List.mem_of_getElem? (i := 33) rfl))) (by decide) (t := (.array .int)) (t' := .long) (by decide) (by decide)))
  replace F_weights_a0 := F_weights_a0.other W30 (Or.inr (slot_ne (Or.inl (hw _ (List.mem_of_getElem? (i := 15) rfl))) (Or.inl (hw _ (List.mem_of_getElem? (i := 33) rfl))) (by decide) (t := (.array .double)) (t' := .long) (by decide) (by decide)))
  replace F_exact_a0 := F_exact_a0.other W30 (Or.inr (slot_ne (Or.inl (hw _ (List.mem_of_getElem? (i := 17) rfl))) (Or.inl (hw _ (List.mem_of_getElem? (i := 33) rfl))) (by decide) (t := .boolean) (t' := .long) (by decide) (by decide)))
  replace F_slots_a0 := F_slots_a0.other W30 (Or.inr (slot_ne (Or.inl (hw _ (List.mem_of_getElem? (i := 29) rfl))) (Or.inl (hw _ (List.mem_of_getElem? (i := 33) rfl))) (by decide) (t := (.array .int)) (t' := .long) (by decide) (by decide)))
  replace F_length_a0 := F_length_a0.other W30 (Or.inr (slot_ne (Or.inl (hw _ (List.mem_of_getElem? (i := 31) rfl))) (Or.inl (hw _ (List.mem_of_getElem? (i := 33) rfl))) (by decide) (t := .int) (t' := .long) (by decide) (by decide)))
  replace F_history_a0 := F_history_a0.other W30 (Or.inr (slot_ne (Or.inl (hw _ (List.mem_of_getElem? (i := 52) rfl))) (Or.inl (hw _ (List.mem_of_getElem? (i := 33) rfl))) (by decide) (t := (.object "com/example/due_weight/dueweight/core/Pairs$History")) (t' := .long) (by decide) (by decide)))
  replace F_shift_a0 := F_shift_a0.other W30 (Or.inr (slot_ne (Or.inl (hw _ (List.mem_of_getElem? (i := 86) rfl))) (Or.inl (hw _ (List.mem_of_getElem? (i := 33) rfl))) (by decide) (t := .int) (t' := .long) (by decide) (by decide)))
  replace V_am := V_am.other W30 (Ne.symm ne_a0_am)
  replace V_wa := V_wa.other W30 (Ne.symm ne_a0_wa)
  replace V_mb := V_mb.other W30 (Ne.symm ne_a0_mb)
  replace V_wb := V_wb.other W30 (Ne.symm ne_a0_wb)
  have N30 := Fr.snoc X30 N29 g_a0
  replace ZZ := Nat.le_trans ZZ (Keep.of_wr W30).1
  replace KP := KP.wr W30 (Or.inl (List.mem_of_getElem? (i := 0) rfl))
  show Go _ _ _ _ _ _ _ _ (mkF m 235 #[Sr a0, Si i1, Sd 4607182418800017408, .second, Si 2] [])
  refine Go.on (fun _ k => XS.aloadN X30.here hx rfl (hb hby d3_235) rfl rfl k) ?_
  show Go _ _ _ _ _ _ _ _ (mkF m 236 #[Sr a0, Si i1, Sd 4607182418800017408, .second, Si 2] [(.ref a0)])
  obtain ⟨T31, X31, e31, st31⟩ := getF X30 hx hZ hown (host := "") (Or.inl (hw _ (List.mem_of_getElem? (i := 51) rfl))) Via.refl e30 F_history_a0 (g := (mkF m 236 #[Sr a0, Si i1, Sd 4607182418800017408, .second, Si 2] [(.ref a0)])) rfl rfl (hb hby d3_236)
  refine Go.on st31 ?_
  show Go _ _ _ _ _ _ _ _ (mkF m 239 #[Sr a0, Si i1, Sd 4607182418800017408, .second, Si 2] [.null])
  refine Go.on (fun _ k => XS.ifnullYes X31.here hx rfl (pc0 := 239) (pc' := 255) rfl (hb hby d3_239) rfl (by decide) (by decide) k) ?_
  show Go _ _ _ _ _ _ _ _ (mkF m 255 #[Sr a0, Si i1, Sd 4607182418800017408, .second, Si 2] [])
  refine Go.on (fun _ k => XS.iload X31.here hx rfl (hb hby d3_255) rfl k) ?_
  show Go _ _ _ _ _ _ _ _ (mkF m 257 #[Sr a0, Si i1, Sd 4607182418800017408, .second, Si 2] [(.int 2)])
  refine Go.retV X31 hx Bd.returns rfl (Or.inl ⟨rfl, Or.inl rfl, _, rfl⟩) (hb hby d3_257) ?_ (by rw [hK1]; decide) (by rw [hK2]; decide)
  rw [e31, ← hQQ]
  exact ⟨mb, wb, k_mb, k_wb, _, rfl, N30, KP, E_a0, F_members_a0, F_weights_a0, F_exact_a0, F_slots_a0, F_length_a0, F_fingerprint_a0, F_history_a0, F_shift_a0, V_mb, V_wb, g_mb, g_wb, ne_a0_mb, ne_a0_wb, ne_mb_wb⟩
theorem ef_add_3 (m : MethodId) (a0 : Addr) (i1 : Int32) : entryFrame m #[(.ref a0), (.int i1), (.double (4607182418800017408 : UInt64))] 5 = mkF m 0 #[.val (.ref a0), .val (.int i1), .val (.double (4607182418800017408 : UInt64)), .second, .unset] [] := by first | (simp [entryFrame, mkF, argsToLocals, Value.category]; done) | rfl
def Q_add_3 (Z : State) (a0 : Addr) (i1 : Int32) (am : Addr) (wa : Addr) (fp0 : Int64) (k_am : ClassId) (m0 : Int32) (m1 : Int32) (m2 : Int32) (k_wa : ClassId) (h0 : Heap) (n0 : Nat) (v : Option Value) (h : Heap) (L : List Loc) : Prop := ∃ (mb wb : Addr) (k_mb k_wb : ClassId) (fq : Int64), v = some (.int (3 : Int32)) ∧ Fr n0 L ∧ Keep h0 h [a0, am, wa] ∧ Exa Z h a0 "com/example/due_weight/dueweight/core/Pairs" ∧ Fld Z h a0 "com/example/due_weight/dueweight/core/Pairs" "members" "[I" (.ref mb) ∧ Fld Z h a0 "com/example/due_weight/dueweight/core/Pairs" "weights" "[D" (.ref wb) ∧ Fld Z h a0 "com/example/due_weight/dueweight/core/Pairs" "exact" "Z" (.int (1 : Int32)) ∧ Fld Z h a0 "com/example/due_weight/dueweight/core/Pairs" "slots" "[I" .null ∧ Fld Z h a0 "com/example/due_weight/dueweight/core/Pairs" "length" "I" (.int (4 : Int32)) ∧ Fld Z h a0 "com/example/due_weight/dueweight/core/Pairs" "fingerprint" "J" (.long fq) ∧ Fld Z h a0 "com/example/due_weight/dueweight/core/Pairs" "history" "Lcom/example/due_weight/dueweight/core/Pairs$History;" .null ∧ Fld Z h a0 "com/example/due_weight/dueweight/core/Pairs" "shift" "I" (.int (0 : Int32)) ∧ Arv Z h mb k_mb .int (4 : Int32) [(.int m0), (.int m1), (.int m2), (.int i1)] (.int (0 : Int32)) ∧ Arv Z h wb k_wb .double (4 : Int32) [(.double (4607182418800017408 : UInt64)), (.double (4607182418800017408 : UInt64)), (.double (4607182418800017408 : UInt64)), (.double (4607182418800017408 : UInt64))] (.double (0 : UInt64)) ∧ n0 ≤ mb ∧ n0 ≤ wb ∧ a0 ≠ mb ∧ a0 ≠ wb ∧ mb ≠ wb
set_option maxRecDepth 65536 in
set_option maxHeartbeats 40000000 in
theorem add_3 (l : Launch) (Z : State) (aw : Array Value) (hw : ∀ d ∈ tables_1, d.before aw Z = true) (ws : List Jvm.Cond) (a0 : Addr) (i1 : Int32) (am : Addr) (wa : Addr) (fp0 : Int64) (k_am : ClassId) (m0 : Int32) (m1 : Int32) (m2 : Int32) (k_wa : ClassId) (h0 : Heap) (n0 : Nat) (Z0 : n0 ≤ h0.size) (E_a0 : Exa Z h0 a0 "com/example/due_weight/dueweight/core/Pairs") (F_members_a0 : Fld Z h0 a0 "com/example/due_weight/dueweight/core/Pairs" "members" "[I" (.ref am)) (F_weights_a0 : Fld Z h0 a0 "com/example/due_weight/dueweight/core/Pairs" "weights" "[D" (.ref wa)) (F_exact_a0 : Fld Z h0 a0 "com/example/due_weight/dueweight/core/Pairs" "exact" "Z" (.int (1 : Int32))) (F_slots_a0 : Fld Z h0 a0 "com/example/due_weight/dueweight/core/Pairs" "slots" "[I" .null) (F_length_a0 : Fld Z h0 a0 "com/example/due_weight/dueweight/core/Pairs" "length" "I" (.int (3 : Int32))) (F_fingerprint_a0 : Fld Z h0 a0 "com/example/due_weight/dueweight/core/Pairs" "fingerprint" "J" (.long fp0)) (F_history_a0 : Fld Z h0 a0 "com/example/due_weight/dueweight/core/Pairs" "history" "Lcom/example/due_weight/dueweight/core/Pairs$History;" .null) (F_shift_a0 : Fld Z h0 a0 "com/example/due_weight/dueweight/core/Pairs" "shift" "I" (.int (0 : Int32))) (V_am : Arv Z h0 am k_am .int (4 : Int32) [(.int m0), (.int m1), (.int m2), (.int (0 : Int32))] (.int (0 : Int32))) (V_wa : Arv Z h0 wa k_wa .double (4 : Int32) [(.double (4607182418800017408 : UInt64)), (.double (4607182418800017408 : UInt64)), (.double (4607182418800017408 : UInt64)), (.double (0 : UInt64))] (.double (0 : UInt64))) (g_a0 : n0 ≤ a0) (g_am : n0 ≤ am) (g_wa : n0 ≤ wa) (ne_a0_am : a0 ≠ am) (ne_a0_wa : a0 ≠ wa) (ne_am_wa : am ≠ wa) (hne0 : ¬ (m0 = i1)) (hne1 : ¬ (m1 = i1)) (hne2 : ¬ (m2 = i1)) :
    MetFree l (⟨"com/example/due_weight/dueweight/core/Pairs", "add", "(ID)I"⟩ : MethodName) (head1 (Jvm.Cond.code (⟨"com/example/due_weight/dueweight/core/Pairs", "add", "(ID)I"⟩ : MethodName) prog_21_method_7_code 5 (some .int) :: ws) ({ frames := 3, cells := 0, slots := 0, locals := 45 } : Room)) (fun a U => a = #[(.ref a0), (.int i1), (.double (4607182418800017408 : UInt64))] ∧ Z.Warmed39 U.vm ∧ U.heap = h0) (fun _ _ _ _ _ => True) (fun _ U o U' => ∃ v L, o = .returned v ∧ Q_add_3 Z a0 i1 am wa fp0 k_am m0 m1 m2 k_wa h0 n0 v U'.heap L ∧ FrameEnd U o U' L ({ frames := 3, cells := 0, slots := 0, locals := 45 } : Room).cells ({ frames := 3, cells := 0, slots := 0, locals := 45 } : Room).slots) := by
  refine MetFree.of_bodySF (plainFor_of_name pn_0) hisR ?_
  intro p e s m args below meth c s₁ Bd hml0 hP hK
  obtain ⟨rfl, hZ, hh⟩ := hP
  have hx := Bd.exec
  have hby := Bd.bytes
  have hml : c.maxLocals = 5 := hml0
  have hown : s.vm.findClass "com/example/due_weight/dueweight/core/Pairs" = some m.cls := findClass_of_methodNamed Bd.named
  have hnm := (name_of_methodNamed Bd.named Bd.method).1
  have hlk : meth.locks = false := BodyLoose.notSynchronized Bd
  have X0 : Stand p l e ({ frames := 3, cells := 0, slots := 0, locals := 45 } : Room) s m #[(.ref a0), (.int i1), (.double (4607182418800017408 : UInt64))] below meth c s₁ [] 0 0 := Stand.of_body Bd
  have e0 : s₁.heap = h0 := by rw [← hh, Bd.state]; rfl
  have N0 := Fr.nil n0
  have ZZ := Z0
  show Go p e below s ({ frames := 3, cells := 0, slots := 0, locals := 45 } : Room).cells ({ frames := 3, cells := 0, slots := 0, locals := 45 } : Room).slots (fun v h L => Q_add_3 Z a0 i1 am wa fp0 k_am m0 m1 m2 k_wa h0 n0 v h L) s₁ (entryFrame m #[(.ref a0), (.int i1), (.double (4607182418800017408 : UInt64))] 5)
  refine Go.cast (ef_add_3 m a0 i1) ?_
  refine Go.gen ?_
  intro K1 K2 QQ hK1 hK2 hQQ
  have KP : Keep h0 h0 [a0, am, wa] := Keep.refl _ _
  refine Go.on (fun _ k => XS.aloadN X0.here hx rfl (hb hby d3_0) rfl rfl k) ?_
  refine Go.on (fun _ k => XS.iloadN X0.here hx rfl (hb hby d3_1) rfl k) ?_
  show Go _ _ _ _ _ _ _ _ (mkF m 2 #[Sr a0, Si i1, Sd 4607182418800017408, .second, .unset] [(.int i1), (.ref a0)])
  obtain ⟨cq1, kq1, q1a, q1b, q1c⟩ := isOf hZ e0 E_a0
  obtain ⟨_, _, ⟨T1, L1, k1, n1⟩, -, X1, ⟨Lc1, hQ1, l1, y1, z1⟩, st1⟩ := X0.virtualBack hx (y := (⟨"com/example/due_weight/dueweight/core/Pairs", "indexOf", "(I)I"⟩ : MethodName)) (z := (⟨"com/example/due_weight/dueweight/core/Pairs", "indexOf", "(I)I"⟩ : MethodName)) hown (mvT hZ (hw _ (List.mem_of_getElem? (i := 23) rfl))) (mvT hZ (hw _ (List.mem_of_getElem? (i := 24) rfl))) (notFace_of_selects (args := #[]) (mvT hZ (hw _ (List.mem_of_getElem? (i := 26) rfl)))) (mvT hZ (hw _ (List.mem_of_getElem? (i := 26) rfl))) (mvT hZ (hw _ (List.mem_of_getElem? (i := 25) rfl))) (by decide) (backOf (W := 0) (ixl l Z aw hw [] a0 i1 [m0, m1, m2] [(.int (0 : Int32))] (3 : Int32) am k_am (4 : Int32) [(.int m0), (.int m1), (.int m2), (.int (0 : Int32))] h0 n0 ZZ F_slots_a0 F_length_a0 F_members_a0 V_am rfl (by decide) rfl) hZ (hw _ (List.mem_of_getElem? (i := 27) rfl)) (hw _ (List.mem_of_getElem? (i := 3) rfl)) (by decide) (by decide)) q1a q1c (g := (mkF m 2 #[Sr a0, Si i1, Sd 4607182418800017408, .second, .unset] [(.int i1), (.ref a0)])) rfl (by rw [hml]; rfl) (Steps.refl _) (argsL := [(.int i1)]) (rest := []) (lenOf pd_4 rfl) rfl (by show 2 * 0 + _ ≤ _; exact Nat.le_of_eq rfl) (hb hby d3_2) (fun _ _ => ⟨rfl, e0, (by decide : 0 + 0 ≤ _), (by decide : 0 + 0 ≤ _)⟩)
  dsimp only [Pt.U, Pt.locs, Pt.cells, Pt.slots] at X1 l1 y1 z1 st1 hQ1
  subst l1 y1 z1
  obtain ⟨rfl, N1q, e1⟩ := hQ1
  have N1 := Fr.app N0 N1q
  refine Go.on (fun _ k => st1.trans k) ?_
  show Go _ _ _ _ _ _ _ _ (mkF m 5 #[Sr a0, Si i1, Sd 4607182418800017408, .second, .unset] [(.int (findL [m0, m1, m2] i1 0))])
  generalize hix : (findL [m0, m1, m2] i1 0) = ix
  show Go _ _ _ _ _ _ _ _ (mkF m 5 #[Sr a0, Si i1, Sd 4607182418800017408, .second, .unset] [(.int ix)])
  refine Go.on (fun _ k => XS.istore X1.here hx rfl (hb hby d3_5) rfl (l' := #[.val (.ref a0), .val (.int i1), .val (.double (4607182418800017408 : UInt64)), .second, .val (.int ix)]) rfl k) ?_
  show Go _ _ _ _ _ _ _ _ (mkF m 7 #[Sr a0, Si i1, Sd 4607182418800017408, .second, Si ix] [])
  refine Go.on (fun _ k => XS.iload X1.here hx rfl (hb hby d3_7) rfl k) ?_
  show Go _ _ _ _ _ _ _ _ (mkF m 9 #[Sr a0, Si i1, Sd 4607182418800017408, .second, Si ix] [(.int ix)])
  have hc2 : ix < (0 : Int32) := by rw [← hix]; simp only [findL, if_neg hne0, if_neg hne1, if_neg hne2]; decide
  refine Go.on (fun _ k => XS.ifNo X1.here hx rfl (hb hby d3_9) rfl ((if0 _ _).trans (tlt hc2).2.1) k) ?_
  refine Go.on (fun _ k => XS.aloadN X1.here hx rfl (hb hby d3_12) rfl rfl k) ?_
  show Go _ _ _ _ _ _ _ _ (mkF m 13 #[Sr a0, Si i1, Sd 4607182418800017408, .second, Si ix] [(.ref a0)])
  obtain ⟨T3, X3, e3, st3⟩ := getF X1 hx hZ hown (host := "") (Or.inl (hw _ (List.mem_of_getElem? (i := 30) rfl))) Via.refl e1 F_length_a0 (g := (mkF m 13 #[Sr a0, Si i1, Sd 4607182418800017408, .second, Si ix] [(.ref a0)])) rfl rfl (hb hby d3_13)
  refine Go.on st3 ?_
  show Go _ _ _ _ _ _ _ _ (mkF m 16 #[Sr a0, Si i1, Sd 4607182418800017408, .second, Si ix] [(.int 3)])
  refine Go.on (fun _ k => XS.aloadN X3.here hx rfl (hb hby d3_16) rfl rfl k) ?_
  show Go _ _ _ _ _ _ _ _ (mkF m 17 #[Sr a0, Si i1, Sd 4607182418800017408, .second, Si ix] [(.ref a0), (.int 3)])
  obtain ⟨T4, X4, e4, st4⟩ := getF X3 hx hZ hown (host := "") (Or.inl (hw _ (List.mem_of_getElem? (i := 11) rfl))) Via.refl e3 F_members_a0 (g := (mkF m 17 #[Sr a0, Si i1, Sd 4607182418800017408, .second, Si ix] [(.ref a0), (.int 3)])) rfl rfl (hb hby d3_17)
  refine Go.on st4 ?_
  show Go _ _ _ _ _ _ _ _ (mkF m 20 #[Sr a0, Si i1, Sd 4607182418800017408, .second, Si ix] [(.ref am), (.int 3)])
  obtain ⟨cl5, Ar5, -, S5, N5n, -, -⟩ := id V_am
  refine Go.on (X4.arraylength hx (by rw [e4]; exact Ar5.1) (State.isArrayOf_alike hZ.alike Ar5.2.1) (g := (mkF m 20 #[Sr a0, Si i1, Sd 4607182418800017408, .second, Si ix] [(.ref am), (.int 3)])) rfl rfl (hb hby d3_20)) ?_
  rw [len_of S5 N5n]
  show Go _ _ _ _ _ _ _ _ (mkF m 21 #[Sr a0, Si i1, Sd 4607182418800017408, .second, Si ix] [(.int 4), (.int 3)])
  have hc6 : ¬ ((3 : Int32) = (4 : Int32)) := by decide
  refine Go.on (fun _ k => XS.icmpYes X4.here hx rfl (pc0 := 21) (pc' := 59) rfl (hb hby d3_21) rfl (feq hc6).2 (by decide) (by decide) k) ?_
  refine Go.on (fun _ k => XS.aloadN X4.here hx rfl (hb hby d3_59) rfl rfl k) ?_
  refine Go.on (fun _ k => XS.dup X4.here hx rfl (hb hby d3_60) rfl rfl k) ?_
  show Go _ _ _ _ _ _ _ _ (mkF m 61 #[Sr a0, Si i1, Sd 4607182418800017408, .second, Si ix] [(.ref a0), (.ref a0)])
  obtain ⟨T7, X7, e7, st7⟩ := getF X4 hx hZ hown (host := "") (Or.inl (hw _ (List.mem_of_getElem? (i := 30) rfl))) Via.refl e4 F_length_a0 (g := (mkF m 61 #[Sr a0, Si i1, Sd 4607182418800017408, .second, Si ix] [(.ref a0), (.ref a0)])) rfl rfl (hb hby d3_61)
  refine Go.on st7 ?_
  show Go _ _ _ _ _ _ _ _ (mkF m 64 #[Sr a0, Si i1, Sd 4607182418800017408, .second, Si ix] [(.int 3), (.ref a0)])
  refine Go.on (fun _ k => XS.dupX1 X7.here hx rfl (hb hby d3_64) rfl rfl rfl k) ?_
  show Go _ _ _ _ _ _ _ _ (mkF m 65 #[Sr a0, Si i1, Sd 4607182418800017408, .second, Si ix] [(.int 3), (.ref a0), (.int 3)])
  refine Go.on (fun _ k => XS.iconst X7.here hx rfl (hb hby d3_65) k) ?_
  refine Go.on (fun _ k => XS.iadd X7.here hx rfl (hb hby d3_66) rfl k) ?_
  show Go _ _ _ _ _ _ _ _ (mkF m 67 #[Sr a0, Si i1, Sd 4607182418800017408, .second, Si ix] [(.int 4), (.ref a0), (.int 3)])
  obtain ⟨T8, h8, X8, e8, W8, st8⟩ := putF X7 hx hZ hown (host := "") (Or.inl (hw _ (List.mem_of_getElem? (i := 30) rfl))) Via.refl e7 F_length_a0 E_a0 (Or.inl (hw _ (List.mem_of_getElem? (i := 31) rfl))) (hw _ (List.mem_of_getElem? (i := 2) rfl)) (ty := .int) (by decide) rfl rfl (g := (mkF m 67 #[Sr a0, Si i1, Sd 4607182418800017408, .second, Si ix] [(.int 4), (.ref a0), (.int 3)])) rfl rfl (hb hby d3_67)
  refine Go.on st8 ?_
  replace F_length_a0 := F_length_a0.same W8
  replace E_a0 := E_a0.wr W8
  replace F_members_a0 := F_members_a0.other W8 (Or.inr (slot_ne (Or.inl (hw _ (List.mem_of_getElem? (i := 12) rfl))) (Or.inl (hw _ (List.mem_of_getElem? (i := 31) rfl))) (by decide) (t := (.array .int)) (t' := .int) (by decide) (by decide)))
  replace F_weights_a0 := F_weights_a0.other W8 (Or.inr (slot_ne (Or.inl (hw _ (List.mem_of_getElem? (i := 15) rfl))) (Or.inl (hw _ (List.mem_of_getElem? (i := 31) rfl))) (by decide) (t := (.array .double)) (t' := .int) (by decide) (by decide)))
  replace F_exact_a0 := F_exact_a0.other W8 (Or.inr (slot_ne (Or.inl (hw _ (List.mem_of_getElem? (i := 17) rfl))) (Or.inl (hw _ (List.mem_of_getElem? (i := 31) rfl))) (by decide) (t := .boolean) (t' := .int) (by decide) (by decide)))
  replace F_slots_a0 := F_slots_a0.other W8 (Or.inr (slot_ne (Or.inl (hw _ (List.mem_of_getElem? (i := 29) rfl))) (Or.inl (hw _ (List.mem_of_getElem? (i := 31) rfl))) (by decide) (t := (.array .int)) (t' := .int) (by decide) (by decide)))
  replace F_fingerprint_a0 := F_fingerprint_a0.other W8 (Or.inr (slot_ne (Or.inl (hw _ (List.mem_of_getElem? (i := 33) rfl))) (Or.inl (hw _ (List.mem_of_getElem? (i := 31) rfl))) (by decide) (t := .long) (t' := .int) (by decide) (by decide)))
  replace F_history_a0 := F_history_a0.other W8 (Or.inr (slot_ne (Or.inl (hw _ (List.mem_of_getElem? (i := 52) rfl))) (Or.inl (hw _ (List.mem_of_getElem? (i := 31) rfl))) (by decide) (t := (.object "com/example/due_weight/dueweight/core/Pairs$History")) (t' := .int) (by decide) (by decide)))
  replace F_shift_a0 := F_shift_a0.other W8 (Or.inr (slot_ne (Or.inl (hw _ (List.mem_of_getElem? (i := 86) rfl))) (Or.inl (hw _ (List.mem_of_getElem? (i := 31) rfl))) (by decide) (t := .int) (t' := .int) (by decide) (by decide)))
  replace V_am := V_am.other W8 (Ne.symm ne_a0_am)
  replace V_wa := V_wa.other W8 (Ne.symm ne_a0_wa)
  have N8 := Fr.snoc X8 N1 g_a0
  replace ZZ := Nat.le_trans ZZ (Keep.of_wr W8).1
  replace KP := KP.wr W8 (Or.inl (List.mem_of_getElem? (i := 0) rfl))
  show Go _ _ _ _ _ _ _ _ (mkF m 70 #[Sr a0, Si i1, Sd 4607182418800017408, .second, Si ix] [(.int 3)])
  refine Go.on (fun _ k => XS.istore X8.here hx rfl (hb hby d3_70) rfl (l' := #[.val (.ref a0), .val (.int i1), .val (.double (4607182418800017408 : UInt64)), .second, .val (.int (3 : Int32))]) rfl k) ?_
  show Go _ _ _ _ _ _ _ _ (mkF m 72 #[Sr a0, Si i1, Sd 4607182418800017408, .second, Si 3] [])
  refine Go.on (fun _ k => XS.aloadN X8.here hx rfl (hb hby d3_72) rfl rfl k) ?_
  show Go _ _ _ _ _ _ _ _ (mkF m 73 #[Sr a0, Si i1, Sd 4607182418800017408, .second, Si 3] [(.ref a0)])
  obtain ⟨T9, X9, e9, st9⟩ := getF X8 hx hZ hown (host := "") (Or.inl (hw _ (List.mem_of_getElem? (i := 11) rfl))) Via.refl e8 F_members_a0 (g := (mkF m 73 #[Sr a0, Si i1, Sd 4607182418800017408, .second, Si 3] [(.ref a0)])) rfl rfl (hb hby d3_73)
  refine Go.on st9 ?_
  show Go _ _ _ _ _ _ _ _ (mkF m 76 #[Sr a0, Si i1, Sd 4607182418800017408, .second, Si 3] [(.ref am)])
  refine Go.on (fun _ k => XS.iload X9.here hx rfl (hb hby d3_76) rfl k) ?_
  refine Go.on (fun _ k => XS.iloadN X9.here hx rfl (hb hby d3_78) rfl k) ?_
  show Go _ _ _ _ _ _ _ _ (mkF m 79 #[Sr a0, Si i1, Sd 4607182418800017408, .second, Si 3] [(.int i1), (.int 3), (.ref am)])
  obtain ⟨cl10, Ar10, q10, S10, N10n, H10, G10⟩ := id V_am
  have hin10 : ¬ ((3 : Int32) < 0 ∨ cl10.slots.size ≤ ((3 : Int32)).toNatClampNeg) := inb_of S10 ⟨by decide, by decide⟩
  obtain ⟨T10, h10, X10, e10, W10, st10⟩ := stI X9 hx hZ e9 Ar10 (j := (3 : Int32)) hin10 (g := (mkF m 79 #[Sr a0, Si i1, Sd 4607182418800017408, .second, Si 3] [(.int i1), (.int 3), (.ref am)])) rfl rfl (hb hby d3_79)
  replace V_am := Arv.set Ar10 q10 S10 N10n H10 G10 rfl W10 3 rfl (Nat.le_of_ble_eq_true rfl)
  replace E_a0 := E_a0.wr W10
  replace F_members_a0 := F_members_a0.other W10 (Or.inl ne_a0_am)
  replace F_weights_a0 := F_weights_a0.other W10 (Or.inl ne_a0_am)
  replace F_exact_a0 := F_exact_a0.other W10 (Or.inl ne_a0_am)
  replace F_slots_a0 := F_slots_a0.other W10 (Or.inl ne_a0_am)
  replace F_length_a0 := F_length_a0.other W10 (Or.inl ne_a0_am)
  replace F_fingerprint_a0 := F_fingerprint_a0.other W10 (Or.inl ne_a0_am)
  replace F_history_a0 := F_history_a0.other W10 (Or.inl ne_a0_am)
  replace F_shift_a0 := F_shift_a0.other W10 (Or.inl ne_a0_am)
  replace V_wa := V_wa.other W10 (Ne.symm ne_am_wa)
  refine Go.on st10 ?_
  have N10 := Fr.snoc X10 N8 g_am
  replace ZZ := Nat.le_trans ZZ (Keep.of_wr W10).1
  replace KP := KP.wr W10 (Or.inl (List.mem_of_getElem? (i := 1) rfl))
  change Arv Z h10 am k_am .int (4 : Int32) [(.int m0), (.int m1), (.int m2), (.int i1)] (.int (0 : Int32)) at V_am
  show Go _ _ _ _ _ _ _ _ (mkF m 80 #[Sr a0, Si i1, Sd 4607182418800017408, .second, Si 3] [])
  refine Go.on (fun _ k => XS.aloadN X10.here hx rfl (hb hby d3_80) rfl rfl k) ?_
  show Go _ _ _ _ _ _ _ _ (mkF m 81 #[Sr a0, Si i1, Sd 4607182418800017408, .second, Si 3] [(.ref a0)])
  obtain ⟨T11, X11, e11, st11⟩ := getF X10 hx hZ hown (host := "") (Or.inl (hw _ (List.mem_of_getElem? (i := 14) rfl))) Via.refl e10 F_weights_a0 (g := (mkF m 81 #[Sr a0, Si i1, Sd 4607182418800017408, .second, Si 3] [(.ref a0)])) rfl rfl (hb hby d3_81)
  refine Go.on st11 ?_
  show Go _ _ _ _ _ _ _ _ (mkF m 84 #[Sr a0, Si i1, Sd 4607182418800017408, .second, Si 3] [(.ref wa)])
  refine Go.on (fun _ k => XS.iload X11.here hx rfl (hb hby d3_84) rfl k) ?_
  refine Go.on (fun _ k => XS.dloadN X11.here hx rfl (hb hby d3_86) rfl k) ?_
  show Go _ _ _ _ _ _ _ _ (mkF m 87 #[Sr a0, Si i1, Sd 4607182418800017408, .second, Si 3] [(.double 4607182418800017408), (.int 3), (.ref wa)])
  obtain ⟨cl12, Ar12, q12, S12, N12n, H12, G12⟩ := id V_wa
  have hin12 : ¬ ((3 : Int32) < 0 ∨ cl12.slots.size ≤ ((3 : Int32)).toNatClampNeg) := inb_of S12 ⟨by decide, by decide⟩
  obtain ⟨T12, h12, X12, e12, W12, st12⟩ := stD X11 hx hZ e11 Ar12 (j := (3 : Int32)) hin12 (g := (mkF m 87 #[Sr a0, Si i1, Sd 4607182418800017408, .second, Si 3] [(.double 4607182418800017408), (.int 3), (.ref wa)])) rfl rfl (hb hby d3_87)
  replace V_wa := Arv.set Ar12 q12 S12 N12n H12 G12 rfl W12 3 rfl (Nat.le_of_ble_eq_true rfl)
  replace E_a0 := E_a0.wr W12
  replace F_members_a0 := F_members_a0.other W12 (Or.inl ne_a0_wa)
  replace F_weights_a0 := F_weights_a0.other W12 (Or.inl ne_a0_wa)
  replace F_exact_a0 := F_exact_a0.other W12 (Or.inl ne_a0_wa)
  replace F_slots_a0 := F_slots_a0.other W12 (Or.inl ne_a0_wa)
  replace F_length_a0 := F_length_a0.other W12 (Or.inl ne_a0_wa)
  replace F_fingerprint_a0 := F_fingerprint_a0.other W12 (Or.inl ne_a0_wa)
  replace F_history_a0 := F_history_a0.other W12 (Or.inl ne_a0_wa)
  replace F_shift_a0 := F_shift_a0.other W12 (Or.inl ne_a0_wa)
  replace V_am := V_am.other W12 ne_am_wa
  refine Go.on st12 ?_
  have N12 := Fr.snoc X12 N10 g_wa
  replace ZZ := Nat.le_trans ZZ (Keep.of_wr W12).1
  replace KP := KP.wr W12 (Or.inl (List.mem_of_getElem? (i := 2) rfl))
  change Arv Z h12 wa k_wa .double (4 : Int32) [(.double (4607182418800017408 : UInt64)), (.double (4607182418800017408 : UInt64)), (.double (4607182418800017408 : UInt64)), (.double (4607182418800017408 : UInt64))] (.double (0 : UInt64)) at V_wa
  show Go _ _ _ _ _ _ _ _ (mkF m 88 #[Sr a0, Si i1, Sd 4607182418800017408, .second, Si 3] [])
  refine Go.on (fun _ k => XS.aloadN X12.here hx rfl (hb hby d3_88) rfl rfl k) ?_
  show Go _ _ _ _ _ _ _ _ (mkF m 89 #[Sr a0, Si i1, Sd 4607182418800017408, .second, Si 3] [(.ref a0)])
  obtain ⟨T13, X13, e13, st13⟩ := getF X12 hx hZ hown (host := "") (Or.inl (hw _ (List.mem_of_getElem? (i := 28) rfl))) Via.refl e12 F_slots_a0 (g := (mkF m 89 #[Sr a0, Si i1, Sd 4607182418800017408, .second, Si 3] [(.ref a0)])) rfl rfl (hb hby d3_89)
  refine Go.on st13 ?_
  show Go _ _ _ _ _ _ _ _ (mkF m 92 #[Sr a0, Si i1, Sd 4607182418800017408, .second, Si 3] [.null])
  refine Go.on (fun _ k => XS.ifnullYes X13.here hx rfl (pc0 := 92) (pc' := 118) rfl (hb hby d3_92) rfl (by decide) (by decide) k) ?_
  show Go _ _ _ _ _ _ _ _ (mkF m 118 #[Sr a0, Si i1, Sd 4607182418800017408, .second, Si 3] [])
  refine Go.on (fun _ k => XS.aloadN X13.here hx rfl (hb hby d3_118) rfl rfl k) ?_
  show Go _ _ _ _ _ _ _ _ (mkF m 119 #[Sr a0, Si i1, Sd 4607182418800017408, .second, Si 3] [(.ref a0)])
  obtain ⟨T14, X14, e14, st14⟩ := getF X13 hx hZ hown (host := "") (Or.inl (hw _ (List.mem_of_getElem? (i := 30) rfl))) Via.refl e13 F_length_a0 (g := (mkF m 119 #[Sr a0, Si i1, Sd 4607182418800017408, .second, Si 3] [(.ref a0)])) rfl rfl (hb hby d3_119)
  refine Go.on st14 ?_
  show Go _ _ _ _ _ _ _ _ (mkF m 122 #[Sr a0, Si i1, Sd 4607182418800017408, .second, Si 3] [(.int 4)])
  refine Go.on (fun _ k => XS.bipush X14.here hx rfl (hb hby d3_122) k) ?_
  show Go _ _ _ _ _ _ _ _ (mkF m 124 #[Sr a0, Si i1, Sd 4607182418800017408, .second, Si 3] [(.int 8), (.int 4)])
  have hc15 : ¬ ((8 : Int32) < (4 : Int32)) := by decide
  refine Go.on (fun _ k => XS.icmpYes X14.here hx rfl (pc0 := 124) (pc' := 215) rfl (hb hby d3_124) rfl (flt hc15).2.2.2 (by decide) (by decide) k) ?_
  refine Go.on (fun _ k => XS.aloadN X14.here hx rfl (hb hby d3_215) rfl rfl k) ?_
  refine Go.on (fun _ k => XS.dup X14.here hx rfl (hb hby d3_216) rfl rfl k) ?_
  show Go _ _ _ _ _ _ _ _ (mkF m 217 #[Sr a0, Si i1, Sd 4607182418800017408, .second, Si 3] [(.ref a0), (.ref a0)])
  obtain ⟨T16, X16, e16, st16⟩ := getF X14 hx hZ hown (host := "") (Or.inl (hw _ (List.mem_of_getElem? (i := 32) rfl))) Via.refl e14 F_fingerprint_a0 (g := (mkF m 217 #[Sr a0, Si i1, Sd 4607182418800017408, .second, Si 3] [(.ref a0), (.ref a0)])) rfl rfl (hb hby d3_217)
  refine Go.on st16 ?_
  show Go _ _ _ _ _ _ _ _ (mkF m 220 #[Sr a0, Si i1, Sd 4607182418800017408, .second, Si 3] [(.long fp0), (.ref a0)])
  refine Go.on (fun _ k => XS.iloadN X16.here hx rfl (hb hby d3_220) rfl k) ?_
  refine Go.on (fun _ k => XS.aloadN X16.here hx rfl (hb hby d3_221) rfl rfl k) ?_
  show Go _ _ _ _ _ _ _ _ (mkF m 222 #[Sr a0, Si i1, Sd 4607182418800017408, .second, Si 3] [(.ref a0), (.int i1), (.long fp0), (.ref a0)])
  obtain ⟨T17, X17, e17, st17⟩ := getF X16 hx hZ hown (host := "") (Or.inl (hw _ (List.mem_of_getElem? (i := 14) rfl))) Via.refl e16 F_weights_a0 (g := (mkF m 222 #[Sr a0, Si i1, Sd 4607182418800017408, .second, Si 3] [(.ref a0), (.int i1), (.long fp0), (.ref a0)])) rfl rfl (hb hby d3_222)
  refine Go.on st17 ?_
  show Go _ _ _ _ _ _ _ _ (mkF m 225 #[Sr a0, Si i1, Sd 4607182418800017408, .second, Si 3] [(.ref wa), (.int i1), (.long fp0), (.ref a0)])
  refine Go.on (fun _ k => XS.iload X17.here hx rfl (hb hby d3_225) rfl k) ?_
  show Go _ _ _ _ _ _ _ _ (mkF m 227 #[Sr a0, Si i1, Sd 4607182418800017408, .second, Si 3] [(.int 3), (.ref wa), (.int i1), (.long fp0), (.ref a0)])
  obtain ⟨cl18, Ar18, -, S18, -, H18, -⟩ := id V_wa
  have hin18 : ¬ ((3 : Int32) < 0 ∨ cl18.slots.size ≤ ((3 : Int32)).toNatClampNeg) := inb_of S18 ⟨by decide, by decide⟩
  refine Go.on (X17.daload hx (j := (3 : Int32)) (v := (.double (4607182418800017408 : UInt64))) (by rw [e17]; exact Ar18.1) (State.isArrayOf_alike hZ.alike Ar18.2.1) Ar18.2.2 hin18 (H18.at hin18 (rfl)) (g := (mkF m 227 #[Sr a0, Si i1, Sd 4607182418800017408, .second, Si 3] [(.int 3), (.ref wa), (.int i1), (.long fp0), (.ref a0)])) rfl rfl (hb hby d3_227)) ?_
  show Go _ _ _ _ _ _ _ _ (mkF m 228 #[Sr a0, Si i1, Sd 4607182418800017408, .second, Si 3] [(.double 4607182418800017408), (.int i1), (.long fp0), (.ref a0)])
  obtain ⟨_, _, ⟨T19, L19, k19, n19⟩, -, X19, ⟨Lc19, hQ19, l19, y19, z19⟩, st19⟩ := Jvm.LawKit.callS X17 hx (y := (⟨"com/example/due_weight/dueweight/core/Pairs", "fingerprint", "(ID)J"⟩ : MethodName)) hown (mvT hZ (hw _ (List.mem_of_getElem? (i := 34) rfl))) (mvT hZ (hw _ (List.mem_of_getElem? (i := 35) rfl))) (mvT hZ (hw _ (List.mem_of_getElem? (i := 3) rfl))) (mvT hZ (hw _ (List.mem_of_getElem? (i := 36) rfl))) (by decide) (backOf (W := 3) (rm5 l Z aw hw [] i1 (4607182418800017408 : UInt64)  h12 n0 ZZ (by decide +kernel)) hZ (hw _ (List.mem_of_getElem? (i := 36) rfl)) (hw _ (List.mem_of_getElem? (i := 3) rfl)) (by decide) (by decide)) (g := (mkF m 228 #[Sr a0, Si i1, Sd 4607182418800017408, .second, Si 3] [(.double 4607182418800017408), (.int i1), (.long fp0), (.ref a0)])) rfl (by rw [hml]; rfl) (argsL := [(.int i1), (.double (4607182418800017408 : UInt64))]) (rest := [(.long fp0), (.ref a0)]) (lenOf pd_5 rfl) rfl (by show 2 * 0 + _ ≤ _; exact Nat.le_of_eq rfl) (hb hby d3_228) (fun _ _ => ⟨rfl, e17, (by decide : 0 + 0 ≤ _), (by decide : 0 + 0 ≤ _)⟩)
  dsimp only [Pt.U, Pt.locs, Pt.cells, Pt.slots] at X19 l19 y19 z19 st19 hQ19
  subst l19 y19 z19
  obtain ⟨rfl, N19q, e19⟩ := hQ19
  have N19 := Fr.app N12 N19q
  refine Go.on st19 ?_
  show Go _ _ _ _ _ _ _ _ (mkF m 231 #[Sr a0, Si i1, Sd 4607182418800017408, .second, Si 3] [(.long (mixV ((mixV ((4607182418800017408 : UInt64).toInt64)) + (i1.toInt64)))), (.long fp0), (.ref a0)])
  generalize hfv : (mixV ((mixV ((4607182418800017408 : UInt64).toInt64)) + (i1.toInt64))) = fv
  show Go _ _ _ _ _ _ _ _ (mkF m 231 #[Sr a0, Si i1, Sd 4607182418800017408, .second, Si 3] [(.long fv), (.long fp0), (.ref a0)])
  refine Go.on (fun _ k => XS.ladd X19.here hx rfl (hb hby d3_231) rfl k) ?_
  show Go _ _ _ _ _ _ _ _ (mkF m 232 #[Sr a0, Si i1, Sd 4607182418800017408, .second, Si 3] [(.long (fp0 + fv)), (.ref a0)])
  obtain ⟨T20, h20, X20, e20, W20, st20⟩ := putF X19 hx hZ hown (host := "") (Or.inl (hw _ (List.mem_of_getElem? (i := 32) rfl))) Via.refl e19 F_fingerprint_a0 E_a0 (Or.inl (hw _ (List.mem_of_getElem? (i := 33) rfl))) (hw _ (List.mem_of_getElem? (i := 2) rfl)) (ty := .long) (by decide) rfl rfl (g := (mkF m 232 #[Sr a0, Si i1, Sd 4607182418800017408, .second, Si 3] [(.long (fp0 + fv)), (.ref a0)])) rfl rfl (hb hby d3_232)
  refine Go.on st20 ?_
  replace F_fingerprint_a0 := F_fingerprint_a0.same W20
  replace E_a0 := E_a0.wr W20
  replace F_members_a0 := F_members_a0.other W20 (Or.inr (slot_ne (Or.inl (hw _ (List.mem_of_getElem? (i := 12) rfl))) (Or.inl (hw _ (List.mem_of_getElem? (i := 33) rfl))) (by decide) (t := (.array .int)) (t' := .long) (by decide) (by decide)))
  replace F_weights_a0 := F_weights_a0.other W20 (Or.inr (slot_ne (Or.inl (hw _ (List.mem_of_getElem? (i := 15) rfl))) (Or.inl (hw _ (List.mem_of_getElem? (i := 33) rfl))) (by decide) (t := (.array .double)) (t' := .long) (by decide) (by decide)))
  replace F_exact_a0 := F_exact_a0.other W20 (Or.inr (slot_ne (Or.inl (hw _ (List.mem_of_getElem? (i := 17) rfl))) (Or.inl (hw _ (List.mem_of_getElem? (i := 33) rfl))) (by decide) (t := .boolean) (t' := .long) (by decide) (by decide)))
  replace F_slots_a0 := F_slots_a0.other W20 (Or.inr (slot_ne (Or.inl (hw _ (List.mem_of_getElem? (i := 29) rfl))) (Or.inl (hw _ (List.mem_of_getElem? (i := 33) rfl))) (by decide) (t := (.array .int)) (t' := .long) (by decide) (by decide)))
  replace F_length_a0 := F_length_a0.other W20 (Or.inr (slot_ne (Or.inl (hw _ (List.mem_of_getElem? (i := 31) rfl))) (Or.inl (hw _ (List.mem_of_getElem? (i := 33) rfl))) (by decide) (t := .int) (t' := .long) (by decide) (by decide)))
  replace F_history_a0 := F_history_a0.other W20 (Or.inr (slot_ne (Or.inl (hw _ (List.mem_of_getElem? (i := 52) rfl))) (Or.inl (hw _ (List.mem_of_getElem? (i := 33) rfl))) (by decide) (t := (.object "com/example/due_weight/dueweight/core/Pairs$History")) (t' := .long) (by decide) (by decide)))
  replace F_shift_a0 := F_shift_a0.other W20 (Or.inr (slot_ne (Or.inl (hw _ (List.mem_of_getElem? (i := 86) rfl))) (Or.inl (hw _ (List.mem_of_getElem? (i := 33) rfl))) (by decide) (t := .int) (t' := .long) (by decide) (by decide)))
  replace V_am := V_am.other W20 (Ne.symm ne_a0_am)
  replace V_wa := V_wa.other W20 (Ne.symm ne_a0_wa)
  have N20 := Fr.snoc X20 N19 g_a0
  replace ZZ := Nat.le_trans ZZ (Keep.of_wr W20).1
  replace KP := KP.wr W20 (Or.inl (List.mem_of_getElem? (i := 0) rfl))
  show Go _ _ _ _ _ _ _ _ (mkF m 235 #[Sr a0, Si i1, Sd 4607182418800017408, .second, Si 3] [])
  refine Go.on (fun _ k => XS.aloadN X20.here hx rfl (hb hby d3_235) rfl rfl k) ?_
  show Go _ _ _ _ _ _ _ _ (mkF m 236 #[Sr a0, Si i1, Sd 4607182418800017408, .second, Si 3] [(.ref a0)])
  obtain ⟨T21, X21, e21, st21⟩ := getF X20 hx hZ hown (host := "") (Or.inl (hw _ (List.mem_of_getElem? (i := 51) rfl))) Via.refl e20 F_history_a0 (g := (mkF m 236 #[Sr a0, Si i1, Sd 4607182418800017408, .second, Si 3] [(.ref a0)])) rfl rfl (hb hby d3_236)
  refine Go.on st21 ?_
  show Go _ _ _ _ _ _ _ _ (mkF m 239 #[Sr a0, Si i1, Sd 4607182418800017408, .second, Si 3] [.null])
  refine Go.on (fun _ k => XS.ifnullYes X21.here hx rfl (pc0 := 239) (pc' := 255) rfl (hb hby d3_239) rfl (by decide) (by decide) k) ?_
  show Go _ _ _ _ _ _ _ _ (mkF m 255 #[Sr a0, Si i1, Sd 4607182418800017408, .second, Si 3] [])
  refine Go.on (fun _ k => XS.iload X21.here hx rfl (hb hby d3_255) rfl k) ?_
  show Go _ _ _ _ _ _ _ _ (mkF m 257 #[Sr a0, Si i1, Sd 4607182418800017408, .second, Si 3] [(.int 3)])
  refine Go.retV X21 hx Bd.returns rfl (Or.inl ⟨rfl, Or.inl rfl, _, rfl⟩) (hb hby d3_257) ?_ (by rw [hK1]; decide) (by rw [hK2]; decide)
  rw [e21, ← hQQ]
  exact ⟨am, wa, k_am, k_wa, _, rfl, N20, KP, E_a0, F_members_a0, F_weights_a0, F_exact_a0, F_slots_a0, F_length_a0, F_fingerprint_a0, F_history_a0, F_shift_a0, V_am, V_wa, g_am, g_wa, ne_a0_am, ne_a0_wa, ne_am_wa⟩
theorem ef_add_4 (m : MethodId) (a0 : Addr) (i1 : Int32) : entryFrame m #[(.ref a0), (.int i1), (.double (4607182418800017408 : UInt64))] 5 = mkF m 0 #[.val (.ref a0), .val (.int i1), .val (.double (4607182418800017408 : UInt64)), .second, .unset] [] := by first | (simp [entryFrame, mkF, argsToLocals, Value.category]; done) | rfl
def Q_add_4 (Z : State) (a0 : Addr) (i1 : Int32) (am : Addr) (wa : Addr) (fp0 : Int64) (k_am : ClassId) (m0 : Int32) (m1 : Int32) (m2 : Int32) (m3 : Int32) (k_wa : ClassId) (h0 : Heap) (n0 : Nat) (v : Option Value) (h : Heap) (L : List Loc) : Prop := ∃ (mb wb : Addr) (k_mb k_wb : ClassId) (fq : Int64), v = some (.int (4 : Int32)) ∧ Fr n0 L ∧ Keep h0 h [a0, am, wa] ∧ Exa Z h a0 "com/example/due_weight/dueweight/core/Pairs" ∧ Fld Z h a0 "com/example/due_weight/dueweight/core/Pairs" "members" "[I" (.ref mb) ∧ Fld Z h a0 "com/example/due_weight/dueweight/core/Pairs" "weights" "[D" (.ref wb) ∧ Fld Z h a0 "com/example/due_weight/dueweight/core/Pairs" "exact" "Z" (.int (1 : Int32)) ∧ Fld Z h a0 "com/example/due_weight/dueweight/core/Pairs" "slots" "[I" .null ∧ Fld Z h a0 "com/example/due_weight/dueweight/core/Pairs" "length" "I" (.int (5 : Int32)) ∧ Fld Z h a0 "com/example/due_weight/dueweight/core/Pairs" "fingerprint" "J" (.long fq) ∧ Fld Z h a0 "com/example/due_weight/dueweight/core/Pairs" "history" "Lcom/example/due_weight/dueweight/core/Pairs$History;" .null ∧ Fld Z h a0 "com/example/due_weight/dueweight/core/Pairs" "shift" "I" (.int (0 : Int32)) ∧ Arv Z h mb k_mb .int (8 : Int32) [(.int m0), (.int m1), (.int m2), (.int m3), (.int i1), (.int (0 : Int32)), (.int (0 : Int32)), (.int (0 : Int32))] (.int (0 : Int32)) ∧ Arv Z h wb k_wb .double (8 : Int32) [(.double (4607182418800017408 : UInt64)), (.double (4607182418800017408 : UInt64)), (.double (4607182418800017408 : UInt64)), (.double (4607182418800017408 : UInt64)), (.double (4607182418800017408 : UInt64)), (.double (0 : UInt64)), (.double (0 : UInt64)), (.double (0 : UInt64))] (.double (0 : UInt64)) ∧ n0 ≤ mb ∧ n0 ≤ wb ∧ a0 ≠ mb ∧ a0 ≠ wb ∧ mb ≠ wb
set_option maxRecDepth 65536 in
set_option maxHeartbeats 40000000 in
theorem add_4 (l : Launch) (Z : State) (aw : Array Value) (hw : ∀ d ∈ tables_1, d.before aw Z = true) (ws : List Jvm.Cond) (a0 : Addr) (i1 : Int32) (am : Addr) (wa : Addr) (fp0 : Int64) (k_am : ClassId) (m0 : Int32) (m1 : Int32) (m2 : Int32) (m3 : Int32) (k_wa : ClassId) (h0 : Heap) (n0 : Nat) (Z0 : n0 ≤ h0.size) (E_a0 : Exa Z h0 a0 "com/example/due_weight/dueweight/core/Pairs") (F_members_a0 : Fld Z h0 a0 "com/example/due_weight/dueweight/core/Pairs" "members" "[I" (.ref am)) (F_weights_a0 : Fld Z h0 a0 "com/example/due_weight/dueweight/core/Pairs" "weights" "[D" (.ref wa)) (F_exact_a0 : Fld Z h0 a0 "com/example/due_weight/dueweight/core/Pairs" "exact" "Z" (.int (1 : Int32))) (F_slots_a0 : Fld Z h0 a0 "com/example/due_weight/dueweight/core/Pairs" "slots" "[I" .null) (F_length_a0 : Fld Z h0 a0 "com/example/due_weight/dueweight/core/Pairs" "length" "I" (.int (4 : Int32))) (F_fingerprint_a0 : Fld Z h0 a0 "com/example/due_weight/dueweight/core/Pairs" "fingerprint" "J" (.long fp0)) (F_history_a0 : Fld Z h0 a0 "com/example/due_weight/dueweight/core/Pairs" "history" "Lcom/example/due_weight/dueweight/core/Pairs$History;" .null) (F_shift_a0 : Fld Z h0 a0 "com/example/due_weight/dueweight/core/Pairs" "shift" "I" (.int (0 : Int32))) (V_am : Arv Z h0 am k_am .int (4 : Int32) [(.int m0), (.int m1), (.int m2), (.int m3)] (.int (0 : Int32))) (V_wa : Arv Z h0 wa k_wa .double (4 : Int32) [(.double (4607182418800017408 : UInt64)), (.double (4607182418800017408 : UInt64)), (.double (4607182418800017408 : UInt64)), (.double (4607182418800017408 : UInt64))] (.double (0 : UInt64))) (g_a0 : n0 ≤ a0) (g_am : n0 ≤ am) (g_wa : n0 ≤ wa) (ne_a0_am : a0 ≠ am) (ne_a0_wa : a0 ≠ wa) (ne_am_wa : am ≠ wa) (hne0 : ¬ (m0 = i1)) (hne1 : ¬ (m1 = i1)) (hne2 : ¬ (m2 = i1)) (hne3 : ¬ (m3 = i1)) :
    MetFree l (⟨"com/example/due_weight/dueweight/core/Pairs", "add", "(ID)I"⟩ : MethodName) (head1 (Jvm.Cond.code (⟨"com/example/due_weight/dueweight/core/Pairs", "add", "(ID)I"⟩ : MethodName) prog_21_method_7_code 5 (some .int) :: ws) ({ frames := 3, cells := 2, slots := 16, locals := 45 } : Room)) (fun a U => a = #[(.ref a0), (.int i1), (.double (4607182418800017408 : UInt64))] ∧ Z.Warmed39 U.vm ∧ U.heap = h0) (fun _ _ _ _ _ => True) (fun _ U o U' => ∃ v L, o = .returned v ∧ Q_add_4 Z a0 i1 am wa fp0 k_am m0 m1 m2 m3 k_wa h0 n0 v U'.heap L ∧ FrameEnd U o U' L ({ frames := 3, cells := 2, slots := 16, locals := 45 } : Room).cells ({ frames := 3, cells := 2, slots := 16, locals := 45 } : Room).slots) := by
  refine MetFree.of_bodySF (plainFor_of_name pn_0) hisR ?_
  intro p e s m args below meth c s₁ Bd hml0 hP hK
  obtain ⟨rfl, hZ, hh⟩ := hP
  have hx := Bd.exec
  have hby := Bd.bytes
  have hml : c.maxLocals = 5 := hml0
  have hown : s.vm.findClass "com/example/due_weight/dueweight/core/Pairs" = some m.cls := findClass_of_methodNamed Bd.named
  have hnm := (name_of_methodNamed Bd.named Bd.method).1
  have hlk : meth.locks = false := BodyLoose.notSynchronized Bd
  have X0 : Stand p l e ({ frames := 3, cells := 2, slots := 16, locals := 45 } : Room) s m #[(.ref a0), (.int i1), (.double (4607182418800017408 : UInt64))] below meth c s₁ [] 0 0 := Stand.of_body Bd
  have e0 : s₁.heap = h0 := by rw [← hh, Bd.state]; rfl
  have N0 := Fr.nil n0
  have ZZ := Z0
  show Go p e below s ({ frames := 3, cells := 2, slots := 16, locals := 45 } : Room).cells ({ frames := 3, cells := 2, slots := 16, locals := 45 } : Room).slots (fun v h L => Q_add_4 Z a0 i1 am wa fp0 k_am m0 m1 m2 m3 k_wa h0 n0 v h L) s₁ (entryFrame m #[(.ref a0), (.int i1), (.double (4607182418800017408 : UInt64))] 5)
  refine Go.cast (ef_add_4 m a0 i1) ?_
  refine Go.gen ?_
  intro K1 K2 QQ hK1 hK2 hQQ
  have KP : Keep h0 h0 [a0, am, wa] := Keep.refl _ _
  refine Go.on (fun _ k => XS.aloadN X0.here hx rfl (hb hby d3_0) rfl rfl k) ?_
  refine Go.on (fun _ k => XS.iloadN X0.here hx rfl (hb hby d3_1) rfl k) ?_
  show Go _ _ _ _ _ _ _ _ (mkF m 2 #[Sr a0, Si i1, Sd 4607182418800017408, .second, .unset] [(.int i1), (.ref a0)])
  obtain ⟨cq1, kq1, q1a, q1b, q1c⟩ := isOf hZ e0 E_a0
  obtain ⟨_, _, ⟨T1, L1, k1, n1⟩, -, X1, ⟨Lc1, hQ1, l1, y1, z1⟩, st1⟩ := X0.virtualBack hx (y := (⟨"com/example/due_weight/dueweight/core/Pairs", "indexOf", "(I)I"⟩ : MethodName)) (z := (⟨"com/example/due_weight/dueweight/core/Pairs", "indexOf", "(I)I"⟩ : MethodName)) hown (mvT hZ (hw _ (List.mem_of_getElem? (i := 23) rfl))) (mvT hZ (hw _ (List.mem_of_getElem? (i := 24) rfl))) (notFace_of_selects (args := #[]) (mvT hZ (hw _ (List.mem_of_getElem? (i := 26) rfl)))) (mvT hZ (hw _ (List.mem_of_getElem? (i := 26) rfl))) (mvT hZ (hw _ (List.mem_of_getElem? (i := 25) rfl))) (by decide) (backOf (W := 0) (ixl l Z aw hw [] a0 i1 [m0, m1, m2, m3] [] (4 : Int32) am k_am (4 : Int32) [(.int m0), (.int m1), (.int m2), (.int m3)] h0 n0 ZZ F_slots_a0 F_length_a0 F_members_a0 V_am rfl (by decide) rfl) hZ (hw _ (List.mem_of_getElem? (i := 27) rfl)) (hw _ (List.mem_of_getElem? (i := 3) rfl)) (by decide) (by decide)) q1a q1c (g := (mkF m 2 #[Sr a0, Si i1, Sd 4607182418800017408, .second, .unset] [(.int i1), (.ref a0)])) rfl (by rw [hml]; rfl) (Steps.refl _) (argsL := [(.int i1)]) (rest := []) (lenOf pd_4 rfl) rfl (by show 2 * 0 + _ ≤ _; exact Nat.le_of_eq rfl) (hb hby d3_2) (fun _ _ => ⟨rfl, e0, (by decide : 0 + 0 ≤ _), (by decide : 0 + 0 ≤ _)⟩)
  dsimp only [Pt.U, Pt.locs, Pt.cells, Pt.slots] at X1 l1 y1 z1 st1 hQ1
  subst l1 y1 z1
  obtain ⟨rfl, N1q, e1⟩ := hQ1
  have N1 := Fr.app N0 N1q
  refine Go.on (fun _ k => st1.trans k) ?_
  show Go _ _ _ _ _ _ _ _ (mkF m 5 #[Sr a0, Si i1, Sd 4607182418800017408, .second, .unset] [(.int (findL [m0, m1, m2, m3] i1 0))])
  generalize hix : (findL [m0, m1, m2, m3] i1 0) = ix
  show Go _ _ _ _ _ _ _ _ (mkF m 5 #[Sr a0, Si i1, Sd 4607182418800017408, .second, .unset] [(.int ix)])
  refine Go.on (fun _ k => XS.istore X1.here hx rfl (hb hby d3_5) rfl (l' := #[.val (.ref a0), .val (.int i1), .val (.double (4607182418800017408 : UInt64)), .second, .val (.int ix)]) rfl k) ?_
  show Go _ _ _ _ _ _ _ _ (mkF m 7 #[Sr a0, Si i1, Sd 4607182418800017408, .second, Si ix] [])
  refine Go.on (fun _ k => XS.iload X1.here hx rfl (hb hby d3_7) rfl k) ?_
  show Go _ _ _ _ _ _ _ _ (mkF m 9 #[Sr a0, Si i1, Sd 4607182418800017408, .second, Si ix] [(.int ix)])
  have hc2 : ix < (0 : Int32) := by rw [← hix]; simp only [findL, if_neg hne0, if_neg hne1, if_neg hne2, if_neg hne3]; decide
  refine Go.on (fun _ k => XS.ifNo X1.here hx rfl (hb hby d3_9) rfl ((if0 _ _).trans (tlt hc2).2.1) k) ?_
  refine Go.on (fun _ k => XS.aloadN X1.here hx rfl (hb hby d3_12) rfl rfl k) ?_
  show Go _ _ _ _ _ _ _ _ (mkF m 13 #[Sr a0, Si i1, Sd 4607182418800017408, .second, Si ix] [(.ref a0)])
  obtain ⟨T3, X3, e3, st3⟩ := getF X1 hx hZ hown (host := "") (Or.inl (hw _ (List.mem_of_getElem? (i := 30) rfl))) Via.refl e1 F_length_a0 (g := (mkF m 13 #[Sr a0, Si i1, Sd 4607182418800017408, .second, Si ix] [(.ref a0)])) rfl rfl (hb hby d3_13)
  refine Go.on st3 ?_
  show Go _ _ _ _ _ _ _ _ (mkF m 16 #[Sr a0, Si i1, Sd 4607182418800017408, .second, Si ix] [(.int 4)])
  refine Go.on (fun _ k => XS.aloadN X3.here hx rfl (hb hby d3_16) rfl rfl k) ?_
  show Go _ _ _ _ _ _ _ _ (mkF m 17 #[Sr a0, Si i1, Sd 4607182418800017408, .second, Si ix] [(.ref a0), (.int 4)])
  obtain ⟨T4, X4, e4, st4⟩ := getF X3 hx hZ hown (host := "") (Or.inl (hw _ (List.mem_of_getElem? (i := 11) rfl))) Via.refl e3 F_members_a0 (g := (mkF m 17 #[Sr a0, Si i1, Sd 4607182418800017408, .second, Si ix] [(.ref a0), (.int 4)])) rfl rfl (hb hby d3_17)
  refine Go.on st4 ?_
  show Go _ _ _ _ _ _ _ _ (mkF m 20 #[Sr a0, Si i1, Sd 4607182418800017408, .second, Si ix] [(.ref am), (.int 4)])
  obtain ⟨cl5, Ar5, -, S5, N5n, -, -⟩ := id V_am
  refine Go.on (X4.arraylength hx (by rw [e4]; exact Ar5.1) (State.isArrayOf_alike hZ.alike Ar5.2.1) (g := (mkF m 20 #[Sr a0, Si i1, Sd 4607182418800017408, .second, Si ix] [(.ref am), (.int 4)])) rfl rfl (hb hby d3_20)) ?_
  rw [len_of S5 N5n]
  show Go _ _ _ _ _ _ _ _ (mkF m 21 #[Sr a0, Si i1, Sd 4607182418800017408, .second, Si ix] [(.int 4), (.int 4)])
  have hc6 : (4 : Int32) = (4 : Int32) := by decide
  refine Go.on (fun _ k => XS.icmpNo X4.here hx rfl (hb hby d3_21) rfl (teq hc6).2 k) ?_
  refine Go.on (fun _ k => XS.aloadN X4.here hx rfl (hb hby d3_24) rfl rfl k) ?_
  refine Go.on (fun _ k => XS.aloadN X4.here hx rfl (hb hby d3_25) rfl rfl k) ?_
  show Go _ _ _ _ _ _ _ _ (mkF m 26 #[Sr a0, Si i1, Sd 4607182418800017408, .second, Si ix] [(.ref a0), (.ref a0)])
  obtain ⟨T7, X7, e7, st7⟩ := getF X4 hx hZ hown (host := "") (Or.inl (hw _ (List.mem_of_getElem? (i := 11) rfl))) Via.refl e4 F_members_a0 (g := (mkF m 26 #[Sr a0, Si i1, Sd 4607182418800017408, .second, Si ix] [(.ref a0), (.ref a0)])) rfl rfl (hb hby d3_26)
  refine Go.on st7 ?_
  show Go _ _ _ _ _ _ _ _ (mkF m 29 #[Sr a0, Si i1, Sd 4607182418800017408, .second, Si ix] [(.ref am), (.ref a0)])
  refine Go.on (fun _ k => XS.aloadN X7.here hx rfl (hb hby d3_29) rfl rfl k) ?_
  show Go _ _ _ _ _ _ _ _ (mkF m 30 #[Sr a0, Si i1, Sd 4607182418800017408, .second, Si ix] [(.ref a0), (.ref am), (.ref a0)])
  obtain ⟨T8, X8, e8, st8⟩ := getF X7 hx hZ hown (host := "") (Or.inl (hw _ (List.mem_of_getElem? (i := 30) rfl))) Via.refl e7 F_length_a0 (g := (mkF m 30 #[Sr a0, Si i1, Sd 4607182418800017408, .second, Si ix] [(.ref a0), (.ref am), (.ref a0)])) rfl rfl (hb hby d3_30)
  refine Go.on st8 ?_
  show Go _ _ _ _ _ _ _ _ (mkF m 33 #[Sr a0, Si i1, Sd 4607182418800017408, .second, Si ix] [(.int 4), (.ref am), (.ref a0)])
  refine Go.on (fun _ k => XS.iconst X8.here hx rfl (hb hby d3_33) k) ?_
  show Go _ _ _ _ _ _ _ _ (mkF m 34 #[Sr a0, Si i1, Sd 4607182418800017408, .second, Si ix] [(.int 2), (.int 4), (.ref am), (.ref a0)])
  obtain ⟨_, _, ⟨T9, L9, k9, n9⟩, -, X9, ⟨Lc9, hQ9, l9, y9, z9⟩, st9⟩ := Jvm.LawKit.callS X8 hx (y := (⟨"java/lang/Math", "multiplyExact", "(II)I"⟩ : MethodName)) hown (mvT hZ (hw _ (List.mem_of_getElem? (i := 58) rfl))) (mvT hZ (hw _ (List.mem_of_getElem? (i := 59) rfl))) (mvT hZ (hw _ (List.mem_of_getElem? (i := 60) rfl))) (mvT hZ (hw _ (List.mem_of_getElem? (i := 61) rfl))) (by decide) (backOf (W := 2) (mul_4 l Z aw hw []   h0 n0 ZZ ) hZ (hw _ (List.mem_of_getElem? (i := 61) rfl)) (hw _ (List.mem_of_getElem? (i := 60) rfl)) (by decide) (by decide)) (g := (mkF m 34 #[Sr a0, Si i1, Sd 4607182418800017408, .second, Si ix] [(.int 2), (.int 4), (.ref am), (.ref a0)])) rfl (by rw [hml]; rfl) (argsL := [(.int (4 : Int32)), (.int (2 : Int32))]) (rest := [(.ref am), (.ref a0)]) (lenOf pd_3 rfl) rfl (by show 2 * 0 + _ ≤ _; exact Nat.le_of_eq rfl) (hb hby d3_34) (fun _ _ => ⟨rfl, e8, (by decide : 0 + 0 ≤ _), (by decide : 0 + 0 ≤ _)⟩)
  dsimp only [Pt.U, Pt.locs, Pt.cells, Pt.slots] at X9 l9 y9 z9 st9 hQ9
  subst l9 y9 z9
  obtain ⟨rfl, N9q, e9⟩ := hQ9
  have N9 := Fr.app N1 N9q
  refine Go.on st9 ?_
  show Go _ _ _ _ _ _ _ _ (mkF m 37 #[Sr a0, Si i1, Sd 4607182418800017408, .second, Si ix] [(.int 8), (.ref am), (.ref a0)])
  obtain ⟨_, _, ⟨T10, L10, k10, n10⟩, -, X10, ⟨Lc10, hQ10, l10, y10, z10⟩, st10⟩ := Jvm.LawKit.callS X9 hx (y := (⟨"java/util/Arrays", "copyOf", "([II)[I"⟩ : MethodName)) hown (mvT hZ (hw _ (List.mem_of_getElem? (i := 62) rfl))) (mvT hZ (hw _ (List.mem_of_getElem? (i := 63) rfl))) (mvT hZ (hw _ (List.mem_of_getElem? (i := 64) rfl))) (mvT hZ (hw _ (List.mem_of_getElem? (i := 65) rfl))) (by decide) (backOf (W := 1) (copy_int_4 l Z aw hw [] am k_am m0 m1 m2 m3 h0 n0 ZZ V_am) hZ (hw _ (List.mem_of_getElem? (i := 65) rfl)) (hw _ (List.mem_of_getElem? (i := 64) rfl)) (by decide) (by decide)) (g := (mkF m 37 #[Sr a0, Si i1, Sd 4607182418800017408, .second, Si ix] [(.int 8), (.ref am), (.ref a0)])) rfl (by rw [hml]; rfl) (argsL := [(.ref am), (.int (8 : Int32))]) (rest := [(.ref a0)]) (lenOf pd_6 rfl) rfl (by show 2 * 0 + _ ≤ _; exact Nat.le_of_eq rfl) (hb hby d3_37) (fun _ _ => ⟨rfl, e9, (by decide : 0 + 1 ≤ _), (by decide : 0 + 8 ≤ _)⟩)
  dsimp only [Pt.U, Pt.locs, Pt.cells, Pt.slots] at X10 l10 y10 z10 st10 hQ10
  subst l10 y10 z10
  obtain ⟨h10, e10⟩ : ∃ q, T10.heap = q := ⟨_, rfl⟩
  rw [e10] at hQ10
  obtain ⟨mb, k_mb, rfl, N10q, K10q, szq10, V_mb⟩ := hQ10
  have N10 := Fr.app N9 N10q
  have g_mb : n0 ≤ mb := Nat.le_trans ZZ szq10
  have sz_mb : h0.size ≤ mb := Nat.le_trans KP.1 szq10
  have ne_a0_mb : a0 ≠ mb := Nat.ne_of_lt (Nat.lt_of_lt_of_le E_a0.lt szq10)
  have ne_am_mb : am ≠ mb := Nat.ne_of_lt (Nat.lt_of_lt_of_le V_am.lt szq10)
  have ne_wa_mb : wa ≠ mb := Nat.ne_of_lt (Nat.lt_of_lt_of_le V_wa.lt szq10)
  replace E_a0 := E_a0.keep K10q
  replace F_members_a0 := F_members_a0.keep K10q nin0
  replace F_weights_a0 := F_weights_a0.keep K10q nin0
  replace F_exact_a0 := F_exact_a0.keep K10q nin0
  replace F_slots_a0 := F_slots_a0.keep K10q nin0
  replace F_length_a0 := F_length_a0.keep K10q nin0
  replace F_fingerprint_a0 := F_fingerprint_a0.keep K10q nin0
  replace F_history_a0 := F_history_a0.keep K10q nin0
  replace F_shift_a0 := F_shift_a0.keep K10q nin0
  replace V_am := V_am.keep K10q nin0
  replace V_wa := V_wa.keep K10q nin0
  replace ZZ := Nat.le_trans ZZ K10q.1
  replace KP := KP.trans K10q all0
  refine Go.on st10 ?_
  show Go _ _ _ _ _ _ _ _ (mkF m 40 #[Sr a0, Si i1, Sd 4607182418800017408, .second, Si ix] [(.ref mb), (.ref a0)])
  obtain ⟨T11, h11, X11, e11, W11, st11⟩ := putF X10 hx hZ hown (host := "") (Or.inl (hw _ (List.mem_of_getElem? (i := 11) rfl))) Via.refl e10 F_members_a0 E_a0 (Or.inl (hw _ (List.mem_of_getElem? (i := 12) rfl))) (hw _ (List.mem_of_getElem? (i := 2) rfl)) (ty := (.array .int)) (by decide) rfl rfl (g := (mkF m 40 #[Sr a0, Si i1, Sd 4607182418800017408, .second, Si ix] [(.ref mb), (.ref a0)])) rfl rfl (hb hby d3_40)
  refine Go.on st11 ?_
  replace F_members_a0 := F_members_a0.same W11
  replace E_a0 := E_a0.wr W11
  replace F_weights_a0 := F_weights_a0.other W11 (Or.inr (slot_ne (Or.inl (hw _ (List.mem_of_getElem? (i := 15) rfl))) (Or.inl (hw _ (List.mem_of_getElem? (i := 12) rfl))) (by decide) (t := (.array .double)) (t' := (.array .int)) (by decide) (by decide)))
  replace F_exact_a0 := F_exact_a0.other W11 (Or.inr (slot_ne (Or.inl (hw _ (List.mem_of_getElem? (i := 17) rfl))) (Or.inl (hw _ (List.mem_of_getElem? (i := 12) rfl))) (by decide) (t := .boolean) (t' := (.array .int)) (by decide) (by decide)))
  replace F_slots_a0 := F_slots_a0.other W11 (Or.inr (slot_ne (Or.inl (hw _ (List.mem_of_getElem? (i := 29) rfl))) (Or.inl (hw _ (List.mem_of_getElem? (i := 12) rfl))) (by decide) (t := (.array .int)) (t' := (.array .int)) (by decide) (by decide)))
  replace F_length_a0 := F_length_a0.other W11 (Or.inr (slot_ne (Or.inl (hw _ (List.mem_of_getElem? (i := 31) rfl))) (Or.inl (hw _ (List.mem_of_getElem? (i := 12) rfl))) (by decide) (t := .int) (t' := (.array .int)) (by decide) (by decide)))
  replace F_fingerprint_a0 := F_fingerprint_a0.other W11 (Or.inr (slot_ne (Or.inl (hw _ (List.mem_of_getElem? (i := 33) rfl))) (Or.inl (hw _ (List.mem_of_getElem? (i := 12) rfl))) (by decide) (t := .long) (t' := (.array .int)) (by decide) (by decide)))
  replace F_history_a0 := F_history_a0.other W11 (Or.inr (slot_ne (Or.inl (hw _ (List.mem_of_getElem? (i := 52) rfl))) (Or.inl (hw _ (List.mem_of_getElem? (i := 12) rfl))) (by decide) (t := (.object "com/example/due_weight/dueweight/core/Pairs$History")) (t' := (.array .int)) (by decide) (by decide)))
  replace F_shift_a0 := F_shift_a0.other W11 (Or.inr (slot_ne (Or.inl (hw _ (List.mem_of_getElem? (i := 86) rfl))) (Or.inl (hw _ (List.mem_of_getElem? (i := 12) rfl))) (by decide) (t := .int) (t' := (.array .int)) (by decide) (by decide)))
  replace V_am := V_am.other W11 (Ne.symm ne_a0_am)
  replace V_wa := V_wa.other W11 (Ne.symm ne_a0_wa)
  replace V_mb := V_mb.other W11 (Ne.symm ne_a0_mb)
  have N11 := Fr.snoc X11 N10 g_a0
  replace ZZ := Nat.le_trans ZZ (Keep.of_wr W11).1
  replace KP := KP.wr W11 (Or.inl (List.mem_of_getElem? (i := 0) rfl))
  show Go _ _ _ _ _ _ _ _ (mkF m 43 #[Sr a0, Si i1, Sd 4607182418800017408, .second, Si ix] [])
  refine Go.on (fun _ k => XS.aloadN X11.here hx rfl (hb hby d3_43) rfl rfl k) ?_
  refine Go.on (fun _ k => XS.aloadN X11.here hx rfl (hb hby d3_44) rfl rfl k) ?_
  show Go _ _ _ _ _ _ _ _ (mkF m 45 #[Sr a0, Si i1, Sd 4607182418800017408, .second, Si ix] [(.ref a0), (.ref a0)])
  obtain ⟨T12, X12, e12, st12⟩ := getF X11 hx hZ hown (host := "") (Or.inl (hw _ (List.mem_of_getElem? (i := 14) rfl))) Via.refl e11 F_weights_a0 (g := (mkF m 45 #[Sr a0, Si i1, Sd 4607182418800017408, .second, Si ix] [(.ref a0), (.ref a0)])) rfl rfl (hb hby d3_45)
  refine Go.on st12 ?_
  show Go _ _ _ _ _ _ _ _ (mkF m 48 #[Sr a0, Si i1, Sd 4607182418800017408, .second, Si ix] [(.ref wa), (.ref a0)])
  refine Go.on (fun _ k => XS.aloadN X12.here hx rfl (hb hby d3_48) rfl rfl k) ?_
  show Go _ _ _ _ _ _ _ _ (mkF m 49 #[Sr a0, Si i1, Sd 4607182418800017408, .second, Si ix] [(.ref a0), (.ref wa), (.ref a0)])
  obtain ⟨T13, X13, e13, st13⟩ := getF X12 hx hZ hown (host := "") (Or.inl (hw _ (List.mem_of_getElem? (i := 11) rfl))) Via.refl e12 F_members_a0 (g := (mkF m 49 #[Sr a0, Si i1, Sd 4607182418800017408, .second, Si ix] [(.ref a0), (.ref wa), (.ref a0)])) rfl rfl (hb hby d3_49)
  refine Go.on st13 ?_
  show Go _ _ _ _ _ _ _ _ (mkF m 52 #[Sr a0, Si i1, Sd 4607182418800017408, .second, Si ix] [(.ref mb), (.ref wa), (.ref a0)])
  obtain ⟨cl14, Ar14, -, S14, N14n, -, -⟩ := id V_mb
  refine Go.on (X13.arraylength hx (by rw [e13]; exact Ar14.1) (State.isArrayOf_alike hZ.alike Ar14.2.1) (g := (mkF m 52 #[Sr a0, Si i1, Sd 4607182418800017408, .second, Si ix] [(.ref mb), (.ref wa), (.ref a0)])) rfl rfl (hb hby d3_52)) ?_
  rw [len_of S14 N14n]
  show Go _ _ _ _ _ _ _ _ (mkF m 53 #[Sr a0, Si i1, Sd 4607182418800017408, .second, Si ix] [(.int 8), (.ref wa), (.ref a0)])
  obtain ⟨_, _, ⟨T15, L15, k15, n15⟩, -, X15, ⟨Lc15, hQ15, l15, y15, z15⟩, st15⟩ := Jvm.LawKit.callS X13 hx (y := (⟨"java/util/Arrays", "copyOf", "([DI)[D"⟩ : MethodName)) hown (mvT hZ (hw _ (List.mem_of_getElem? (i := 73) rfl))) (mvT hZ (hw _ (List.mem_of_getElem? (i := 74) rfl))) (mvT hZ (hw _ (List.mem_of_getElem? (i := 64) rfl))) (mvT hZ (hw _ (List.mem_of_getElem? (i := 75) rfl))) (by decide) (backOf (W := 1) (copy_double_4 l Z aw hw [] wa k_wa h11 n0 ZZ V_wa) hZ (hw _ (List.mem_of_getElem? (i := 75) rfl)) (hw _ (List.mem_of_getElem? (i := 64) rfl)) (by decide) (by decide)) (g := (mkF m 53 #[Sr a0, Si i1, Sd 4607182418800017408, .second, Si ix] [(.int 8), (.ref wa), (.ref a0)])) rfl (by rw [hml]; rfl) (argsL := [(.ref wa), (.int (8 : Int32))]) (rest := [(.ref a0)]) (lenOf pd_7 rfl) rfl (by show 2 * 0 + _ ≤ _; exact Nat.le_of_eq rfl) (hb hby d3_53) (fun _ _ => ⟨rfl, e13, (by decide : 1 + 1 ≤ _), (by decide : 8 + 8 ≤ _)⟩)
  dsimp only [Pt.U, Pt.locs, Pt.cells, Pt.slots] at X15 l15 y15 z15 st15 hQ15
  subst l15 y15 z15
  obtain ⟨h15, e15⟩ : ∃ q, T15.heap = q := ⟨_, rfl⟩
  rw [e15] at hQ15
  obtain ⟨wb, k_wb, rfl, N15q, K15q, szq15, V_wb⟩ := hQ15
  have N15 := Fr.app N11 N15q
  have g_wb : n0 ≤ wb := Nat.le_trans ZZ szq15
  have sz_wb : h0.size ≤ wb := Nat.le_trans KP.1 szq15
  have ne_a0_wb : a0 ≠ wb := Nat.ne_of_lt (Nat.lt_of_lt_of_le E_a0.lt szq15)
  have ne_am_wb : am ≠ wb := Nat.ne_of_lt (Nat.lt_of_lt_of_le V_am.lt szq15)
  have ne_wa_wb : wa ≠ wb := Nat.ne_of_lt (Nat.lt_of_lt_of_le V_wa.lt szq15)
  have ne_mb_wb : mb ≠ wb := Nat.ne_of_lt (Nat.lt_of_lt_of_le V_mb.lt szq15)
  replace E_a0 := E_a0.keep K15q
  replace F_members_a0 := F_members_a0.keep K15q nin0
  replace F_weights_a0 := F_weights_a0.keep K15q nin0
  replace F_exact_a0 := F_exact_a0.keep K15q nin0
  replace F_slots_a0 := F_slots_a0.keep K15q nin0
  replace F_length_a0 := F_length_a0.keep K15q nin0
  replace F_fingerprint_a0 := F_fingerprint_a0.keep K15q nin0
  replace F_history_a0 := F_history_a0.keep K15q nin0
  replace F_shift_a0 := F_shift_a0.keep K15q nin0
  replace V_am := V_am.keep K15q nin0
  replace V_wa := V_wa.keep K15q nin0
  replace V_mb := V_mb.keep K15q nin0
  replace ZZ := Nat.le_trans ZZ K15q.1
  replace KP := KP.trans K15q all0
  refine Go.on st15 ?_
  show Go _ _ _ _ _ _ _ _ (mkF m 56 #[Sr a0, Si i1, Sd 4607182418800017408, .second, Si ix] [(.ref wb), (.ref a0)])
  obtain ⟨T16, h16, X16, e16, W16, st16⟩ := putF X15 hx hZ hown (host := "") (Or.inl (hw _ (List.mem_of_getElem? (i := 14) rfl))) Via.refl e15 F_weights_a0 E_a0 (Or.inl (hw _ (List.mem_of_getElem? (i := 15) rfl))) (hw _ (List.mem_of_getElem? (i := 2) rfl)) (ty := (.array .double)) (by decide) rfl rfl (g := (mkF m 56 #[Sr a0, Si i1, Sd 4607182418800017408, .second, Si ix] [(.ref wb), (.ref a0)])) rfl rfl (hb hby d3_56)
  refine Go.on st16 ?_
  replace F_weights_a0 := F_weights_a0.same W16
  replace E_a0 := E_a0.wr W16
  replace F_members_a0 := F_members_a0.other W16 (Or.inr (slot_ne (Or.inl (hw _ (List.mem_of_getElem? (i := 12) rfl))) (Or.inl (hw _ (List.mem_of_getElem? (i := 15) rfl))) (by decide) (t := (.array .int)) (t' := (.array .double)) (by decide) (by decide)))
  replace F_exact_a0 := F_exact_a0.other W16 (Or.inr (slot_ne (Or.inl (hw _ (List.mem_of_getElem? (i := 17) rfl))) (Or.inl (hw _ (List.mem_of_getElem? (i := 15) rfl))) (by decide) (t := .boolean) (t' := (.array .double)) (by decide) (by decide)))
  replace F_slots_a0 := F_slots_a0.other W16 (Or.inr (slot_ne (Or.inl (hw _ (List.mem_of_getElem? (i := 29) rfl))) (Or.inl (hw _ (List.mem_of_getElem? (i := 15) rfl))) (by decide) (t := (.array .int)) (t' := (.array .double)) (by decide) (by decide)))
  replace F_length_a0 := F_length_a0.other W16 (Or.inr (slot_ne (Or.inl (hw _ (List.mem_of_getElem? (i := 31) rfl))) (Or.inl (hw _ (List.mem_of_getElem? (i := 15) rfl))) (by decide) (t := .int) (t' := (.array .double)) (by decide) (by decide)))
  replace F_fingerprint_a0 := F_fingerprint_a0.other W16 (Or.inr (slot_ne (Or.inl (hw _ (List.mem_of_getElem? (i := 33) rfl))) (Or.inl (hw _ (List.mem_of_getElem? (i := 15) rfl))) (by decide) (t := .long) (t' := (.array .double)) (by decide) (by decide)))
  replace F_history_a0 := F_history_a0.other W16 (Or.inr (slot_ne (Or.inl (hw _ (List.mem_of_getElem? (i := 52) rfl))) (Or.inl (hw _ (List.mem_of_getElem? (i := 15) rfl))) (by decide) (t := (.object "com/example/due_weight/dueweight/core/Pairs$History")) (t' := (.array .double)) (by decide) (by decide)))
  replace F_shift_a0 := F_shift_a0.other W16 (Or.inr (slot_ne (Or.inl (hw _ (List.mem_of_getElem? (i := 86) rfl))) (Or.inl (hw _ (List.mem_of_getElem? (i := 15) rfl))) (by decide) (t := .int) (t' := (.array .double)) (by decide) (by decide)))
  replace V_am := V_am.other W16 (Ne.symm ne_a0_am)
  replace V_wa := V_wa.other W16 (Ne.symm ne_a0_wa)
  replace V_mb := V_mb.other W16 (Ne.symm ne_a0_mb)
  replace V_wb := V_wb.other W16 (Ne.symm ne_a0_wb)
  have N16 := Fr.snoc X16 N15 g_a0
  replace ZZ := Nat.le_trans ZZ (Keep.of_wr W16).1
  replace KP := KP.wr W16 (Or.inl (List.mem_of_getElem? (i := 0) rfl))
  show Go _ _ _ _ _ _ _ _ (mkF m 59 #[Sr a0, Si i1, Sd 4607182418800017408, .second, Si ix] [])
  refine Go.on (fun _ k => XS.aloadN X16.here hx rfl (hb hby d3_59) rfl rfl k) ?_
  refine Go.on (fun _ k => XS.dup X16.here hx rfl (hb hby d3_60) rfl rfl k) ?_
  show Go _ _ _ _ _ _ _ _ (mkF m 61 #[Sr a0, Si i1, Sd 4607182418800017408, .second, Si ix] [(.ref a0), (.ref a0)])
  obtain ⟨T17, X17, e17, st17⟩ := getF X16 hx hZ hown (host := "") (Or.inl (hw _ (List.mem_of_getElem? (i := 30) rfl))) Via.refl e16 F_length_a0 (g := (mkF m 61 #[Sr a0, Si i1, Sd 4607182418800017408, .second, Si ix] [(.ref a0), (.ref a0)])) rfl rfl (hb hby d3_61)
  refine Go.on st17 ?_
  show Go _ _ _ _ _ _ _ _ (mkF m 64 #[Sr a0, Si i1, Sd 4607182418800017408, .second, Si ix] [(.int 4), (.ref a0)])
  refine Go.on (fun _ k => XS.dupX1 X17.here hx rfl (hb hby d3_64) rfl rfl rfl k) ?_
  show Go _ _ _ _ _ _ _ _ (mkF m 65 #[Sr a0, Si i1, Sd 4607182418800017408, .second, Si ix] [(.int 4), (.ref a0), (.int 4)])
  refine Go.on (fun _ k => XS.iconst X17.here hx rfl (hb hby d3_65) k) ?_
  refine Go.on (fun _ k => XS.iadd X17.here hx rfl (hb hby d3_66) rfl k) ?_
  show Go _ _ _ _ _ _ _ _ (mkF m 67 #[Sr a0, Si i1, Sd 4607182418800017408, .second, Si ix] [(.int 5), (.ref a0), (.int 4)])
  obtain ⟨T18, h18, X18, e18, W18, st18⟩ := putF X17 hx hZ hown (host := "") (Or.inl (hw _ (List.mem_of_getElem? (i := 30) rfl))) Via.refl e17 F_length_a0 E_a0 (Or.inl (hw _ (List.mem_of_getElem? (i := 31) rfl))) (hw _ (List.mem_of_getElem? (i := 2) rfl)) (ty := .int) (by decide) rfl rfl (g := (mkF m 67 #[Sr a0, Si i1, Sd 4607182418800017408, .second, Si ix] [(.int 5), (.ref a0), (.int 4)])) rfl rfl (hb hby d3_67)
  refine Go.on st18 ?_
  replace F_length_a0 := F_length_a0.same W18
  replace E_a0 := E_a0.wr W18
  replace F_members_a0 := F_members_a0.other W18 (Or.inr (slot_ne (Or.inl (hw _ (List.mem_of_getElem? (i := 12) rfl))) (Or.inl (hw _ (List.mem_of_getElem? (i := 31) rfl))) (by decide) (t := (.array .int)) (t' := .int) (by decide) (by decide)))
  replace F_weights_a0 := F_weights_a0.other W18 (Or.inr (slot_ne (Or.inl (hw _ (List.mem_of_getElem? (i := 15) rfl))) (Or.inl (hw _ (List.mem_of_getElem? (i := 31) rfl))) (by decide) (t := (.array .double)) (t' := .int) (by decide) (by decide)))
  replace F_exact_a0 := F_exact_a0.other W18 (Or.inr (slot_ne (Or.inl (hw _ (List.mem_of_getElem? (i := 17) rfl))) (Or.inl (hw _ (List.mem_of_getElem? (i := 31) rfl))) (by decide) (t := .boolean) (t' := .int) (by decide) (by decide)))
  replace F_slots_a0 := F_slots_a0.other W18 (Or.inr (slot_ne (Or.inl (hw _ (List.mem_of_getElem? (i := 29) rfl))) (Or.inl (hw _ (List.mem_of_getElem? (i := 31) rfl))) (by decide) (t := (.array .int)) (t' := .int) (by decide) (by decide)))
  replace F_fingerprint_a0 := F_fingerprint_a0.other W18 (Or.inr (slot_ne (Or.inl (hw _ (List.mem_of_getElem? (i := 33) rfl))) (Or.inl (hw _ (List.mem_of_getElem? (i := 31) rfl))) (by decide) (t := .long) (t' := .int) (by decide) (by decide)))
  replace F_history_a0 := F_history_a0.other W18 (Or.inr (slot_ne (Or.inl (hw _ (List.mem_of_getElem? (i := 52) rfl))) (Or.inl (hw _ (List.mem_of_getElem? (i := 31) rfl))) (by decide) (t := (.object "com/example/due_weight/dueweight/core/Pairs$History")) (t' := .int) (by decide) (by decide)))
  replace F_shift_a0 := F_shift_a0.other W18 (Or.inr (slot_ne (Or.inl (hw _ (List.mem_of_getElem? (i := 86) rfl))) (Or.inl (hw _ (List.mem_of_getElem? (i := 31) rfl))) (by decide) (t := .int) (t' := .int) (by decide) (by decide)))
  replace V_am := V_am.other W18 (Ne.symm ne_a0_am)
  replace V_wa := V_wa.other W18 (Ne.symm ne_a0_wa)
  replace V_mb := V_mb.other W18 (Ne.symm ne_a0_mb)
  replace V_wb := V_wb.other W18 (Ne.symm ne_a0_wb)
  have N18 := Fr.snoc X18 N16 g_a0
  replace ZZ := Nat.le_trans ZZ (Keep.of_wr W18).1
  replace KP := KP.wr W18 (Or.inl (List.mem_of_getElem? (i := 0) rfl))
  show Go _ _ _ _ _ _ _ _ (mkF m 70 #[Sr a0, Si i1, Sd 4607182418800017408, .second, Si ix] [(.int 4)])
  refine Go.on (fun _ k => XS.istore X18.here hx rfl (hb hby d3_70) rfl (l' := #[.val (.ref a0), .val (.int i1), .val (.double (4607182418800017408 : UInt64)), .second, .val (.int (4 : Int32))]) rfl k) ?_
  show Go _ _ _ _ _ _ _ _ (mkF m 72 #[Sr a0, Si i1, Sd 4607182418800017408, .second, Si 4] [])
  refine Go.on (fun _ k => XS.aloadN X18.here hx rfl (hb hby d3_72) rfl rfl k) ?_
  show Go _ _ _ _ _ _ _ _ (mkF m 73 #[Sr a0, Si i1, Sd 4607182418800017408, .second, Si 4] [(.ref a0)])
  obtain ⟨T19, X19, e19, st19⟩ := getF X18 hx hZ hown (host := "") (Or.inl (hw _ (List.mem_of_getElem? (i := 11) rfl))) Via.refl e18 F_members_a0 (g := (mkF m 73 #[Sr a0, Si i1, Sd 4607182418800017408, .second, Si 4] [(.ref a0)])) rfl rfl (hb hby d3_73)
  refine Go.on st19 ?_
  show Go _ _ _ _ _ _ _ _ (mkF m 76 #[Sr a0, Si i1, Sd 4607182418800017408, .second, Si 4] [(.ref mb)])
  refine Go.on (fun _ k => XS.iload X19.here hx rfl (hb hby d3_76) rfl k) ?_
  refine Go.on (fun _ k => XS.iloadN X19.here hx rfl (hb hby d3_78) rfl k) ?_
  show Go _ _ _ _ _ _ _ _ (mkF m 79 #[Sr a0, Si i1, Sd 4607182418800017408, .second, Si 4] [(.int i1), (.int 4), (.ref mb)])
  obtain ⟨cl20, Ar20, q20, S20, N20n, H20, G20⟩ := id V_mb
  have hin20 : ¬ ((4 : Int32) < 0 ∨ cl20.slots.size ≤ ((4 : Int32)).toNatClampNeg) := inb_of S20 ⟨by decide, by decide⟩
  obtain ⟨T20, h20, X20, e20, W20, st20⟩ := stI X19 hx hZ e19 Ar20 (j := (4 : Int32)) hin20 (g := (mkF m 79 #[Sr a0, Si i1, Sd 4607182418800017408, .second, Si 4] [(.int i1), (.int 4), (.ref mb)])) rfl rfl (hb hby d3_79)
  replace V_mb := Arv.set Ar20 q20 S20 N20n H20 G20 rfl W20 4 rfl (Nat.le_of_ble_eq_true rfl)
  replace E_a0 := E_a0.wr W20
  replace F_members_a0 := F_members_a0.other W20 (Or.inl ne_a0_mb)
  replace F_weights_a0 := F_weights_a0.other W20 (Or.inl ne_a0_mb)
  replace F_exact_a0 := F_exact_a0.other W20 (Or.inl ne_a0_mb)
  replace F_slots_a0 := F_slots_a0.other W20 (Or.inl ne_a0_mb)
  replace F_length_a0 := F_length_a0.other W20 (Or.inl ne_a0_mb)
  replace F_fingerprint_a0 := F_fingerprint_a0.other W20 (Or.inl ne_a0_mb)
  replace F_history_a0 := F_history_a0.other W20 (Or.inl ne_a0_mb)
  replace F_shift_a0 := F_shift_a0.other W20 (Or.inl ne_a0_mb)
  replace V_am := V_am.other W20 ne_am_mb
  replace V_wa := V_wa.other W20 ne_wa_mb
  replace V_wb := V_wb.other W20 (Ne.symm ne_mb_wb)
  refine Go.on st20 ?_
  have N20 := Fr.snoc X20 N18 g_mb
  replace ZZ := Nat.le_trans ZZ (Keep.of_wr W20).1
  replace KP := KP.wr W20 (Or.inr sz_mb)
  change Arv Z h20 mb k_mb .int (8 : Int32) [(.int m0), (.int m1), (.int m2), (.int m3), (.int i1), (.int (0 : Int32)), (.int (0 : Int32)), (.int (0 : Int32))] (.int (0 : Int32)) at V_mb
  show Go _ _ _ _ _ _ _ _ (mkF m 80 #[Sr a0, Si i1, Sd 4607182418800017408, .second, Si 4] [])
  refine Go.on (fun _ k => XS.aloadN X20.here hx rfl (hb hby d3_80) rfl rfl k) ?_
  show Go _ _ _ _ _ _ _ _ (mkF m 81 #[Sr a0, Si i1, Sd 4607182418800017408, .second, Si 4] [(.ref a0)])
  obtain ⟨T21, X21, e21, st21⟩ := getF X20 hx hZ hown (host := "") (Or.inl (hw _ (List.mem_of_getElem? (i := 14) rfl))) Via.refl e20 F_weights_a0 (g := (mkF m 81 #[Sr a0, Si i1, Sd 4607182418800017408, .second, Si 4] [(.ref a0)])) rfl rfl (hb hby d3_81)
  refine Go.on st21 ?_
  show Go _ _ _ _ _ _ _ _ (mkF m 84 #[Sr a0, Si i1, Sd 4607182418800017408, .second, Si 4] [(.ref wb)])
  refine Go.on (fun _ k => XS.iload X21.here hx rfl (hb hby d3_84) rfl k) ?_
  refine Go.on (fun _ k => XS.dloadN X21.here hx rfl (hb hby d3_86) rfl k) ?_
  show Go _ _ _ _ _ _ _ _ (mkF m 87 #[Sr a0, Si i1, Sd 4607182418800017408, .second, Si 4] [(.double 4607182418800017408), (.int 4), (.ref wb)])
  obtain ⟨cl22, Ar22, q22, S22, N22n, H22, G22⟩ := id V_wb
  have hin22 : ¬ ((4 : Int32) < 0 ∨ cl22.slots.size ≤ ((4 : Int32)).toNatClampNeg) := inb_of S22 ⟨by decide, by decide⟩
  obtain ⟨T22, h22, X22, e22, W22, st22⟩ := stD X21 hx hZ e21 Ar22 (j := (4 : Int32)) hin22 (g := (mkF m 87 #[Sr a0, Si i1, Sd 4607182418800017408, .second, Si 4] [(.double 4607182418800017408), (.int 4), (.ref wb)])) rfl rfl (hb hby d3_87)
  replace V_wb := Arv.set Ar22 q22 S22 N22n H22 G22 rfl W22 4 rfl (Nat.le_of_ble_eq_true rfl)
  replace E_a0 := E_a0.wr W22
  replace F_members_a0 := F_members_a0.other W22 (Or.inl ne_a0_wb)
  replace F_weights_a0 := F_weights_a0.other W22 (Or.inl ne_a0_wb)
  replace F_exact_a0 := F_exact_a0.other W22 (Or.inl ne_a0_wb)
  replace F_slots_a0 := F_slots_a0.other W22 (Or.inl ne_a0_wb)
  replace F_length_a0 := F_length_a0.other W22 (Or.inl ne_a0_wb)
  replace F_fingerprint_a0 := F_fingerprint_a0.other W22 (Or.inl ne_a0_wb)
  replace F_history_a0 := F_history_a0.other W22 (Or.inl ne_a0_wb)
  replace F_shift_a0 := F_shift_a0.other W22 (Or.inl ne_a0_wb)
  replace V_am := V_am.other W22 ne_am_wb
  replace V_wa := V_wa.other W22 ne_wa_wb
  replace V_mb := V_mb.other W22 ne_mb_wb
  refine Go.on st22 ?_
  have N22 := Fr.snoc X22 N20 g_wb
  replace ZZ := Nat.le_trans ZZ (Keep.of_wr W22).1
  replace KP := KP.wr W22 (Or.inr sz_wb)
  change Arv Z h22 wb k_wb .double (8 : Int32) [(.double (4607182418800017408 : UInt64)), (.double (4607182418800017408 : UInt64)), (.double (4607182418800017408 : UInt64)), (.double (4607182418800017408 : UInt64)), (.double (4607182418800017408 : UInt64)), (.double (0 : UInt64)), (.double (0 : UInt64)), (.double (0 : UInt64))] (.double (0 : UInt64)) at V_wb
  show Go _ _ _ _ _ _ _ _ (mkF m 88 #[Sr a0, Si i1, Sd 4607182418800017408, .second, Si 4] [])
  refine Go.on (fun _ k => XS.aloadN X22.here hx rfl (hb hby d3_88) rfl rfl k) ?_
  show Go _ _ _ _ _ _ _ _ (mkF m 89 #[Sr a0, Si i1, Sd 4607182418800017408, .second, Si 4] [(.ref a0)])
  obtain ⟨T23, X23, e23, st23⟩ := getF X22 hx hZ hown (host := "") (Or.inl (hw _ (List.mem_of_getElem? (i := 28) rfl))) Via.refl e22 F_slots_a0 (g := (mkF m 89 #[Sr a0, Si i1, Sd 4607182418800017408, .second, Si 4] [(.ref a0)])) rfl rfl (hb hby d3_89)
  refine Go.on st23 ?_
  show Go _ _ _ _ _ _ _ _ (mkF m 92 #[Sr a0, Si i1, Sd 4607182418800017408, .second, Si 4] [.null])
  refine Go.on (fun _ k => XS.ifnullYes X23.here hx rfl (pc0 := 92) (pc' := 118) rfl (hb hby d3_92) rfl (by decide) (by decide) k) ?_
  show Go _ _ _ _ _ _ _ _ (mkF m 118 #[Sr a0, Si i1, Sd 4607182418800017408, .second, Si 4] [])
  refine Go.on (fun _ k => XS.aloadN X23.here hx rfl (hb hby d3_118) rfl rfl k) ?_
  show Go _ _ _ _ _ _ _ _ (mkF m 119 #[Sr a0, Si i1, Sd 4607182418800017408, .second, Si 4] [(.ref a0)])
  obtain ⟨T24, X24, e24, st24⟩ := getF X23 hx hZ hown (host := "") (Or.inl (hw _ (List.mem_of_getElem? (i := 30) rfl))) Via.refl e23 F_length_a0 (g := (mkF m 119 #[Sr a0, Si i1, Sd 4607182418800017408, .second, Si 4] [(.ref a0)])) rfl rfl (hb hby d3_119)
  refine Go.on st24 ?_
  show Go _ _ _ _ _ _ _ _ (mkF m 122 #[Sr a0, Si i1, Sd 4607182418800017408, .second, Si 4] [(.int 5)])
  refine Go.on (fun _ k => XS.bipush X24.here hx rfl (hb hby d3_122) k) ?_
  show Go _ _ _ _ _ _ _ _ (mkF m 124 #[Sr a0, Si i1, Sd 4607182418800017408, .second, Si 4] [(.int 8), (.int 5)])
  have hc25 : ¬ ((8 : Int32) < (5 : Int32)) := by decide
  refine Go.on (fun _ k => XS.icmpYes X24.here hx rfl (pc0 := 124) (pc' := 215) rfl (hb hby d3_124) rfl (flt hc25).2.2.2 (by decide) (by decide) k) ?_
  refine Go.on (fun _ k => XS.aloadN X24.here hx rfl (hb hby d3_215) rfl rfl k) ?_
  refine Go.on (fun _ k => XS.dup X24.here hx rfl (hb hby d3_216) rfl rfl k) ?_
  show Go _ _ _ _ _ _ _ _ (mkF m 217 #[Sr a0, Si i1, Sd 4607182418800017408, .second, Si 4] [(.ref a0), (.ref a0)])
  obtain ⟨T26, X26, e26, st26⟩ := getF X24 hx hZ hown (host := "") (Or.inl (hw _ (List.mem_of_getElem? (i := 32) rfl))) Via.refl e24 F_fingerprint_a0 (g := (mkF m 217 #[Sr a0, Si i1, Sd 4607182418800017408, .second, Si 4] [(.ref a0), (.ref a0)])) rfl rfl (hb hby d3_217)
  refine Go.on st26 ?_
  show Go _ _ _ _ _ _ _ _ (mkF m 220 #[Sr a0, Si i1, Sd 4607182418800017408, .second, Si 4] [(.long fp0), (.ref a0)])
  refine Go.on (fun _ k => XS.iloadN X26.here hx rfl (hb hby d3_220) rfl k) ?_
  refine Go.on (fun _ k => XS.aloadN X26.here hx rfl (hb hby d3_221) rfl rfl k) ?_
  show Go _ _ _ _ _ _ _ _ (mkF m 222 #[Sr a0, Si i1, Sd 4607182418800017408, .second, Si 4] [(.ref a0), (.int i1), (.long fp0), (.ref a0)])
  obtain ⟨T27, X27, e27, st27⟩ := getF X26 hx hZ hown (host := "") (Or.inl (hw _ (List.mem_of_getElem? (i := 14) rfl))) Via.refl e26 F_weights_a0 (g := (mkF m 222 #[Sr a0, Si i1, Sd 4607182418800017408, .second, Si 4] [(.ref a0), (.int i1), (.long fp0), (.ref a0)])) rfl rfl (hb hby d3_222)
  refine Go.on st27 ?_
  show Go _ _ _ _ _ _ _ _ (mkF m 225 #[Sr a0, Si i1, Sd 4607182418800017408, .second, Si 4] [(.ref wb), (.int i1), (.long fp0), (.ref a0)])
  refine Go.on (fun _ k => XS.iload X27.here hx rfl (hb hby d3_225) rfl k) ?_
  show Go _ _ _ _ _ _ _ _ (mkF m 227 #[Sr a0, Si i1, Sd 4607182418800017408, .second, Si 4] [(.int 4), (.ref wb), (.int i1), (.long fp0), (.ref a0)])
  obtain ⟨cl28, Ar28, -, S28, -, H28, -⟩ := id V_wb
  have hin28 : ¬ ((4 : Int32) < 0 ∨ cl28.slots.size ≤ ((4 : Int32)).toNatClampNeg) := inb_of S28 ⟨by decide, by decide⟩
  refine Go.on (X27.daload hx (j := (4 : Int32)) (v := (.double (4607182418800017408 : UInt64))) (by rw [e27]; exact Ar28.1) (State.isArrayOf_alike hZ.alike Ar28.2.1) Ar28.2.2 hin28 (H28.at hin28 (rfl)) (g := (mkF m 227 #[Sr a0, Si i1, Sd 4607182418800017408, .second, Si 4] [(.int 4), (.ref wb), (.int i1), (.long fp0), (.ref a0)])) rfl rfl (hb hby d3_227)) ?_
  show Go _ _ _ _ _ _ _ _ (mkF m 228 #[Sr a0, Si i1, Sd 4607182418800017408, .second, Si 4] [(.double 4607182418800017408), (.int i1), (.long fp0), (.ref a0)])
  obtain ⟨_, _, ⟨T29, L29, k29, n29⟩, -, X29, ⟨Lc29, hQ29, l29, y29, z29⟩, st29⟩ := Jvm.LawKit.callS X27 hx (y := (⟨"com/example/due_weight/dueweight/core/Pairs", "fingerprint", "(ID)J"⟩ : MethodName)) hown (mvT hZ (hw _ (List.mem_of_getElem? (i := 34) rfl))) (mvT hZ (hw _ (List.mem_of_getElem? (i := 35) rfl))) (mvT hZ (hw _ (List.mem_of_getElem? (i := 3) rfl))) (mvT hZ (hw _ (List.mem_of_getElem? (i := 36) rfl))) (by decide) (backOf (W := 3) (rm5 l Z aw hw [] i1 (4607182418800017408 : UInt64)  h22 n0 ZZ (by decide +kernel)) hZ (hw _ (List.mem_of_getElem? (i := 36) rfl)) (hw _ (List.mem_of_getElem? (i := 3) rfl)) (by decide) (by decide)) (g := (mkF m 228 #[Sr a0, Si i1, Sd 4607182418800017408, .second, Si 4] [(.double 4607182418800017408), (.int i1), (.long fp0), (.ref a0)])) rfl (by rw [hml]; rfl) (argsL := [(.int i1), (.double (4607182418800017408 : UInt64))]) (rest := [(.long fp0), (.ref a0)]) (lenOf pd_5 rfl) rfl (by show 2 * 0 + _ ≤ _; exact Nat.le_of_eq rfl) (hb hby d3_228) (fun _ _ => ⟨rfl, e27, (by decide : 2 + 0 ≤ _), (by decide : 16 + 0 ≤ _)⟩)
  dsimp only [Pt.U, Pt.locs, Pt.cells, Pt.slots] at X29 l29 y29 z29 st29 hQ29
  subst l29 y29 z29
  obtain ⟨rfl, N29q, e29⟩ := hQ29
  have N29 := Fr.app N22 N29q
  refine Go.on st29 ?_
  show Go _ _ _ _ _ _ _ _ (mkF m 231 #[Sr a0, Si i1, Sd 4607182418800017408, .second, Si 4] [(.long (mixV ((mixV ((4607182418800017408 : UInt64).toInt64)) + (i1.toInt64)))), (.long fp0), (.ref a0)])
  generalize hfv : (mixV ((mixV ((4607182418800017408 : UInt64).toInt64)) + (i1.toInt64))) = fv
  show Go _ _ _ _ _ _ _ _ (mkF m 231 #[Sr a0, Si i1, Sd 4607182418800017408, .second, Si 4] [(.long fv), (.long fp0), (.ref a0)])
  refine Go.on (fun _ k => XS.ladd X29.here hx rfl (hb hby d3_231) rfl k) ?_
  show Go _ _ _ _ _ _ _ _ (mkF m 232 #[Sr a0, Si i1, Sd 4607182418800017408, .second, Si 4] [(.long (fp0 + fv)), (.ref a0)])
  obtain ⟨T30, h30, X30, e30, W30, st30⟩ := putF X29 hx hZ hown (host := "") (Or.inl (hw _ (List.mem_of_getElem? (i := 32) rfl))) Via.refl e29 F_fingerprint_a0 E_a0 (Or.inl (hw _ (List.mem_of_getElem? (i := 33) rfl))) (hw _ (List.mem_of_getElem? (i := 2) rfl)) (ty := .long) (by decide) rfl rfl (g := (mkF m 232 #[Sr a0, Si i1, Sd 4607182418800017408, .second, Si 4] [(.long (fp0 + fv)), (.ref a0)])) rfl rfl (hb hby d3_232)
  refine Go.on st30 ?_
  replace F_fingerprint_a0 := F_fingerprint_a0.same W30
  replace E_a0 := E_a0.wr W30
  replace F_members_a0 := F_members_a0.other W30 (Or.inr (slot_ne (Or.inl (hw _ (List.mem_of_getElem? (i := 12) rfl))) (Or.inl (hw _ (List.mem_of_getElem? (i := 33) rfl))) (by decide) (t := (.array .int)) (t' := .long) (by decide) (by decide)))
  replace F_weights_a0 := F_weights_a0.other W30 (Or.inr (slot_ne (Or.inl (hw _ (List.mem_of_getElem? (i := 15) rfl))) (Or.inl (hw _ (List.mem_of_getElem? (i := 33) rfl))) (by decide) (t := (.array .double)) (t' := .long) (by decide) (by decide)))
  replace F_exact_a0 := F_exact_a0.other W30 (Or.inr (slot_ne (Or.inl (hw _ (List.mem_of_getElem? (i := 17) rfl))) (Or.inl (hw _ (List.mem_of_getElem? (i := 33) rfl))) (by decide) (t := .boolean) (t' := .long) (by decide) (by decide)))
  replace F_slots_a0 := F_slots_a0.other W30 (Or.inr (slot_ne (Or.inl (hw _ (List.mem_of_getElem? (i := 29) rfl))) (Or.inl (hw _ (List.mem_of_getElem? (i := 33) rfl))) (by decide) (t := (.array .int)) (t' := .long) (by decide) (by decide)))
  replace F_length_a0 := F_length_a0.other W30 (Or.inr (slot_ne (Or.inl (hw _ (List.mem_of_getElem? (i := 31) rfl))) (Or.inl (hw _ (List.mem_of_getElem? (i := 33) rfl))) (by decide) (t := .int) (t' := .long) (by decide) (by decide)))
  replace F_history_a0 := F_history_a0.other W30 (Or.inr (slot_ne (Or.inl (hw _ (List.mem_of_getElem? (i := 52) rfl))) (Or.inl (hw _ (List.mem_of_getElem? (i := 33) rfl))) (by decide) (t := (.object "com/example/due_weight/dueweight/core/Pairs$History")) (t' := .long) (by decide) (by decide)))
  replace F_shift_a0 := F_shift_a0.other W30 (Or.inr (slot_ne (Or.inl (hw _ (List.mem_of_getElem? (i := 86) rfl))) (Or.inl (hw _ (List.mem_of_getElem? (i := 33) rfl))) (by decide) (t := .int) (t' := .long) (by decide) (by decide)))
  replace V_am := V_am.other W30 (Ne.symm ne_a0_am)
  replace V_wa := V_wa.other W30 (Ne.symm ne_a0_wa)
  replace V_mb := V_mb.other W30 (Ne.symm ne_a0_mb)
  replace V_wb := V_wb.other W30 (Ne.symm ne_a0_wb)
  have N30 := Fr.snoc X30 N29 g_a0
  replace ZZ := Nat.le_trans ZZ (Keep.of_wr W30).1
  replace KP := KP.wr W30 (Or.inl (List.mem_of_getElem? (i := 0) rfl))
  show Go _ _ _ _ _ _ _ _ (mkF m 235 #[Sr a0, Si i1, Sd 4607182418800017408, .second, Si 4] [])
  refine Go.on (fun _ k => XS.aloadN X30.here hx rfl (hb hby d3_235) rfl rfl k) ?_
  show Go _ _ _ _ _ _ _ _ (mkF m 236 #[Sr a0, Si i1, Sd 4607182418800017408, .second, Si 4] [(.ref a0)])
  obtain ⟨T31, X31, e31, st31⟩ := getF X30 hx hZ hown (host := "") (Or.inl (hw _ (List.mem_of_getElem? (i := 51) rfl))) Via.refl e30 F_history_a0 (g := (mkF m 236 #[Sr a0, Si i1, Sd 4607182418800017408, .second, Si 4] [(.ref a0)])) rfl rfl (hb hby d3_236)
  refine Go.on st31 ?_
  show Go _ _ _ _ _ _ _ _ (mkF m 239 #[Sr a0, Si i1, Sd 4607182418800017408, .second, Si 4] [.null])
  refine Go.on (fun _ k => XS.ifnullYes X31.here hx rfl (pc0 := 239) (pc' := 255) rfl (hb hby d3_239) rfl (by decide) (by decide) k) ?_
  show Go _ _ _ _ _ _ _ _ (mkF m 255 #[Sr a0, Si i1, Sd 4607182418800017408, .second, Si 4] [])
  refine Go.on (fun _ k => XS.iload X31.here hx rfl (hb hby d3_255) rfl k) ?_
  show Go _ _ _ _ _ _ _ _ (mkF m 257 #[Sr a0, Si i1, Sd 4607182418800017408, .second, Si 4] [(.int 4)])
  refine Go.retV X31 hx Bd.returns rfl (Or.inl ⟨rfl, Or.inl rfl, _, rfl⟩) (hb hby d3_257) ?_ (by rw [hK1]; decide) (by rw [hK2]; decide)
  rw [e31, ← hQQ]
  exact ⟨mb, wb, k_mb, k_wb, _, rfl, N30, KP, E_a0, F_members_a0, F_weights_a0, F_exact_a0, F_slots_a0, F_length_a0, F_fingerprint_a0, F_history_a0, F_shift_a0, V_mb, V_wb, g_mb, g_wb, ne_a0_mb, ne_a0_wb, ne_mb_wb⟩
theorem ef_add_5 (m : MethodId) (a0 : Addr) (i1 : Int32) : entryFrame m #[(.ref a0), (.int i1), (.double (4607182418800017408 : UInt64))] 5 = mkF m 0 #[.val (.ref a0), .val (.int i1), .val (.double (4607182418800017408 : UInt64)), .second, .unset] [] := by first | (simp [entryFrame, mkF, argsToLocals, Value.category]; done) | rfl
def Q_add_5 (Z : State) (a0 : Addr) (i1 : Int32) (am : Addr) (wa : Addr) (fp0 : Int64) (k_am : ClassId) (m0 : Int32) (m1 : Int32) (m2 : Int32) (m3 : Int32) (m4 : Int32) (k_wa : ClassId) (h0 : Heap) (n0 : Nat) (v : Option Value) (h : Heap) (L : List Loc) : Prop := ∃ (mb wb : Addr) (k_mb k_wb : ClassId) (fq : Int64), v = some (.int (5 : Int32)) ∧ Fr n0 L ∧ Keep h0 h [a0, am, wa] ∧ Exa Z h a0 "com/example/due_weight/dueweight/core/Pairs" ∧ Fld Z h a0 "com/example/due_weight/dueweight/core/Pairs" "members" "[I" (.ref mb) ∧ Fld Z h a0 "com/example/due_weight/dueweight/core/Pairs" "weights" "[D" (.ref wb) ∧ Fld Z h a0 "com/example/due_weight/dueweight/core/Pairs" "exact" "Z" (.int (1 : Int32)) ∧ Fld Z h a0 "com/example/due_weight/dueweight/core/Pairs" "slots" "[I" .null ∧ Fld Z h a0 "com/example/due_weight/dueweight/core/Pairs" "length" "I" (.int (6 : Int32)) ∧ Fld Z h a0 "com/example/due_weight/dueweight/core/Pairs" "fingerprint" "J" (.long fq) ∧ Fld Z h a0 "com/example/due_weight/dueweight/core/Pairs" "history" "Lcom/example/due_weight/dueweight/core/Pairs$History;" .null ∧ Fld Z h a0 "com/example/due_weight/dueweight/core/Pairs" "shift" "I" (.int (0 : Int32)) ∧ Arv Z h mb k_mb .int (8 : Int32) [(.int m0), (.int m1), (.int m2), (.int m3), (.int m4), (.int i1), (.int (0 : Int32)), (.int (0 : Int32))] (.int (0 : Int32)) ∧ Arv Z h wb k_wb .double (8 : Int32) [(.double (4607182418800017408 : UInt64)), (.double (4607182418800017408 : UInt64)), (.double (4607182418800017408 : UInt64)), (.double (4607182418800017408 : UInt64)), (.double (4607182418800017408 : UInt64)), (.double (4607182418800017408 : UInt64)), (.double (0 : UInt64)), (.double (0 : UInt64))] (.double (0 : UInt64)) ∧ n0 ≤ mb ∧ n0 ≤ wb ∧ a0 ≠ mb ∧ a0 ≠ wb ∧ mb ≠ wb
set_option maxRecDepth 65536 in
set_option maxHeartbeats 40000000 in
theorem add_5 (l : Launch) (Z : State) (aw : Array Value) (hw : ∀ d ∈ tables_1, d.before aw Z = true) (ws : List Jvm.Cond) (a0 : Addr) (i1 : Int32) (am : Addr) (wa : Addr) (fp0 : Int64) (k_am : ClassId) (m0 : Int32) (m1 : Int32) (m2 : Int32) (m3 : Int32) (m4 : Int32) (k_wa : ClassId) (h0 : Heap) (n0 : Nat) (Z0 : n0 ≤ h0.size) (E_a0 : Exa Z h0 a0 "com/example/due_weight/dueweight/core/Pairs") (F_members_a0 : Fld Z h0 a0 "com/example/due_weight/dueweight/core/Pairs" "members" "[I" (.ref am)) (F_weights_a0 : Fld Z h0 a0 "com/example/due_weight/dueweight/core/Pairs" "weights" "[D" (.ref wa)) (F_exact_a0 : Fld Z h0 a0 "com/example/due_weight/dueweight/core/Pairs" "exact" "Z" (.int (1 : Int32))) (F_slots_a0 : Fld Z h0 a0 "com/example/due_weight/dueweight/core/Pairs" "slots" "[I" .null) (F_length_a0 : Fld Z h0 a0 "com/example/due_weight/dueweight/core/Pairs" "length" "I" (.int (5 : Int32))) (F_fingerprint_a0 : Fld Z h0 a0 "com/example/due_weight/dueweight/core/Pairs" "fingerprint" "J" (.long fp0)) (F_history_a0 : Fld Z h0 a0 "com/example/due_weight/dueweight/core/Pairs" "history" "Lcom/example/due_weight/dueweight/core/Pairs$History;" .null) (F_shift_a0 : Fld Z h0 a0 "com/example/due_weight/dueweight/core/Pairs" "shift" "I" (.int (0 : Int32))) (V_am : Arv Z h0 am k_am .int (8 : Int32) [(.int m0), (.int m1), (.int m2), (.int m3), (.int m4), (.int (0 : Int32)), (.int (0 : Int32)), (.int (0 : Int32))] (.int (0 : Int32))) (V_wa : Arv Z h0 wa k_wa .double (8 : Int32) [(.double (4607182418800017408 : UInt64)), (.double (4607182418800017408 : UInt64)), (.double (4607182418800017408 : UInt64)), (.double (4607182418800017408 : UInt64)), (.double (4607182418800017408 : UInt64)), (.double (0 : UInt64)), (.double (0 : UInt64)), (.double (0 : UInt64))] (.double (0 : UInt64))) (g_a0 : n0 ≤ a0) (g_am : n0 ≤ am) (g_wa : n0 ≤ wa) (ne_a0_am : a0 ≠ am) (ne_a0_wa : a0 ≠ wa) (ne_am_wa : am ≠ wa) (hne0 : ¬ (m0 = i1)) (hne1 : ¬ (m1 = i1)) (hne2 : ¬ (m2 = i1)) (hne3 : ¬ (m3 = i1)) (hne4 : ¬ (m4 = i1)) :
    MetFree l (⟨"com/example/due_weight/dueweight/core/Pairs", "add", "(ID)I"⟩ : MethodName) (head1 (Jvm.Cond.code (⟨"com/example/due_weight/dueweight/core/Pairs", "add", "(ID)I"⟩ : MethodName) prog_21_method_7_code 5 (some .int) :: ws) ({ frames := 3, cells := 0, slots := 0, locals := 45 } : Room)) (fun a U => a = #[(.ref a0), (.int i1), (.double (4607182418800017408 : UInt64))] ∧ Z.Warmed39 U.vm ∧ U.heap = h0) (fun _ _ _ _ _ => True) (fun _ U o U' => ∃ v L, o = .returned v ∧ Q_add_5 Z a0 i1 am wa fp0 k_am m0 m1 m2 m3 m4 k_wa h0 n0 v U'.heap L ∧ FrameEnd U o U' L ({ frames := 3, cells := 0, slots := 0, locals := 45 } : Room).cells ({ frames := 3, cells := 0, slots := 0, locals := 45 } : Room).slots) := by
  refine MetFree.of_bodySF (plainFor_of_name pn_0) hisR ?_
  intro p e s m args below meth c s₁ Bd hml0 hP hK
  obtain ⟨rfl, hZ, hh⟩ := hP
  have hx := Bd.exec
  have hby := Bd.bytes
  have hml : c.maxLocals = 5 := hml0
  have hown : s.vm.findClass "com/example/due_weight/dueweight/core/Pairs" = some m.cls := findClass_of_methodNamed Bd.named
  have hnm := (name_of_methodNamed Bd.named Bd.method).1
  have hlk : meth.locks = false := BodyLoose.notSynchronized Bd
  have X0 : Stand p l e ({ frames := 3, cells := 0, slots := 0, locals := 45 } : Room) s m #[(.ref a0), (.int i1), (.double (4607182418800017408 : UInt64))] below meth c s₁ [] 0 0 := Stand.of_body Bd
  have e0 : s₁.heap = h0 := by rw [← hh, Bd.state]; rfl
  have N0 := Fr.nil n0
  have ZZ := Z0
  show Go p e below s ({ frames := 3, cells := 0, slots := 0, locals := 45 } : Room).cells ({ frames := 3, cells := 0, slots := 0, locals := 45 } : Room).slots (fun v h L => Q_add_5 Z a0 i1 am wa fp0 k_am m0 m1 m2 m3 m4 k_wa h0 n0 v h L) s₁ (entryFrame m #[(.ref a0), (.int i1), (.double (4607182418800017408 : UInt64))] 5)
  refine Go.cast (ef_add_5 m a0 i1) ?_
  refine Go.gen ?_
  intro K1 K2 QQ hK1 hK2 hQQ
  have KP : Keep h0 h0 [a0, am, wa] := Keep.refl _ _
  refine Go.on (fun _ k => XS.aloadN X0.here hx rfl (hb hby d3_0) rfl rfl k) ?_
  refine Go.on (fun _ k => XS.iloadN X0.here hx rfl (hb hby d3_1) rfl k) ?_
  show Go _ _ _ _ _ _ _ _ (mkF m 2 #[Sr a0, Si i1, Sd 4607182418800017408, .second, .unset] [(.int i1), (.ref a0)])
  obtain ⟨cq1, kq1, q1a, q1b, q1c⟩ := isOf hZ e0 E_a0
  obtain ⟨_, _, ⟨T1, L1, k1, n1⟩, -, X1, ⟨Lc1, hQ1, l1, y1, z1⟩, st1⟩ := X0.virtualBack hx (y := (⟨"com/example/due_weight/dueweight/core/Pairs", "indexOf", "(I)I"⟩ : MethodName)) (z := (⟨"com/example/due_weight/dueweight/core/Pairs", "indexOf", "(I)I"⟩ : MethodName)) hown (mvT hZ (hw _ (List.mem_of_getElem? (i := 23) rfl))) (mvT hZ (hw _ (List.mem_of_getElem? (i := 24) rfl))) (notFace_of_selects (args := #[]) (mvT hZ (hw _ (List.mem_of_getElem? (i := 26) rfl)))) (mvT hZ (hw _ (List.mem_of_getElem? (i := 26) rfl))) (mvT hZ (hw _ (List.mem_of_getElem? (i := 25) rfl))) (by decide) (backOf (W := 0) (ixl l Z aw hw [] a0 i1 [m0, m1, m2, m3, m4] [(.int (0 : Int32)), (.int (0 : Int32)), (.int (0 : Int32))] (5 : Int32) am k_am (8 : Int32) [(.int m0), (.int m1), (.int m2), (.int m3), (.int m4), (.int (0 : Int32)), (.int (0 : Int32)), (.int (0 : Int32))] h0 n0 ZZ F_slots_a0 F_length_a0 F_members_a0 V_am rfl (by decide) rfl) hZ (hw _ (List.mem_of_getElem? (i := 27) rfl)) (hw _ (List.mem_of_getElem? (i := 3) rfl)) (by decide) (by decide)) q1a q1c (g := (mkF m 2 #[Sr a0, Si i1, Sd 4607182418800017408, .second, .unset] [(.int i1), (.ref a0)])) rfl (by rw [hml]; rfl) (Steps.refl _) (argsL := [(.int i1)]) (rest := []) (lenOf pd_4 rfl) rfl (by show 2 * 0 + _ ≤ _; exact Nat.le_of_eq rfl) (hb hby d3_2) (fun _ _ => ⟨rfl, e0, (by decide : 0 + 0 ≤ _), (by decide : 0 + 0 ≤ _)⟩)
  dsimp only [Pt.U, Pt.locs, Pt.cells, Pt.slots] at X1 l1 y1 z1 st1 hQ1
  subst l1 y1 z1
  obtain ⟨rfl, N1q, e1⟩ := hQ1
  have N1 := Fr.app N0 N1q
  refine Go.on (fun _ k => st1.trans k) ?_
  show Go _ _ _ _ _ _ _ _ (mkF m 5 #[Sr a0, Si i1, Sd 4607182418800017408, .second, .unset] [(.int (findL [m0, m1, m2, m3, m4] i1 0))])
  generalize hix : (findL [m0, m1, m2, m3, m4] i1 0) = ix
  show Go _ _ _ _ _ _ _ _ (mkF m 5 #[Sr a0, Si i1, Sd 4607182418800017408, .second, .unset] [(.int ix)])
  refine Go.on (fun _ k => XS.istore X1.here hx rfl (hb hby d3_5) rfl (l' := #[.val (.ref a0), .val (.int i1), .val (.double (4607182418800017408 : UInt64)), .second, .val (.int ix)]) rfl k) ?_
  show Go _ _ _ _ _ _ _ _ (mkF m 7 #[Sr a0, Si i1, Sd 4607182418800017408, .second, Si ix] [])
  refine Go.on (fun _ k => XS.iload X1.here hx rfl (hb hby d3_7) rfl k) ?_
  show Go _ _ _ _ _ _ _ _ (mkF m 9 #[Sr a0, Si i1, Sd 4607182418800017408, .second, Si ix] [(.int ix)])
  have hc2 : ix < (0 : Int32) := by rw [← hix]; simp only [findL, if_neg hne0, if_neg hne1, if_neg hne2, if_neg hne3, if_neg hne4]; decide
  refine Go.on (fun _ k => XS.ifNo X1.here hx rfl (hb hby d3_9) rfl ((if0 _ _).trans (tlt hc2).2.1) k) ?_
  refine Go.on (fun _ k => XS.aloadN X1.here hx rfl (hb hby d3_12) rfl rfl k) ?_
  show Go _ _ _ _ _ _ _ _ (mkF m 13 #[Sr a0, Si i1, Sd 4607182418800017408, .second, Si ix] [(.ref a0)])
  obtain ⟨T3, X3, e3, st3⟩ := getF X1 hx hZ hown (host := "") (Or.inl (hw _ (List.mem_of_getElem? (i := 30) rfl))) Via.refl e1 F_length_a0 (g := (mkF m 13 #[Sr a0, Si i1, Sd 4607182418800017408, .second, Si ix] [(.ref a0)])) rfl rfl (hb hby d3_13)
  refine Go.on st3 ?_
  show Go _ _ _ _ _ _ _ _ (mkF m 16 #[Sr a0, Si i1, Sd 4607182418800017408, .second, Si ix] [(.int 5)])
  refine Go.on (fun _ k => XS.aloadN X3.here hx rfl (hb hby d3_16) rfl rfl k) ?_
  show Go _ _ _ _ _ _ _ _ (mkF m 17 #[Sr a0, Si i1, Sd 4607182418800017408, .second, Si ix] [(.ref a0), (.int 5)])
  obtain ⟨T4, X4, e4, st4⟩ := getF X3 hx hZ hown (host := "") (Or.inl (hw _ (List.mem_of_getElem? (i := 11) rfl))) Via.refl e3 F_members_a0 (g := (mkF m 17 #[Sr a0, Si i1, Sd 4607182418800017408, .second, Si ix] [(.ref a0), (.int 5)])) rfl rfl (hb hby d3_17)
  refine Go.on st4 ?_
  show Go _ _ _ _ _ _ _ _ (mkF m 20 #[Sr a0, Si i1, Sd 4607182418800017408, .second, Si ix] [(.ref am), (.int 5)])
  obtain ⟨cl5, Ar5, -, S5, N5n, -, -⟩ := id V_am
  refine Go.on (X4.arraylength hx (by rw [e4]; exact Ar5.1) (State.isArrayOf_alike hZ.alike Ar5.2.1) (g := (mkF m 20 #[Sr a0, Si i1, Sd 4607182418800017408, .second, Si ix] [(.ref am), (.int 5)])) rfl rfl (hb hby d3_20)) ?_
  rw [len_of S5 N5n]
  show Go _ _ _ _ _ _ _ _ (mkF m 21 #[Sr a0, Si i1, Sd 4607182418800017408, .second, Si ix] [(.int 8), (.int 5)])
  have hc6 : ¬ ((5 : Int32) = (8 : Int32)) := by decide
  refine Go.on (fun _ k => XS.icmpYes X4.here hx rfl (pc0 := 21) (pc' := 59) rfl (hb hby d3_21) rfl (feq hc6).2 (by decide) (by decide) k) ?_
  refine Go.on (fun _ k => XS.aloadN X4.here hx rfl (hb hby d3_59) rfl rfl k) ?_
  refine Go.on (fun _ k => XS.dup X4.here hx rfl (hb hby d3_60) rfl rfl k) ?_
  show Go _ _ _ _ _ _ _ _ (mkF m 61 #[Sr a0, Si i1, Sd 4607182418800017408, .second, Si ix] [(.ref a0), (.ref a0)])
  obtain ⟨T7, X7, e7, st7⟩ := getF X4 hx hZ hown (host := "") (Or.inl (hw _ (List.mem_of_getElem? (i := 30) rfl))) Via.refl e4 F_length_a0 (g := (mkF m 61 #[Sr a0, Si i1, Sd 4607182418800017408, .second, Si ix] [(.ref a0), (.ref a0)])) rfl rfl (hb hby d3_61)
  refine Go.on st7 ?_
  show Go _ _ _ _ _ _ _ _ (mkF m 64 #[Sr a0, Si i1, Sd 4607182418800017408, .second, Si ix] [(.int 5), (.ref a0)])
  refine Go.on (fun _ k => XS.dupX1 X7.here hx rfl (hb hby d3_64) rfl rfl rfl k) ?_
  show Go _ _ _ _ _ _ _ _ (mkF m 65 #[Sr a0, Si i1, Sd 4607182418800017408, .second, Si ix] [(.int 5), (.ref a0), (.int 5)])
  refine Go.on (fun _ k => XS.iconst X7.here hx rfl (hb hby d3_65) k) ?_
  refine Go.on (fun _ k => XS.iadd X7.here hx rfl (hb hby d3_66) rfl k) ?_
  show Go _ _ _ _ _ _ _ _ (mkF m 67 #[Sr a0, Si i1, Sd 4607182418800017408, .second, Si ix] [(.int 6), (.ref a0), (.int 5)])
  obtain ⟨T8, h8, X8, e8, W8, st8⟩ := putF X7 hx hZ hown (host := "") (Or.inl (hw _ (List.mem_of_getElem? (i := 30) rfl))) Via.refl e7 F_length_a0 E_a0 (Or.inl (hw _ (List.mem_of_getElem? (i := 31) rfl))) (hw _ (List.mem_of_getElem? (i := 2) rfl)) (ty := .int) (by decide) rfl rfl (g := (mkF m 67 #[Sr a0, Si i1, Sd 4607182418800017408, .second, Si ix] [(.int 6), (.ref a0), (.int 5)])) rfl rfl (hb hby d3_67)
  refine Go.on st8 ?_
  replace F_length_a0 := F_length_a0.same W8
  replace E_a0 := E_a0.wr W8
  replace F_members_a0 := F_members_a0.other W8 (Or.inr (slot_ne (Or.inl (hw _ (List.mem_of_getElem? (i := 12) rfl))) (Or.inl (hw _ (List.mem_of_getElem? (i := 31) rfl))) (by decide) (t := (.array .int)) (t' := .int) (by decide) (by decide)))
  replace F_weights_a0 := F_weights_a0.other W8 (Or.inr (slot_ne (Or.inl (hw _ (List.mem_of_getElem? (i := 15) rfl))) (Or.inl (hw _ (List.mem_of_getElem? (i := 31) rfl))) (by decide) (t := (.array .double)) (t' := .int) (by decide) (by decide)))
  replace F_exact_a0 := F_exact_a0.other W8 (Or.inr (slot_ne (Or.inl (hw _ (List.mem_of_getElem? (i := 17) rfl))) (Or.inl (hw _ (List.mem_of_getElem? (i := 31) rfl))) (by decide) (t := .boolean) (t' := .int) (by decide) (by decide)))
  replace F_slots_a0 := F_slots_a0.other W8 (Or.inr (slot_ne (Or.inl (hw _ (List.mem_of_getElem? (i := 29) rfl))) (Or.inl (hw _ (List.mem_of_getElem? (i := 31) rfl))) (by decide) (t := (.array .int)) (t' := .int) (by decide) (by decide)))
  replace F_fingerprint_a0 := F_fingerprint_a0.other W8 (Or.inr (slot_ne (Or.inl (hw _ (List.mem_of_getElem? (i := 33) rfl))) (Or.inl (hw _ (List.mem_of_getElem? (i := 31) rfl))) (by decide) (t := .long) (t' := .int) (by decide) (by decide)))
  replace F_history_a0 := F_history_a0.other W8 (Or.inr (slot_ne (Or.inl (hw _ (List.mem_of_getElem? (i := 52) rfl))) (Or.inl (hw _ (List.mem_of_getElem? (i := 31) rfl))) (by decide) (t := (.object "com/example/due_weight/dueweight/core/Pairs$History")) (t' := .int) (by decide) (by decide)))
  replace F_shift_a0 := F_shift_a0.other W8 (Or.inr (slot_ne (Or.inl (hw _ (List.mem_of_getElem? (i := 86) rfl))) (Or.inl (hw _ (List.mem_of_getElem? (i := 31) rfl))) (by decide) (t := .int) (t' := .int) (by decide) (by decide)))
  replace V_am := V_am.other W8 (Ne.symm ne_a0_am)
  replace V_wa := V_wa.other W8 (Ne.symm ne_a0_wa)
  have N8 := Fr.snoc X8 N1 g_a0
  replace ZZ := Nat.le_trans ZZ (Keep.of_wr W8).1
  replace KP := KP.wr W8 (Or.inl (List.mem_of_getElem? (i := 0) rfl))
  show Go _ _ _ _ _ _ _ _ (mkF m 70 #[Sr a0, Si i1, Sd 4607182418800017408, .second, Si ix] [(.int 5)])
  refine Go.on (fun _ k => XS.istore X8.here hx rfl (hb hby d3_70) rfl (l' := #[.val (.ref a0), .val (.int i1), .val (.double (4607182418800017408 : UInt64)), .second, .val (.int (5 : Int32))]) rfl k) ?_
  show Go _ _ _ _ _ _ _ _ (mkF m 72 #[Sr a0, Si i1, Sd 4607182418800017408, .second, Si 5] [])
  refine Go.on (fun _ k => XS.aloadN X8.here hx rfl (hb hby d3_72) rfl rfl k) ?_
  show Go _ _ _ _ _ _ _ _ (mkF m 73 #[Sr a0, Si i1, Sd 4607182418800017408, .second, Si 5] [(.ref a0)])
  obtain ⟨T9, X9, e9, st9⟩ := getF X8 hx hZ hown (host := "") (Or.inl (hw _ (List.mem_of_getElem? (i := 11) rfl))) Via.refl e8 F_members_a0 (g := (mkF m 73 #[Sr a0, Si i1, Sd 4607182418800017408, .second, Si 5] [(.ref a0)])) rfl rfl (hb hby d3_73)
  refine Go.on st9 ?_
  show Go _ _ _ _ _ _ _ _ (mkF m 76 #[Sr a0, Si i1, Sd 4607182418800017408, .second, Si 5] [(.ref am)])
  refine Go.on (fun _ k => XS.iload X9.here hx rfl (hb hby d3_76) rfl k) ?_
  refine Go.on (fun _ k => XS.iloadN X9.here hx rfl (hb hby d3_78) rfl k) ?_
  show Go _ _ _ _ _ _ _ _ (mkF m 79 #[Sr a0, Si i1, Sd 4607182418800017408, .second, Si 5] [(.int i1), (.int 5), (.ref am)])
  obtain ⟨cl10, Ar10, q10, S10, N10n, H10, G10⟩ := id V_am
  have hin10 : ¬ ((5 : Int32) < 0 ∨ cl10.slots.size ≤ ((5 : Int32)).toNatClampNeg) := inb_of S10 ⟨by decide, by decide⟩
  obtain ⟨T10, h10, X10, e10, W10, st10⟩ := stI X9 hx hZ e9 Ar10 (j := (5 : Int32)) hin10 (g := (mkF m 79 #[Sr a0, Si i1, Sd 4607182418800017408, .second, Si 5] [(.int i1), (.int 5), (.ref am)])) rfl rfl (hb hby d3_79)
  replace V_am := Arv.set Ar10 q10 S10 N10n H10 G10 rfl W10 5 rfl (Nat.le_of_ble_eq_true rfl)
  replace E_a0 := E_a0.wr W10
  replace F_members_a0 := F_members_a0.other W10 (Or.inl ne_a0_am)
  replace F_weights_a0 := F_weights_a0.other W10 (Or.inl ne_a0_am)
  replace F_exact_a0 := F_exact_a0.other W10 (Or.inl ne_a0_am)
  replace F_slots_a0 := F_slots_a0.other W10 (Or.inl ne_a0_am)
  replace F_length_a0 := F_length_a0.other W10 (Or.inl ne_a0_am)
  replace F_fingerprint_a0 := F_fingerprint_a0.other W10 (Or.inl ne_a0_am)
  replace F_history_a0 := F_history_a0.other W10 (Or.inl ne_a0_am)
  replace F_shift_a0 := F_shift_a0.other W10 (Or.inl ne_a0_am)
  replace V_wa := V_wa.other W10 (Ne.symm ne_am_wa)
  refine Go.on st10 ?_
  have N10 := Fr.snoc X10 N8 g_am
  replace ZZ := Nat.le_trans ZZ (Keep.of_wr W10).1
  replace KP := KP.wr W10 (Or.inl (List.mem_of_getElem? (i := 1) rfl))
  change Arv Z h10 am k_am .int (8 : Int32) [(.int m0), (.int m1), (.int m2), (.int m3), (.int m4), (.int i1), (.int (0 : Int32)), (.int (0 : Int32))] (.int (0 : Int32)) at V_am
  show Go _ _ _ _ _ _ _ _ (mkF m 80 #[Sr a0, Si i1, Sd 4607182418800017408, .second, Si 5] [])
  refine Go.on (fun _ k => XS.aloadN X10.here hx rfl (hb hby d3_80) rfl rfl k) ?_
  show Go _ _ _ _ _ _ _ _ (mkF m 81 #[Sr a0, Si i1, Sd 4607182418800017408, .second, Si 5] [(.ref a0)])
  obtain ⟨T11, X11, e11, st11⟩ := getF X10 hx hZ hown (host := "") (Or.inl (hw _ (List.mem_of_getElem? (i := 14) rfl))) Via.refl e10 F_weights_a0 (g := (mkF m 81 #[Sr a0, Si i1, Sd 4607182418800017408, .second, Si 5] [(.ref a0)])) rfl rfl (hb hby d3_81)
  refine Go.on st11 ?_
  show Go _ _ _ _ _ _ _ _ (mkF m 84 #[Sr a0, Si i1, Sd 4607182418800017408, .second, Si 5] [(.ref wa)])
  refine Go.on (fun _ k => XS.iload X11.here hx rfl (hb hby d3_84) rfl k) ?_
  refine Go.on (fun _ k => XS.dloadN X11.here hx rfl (hb hby d3_86) rfl k) ?_
  show Go _ _ _ _ _ _ _ _ (mkF m 87 #[Sr a0, Si i1, Sd 4607182418800017408, .second, Si 5] [(.double 4607182418800017408), (.int 5), (.ref wa)])
  obtain ⟨cl12, Ar12, q12, S12, N12n, H12, G12⟩ := id V_wa
  have hin12 : ¬ ((5 : Int32) < 0 ∨ cl12.slots.size ≤ ((5 : Int32)).toNatClampNeg) := inb_of S12 ⟨by decide, by decide⟩
  obtain ⟨T12, h12, X12, e12, W12, st12⟩ := stD X11 hx hZ e11 Ar12 (j := (5 : Int32)) hin12 (g := (mkF m 87 #[Sr a0, Si i1, Sd 4607182418800017408, .second, Si 5] [(.double 4607182418800017408), (.int 5), (.ref wa)])) rfl rfl (hb hby d3_87)
  replace V_wa := Arv.set Ar12 q12 S12 N12n H12 G12 rfl W12 5 rfl (Nat.le_of_ble_eq_true rfl)
  replace E_a0 := E_a0.wr W12
  replace F_members_a0 := F_members_a0.other W12 (Or.inl ne_a0_wa)
  replace F_weights_a0 := F_weights_a0.other W12 (Or.inl ne_a0_wa)
  replace F_exact_a0 := F_exact_a0.other W12 (Or.inl ne_a0_wa)
  replace F_slots_a0 := F_slots_a0.other W12 (Or.inl ne_a0_wa)
  replace F_length_a0 := F_length_a0.other W12 (Or.inl ne_a0_wa)
  replace F_fingerprint_a0 := F_fingerprint_a0.other W12 (Or.inl ne_a0_wa)
  replace F_history_a0 := F_history_a0.other W12 (Or.inl ne_a0_wa)
  replace F_shift_a0 := F_shift_a0.other W12 (Or.inl ne_a0_wa)
  replace V_am := V_am.other W12 ne_am_wa
  refine Go.on st12 ?_
  have N12 := Fr.snoc X12 N10 g_wa
  replace ZZ := Nat.le_trans ZZ (Keep.of_wr W12).1
  replace KP := KP.wr W12 (Or.inl (List.mem_of_getElem? (i := 2) rfl))
  change Arv Z h12 wa k_wa .double (8 : Int32) [(.double (4607182418800017408 : UInt64)), (.double (4607182418800017408 : UInt64)), (.double (4607182418800017408 : UInt64)), (.double (4607182418800017408 : UInt64)), (.double (4607182418800017408 : UInt64)), (.double (4607182418800017408 : UInt64)), (.double (0 : UInt64)), (.double (0 : UInt64))] (.double (0 : UInt64)) at V_wa
  show Go _ _ _ _ _ _ _ _ (mkF m 88 #[Sr a0, Si i1, Sd 4607182418800017408, .second, Si 5] [])
  refine Go.on (fun _ k => XS.aloadN X12.here hx rfl (hb hby d3_88) rfl rfl k) ?_
  show Go _ _ _ _ _ _ _ _ (mkF m 89 #[Sr a0, Si i1, Sd 4607182418800017408, .second, Si 5] [(.ref a0)])
  obtain ⟨T13, X13, e13, st13⟩ := getF X12 hx hZ hown (host := "") (Or.inl (hw _ (List.mem_of_getElem? (i := 28) rfl))) Via.refl e12 F_slots_a0 (g := (mkF m 89 #[Sr a0, Si i1, Sd 4607182418800017408, .second, Si 5] [(.ref a0)])) rfl rfl (hb hby d3_89)
  refine Go.on st13 ?_
  show Go _ _ _ _ _ _ _ _ (mkF m 92 #[Sr a0, Si i1, Sd 4607182418800017408, .second, Si 5] [.null])
  refine Go.on (fun _ k => XS.ifnullYes X13.here hx rfl (pc0 := 92) (pc' := 118) rfl (hb hby d3_92) rfl (by decide) (by decide) k) ?_
  show Go _ _ _ _ _ _ _ _ (mkF m 118 #[Sr a0, Si i1, Sd 4607182418800017408, .second, Si 5] [])
  refine Go.on (fun _ k => XS.aloadN X13.here hx rfl (hb hby d3_118) rfl rfl k) ?_
  show Go _ _ _ _ _ _ _ _ (mkF m 119 #[Sr a0, Si i1, Sd 4607182418800017408, .second, Si 5] [(.ref a0)])
  obtain ⟨T14, X14, e14, st14⟩ := getF X13 hx hZ hown (host := "") (Or.inl (hw _ (List.mem_of_getElem? (i := 30) rfl))) Via.refl e13 F_length_a0 (g := (mkF m 119 #[Sr a0, Si i1, Sd 4607182418800017408, .second, Si 5] [(.ref a0)])) rfl rfl (hb hby d3_119)
  refine Go.on st14 ?_
  show Go _ _ _ _ _ _ _ _ (mkF m 122 #[Sr a0, Si i1, Sd 4607182418800017408, .second, Si 5] [(.int 6)])
  refine Go.on (fun _ k => XS.bipush X14.here hx rfl (hb hby d3_122) k) ?_
  show Go _ _ _ _ _ _ _ _ (mkF m 124 #[Sr a0, Si i1, Sd 4607182418800017408, .second, Si 5] [(.int 8), (.int 6)])
  have hc15 : ¬ ((8 : Int32) < (6 : Int32)) := by decide
  refine Go.on (fun _ k => XS.icmpYes X14.here hx rfl (pc0 := 124) (pc' := 215) rfl (hb hby d3_124) rfl (flt hc15).2.2.2 (by decide) (by decide) k) ?_
  refine Go.on (fun _ k => XS.aloadN X14.here hx rfl (hb hby d3_215) rfl rfl k) ?_
  refine Go.on (fun _ k => XS.dup X14.here hx rfl (hb hby d3_216) rfl rfl k) ?_
  show Go _ _ _ _ _ _ _ _ (mkF m 217 #[Sr a0, Si i1, Sd 4607182418800017408, .second, Si 5] [(.ref a0), (.ref a0)])
  obtain ⟨T16, X16, e16, st16⟩ := getF X14 hx hZ hown (host := "") (Or.inl (hw _ (List.mem_of_getElem? (i := 32) rfl))) Via.refl e14 F_fingerprint_a0 (g := (mkF m 217 #[Sr a0, Si i1, Sd 4607182418800017408, .second, Si 5] [(.ref a0), (.ref a0)])) rfl rfl (hb hby d3_217)
  refine Go.on st16 ?_
  show Go _ _ _ _ _ _ _ _ (mkF m 220 #[Sr a0, Si i1, Sd 4607182418800017408, .second, Si 5] [(.long fp0), (.ref a0)])
  refine Go.on (fun _ k => XS.iloadN X16.here hx rfl (hb hby d3_220) rfl k) ?_
  refine Go.on (fun _ k => XS.aloadN X16.here hx rfl (hb hby d3_221) rfl rfl k) ?_
  show Go _ _ _ _ _ _ _ _ (mkF m 222 #[Sr a0, Si i1, Sd 4607182418800017408, .second, Si 5] [(.ref a0), (.int i1), (.long fp0), (.ref a0)])
  obtain ⟨T17, X17, e17, st17⟩ := getF X16 hx hZ hown (host := "") (Or.inl (hw _ (List.mem_of_getElem? (i := 14) rfl))) Via.refl e16 F_weights_a0 (g := (mkF m 222 #[Sr a0, Si i1, Sd 4607182418800017408, .second, Si 5] [(.ref a0), (.int i1), (.long fp0), (.ref a0)])) rfl rfl (hb hby d3_222)
  refine Go.on st17 ?_
  show Go _ _ _ _ _ _ _ _ (mkF m 225 #[Sr a0, Si i1, Sd 4607182418800017408, .second, Si 5] [(.ref wa), (.int i1), (.long fp0), (.ref a0)])
  refine Go.on (fun _ k => XS.iload X17.here hx rfl (hb hby d3_225) rfl k) ?_
  show Go _ _ _ _ _ _ _ _ (mkF m 227 #[Sr a0, Si i1, Sd 4607182418800017408, .second, Si 5] [(.int 5), (.ref wa), (.int i1), (.long fp0), (.ref a0)])
  obtain ⟨cl18, Ar18, -, S18, -, H18, -⟩ := id V_wa
  have hin18 : ¬ ((5 : Int32) < 0 ∨ cl18.slots.size ≤ ((5 : Int32)).toNatClampNeg) := inb_of S18 ⟨by decide, by decide⟩
  refine Go.on (X17.daload hx (j := (5 : Int32)) (v := (.double (4607182418800017408 : UInt64))) (by rw [e17]; exact Ar18.1) (State.isArrayOf_alike hZ.alike Ar18.2.1) Ar18.2.2 hin18 (H18.at hin18 (rfl)) (g := (mkF m 227 #[Sr a0, Si i1, Sd 4607182418800017408, .second, Si 5] [(.int 5), (.ref wa), (.int i1), (.long fp0), (.ref a0)])) rfl rfl (hb hby d3_227)) ?_
  show Go _ _ _ _ _ _ _ _ (mkF m 228 #[Sr a0, Si i1, Sd 4607182418800017408, .second, Si 5] [(.double 4607182418800017408), (.int i1), (.long fp0), (.ref a0)])
  obtain ⟨_, _, ⟨T19, L19, k19, n19⟩, -, X19, ⟨Lc19, hQ19, l19, y19, z19⟩, st19⟩ := Jvm.LawKit.callS X17 hx (y := (⟨"com/example/due_weight/dueweight/core/Pairs", "fingerprint", "(ID)J"⟩ : MethodName)) hown (mvT hZ (hw _ (List.mem_of_getElem? (i := 34) rfl))) (mvT hZ (hw _ (List.mem_of_getElem? (i := 35) rfl))) (mvT hZ (hw _ (List.mem_of_getElem? (i := 3) rfl))) (mvT hZ (hw _ (List.mem_of_getElem? (i := 36) rfl))) (by decide) (backOf (W := 3) (rm5 l Z aw hw [] i1 (4607182418800017408 : UInt64)  h12 n0 ZZ (by decide +kernel)) hZ (hw _ (List.mem_of_getElem? (i := 36) rfl)) (hw _ (List.mem_of_getElem? (i := 3) rfl)) (by decide) (by decide)) (g := (mkF m 228 #[Sr a0, Si i1, Sd 4607182418800017408, .second, Si 5] [(.double 4607182418800017408), (.int i1), (.long fp0), (.ref a0)])) rfl (by rw [hml]; rfl) (argsL := [(.int i1), (.double (4607182418800017408 : UInt64))]) (rest := [(.long fp0), (.ref a0)]) (lenOf pd_5 rfl) rfl (by show 2 * 0 + _ ≤ _; exact Nat.le_of_eq rfl) (hb hby d3_228) (fun _ _ => ⟨rfl, e17, (by decide : 0 + 0 ≤ _), (by decide : 0 + 0 ≤ _)⟩)
  dsimp only [Pt.U, Pt.locs, Pt.cells, Pt.slots] at X19 l19 y19 z19 st19 hQ19
  subst l19 y19 z19
  obtain ⟨rfl, N19q, e19⟩ := hQ19
  have N19 := Fr.app N12 N19q
  refine Go.on st19 ?_
  show Go _ _ _ _ _ _ _ _ (mkF m 231 #[Sr a0, Si i1, Sd 4607182418800017408, .second, Si 5] [(.long (mixV ((mixV ((4607182418800017408 : UInt64).toInt64)) + (i1.toInt64)))), (.long fp0), (.ref a0)])
  generalize hfv : (mixV ((mixV ((4607182418800017408 : UInt64).toInt64)) + (i1.toInt64))) = fv
  show Go _ _ _ _ _ _ _ _ (mkF m 231 #[Sr a0, Si i1, Sd 4607182418800017408, .second, Si 5] [(.long fv), (.long fp0), (.ref a0)])
  refine Go.on (fun _ k => XS.ladd X19.here hx rfl (hb hby d3_231) rfl k) ?_
  show Go _ _ _ _ _ _ _ _ (mkF m 232 #[Sr a0, Si i1, Sd 4607182418800017408, .second, Si 5] [(.long (fp0 + fv)), (.ref a0)])
  obtain ⟨T20, h20, X20, e20, W20, st20⟩ := putF X19 hx hZ hown (host := "") (Or.inl (hw _ (List.mem_of_getElem? (i := 32) rfl))) Via.refl e19 F_fingerprint_a0 E_a0 (Or.inl (hw _ (List.mem_of_getElem? (i := 33) rfl))) (hw _ (List.mem_of_getElem? (i := 2) rfl)) (ty := .long) (by decide) rfl rfl (g := (mkF m 232 #[Sr a0, Si i1, Sd 4607182418800017408, .second, Si 5] [(.long (fp0 + fv)), (.ref a0)])) rfl rfl (hb hby d3_232)
  refine Go.on st20 ?_
  replace F_fingerprint_a0 := F_fingerprint_a0.same W20
  replace E_a0 := E_a0.wr W20
  replace F_members_a0 := F_members_a0.other W20 (Or.inr (slot_ne (Or.inl (hw _ (List.mem_of_getElem? (i := 12) rfl))) (Or.inl (hw _ (List.mem_of_getElem? (i := 33) rfl))) (by decide) (t := (.array .int)) (t' := .long) (by decide) (by decide)))
  replace F_weights_a0 := F_weights_a0.other W20 (Or.inr (slot_ne (Or.inl (hw _ (List.mem_of_getElem? (i := 15) rfl))) (Or.inl (hw _ (List.mem_of_getElem? (i := 33) rfl))) (by decide) (t := (.array .double)) (t' := .long) (by decide) (by decide)))
  replace F_exact_a0 := F_exact_a0.other W20 (Or.inr (slot_ne (Or.inl (hw _ (List.mem_of_getElem? (i := 17) rfl))) (Or.inl (hw _ (List.mem_of_getElem? (i := 33) rfl))) (by decide) (t := .boolean) (t' := .long) (by decide) (by decide)))
  replace F_slots_a0 := F_slots_a0.other W20 (Or.inr (slot_ne (Or.inl (hw _ (List.mem_of_getElem? (i := 29) rfl))) (Or.inl (hw _ (List.mem_of_getElem? (i := 33) rfl))) (by decide) (t := (.array .int)) (t' := .long) (by decide) (by decide)))
  replace F_length_a0 := F_length_a0.other W20 (Or.inr (slot_ne (Or.inl (hw _ (List.mem_of_getElem? (i := 31) rfl))) (Or.inl (hw _ (List.mem_of_getElem? (i := 33) rfl))) (by decide) (t := .int) (t' := .long) (by decide) (by decide)))
  replace F_history_a0 := F_history_a0.other W20 (Or.inr (slot_ne (Or.inl (hw _ (List.mem_of_getElem? (i := 52) rfl))) (Or.inl (hw _ (List.mem_of_getElem? (i := 33) rfl))) (by decide) (t := (.object "com/example/due_weight/dueweight/core/Pairs$History")) (t' := .long) (by decide) (by decide)))
  replace F_shift_a0 := F_shift_a0.other W20 (Or.inr (slot_ne (Or.inl (hw _ (List.mem_of_getElem? (i := 86) rfl))) (Or.inl (hw _ (List.mem_of_getElem? (i := 33) rfl))) (by decide) (t := .int) (t' := .long) (by decide) (by decide)))
  replace V_am := V_am.other W20 (Ne.symm ne_a0_am)
  replace V_wa := V_wa.other W20 (Ne.symm ne_a0_wa)
  have N20 := Fr.snoc X20 N19 g_a0
  replace ZZ := Nat.le_trans ZZ (Keep.of_wr W20).1
  replace KP := KP.wr W20 (Or.inl (List.mem_of_getElem? (i := 0) rfl))
  show Go _ _ _ _ _ _ _ _ (mkF m 235 #[Sr a0, Si i1, Sd 4607182418800017408, .second, Si 5] [])
  refine Go.on (fun _ k => XS.aloadN X20.here hx rfl (hb hby d3_235) rfl rfl k) ?_
  show Go _ _ _ _ _ _ _ _ (mkF m 236 #[Sr a0, Si i1, Sd 4607182418800017408, .second, Si 5] [(.ref a0)])
  obtain ⟨T21, X21, e21, st21⟩ := getF X20 hx hZ hown (host := "") (Or.inl (hw _ (List.mem_of_getElem? (i := 51) rfl))) Via.refl e20 F_history_a0 (g := (mkF m 236 #[Sr a0, Si i1, Sd 4607182418800017408, .second, Si 5] [(.ref a0)])) rfl rfl (hb hby d3_236)
  refine Go.on st21 ?_
  show Go _ _ _ _ _ _ _ _ (mkF m 239 #[Sr a0, Si i1, Sd 4607182418800017408, .second, Si 5] [.null])
  refine Go.on (fun _ k => XS.ifnullYes X21.here hx rfl (pc0 := 239) (pc' := 255) rfl (hb hby d3_239) rfl (by decide) (by decide) k) ?_
  show Go _ _ _ _ _ _ _ _ (mkF m 255 #[Sr a0, Si i1, Sd 4607182418800017408, .second, Si 5] [])
  refine Go.on (fun _ k => XS.iload X21.here hx rfl (hb hby d3_255) rfl k) ?_
  show Go _ _ _ _ _ _ _ _ (mkF m 257 #[Sr a0, Si i1, Sd 4607182418800017408, .second, Si 5] [(.int 5)])
  refine Go.retV X21 hx Bd.returns rfl (Or.inl ⟨rfl, Or.inl rfl, _, rfl⟩) (hb hby d3_257) ?_ (by rw [hK1]; decide) (by rw [hK2]; decide)
  rw [e21, ← hQQ]
  exact ⟨am, wa, k_am, k_wa, _, rfl, N20, KP, E_a0, F_members_a0, F_weights_a0, F_exact_a0, F_slots_a0, F_length_a0, F_fingerprint_a0, F_history_a0, F_shift_a0, V_am, V_wa, g_am, g_wa, ne_a0_am, ne_a0_wa, ne_am_wa⟩
theorem ef_add_6 (m : MethodId) (a0 : Addr) (i1 : Int32) : entryFrame m #[(.ref a0), (.int i1), (.double (4607182418800017408 : UInt64))] 5 = mkF m 0 #[.val (.ref a0), .val (.int i1), .val (.double (4607182418800017408 : UInt64)), .second, .unset] [] := by first | (simp [entryFrame, mkF, argsToLocals, Value.category]; done) | rfl
def Q_add_6 (Z : State) (a0 : Addr) (i1 : Int32) (am : Addr) (wa : Addr) (fp0 : Int64) (k_am : ClassId) (m0 : Int32) (m1 : Int32) (m2 : Int32) (m3 : Int32) (m4 : Int32) (m5 : Int32) (k_wa : ClassId) (h0 : Heap) (n0 : Nat) (v : Option Value) (h : Heap) (L : List Loc) : Prop := ∃ (mb wb : Addr) (k_mb k_wb : ClassId) (fq : Int64), v = some (.int (6 : Int32)) ∧ Fr n0 L ∧ Keep h0 h [a0, am, wa] ∧ Exa Z h a0 "com/example/due_weight/dueweight/core/Pairs" ∧ Fld Z h a0 "com/example/due_weight/dueweight/core/Pairs" "members" "[I" (.ref mb) ∧ Fld Z h a0 "com/example/due_weight/dueweight/core/Pairs" "weights" "[D" (.ref wb) ∧ Fld Z h a0 "com/example/due_weight/dueweight/core/Pairs" "exact" "Z" (.int (1 : Int32)) ∧ Fld Z h a0 "com/example/due_weight/dueweight/core/Pairs" "slots" "[I" .null ∧ Fld Z h a0 "com/example/due_weight/dueweight/core/Pairs" "length" "I" (.int (7 : Int32)) ∧ Fld Z h a0 "com/example/due_weight/dueweight/core/Pairs" "fingerprint" "J" (.long fq) ∧ Fld Z h a0 "com/example/due_weight/dueweight/core/Pairs" "history" "Lcom/example/due_weight/dueweight/core/Pairs$History;" .null ∧ Fld Z h a0 "com/example/due_weight/dueweight/core/Pairs" "shift" "I" (.int (0 : Int32)) ∧ Arv Z h mb k_mb .int (8 : Int32) [(.int m0), (.int m1), (.int m2), (.int m3), (.int m4), (.int m5), (.int i1), (.int (0 : Int32))] (.int (0 : Int32)) ∧ Arv Z h wb k_wb .double (8 : Int32) [(.double (4607182418800017408 : UInt64)), (.double (4607182418800017408 : UInt64)), (.double (4607182418800017408 : UInt64)), (.double (4607182418800017408 : UInt64)), (.double (4607182418800017408 : UInt64)), (.double (4607182418800017408 : UInt64)), (.double (4607182418800017408 : UInt64)), (.double (0 : UInt64))] (.double (0 : UInt64)) ∧ n0 ≤ mb ∧ n0 ≤ wb ∧ a0 ≠ mb ∧ a0 ≠ wb ∧ mb ≠ wb
set_option maxRecDepth 65536 in
set_option maxHeartbeats 40000000 in
theorem add_6 (l : Launch) (Z : State) (aw : Array Value) (hw : ∀ d ∈ tables_1, d.before aw Z = true) (ws : List Jvm.Cond) (a0 : Addr) (i1 : Int32) (am : Addr) (wa : Addr) (fp0 : Int64) (k_am : ClassId) (m0 : Int32) (m1 : Int32) (m2 : Int32) (m3 : Int32) (m4 : Int32) (m5 : Int32) (k_wa : ClassId) (h0 : Heap) (n0 : Nat) (Z0 : n0 ≤ h0.size) (E_a0 : Exa Z h0 a0 "com/example/due_weight/dueweight/core/Pairs") (F_members_a0 : Fld Z h0 a0 "com/example/due_weight/dueweight/core/Pairs" "members" "[I" (.ref am)) (F_weights_a0 : Fld Z h0 a0 "com/example/due_weight/dueweight/core/Pairs" "weights" "[D" (.ref wa)) (F_exact_a0 : Fld Z h0 a0 "com/example/due_weight/dueweight/core/Pairs" "exact" "Z" (.int (1 : Int32))) (F_slots_a0 : Fld Z h0 a0 "com/example/due_weight/dueweight/core/Pairs" "slots" "[I" .null) (F_length_a0 : Fld Z h0 a0 "com/example/due_weight/dueweight/core/Pairs" "length" "I" (.int (6 : Int32))) (F_fingerprint_a0 : Fld Z h0 a0 "com/example/due_weight/dueweight/core/Pairs" "fingerprint" "J" (.long fp0)) (F_history_a0 : Fld Z h0 a0 "com/example/due_weight/dueweight/core/Pairs" "history" "Lcom/example/due_weight/dueweight/core/Pairs$History;" .null) (F_shift_a0 : Fld Z h0 a0 "com/example/due_weight/dueweight/core/Pairs" "shift" "I" (.int (0 : Int32))) (V_am : Arv Z h0 am k_am .int (8 : Int32) [(.int m0), (.int m1), (.int m2), (.int m3), (.int m4), (.int m5), (.int (0 : Int32)), (.int (0 : Int32))] (.int (0 : Int32))) (V_wa : Arv Z h0 wa k_wa .double (8 : Int32) [(.double (4607182418800017408 : UInt64)), (.double (4607182418800017408 : UInt64)), (.double (4607182418800017408 : UInt64)), (.double (4607182418800017408 : UInt64)), (.double (4607182418800017408 : UInt64)), (.double (4607182418800017408 : UInt64)), (.double (0 : UInt64)), (.double (0 : UInt64))] (.double (0 : UInt64))) (g_a0 : n0 ≤ a0) (g_am : n0 ≤ am) (g_wa : n0 ≤ wa) (ne_a0_am : a0 ≠ am) (ne_a0_wa : a0 ≠ wa) (ne_am_wa : am ≠ wa) (hne0 : ¬ (m0 = i1)) (hne1 : ¬ (m1 = i1)) (hne2 : ¬ (m2 = i1)) (hne3 : ¬ (m3 = i1)) (hne4 : ¬ (m4 = i1)) (hne5 : ¬ (m5 = i1)) :
    MetFree l (⟨"com/example/due_weight/dueweight/core/Pairs", "add", "(ID)I"⟩ : MethodName) (head1 (Jvm.Cond.code (⟨"com/example/due_weight/dueweight/core/Pairs", "add", "(ID)I"⟩ : MethodName) prog_21_method_7_code 5 (some .int) :: ws) ({ frames := 3, cells := 0, slots := 0, locals := 45 } : Room)) (fun a U => a = #[(.ref a0), (.int i1), (.double (4607182418800017408 : UInt64))] ∧ Z.Warmed39 U.vm ∧ U.heap = h0) (fun _ _ _ _ _ => True) (fun _ U o U' => ∃ v L, o = .returned v ∧ Q_add_6 Z a0 i1 am wa fp0 k_am m0 m1 m2 m3 m4 m5 k_wa h0 n0 v U'.heap L ∧ FrameEnd U o U' L ({ frames := 3, cells := 0, slots := 0, locals := 45 } : Room).cells ({ frames := 3, cells := 0, slots := 0, locals := 45 } : Room).slots) := by
  refine MetFree.of_bodySF (plainFor_of_name pn_0) hisR ?_
  intro p e s m args below meth c s₁ Bd hml0 hP hK
  obtain ⟨rfl, hZ, hh⟩ := hP
  have hx := Bd.exec
  have hby := Bd.bytes
  have hml : c.maxLocals = 5 := hml0
  have hown : s.vm.findClass "com/example/due_weight/dueweight/core/Pairs" = some m.cls := findClass_of_methodNamed Bd.named
  have hnm := (name_of_methodNamed Bd.named Bd.method).1
  have hlk : meth.locks = false := BodyLoose.notSynchronized Bd
  have X0 : Stand p l e ({ frames := 3, cells := 0, slots := 0, locals := 45 } : Room) s m #[(.ref a0), (.int i1), (.double (4607182418800017408 : UInt64))] below meth c s₁ [] 0 0 := Stand.of_body Bd
  have e0 : s₁.heap = h0 := by rw [← hh, Bd.state]; rfl
  have N0 := Fr.nil n0
  have ZZ := Z0
  show Go p e below s ({ frames := 3, cells := 0, slots := 0, locals := 45 } : Room).cells ({ frames := 3, cells := 0, slots := 0, locals := 45 } : Room).slots (fun v h L => Q_add_6 Z a0 i1 am wa fp0 k_am m0 m1 m2 m3 m4 m5 k_wa h0 n0 v h L) s₁ (entryFrame m #[(.ref a0), (.int i1), (.double (4607182418800017408 : UInt64))] 5)
  refine Go.cast (ef_add_6 m a0 i1) ?_
  refine Go.gen ?_
  intro K1 K2 QQ hK1 hK2 hQQ
  have KP : Keep h0 h0 [a0, am, wa] := Keep.refl _ _
  refine Go.on (fun _ k => XS.aloadN X0.here hx rfl (hb hby d3_0) rfl rfl k) ?_
  refine Go.on (fun _ k => XS.iloadN X0.here hx rfl (hb hby d3_1) rfl k) ?_
  show Go _ _ _ _ _ _ _ _ (mkF m 2 #[Sr a0, Si i1, Sd 4607182418800017408, .second, .unset] [(.int i1), (.ref a0)])
  obtain ⟨cq1, kq1, q1a, q1b, q1c⟩ := isOf hZ e0 E_a0
  obtain ⟨_, _, ⟨T1, L1, k1, n1⟩, -, X1, ⟨Lc1, hQ1, l1, y1, z1⟩, st1⟩ := X0.virtualBack hx (y := (⟨"com/example/due_weight/dueweight/core/Pairs", "indexOf", "(I)I"⟩ : MethodName)) (z := (⟨"com/example/due_weight/dueweight/core/Pairs", "indexOf", "(I)I"⟩ : MethodName)) hown (mvT hZ (hw _ (List.mem_of_getElem? (i := 23) rfl))) (mvT hZ (hw _ (List.mem_of_getElem? (i := 24) rfl))) (notFace_of_selects (args := #[]) (mvT hZ (hw _ (List.mem_of_getElem? (i := 26) rfl)))) (mvT hZ (hw _ (List.mem_of_getElem? (i := 26) rfl))) (mvT hZ (hw _ (List.mem_of_getElem? (i := 25) rfl))) (by decide) (backOf (W := 0) (ixl l Z aw hw [] a0 i1 [m0, m1, m2, m3, m4, m5] [(.int (0 : Int32)), (.int (0 : Int32))] (6 : Int32) am k_am (8 : Int32) [(.int m0), (.int m1), (.int m2), (.int m3), (.int m4), (.int m5), (.int (0 : Int32)), (.int (0 : Int32))] h0 n0 ZZ F_slots_a0 F_length_a0 F_members_a0 V_am rfl (by decide) rfl) hZ (hw _ (List.mem_of_getElem? (i := 27) rfl)) (hw _ (List.mem_of_getElem? (i := 3) rfl)) (by decide) (by decide)) q1a q1c (g := (mkF m 2 #[Sr a0, Si i1, Sd 4607182418800017408, .second, .unset] [(.int i1), (.ref a0)])) rfl (by rw [hml]; rfl) (Steps.refl _) (argsL := [(.int i1)]) (rest := []) (lenOf pd_4 rfl) rfl (by show 2 * 0 + _ ≤ _; exact Nat.le_of_eq rfl) (hb hby d3_2) (fun _ _ => ⟨rfl, e0, (by decide : 0 + 0 ≤ _), (by decide : 0 + 0 ≤ _)⟩)
  dsimp only [Pt.U, Pt.locs, Pt.cells, Pt.slots] at X1 l1 y1 z1 st1 hQ1
  subst l1 y1 z1
  obtain ⟨rfl, N1q, e1⟩ := hQ1
  have N1 := Fr.app N0 N1q
  refine Go.on (fun _ k => st1.trans k) ?_
  show Go _ _ _ _ _ _ _ _ (mkF m 5 #[Sr a0, Si i1, Sd 4607182418800017408, .second, .unset] [(.int (findL [m0, m1, m2, m3, m4, m5] i1 0))])
  generalize hix : (findL [m0, m1, m2, m3, m4, m5] i1 0) = ix
  show Go _ _ _ _ _ _ _ _ (mkF m 5 #[Sr a0, Si i1, Sd 4607182418800017408, .second, .unset] [(.int ix)])
  refine Go.on (fun _ k => XS.istore X1.here hx rfl (hb hby d3_5) rfl (l' := #[.val (.ref a0), .val (.int i1), .val (.double (4607182418800017408 : UInt64)), .second, .val (.int ix)]) rfl k) ?_
  show Go _ _ _ _ _ _ _ _ (mkF m 7 #[Sr a0, Si i1, Sd 4607182418800017408, .second, Si ix] [])
  refine Go.on (fun _ k => XS.iload X1.here hx rfl (hb hby d3_7) rfl k) ?_
  show Go _ _ _ _ _ _ _ _ (mkF m 9 #[Sr a0, Si i1, Sd 4607182418800017408, .second, Si ix] [(.int ix)])
  have hc2 : ix < (0 : Int32) := by rw [← hix]; simp only [findL, if_neg hne0, if_neg hne1, if_neg hne2, if_neg hne3, if_neg hne4, if_neg hne5]; decide
  refine Go.on (fun _ k => XS.ifNo X1.here hx rfl (hb hby d3_9) rfl ((if0 _ _).trans (tlt hc2).2.1) k) ?_
  refine Go.on (fun _ k => XS.aloadN X1.here hx rfl (hb hby d3_12) rfl rfl k) ?_
  show Go _ _ _ _ _ _ _ _ (mkF m 13 #[Sr a0, Si i1, Sd 4607182418800017408, .second, Si ix] [(.ref a0)])
  obtain ⟨T3, X3, e3, st3⟩ := getF X1 hx hZ hown (host := "") (Or.inl (hw _ (List.mem_of_getElem? (i := 30) rfl))) Via.refl e1 F_length_a0 (g := (mkF m 13 #[Sr a0, Si i1, Sd 4607182418800017408, .second, Si ix] [(.ref a0)])) rfl rfl (hb hby d3_13)
  refine Go.on st3 ?_
  show Go _ _ _ _ _ _ _ _ (mkF m 16 #[Sr a0, Si i1, Sd 4607182418800017408, .second, Si ix] [(.int 6)])
  refine Go.on (fun _ k => XS.aloadN X3.here hx rfl (hb hby d3_16) rfl rfl k) ?_
  show Go _ _ _ _ _ _ _ _ (mkF m 17 #[Sr a0, Si i1, Sd 4607182418800017408, .second, Si ix] [(.ref a0), (.int 6)])
  obtain ⟨T4, X4, e4, st4⟩ := getF X3 hx hZ hown (host := "") (Or.inl (hw _ (List.mem_of_getElem? (i := 11) rfl))) Via.refl e3 F_members_a0 (g := (mkF m 17 #[Sr a0, Si i1, Sd 4607182418800017408, .second, Si ix] [(.ref a0), (.int 6)])) rfl rfl (hb hby d3_17)
  refine Go.on st4 ?_
  show Go _ _ _ _ _ _ _ _ (mkF m 20 #[Sr a0, Si i1, Sd 4607182418800017408, .second, Si ix] [(.ref am), (.int 6)])
  obtain ⟨cl5, Ar5, -, S5, N5n, -, -⟩ := id V_am
  refine Go.on (X4.arraylength hx (by rw [e4]; exact Ar5.1) (State.isArrayOf_alike hZ.alike Ar5.2.1) (g := (mkF m 20 #[Sr a0, Si i1, Sd 4607182418800017408, .second, Si ix] [(.ref am), (.int 6)])) rfl rfl (hb hby d3_20)) ?_
  rw [len_of S5 N5n]
  show Go _ _ _ _ _ _ _ _ (mkF m 21 #[Sr a0, Si i1, Sd 4607182418800017408, .second, Si ix] [(.int 8), (.int 6)])
  have hc6 : ¬ ((6 : Int32) = (8 : Int32)) := by decide
  refine Go.on (fun _ k => XS.icmpYes X4.here hx rfl (pc0 := 21) (pc' := 59) rfl (hb hby d3_21) rfl (feq hc6).2 (by decide) (by decide) k) ?_
  refine Go.on (fun _ k => XS.aloadN X4.here hx rfl (hb hby d3_59) rfl rfl k) ?_
  refine Go.on (fun _ k => XS.dup X4.here hx rfl (hb hby d3_60) rfl rfl k) ?_
  show Go _ _ _ _ _ _ _ _ (mkF m 61 #[Sr a0, Si i1, Sd 4607182418800017408, .second, Si ix] [(.ref a0), (.ref a0)])
  obtain ⟨T7, X7, e7, st7⟩ := getF X4 hx hZ hown (host := "") (Or.inl (hw _ (List.mem_of_getElem? (i := 30) rfl))) Via.refl e4 F_length_a0 (g := (mkF m 61 #[Sr a0, Si i1, Sd 4607182418800017408, .second, Si ix] [(.ref a0), (.ref a0)])) rfl rfl (hb hby d3_61)
  refine Go.on st7 ?_
  show Go _ _ _ _ _ _ _ _ (mkF m 64 #[Sr a0, Si i1, Sd 4607182418800017408, .second, Si ix] [(.int 6), (.ref a0)])
  refine Go.on (fun _ k => XS.dupX1 X7.here hx rfl (hb hby d3_64) rfl rfl rfl k) ?_
  show Go _ _ _ _ _ _ _ _ (mkF m 65 #[Sr a0, Si i1, Sd 4607182418800017408, .second, Si ix] [(.int 6), (.ref a0), (.int 6)])
  refine Go.on (fun _ k => XS.iconst X7.here hx rfl (hb hby d3_65) k) ?_
  refine Go.on (fun _ k => XS.iadd X7.here hx rfl (hb hby d3_66) rfl k) ?_
  show Go _ _ _ _ _ _ _ _ (mkF m 67 #[Sr a0, Si i1, Sd 4607182418800017408, .second, Si ix] [(.int 7), (.ref a0), (.int 6)])
  obtain ⟨T8, h8, X8, e8, W8, st8⟩ := putF X7 hx hZ hown (host := "") (Or.inl (hw _ (List.mem_of_getElem? (i := 30) rfl))) Via.refl e7 F_length_a0 E_a0 (Or.inl (hw _ (List.mem_of_getElem? (i := 31) rfl))) (hw _ (List.mem_of_getElem? (i := 2) rfl)) (ty := .int) (by decide) rfl rfl (g := (mkF m 67 #[Sr a0, Si i1, Sd 4607182418800017408, .second, Si ix] [(.int 7), (.ref a0), (.int 6)])) rfl rfl (hb hby d3_67)
  refine Go.on st8 ?_
  replace F_length_a0 := F_length_a0.same W8
  replace E_a0 := E_a0.wr W8
  replace F_members_a0 := F_members_a0.other W8 (Or.inr (slot_ne (Or.inl (hw _ (List.mem_of_getElem? (i := 12) rfl))) (Or.inl (hw _ (List.mem_of_getElem? (i := 31) rfl))) (by decide) (t := (.array .int)) (t' := .int) (by decide) (by decide)))
  replace F_weights_a0 := F_weights_a0.other W8 (Or.inr (slot_ne (Or.inl (hw _ (List.mem_of_getElem? (i := 15) rfl))) (Or.inl (hw _ (List.mem_of_getElem? (i := 31) rfl))) (by decide) (t := (.array .double)) (t' := .int) (by decide) (by decide)))
  replace F_exact_a0 := F_exact_a0.other W8 (Or.inr (slot_ne (Or.inl (hw _ (List.mem_of_getElem? (i := 17) rfl))) (Or.inl (hw _ (List.mem_of_getElem? (i := 31) rfl))) (by decide) (t := .boolean) (t' := .int) (by decide) (by decide)))
  replace F_slots_a0 := F_slots_a0.other W8 (Or.inr (slot_ne (Or.inl (hw _ (List.mem_of_getElem? (i := 29) rfl))) (Or.inl (hw _ (List.mem_of_getElem? (i := 31) rfl))) (by decide) (t := (.array .int)) (t' := .int) (by decide) (by decide)))
  replace F_fingerprint_a0 := F_fingerprint_a0.other W8 (Or.inr (slot_ne (Or.inl (hw _ (List.mem_of_getElem? (i := 33) rfl))) (Or.inl (hw _ (List.mem_of_getElem? (i := 31) rfl))) (by decide) (t := .long) (t' := .int) (by decide) (by decide)))
  replace F_history_a0 := F_history_a0.other W8 (Or.inr (slot_ne (Or.inl (hw _ (List.mem_of_getElem? (i := 52) rfl))) (Or.inl (hw _ (List.mem_of_getElem? (i := 31) rfl))) (by decide) (t := (.object "com/example/due_weight/dueweight/core/Pairs$History")) (t' := .int) (by decide) (by decide)))
  replace F_shift_a0 := F_shift_a0.other W8 (Or.inr (slot_ne (Or.inl (hw _ (List.mem_of_getElem? (i := 86) rfl))) (Or.inl (hw _ (List.mem_of_getElem? (i := 31) rfl))) (by decide) (t := .int) (t' := .int) (by decide) (by decide)))
  replace V_am := V_am.other W8 (Ne.symm ne_a0_am)
  replace V_wa := V_wa.other W8 (Ne.symm ne_a0_wa)
  have N8 := Fr.snoc X8 N1 g_a0
  replace ZZ := Nat.le_trans ZZ (Keep.of_wr W8).1
  replace KP := KP.wr W8 (Or.inl (List.mem_of_getElem? (i := 0) rfl))
  show Go _ _ _ _ _ _ _ _ (mkF m 70 #[Sr a0, Si i1, Sd 4607182418800017408, .second, Si ix] [(.int 6)])
  refine Go.on (fun _ k => XS.istore X8.here hx rfl (hb hby d3_70) rfl (l' := #[.val (.ref a0), .val (.int i1), .val (.double (4607182418800017408 : UInt64)), .second, .val (.int (6 : Int32))]) rfl k) ?_
  show Go _ _ _ _ _ _ _ _ (mkF m 72 #[Sr a0, Si i1, Sd 4607182418800017408, .second, Si 6] [])
  refine Go.on (fun _ k => XS.aloadN X8.here hx rfl (hb hby d3_72) rfl rfl k) ?_
  show Go _ _ _ _ _ _ _ _ (mkF m 73 #[Sr a0, Si i1, Sd 4607182418800017408, .second, Si 6] [(.ref a0)])
  obtain ⟨T9, X9, e9, st9⟩ := getF X8 hx hZ hown (host := "") (Or.inl (hw _ (List.mem_of_getElem? (i := 11) rfl))) Via.refl e8 F_members_a0 (g := (mkF m 73 #[Sr a0, Si i1, Sd 4607182418800017408, .second, Si 6] [(.ref a0)])) rfl rfl (hb hby d3_73)
  refine Go.on st9 ?_
  show Go _ _ _ _ _ _ _ _ (mkF m 76 #[Sr a0, Si i1, Sd 4607182418800017408, .second, Si 6] [(.ref am)])
  refine Go.on (fun _ k => XS.iload X9.here hx rfl (hb hby d3_76) rfl k) ?_
  refine Go.on (fun _ k => XS.iloadN X9.here hx rfl (hb hby d3_78) rfl k) ?_
  show Go _ _ _ _ _ _ _ _ (mkF m 79 #[Sr a0, Si i1, Sd 4607182418800017408, .second, Si 6] [(.int i1), (.int 6), (.ref am)])
  obtain ⟨cl10, Ar10, q10, S10, N10n, H10, G10⟩ := id V_am
  have hin10 : ¬ ((6 : Int32) < 0 ∨ cl10.slots.size ≤ ((6 : Int32)).toNatClampNeg) := inb_of S10 ⟨by decide, by decide⟩
  obtain ⟨T10, h10, X10, e10, W10, st10⟩ := stI X9 hx hZ e9 Ar10 (j := (6 : Int32)) hin10 (g := (mkF m 79 #[Sr a0, Si i1, Sd 4607182418800017408, .second, Si 6] [(.int i1), (.int 6), (.ref am)])) rfl rfl (hb hby d3_79)
  replace V_am := Arv.set Ar10 q10 S10 N10n H10 G10 rfl W10 6 rfl (Nat.le_of_ble_eq_true rfl)
  replace E_a0 := E_a0.wr W10
  replace F_members_a0 := F_members_a0.other W10 (Or.inl ne_a0_am)
  replace F_weights_a0 := F_weights_a0.other W10 (Or.inl ne_a0_am)
  replace F_exact_a0 := F_exact_a0.other W10 (Or.inl ne_a0_am)
  replace F_slots_a0 := F_slots_a0.other W10 (Or.inl ne_a0_am)
  replace F_length_a0 := F_length_a0.other W10 (Or.inl ne_a0_am)
  replace F_fingerprint_a0 := F_fingerprint_a0.other W10 (Or.inl ne_a0_am)
  replace F_history_a0 := F_history_a0.other W10 (Or.inl ne_a0_am)
  replace F_shift_a0 := F_shift_a0.other W10 (Or.inl ne_a0_am)
  replace V_wa := V_wa.other W10 (Ne.symm ne_am_wa)
  refine Go.on st10 ?_
  have N10 := Fr.snoc X10 N8 g_am
  replace ZZ := Nat.le_trans ZZ (Keep.of_wr W10).1
  replace KP := KP.wr W10 (Or.inl (List.mem_of_getElem? (i := 1) rfl))
  change Arv Z h10 am k_am .int (8 : Int32) [(.int m0), (.int m1), (.int m2), (.int m3), (.int m4), (.int m5), (.int i1), (.int (0 : Int32))] (.int (0 : Int32)) at V_am
  show Go _ _ _ _ _ _ _ _ (mkF m 80 #[Sr a0, Si i1, Sd 4607182418800017408, .second, Si 6] [])
  refine Go.on (fun _ k => XS.aloadN X10.here hx rfl (hb hby d3_80) rfl rfl k) ?_
  show Go _ _ _ _ _ _ _ _ (mkF m 81 #[Sr a0, Si i1, Sd 4607182418800017408, .second, Si 6] [(.ref a0)])
  obtain ⟨T11, X11, e11, st11⟩ := getF X10 hx hZ hown (host := "") (Or.inl (hw _ (List.mem_of_getElem? (i := 14) rfl))) Via.refl e10 F_weights_a0 (g := (mkF m 81 #[Sr a0, Si i1, Sd 4607182418800017408, .second, Si 6] [(.ref a0)])) rfl rfl (hb hby d3_81)
  refine Go.on st11 ?_
  show Go _ _ _ _ _ _ _ _ (mkF m 84 #[Sr a0, Si i1, Sd 4607182418800017408, .second, Si 6] [(.ref wa)])
  refine Go.on (fun _ k => XS.iload X11.here hx rfl (hb hby d3_84) rfl k) ?_
  refine Go.on (fun _ k => XS.dloadN X11.here hx rfl (hb hby d3_86) rfl k) ?_
  show Go _ _ _ _ _ _ _ _ (mkF m 87 #[Sr a0, Si i1, Sd 4607182418800017408, .second, Si 6] [(.double 4607182418800017408), (.int 6), (.ref wa)])
  obtain ⟨cl12, Ar12, q12, S12, N12n, H12, G12⟩ := id V_wa
  have hin12 : ¬ ((6 : Int32) < 0 ∨ cl12.slots.size ≤ ((6 : Int32)).toNatClampNeg) := inb_of S12 ⟨by decide, by decide⟩
  obtain ⟨T12, h12, X12, e12, W12, st12⟩ := stD X11 hx hZ e11 Ar12 (j := (6 : Int32)) hin12 (g := (mkF m 87 #[Sr a0, Si i1, Sd 4607182418800017408, .second, Si 6] [(.double 4607182418800017408), (.int 6), (.ref wa)])) rfl rfl (hb hby d3_87)
  replace V_wa := Arv.set Ar12 q12 S12 N12n H12 G12 rfl W12 6 rfl (Nat.le_of_ble_eq_true rfl)
  replace E_a0 := E_a0.wr W12
  replace F_members_a0 := F_members_a0.other W12 (Or.inl ne_a0_wa)
  replace F_weights_a0 := F_weights_a0.other W12 (Or.inl ne_a0_wa)
  replace F_exact_a0 := F_exact_a0.other W12 (Or.inl ne_a0_wa)
  replace F_slots_a0 := F_slots_a0.other W12 (Or.inl ne_a0_wa)
  replace F_length_a0 := F_length_a0.other W12 (Or.inl ne_a0_wa)
  replace F_fingerprint_a0 := F_fingerprint_a0.other W12 (Or.inl ne_a0_wa)
  replace F_history_a0 := F_history_a0.other W12 (Or.inl ne_a0_wa)
  replace F_shift_a0 := F_shift_a0.other W12 (Or.inl ne_a0_wa)
  replace V_am := V_am.other W12 ne_am_wa
  refine Go.on st12 ?_
  have N12 := Fr.snoc X12 N10 g_wa
  replace ZZ := Nat.le_trans ZZ (Keep.of_wr W12).1
  replace KP := KP.wr W12 (Or.inl (List.mem_of_getElem? (i := 2) rfl))
  change Arv Z h12 wa k_wa .double (8 : Int32) [(.double (4607182418800017408 : UInt64)), (.double (4607182418800017408 : UInt64)), (.double (4607182418800017408 : UInt64)), (.double (4607182418800017408 : UInt64)), (.double (4607182418800017408 : UInt64)), (.double (4607182418800017408 : UInt64)), (.double (4607182418800017408 : UInt64)), (.double (0 : UInt64))] (.double (0 : UInt64)) at V_wa
  show Go _ _ _ _ _ _ _ _ (mkF m 88 #[Sr a0, Si i1, Sd 4607182418800017408, .second, Si 6] [])
  refine Go.on (fun _ k => XS.aloadN X12.here hx rfl (hb hby d3_88) rfl rfl k) ?_
  show Go _ _ _ _ _ _ _ _ (mkF m 89 #[Sr a0, Si i1, Sd 4607182418800017408, .second, Si 6] [(.ref a0)])
  obtain ⟨T13, X13, e13, st13⟩ := getF X12 hx hZ hown (host := "") (Or.inl (hw _ (List.mem_of_getElem? (i := 28) rfl))) Via.refl e12 F_slots_a0 (g := (mkF m 89 #[Sr a0, Si i1, Sd 4607182418800017408, .second, Si 6] [(.ref a0)])) rfl rfl (hb hby d3_89)
  refine Go.on st13 ?_
  show Go _ _ _ _ _ _ _ _ (mkF m 92 #[Sr a0, Si i1, Sd 4607182418800017408, .second, Si 6] [.null])
  refine Go.on (fun _ k => XS.ifnullYes X13.here hx rfl (pc0 := 92) (pc' := 118) rfl (hb hby d3_92) rfl (by decide) (by decide) k) ?_
  show Go _ _ _ _ _ _ _ _ (mkF m 118 #[Sr a0, Si i1, Sd 4607182418800017408, .second, Si 6] [])
  refine Go.on (fun _ k => XS.aloadN X13.here hx rfl (hb hby d3_118) rfl rfl k) ?_
  show Go _ _ _ _ _ _ _ _ (mkF m 119 #[Sr a0, Si i1, Sd 4607182418800017408, .second, Si 6] [(.ref a0)])
  obtain ⟨T14, X14, e14, st14⟩ := getF X13 hx hZ hown (host := "") (Or.inl (hw _ (List.mem_of_getElem? (i := 30) rfl))) Via.refl e13 F_length_a0 (g := (mkF m 119 #[Sr a0, Si i1, Sd 4607182418800017408, .second, Si 6] [(.ref a0)])) rfl rfl (hb hby d3_119)
  refine Go.on st14 ?_
  show Go _ _ _ _ _ _ _ _ (mkF m 122 #[Sr a0, Si i1, Sd 4607182418800017408, .second, Si 6] [(.int 7)])
  refine Go.on (fun _ k => XS.bipush X14.here hx rfl (hb hby d3_122) k) ?_
  show Go _ _ _ _ _ _ _ _ (mkF m 124 #[Sr a0, Si i1, Sd 4607182418800017408, .second, Si 6] [(.int 8), (.int 7)])
  have hc15 : ¬ ((8 : Int32) < (7 : Int32)) := by decide
  refine Go.on (fun _ k => XS.icmpYes X14.here hx rfl (pc0 := 124) (pc' := 215) rfl (hb hby d3_124) rfl (flt hc15).2.2.2 (by decide) (by decide) k) ?_
  refine Go.on (fun _ k => XS.aloadN X14.here hx rfl (hb hby d3_215) rfl rfl k) ?_
  refine Go.on (fun _ k => XS.dup X14.here hx rfl (hb hby d3_216) rfl rfl k) ?_
  show Go _ _ _ _ _ _ _ _ (mkF m 217 #[Sr a0, Si i1, Sd 4607182418800017408, .second, Si 6] [(.ref a0), (.ref a0)])
  obtain ⟨T16, X16, e16, st16⟩ := getF X14 hx hZ hown (host := "") (Or.inl (hw _ (List.mem_of_getElem? (i := 32) rfl))) Via.refl e14 F_fingerprint_a0 (g := (mkF m 217 #[Sr a0, Si i1, Sd 4607182418800017408, .second, Si 6] [(.ref a0), (.ref a0)])) rfl rfl (hb hby d3_217)
  refine Go.on st16 ?_
  show Go _ _ _ _ _ _ _ _ (mkF m 220 #[Sr a0, Si i1, Sd 4607182418800017408, .second, Si 6] [(.long fp0), (.ref a0)])
  refine Go.on (fun _ k => XS.iloadN X16.here hx rfl (hb hby d3_220) rfl k) ?_
  refine Go.on (fun _ k => XS.aloadN X16.here hx rfl (hb hby d3_221) rfl rfl k) ?_
  show Go _ _ _ _ _ _ _ _ (mkF m 222 #[Sr a0, Si i1, Sd 4607182418800017408, .second, Si 6] [(.ref a0), (.int i1), (.long fp0), (.ref a0)])
  obtain ⟨T17, X17, e17, st17⟩ := getF X16 hx hZ hown (host := "") (Or.inl (hw _ (List.mem_of_getElem? (i := 14) rfl))) Via.refl e16 F_weights_a0 (g := (mkF m 222 #[Sr a0, Si i1, Sd 4607182418800017408, .second, Si 6] [(.ref a0), (.int i1), (.long fp0), (.ref a0)])) rfl rfl (hb hby d3_222)
  refine Go.on st17 ?_
  show Go _ _ _ _ _ _ _ _ (mkF m 225 #[Sr a0, Si i1, Sd 4607182418800017408, .second, Si 6] [(.ref wa), (.int i1), (.long fp0), (.ref a0)])
  refine Go.on (fun _ k => XS.iload X17.here hx rfl (hb hby d3_225) rfl k) ?_
  show Go _ _ _ _ _ _ _ _ (mkF m 227 #[Sr a0, Si i1, Sd 4607182418800017408, .second, Si 6] [(.int 6), (.ref wa), (.int i1), (.long fp0), (.ref a0)])
  obtain ⟨cl18, Ar18, -, S18, -, H18, -⟩ := id V_wa
  have hin18 : ¬ ((6 : Int32) < 0 ∨ cl18.slots.size ≤ ((6 : Int32)).toNatClampNeg) := inb_of S18 ⟨by decide, by decide⟩
  refine Go.on (X17.daload hx (j := (6 : Int32)) (v := (.double (4607182418800017408 : UInt64))) (by rw [e17]; exact Ar18.1) (State.isArrayOf_alike hZ.alike Ar18.2.1) Ar18.2.2 hin18 (H18.at hin18 (rfl)) (g := (mkF m 227 #[Sr a0, Si i1, Sd 4607182418800017408, .second, Si 6] [(.int 6), (.ref wa), (.int i1), (.long fp0), (.ref a0)])) rfl rfl (hb hby d3_227)) ?_
  show Go _ _ _ _ _ _ _ _ (mkF m 228 #[Sr a0, Si i1, Sd 4607182418800017408, .second, Si 6] [(.double 4607182418800017408), (.int i1), (.long fp0), (.ref a0)])
  obtain ⟨_, _, ⟨T19, L19, k19, n19⟩, -, X19, ⟨Lc19, hQ19, l19, y19, z19⟩, st19⟩ := Jvm.LawKit.callS X17 hx (y := (⟨"com/example/due_weight/dueweight/core/Pairs", "fingerprint", "(ID)J"⟩ : MethodName)) hown (mvT hZ (hw _ (List.mem_of_getElem? (i := 34) rfl))) (mvT hZ (hw _ (List.mem_of_getElem? (i := 35) rfl))) (mvT hZ (hw _ (List.mem_of_getElem? (i := 3) rfl))) (mvT hZ (hw _ (List.mem_of_getElem? (i := 36) rfl))) (by decide) (backOf (W := 3) (rm5 l Z aw hw [] i1 (4607182418800017408 : UInt64)  h12 n0 ZZ (by decide +kernel)) hZ (hw _ (List.mem_of_getElem? (i := 36) rfl)) (hw _ (List.mem_of_getElem? (i := 3) rfl)) (by decide) (by decide)) (g := (mkF m 228 #[Sr a0, Si i1, Sd 4607182418800017408, .second, Si 6] [(.double 4607182418800017408), (.int i1), (.long fp0), (.ref a0)])) rfl (by rw [hml]; rfl) (argsL := [(.int i1), (.double (4607182418800017408 : UInt64))]) (rest := [(.long fp0), (.ref a0)]) (lenOf pd_5 rfl) rfl (by show 2 * 0 + _ ≤ _; exact Nat.le_of_eq rfl) (hb hby d3_228) (fun _ _ => ⟨rfl, e17, (by decide : 0 + 0 ≤ _), (by decide : 0 + 0 ≤ _)⟩)
  dsimp only [Pt.U, Pt.locs, Pt.cells, Pt.slots] at X19 l19 y19 z19 st19 hQ19
  subst l19 y19 z19
  obtain ⟨rfl, N19q, e19⟩ := hQ19
  have N19 := Fr.app N12 N19q
  refine Go.on st19 ?_
  show Go _ _ _ _ _ _ _ _ (mkF m 231 #[Sr a0, Si i1, Sd 4607182418800017408, .second, Si 6] [(.long (mixV ((mixV ((4607182418800017408 : UInt64).toInt64)) + (i1.toInt64)))), (.long fp0), (.ref a0)])
  generalize hfv : (mixV ((mixV ((4607182418800017408 : UInt64).toInt64)) + (i1.toInt64))) = fv
  show Go _ _ _ _ _ _ _ _ (mkF m 231 #[Sr a0, Si i1, Sd 4607182418800017408, .second, Si 6] [(.long fv), (.long fp0), (.ref a0)])
  refine Go.on (fun _ k => XS.ladd X19.here hx rfl (hb hby d3_231) rfl k) ?_
  show Go _ _ _ _ _ _ _ _ (mkF m 232 #[Sr a0, Si i1, Sd 4607182418800017408, .second, Si 6] [(.long (fp0 + fv)), (.ref a0)])
  obtain ⟨T20, h20, X20, e20, W20, st20⟩ := putF X19 hx hZ hown (host := "") (Or.inl (hw _ (List.mem_of_getElem? (i := 32) rfl))) Via.refl e19 F_fingerprint_a0 E_a0 (Or.inl (hw _ (List.mem_of_getElem? (i := 33) rfl))) (hw _ (List.mem_of_getElem? (i := 2) rfl)) (ty := .long) (by decide) rfl rfl (g := (mkF m 232 #[Sr a0, Si i1, Sd 4607182418800017408, .second, Si 6] [(.long (fp0 + fv)), (.ref a0)])) rfl rfl (hb hby d3_232)
  refine Go.on st20 ?_
  replace F_fingerprint_a0 := F_fingerprint_a0.same W20
  replace E_a0 := E_a0.wr W20
  replace F_members_a0 := F_members_a0.other W20 (Or.inr (slot_ne (Or.inl (hw _ (List.mem_of_getElem? (i := 12) rfl))) (Or.inl (hw _ (List.mem_of_getElem? (i := 33) rfl))) (by decide) (t := (.array .int)) (t' := .long) (by decide) (by decide)))
  replace F_weights_a0 := F_weights_a0.other W20 (Or.inr (slot_ne (Or.inl (hw _ (List.mem_of_getElem? (i := 15) rfl))) (Or.inl (hw _ (List.mem_of_getElem? (i := 33) rfl))) (by decide) (t := (.array .double)) (t' := .long) (by decide) (by decide)))
  replace F_exact_a0 := F_exact_a0.other W20 (Or.inr (slot_ne (Or.inl (hw _ (List.mem_of_getElem? (i := 17) rfl))) (Or.inl (hw _ (List.mem_of_getElem? (i := 33) rfl))) (by decide) (t := .boolean) (t' := .long) (by decide) (by decide)))
  replace F_slots_a0 := F_slots_a0.other W20 (Or.inr (slot_ne (Or.inl (hw _ (List.mem_of_getElem? (i := 29) rfl))) (Or.inl (hw _ (List.mem_of_getElem? (i := 33) rfl))) (by decide) (t := (.array .int)) (t' := .long) (by decide) (by decide)))
  replace F_length_a0 := F_length_a0.other W20 (Or.inr (slot_ne (Or.inl (hw _ (List.mem_of_getElem? (i := 31) rfl))) (Or.inl (hw _ (List.mem_of_getElem? (i := 33) rfl))) (by decide) (t := .int) (t' := .long) (by decide) (by decide)))
  replace F_history_a0 := F_history_a0.other W20 (Or.inr (slot_ne (Or.inl (hw _ (List.mem_of_getElem? (i := 52) rfl))) (Or.inl (hw _ (List.mem_of_getElem? (i := 33) rfl))) (by decide) (t := (.object "com/example/due_weight/dueweight/core/Pairs$History")) (t' := .long) (by decide) (by decide)))
  replace F_shift_a0 := F_shift_a0.other W20 (Or.inr (slot_ne (Or.inl (hw _ (List.mem_of_getElem? (i := 86) rfl))) (Or.inl (hw _ (List.mem_of_getElem? (i := 33) rfl))) (by decide) (t := .int) (t' := .long) (by decide) (by decide)))
  replace V_am := V_am.other W20 (Ne.symm ne_a0_am)
  replace V_wa := V_wa.other W20 (Ne.symm ne_a0_wa)
  have N20 := Fr.snoc X20 N19 g_a0
  replace ZZ := Nat.le_trans ZZ (Keep.of_wr W20).1
  replace KP := KP.wr W20 (Or.inl (List.mem_of_getElem? (i := 0) rfl))
  show Go _ _ _ _ _ _ _ _ (mkF m 235 #[Sr a0, Si i1, Sd 4607182418800017408, .second, Si 6] [])
  refine Go.on (fun _ k => XS.aloadN X20.here hx rfl (hb hby d3_235) rfl rfl k) ?_
  show Go _ _ _ _ _ _ _ _ (mkF m 236 #[Sr a0, Si i1, Sd 4607182418800017408, .second, Si 6] [(.ref a0)])
  obtain ⟨T21, X21, e21, st21⟩ := getF X20 hx hZ hown (host := "") (Or.inl (hw _ (List.mem_of_getElem? (i := 51) rfl))) Via.refl e20 F_history_a0 (g := (mkF m 236 #[Sr a0, Si i1, Sd 4607182418800017408, .second, Si 6] [(.ref a0)])) rfl rfl (hb hby d3_236)
  refine Go.on st21 ?_
  show Go _ _ _ _ _ _ _ _ (mkF m 239 #[Sr a0, Si i1, Sd 4607182418800017408, .second, Si 6] [.null])
  refine Go.on (fun _ k => XS.ifnullYes X21.here hx rfl (pc0 := 239) (pc' := 255) rfl (hb hby d3_239) rfl (by decide) (by decide) k) ?_
  show Go _ _ _ _ _ _ _ _ (mkF m 255 #[Sr a0, Si i1, Sd 4607182418800017408, .second, Si 6] [])
  refine Go.on (fun _ k => XS.iload X21.here hx rfl (hb hby d3_255) rfl k) ?_
  show Go _ _ _ _ _ _ _ _ (mkF m 257 #[Sr a0, Si i1, Sd 4607182418800017408, .second, Si 6] [(.int 6)])
  refine Go.retV X21 hx Bd.returns rfl (Or.inl ⟨rfl, Or.inl rfl, _, rfl⟩) (hb hby d3_257) ?_ (by rw [hK1]; decide) (by rw [hK2]; decide)
  rw [e21, ← hQQ]
  exact ⟨am, wa, k_am, k_wa, _, rfl, N20, KP, E_a0, F_members_a0, F_weights_a0, F_exact_a0, F_slots_a0, F_length_a0, F_fingerprint_a0, F_history_a0, F_shift_a0, V_am, V_wa, g_am, g_wa, ne_a0_am, ne_a0_wa, ne_am_wa⟩
theorem ef_add_7 (m : MethodId) (a0 : Addr) (i1 : Int32) : entryFrame m #[(.ref a0), (.int i1), (.double (4607182418800017408 : UInt64))] 5 = mkF m 0 #[.val (.ref a0), .val (.int i1), .val (.double (4607182418800017408 : UInt64)), .second, .unset] [] := by first | (simp [entryFrame, mkF, argsToLocals, Value.category]; done) | rfl
def Q_add_7 (Z : State) (a0 : Addr) (i1 : Int32) (am : Addr) (wa : Addr) (fp0 : Int64) (k_am : ClassId) (m0 : Int32) (m1 : Int32) (m2 : Int32) (m3 : Int32) (m4 : Int32) (m5 : Int32) (m6 : Int32) (k_wa : ClassId) (h0 : Heap) (n0 : Nat) (v : Option Value) (h : Heap) (L : List Loc) : Prop := ∃ (mb wb : Addr) (k_mb k_wb : ClassId) (fq : Int64), v = some (.int (7 : Int32)) ∧ Fr n0 L ∧ Keep h0 h [a0, am, wa] ∧ Exa Z h a0 "com/example/due_weight/dueweight/core/Pairs" ∧ Fld Z h a0 "com/example/due_weight/dueweight/core/Pairs" "members" "[I" (.ref mb) ∧ Fld Z h a0 "com/example/due_weight/dueweight/core/Pairs" "weights" "[D" (.ref wb) ∧ Fld Z h a0 "com/example/due_weight/dueweight/core/Pairs" "exact" "Z" (.int (1 : Int32)) ∧ Fld Z h a0 "com/example/due_weight/dueweight/core/Pairs" "slots" "[I" .null ∧ Fld Z h a0 "com/example/due_weight/dueweight/core/Pairs" "length" "I" (.int (8 : Int32)) ∧ Fld Z h a0 "com/example/due_weight/dueweight/core/Pairs" "fingerprint" "J" (.long fq) ∧ Fld Z h a0 "com/example/due_weight/dueweight/core/Pairs" "history" "Lcom/example/due_weight/dueweight/core/Pairs$History;" .null ∧ Fld Z h a0 "com/example/due_weight/dueweight/core/Pairs" "shift" "I" (.int (0 : Int32)) ∧ Arv Z h mb k_mb .int (8 : Int32) [(.int m0), (.int m1), (.int m2), (.int m3), (.int m4), (.int m5), (.int m6), (.int i1)] (.int (0 : Int32)) ∧ Arv Z h wb k_wb .double (8 : Int32) [(.double (4607182418800017408 : UInt64)), (.double (4607182418800017408 : UInt64)), (.double (4607182418800017408 : UInt64)), (.double (4607182418800017408 : UInt64)), (.double (4607182418800017408 : UInt64)), (.double (4607182418800017408 : UInt64)), (.double (4607182418800017408 : UInt64)), (.double (4607182418800017408 : UInt64))] (.double (0 : UInt64)) ∧ n0 ≤ mb ∧ n0 ≤ wb ∧ a0 ≠ mb ∧ a0 ≠ wb ∧ mb ≠ wb
set_option maxRecDepth 65536 in
set_option maxHeartbeats 40000000 in
theorem add_7 (l : Launch) (Z : State) (aw : Array Value) (hw : ∀ d ∈ tables_1, d.before aw Z = true) (ws : List Jvm.Cond) (a0 : Addr) (i1 : Int32) (am : Addr) (wa : Addr) (fp0 : Int64) (k_am : ClassId) (m0 : Int32) (m1 : Int32) (m2 : Int32) (m3 : Int32) (m4 : Int32) (m5 : Int32) (m6 : Int32) (k_wa : ClassId) (h0 : Heap) (n0 : Nat) (Z0 : n0 ≤ h0.size) (E_a0 : Exa Z h0 a0 "com/example/due_weight/dueweight/core/Pairs") (F_members_a0 : Fld Z h0 a0 "com/example/due_weight/dueweight/core/Pairs" "members" "[I" (.ref am)) (F_weights_a0 : Fld Z h0 a0 "com/example/due_weight/dueweight/core/Pairs" "weights" "[D" (.ref wa)) (F_exact_a0 : Fld Z h0 a0 "com/example/due_weight/dueweight/core/Pairs" "exact" "Z" (.int (1 : Int32))) (F_slots_a0 : Fld Z h0 a0 "com/example/due_weight/dueweight/core/Pairs" "slots" "[I" .null) (F_length_a0 : Fld Z h0 a0 "com/example/due_weight/dueweight/core/Pairs" "length" "I" (.int (7 : Int32))) (F_fingerprint_a0 : Fld Z h0 a0 "com/example/due_weight/dueweight/core/Pairs" "fingerprint" "J" (.long fp0)) (F_history_a0 : Fld Z h0 a0 "com/example/due_weight/dueweight/core/Pairs" "history" "Lcom/example/due_weight/dueweight/core/Pairs$History;" .null) (F_shift_a0 : Fld Z h0 a0 "com/example/due_weight/dueweight/core/Pairs" "shift" "I" (.int (0 : Int32))) (V_am : Arv Z h0 am k_am .int (8 : Int32) [(.int m0), (.int m1), (.int m2), (.int m3), (.int m4), (.int m5), (.int m6), (.int (0 : Int32))] (.int (0 : Int32))) (V_wa : Arv Z h0 wa k_wa .double (8 : Int32) [(.double (4607182418800017408 : UInt64)), (.double (4607182418800017408 : UInt64)), (.double (4607182418800017408 : UInt64)), (.double (4607182418800017408 : UInt64)), (.double (4607182418800017408 : UInt64)), (.double (4607182418800017408 : UInt64)), (.double (4607182418800017408 : UInt64)), (.double (0 : UInt64))] (.double (0 : UInt64))) (g_a0 : n0 ≤ a0) (g_am : n0 ≤ am) (g_wa : n0 ≤ wa) (ne_a0_am : a0 ≠ am) (ne_a0_wa : a0 ≠ wa) (ne_am_wa : am ≠ wa) (hne0 : ¬ (m0 = i1)) (hne1 : ¬ (m1 = i1)) (hne2 : ¬ (m2 = i1)) (hne3 : ¬ (m3 = i1)) (hne4 : ¬ (m4 = i1)) (hne5 : ¬ (m5 = i1)) (hne6 : ¬ (m6 = i1)) :
    MetFree l (⟨"com/example/due_weight/dueweight/core/Pairs", "add", "(ID)I"⟩ : MethodName) (head1 (Jvm.Cond.code (⟨"com/example/due_weight/dueweight/core/Pairs", "add", "(ID)I"⟩ : MethodName) prog_21_method_7_code 5 (some .int) :: ws) ({ frames := 3, cells := 0, slots := 0, locals := 45 } : Room)) (fun a U => a = #[(.ref a0), (.int i1), (.double (4607182418800017408 : UInt64))] ∧ Z.Warmed39 U.vm ∧ U.heap = h0) (fun _ _ _ _ _ => True) (fun _ U o U' => ∃ v L, o = .returned v ∧ Q_add_7 Z a0 i1 am wa fp0 k_am m0 m1 m2 m3 m4 m5 m6 k_wa h0 n0 v U'.heap L ∧ FrameEnd U o U' L ({ frames := 3, cells := 0, slots := 0, locals := 45 } : Room).cells ({ frames := 3, cells := 0, slots := 0, locals := 45 } : Room).slots) := by
  refine MetFree.of_bodySF (plainFor_of_name pn_0) hisR ?_
  intro p e s m args below meth c s₁ Bd hml0 hP hK
  obtain ⟨rfl, hZ, hh⟩ := hP
  have hx := Bd.exec
  have hby := Bd.bytes
  have hml : c.maxLocals = 5 := hml0
  have hown : s.vm.findClass "com/example/due_weight/dueweight/core/Pairs" = some m.cls := findClass_of_methodNamed Bd.named
  have hnm := (name_of_methodNamed Bd.named Bd.method).1
  have hlk : meth.locks = false := BodyLoose.notSynchronized Bd
  have X0 : Stand p l e ({ frames := 3, cells := 0, slots := 0, locals := 45 } : Room) s m #[(.ref a0), (.int i1), (.double (4607182418800017408 : UInt64))] below meth c s₁ [] 0 0 := Stand.of_body Bd
  have e0 : s₁.heap = h0 := by rw [← hh, Bd.state]; rfl
  have N0 := Fr.nil n0
  have ZZ := Z0
  show Go p e below s ({ frames := 3, cells := 0, slots := 0, locals := 45 } : Room).cells ({ frames := 3, cells := 0, slots := 0, locals := 45 } : Room).slots (fun v h L => Q_add_7 Z a0 i1 am wa fp0 k_am m0 m1 m2 m3 m4 m5 m6 k_wa h0 n0 v h L) s₁ (entryFrame m #[(.ref a0), (.int i1), (.double (4607182418800017408 : UInt64))] 5)
  refine Go.cast (ef_add_7 m a0 i1) ?_
  refine Go.gen ?_
  intro K1 K2 QQ hK1 hK2 hQQ
  have KP : Keep h0 h0 [a0, am, wa] := Keep.refl _ _
  refine Go.on (fun _ k => XS.aloadN X0.here hx rfl (hb hby d3_0) rfl rfl k) ?_
  refine Go.on (fun _ k => XS.iloadN X0.here hx rfl (hb hby d3_1) rfl k) ?_
  show Go _ _ _ _ _ _ _ _ (mkF m 2 #[Sr a0, Si i1, Sd 4607182418800017408, .second, .unset] [(.int i1), (.ref a0)])
  obtain ⟨cq1, kq1, q1a, q1b, q1c⟩ := isOf hZ e0 E_a0
  obtain ⟨_, _, ⟨T1, L1, k1, n1⟩, -, X1, ⟨Lc1, hQ1, l1, y1, z1⟩, st1⟩ := X0.virtualBack hx (y := (⟨"com/example/due_weight/dueweight/core/Pairs", "indexOf", "(I)I"⟩ : MethodName)) (z := (⟨"com/example/due_weight/dueweight/core/Pairs", "indexOf", "(I)I"⟩ : MethodName)) hown (mvT hZ (hw _ (List.mem_of_getElem? (i := 23) rfl))) (mvT hZ (hw _ (List.mem_of_getElem? (i := 24) rfl))) (notFace_of_selects (args := #[]) (mvT hZ (hw _ (List.mem_of_getElem? (i := 26) rfl)))) (mvT hZ (hw _ (List.mem_of_getElem? (i := 26) rfl))) (mvT hZ (hw _ (List.mem_of_getElem? (i := 25) rfl))) (by decide) (backOf (W := 0) (ixl l Z aw hw [] a0 i1 [m0, m1, m2, m3, m4, m5, m6] [(.int (0 : Int32))] (7 : Int32) am k_am (8 : Int32) [(.int m0), (.int m1), (.int m2), (.int m3), (.int m4), (.int m5), (.int m6), (.int (0 : Int32))] h0 n0 ZZ F_slots_a0 F_length_a0 F_members_a0 V_am rfl (by decide) rfl) hZ (hw _ (List.mem_of_getElem? (i := 27) rfl)) (hw _ (List.mem_of_getElem? (i := 3) rfl)) (by decide) (by decide)) q1a q1c (g := (mkF m 2 #[Sr a0, Si i1, Sd 4607182418800017408, .second, .unset] [(.int i1), (.ref a0)])) rfl (by rw [hml]; rfl) (Steps.refl _) (argsL := [(.int i1)]) (rest := []) (lenOf pd_4 rfl) rfl (by show 2 * 0 + _ ≤ _; exact Nat.le_of_eq rfl) (hb hby d3_2) (fun _ _ => ⟨rfl, e0, (by decide : 0 + 0 ≤ _), (by decide : 0 + 0 ≤ _)⟩)
  dsimp only [Pt.U, Pt.locs, Pt.cells, Pt.slots] at X1 l1 y1 z1 st1 hQ1
  subst l1 y1 z1
  obtain ⟨rfl, N1q, e1⟩ := hQ1
  have N1 := Fr.app N0 N1q
  refine Go.on (fun _ k => st1.trans k) ?_
  show Go _ _ _ _ _ _ _ _ (mkF m 5 #[Sr a0, Si i1, Sd 4607182418800017408, .second, .unset] [(.int (findL [m0, m1, m2, m3, m4, m5, m6] i1 0))])
  generalize hix : (findL [m0, m1, m2, m3, m4, m5, m6] i1 0) = ix
  show Go _ _ _ _ _ _ _ _ (mkF m 5 #[Sr a0, Si i1, Sd 4607182418800017408, .second, .unset] [(.int ix)])
  refine Go.on (fun _ k => XS.istore X1.here hx rfl (hb hby d3_5) rfl (l' := #[.val (.ref a0), .val (.int i1), .val (.double (4607182418800017408 : UInt64)), .second, .val (.int ix)]) rfl k) ?_
  show Go _ _ _ _ _ _ _ _ (mkF m 7 #[Sr a0, Si i1, Sd 4607182418800017408, .second, Si ix] [])
  refine Go.on (fun _ k => XS.iload X1.here hx rfl (hb hby d3_7) rfl k) ?_
  show Go _ _ _ _ _ _ _ _ (mkF m 9 #[Sr a0, Si i1, Sd 4607182418800017408, .second, Si ix] [(.int ix)])
  have hc2 : ix < (0 : Int32) := by rw [← hix]; simp only [findL, if_neg hne0, if_neg hne1, if_neg hne2, if_neg hne3, if_neg hne4, if_neg hne5, if_neg hne6]; decide
  refine Go.on (fun _ k => XS.ifNo X1.here hx rfl (hb hby d3_9) rfl ((if0 _ _).trans (tlt hc2).2.1) k) ?_
  refine Go.on (fun _ k => XS.aloadN X1.here hx rfl (hb hby d3_12) rfl rfl k) ?_
  show Go _ _ _ _ _ _ _ _ (mkF m 13 #[Sr a0, Si i1, Sd 4607182418800017408, .second, Si ix] [(.ref a0)])
  obtain ⟨T3, X3, e3, st3⟩ := getF X1 hx hZ hown (host := "") (Or.inl (hw _ (List.mem_of_getElem? (i := 30) rfl))) Via.refl e1 F_length_a0 (g := (mkF m 13 #[Sr a0, Si i1, Sd 4607182418800017408, .second, Si ix] [(.ref a0)])) rfl rfl (hb hby d3_13)
  refine Go.on st3 ?_
  show Go _ _ _ _ _ _ _ _ (mkF m 16 #[Sr a0, Si i1, Sd 4607182418800017408, .second, Si ix] [(.int 7)])
  refine Go.on (fun _ k => XS.aloadN X3.here hx rfl (hb hby d3_16) rfl rfl k) ?_
  show Go _ _ _ _ _ _ _ _ (mkF m 17 #[Sr a0, Si i1, Sd 4607182418800017408, .second, Si ix] [(.ref a0), (.int 7)])
  obtain ⟨T4, X4, e4, st4⟩ := getF X3 hx hZ hown (host := "") (Or.inl (hw _ (List.mem_of_getElem? (i := 11) rfl))) Via.refl e3 F_members_a0 (g := (mkF m 17 #[Sr a0, Si i1, Sd 4607182418800017408, .second, Si ix] [(.ref a0), (.int 7)])) rfl rfl (hb hby d3_17)
  refine Go.on st4 ?_
  show Go _ _ _ _ _ _ _ _ (mkF m 20 #[Sr a0, Si i1, Sd 4607182418800017408, .second, Si ix] [(.ref am), (.int 7)])
  obtain ⟨cl5, Ar5, -, S5, N5n, -, -⟩ := id V_am
  refine Go.on (X4.arraylength hx (by rw [e4]; exact Ar5.1) (State.isArrayOf_alike hZ.alike Ar5.2.1) (g := (mkF m 20 #[Sr a0, Si i1, Sd 4607182418800017408, .second, Si ix] [(.ref am), (.int 7)])) rfl rfl (hb hby d3_20)) ?_
  rw [len_of S5 N5n]
  show Go _ _ _ _ _ _ _ _ (mkF m 21 #[Sr a0, Si i1, Sd 4607182418800017408, .second, Si ix] [(.int 8), (.int 7)])
  have hc6 : ¬ ((7 : Int32) = (8 : Int32)) := by decide
  refine Go.on (fun _ k => XS.icmpYes X4.here hx rfl (pc0 := 21) (pc' := 59) rfl (hb hby d3_21) rfl (feq hc6).2 (by decide) (by decide) k) ?_
  refine Go.on (fun _ k => XS.aloadN X4.here hx rfl (hb hby d3_59) rfl rfl k) ?_
  refine Go.on (fun _ k => XS.dup X4.here hx rfl (hb hby d3_60) rfl rfl k) ?_
  show Go _ _ _ _ _ _ _ _ (mkF m 61 #[Sr a0, Si i1, Sd 4607182418800017408, .second, Si ix] [(.ref a0), (.ref a0)])
  obtain ⟨T7, X7, e7, st7⟩ := getF X4 hx hZ hown (host := "") (Or.inl (hw _ (List.mem_of_getElem? (i := 30) rfl))) Via.refl e4 F_length_a0 (g := (mkF m 61 #[Sr a0, Si i1, Sd 4607182418800017408, .second, Si ix] [(.ref a0), (.ref a0)])) rfl rfl (hb hby d3_61)
  refine Go.on st7 ?_
  show Go _ _ _ _ _ _ _ _ (mkF m 64 #[Sr a0, Si i1, Sd 4607182418800017408, .second, Si ix] [(.int 7), (.ref a0)])
  refine Go.on (fun _ k => XS.dupX1 X7.here hx rfl (hb hby d3_64) rfl rfl rfl k) ?_
  show Go _ _ _ _ _ _ _ _ (mkF m 65 #[Sr a0, Si i1, Sd 4607182418800017408, .second, Si ix] [(.int 7), (.ref a0), (.int 7)])
  refine Go.on (fun _ k => XS.iconst X7.here hx rfl (hb hby d3_65) k) ?_
  refine Go.on (fun _ k => XS.iadd X7.here hx rfl (hb hby d3_66) rfl k) ?_
  show Go _ _ _ _ _ _ _ _ (mkF m 67 #[Sr a0, Si i1, Sd 4607182418800017408, .second, Si ix] [(.int 8), (.ref a0), (.int 7)])
  obtain ⟨T8, h8, X8, e8, W8, st8⟩ := putF X7 hx hZ hown (host := "") (Or.inl (hw _ (List.mem_of_getElem? (i := 30) rfl))) Via.refl e7 F_length_a0 E_a0 (Or.inl (hw _ (List.mem_of_getElem? (i := 31) rfl))) (hw _ (List.mem_of_getElem? (i := 2) rfl)) (ty := .int) (by decide) rfl rfl (g := (mkF m 67 #[Sr a0, Si i1, Sd 4607182418800017408, .second, Si ix] [(.int 8), (.ref a0), (.int 7)])) rfl rfl (hb hby d3_67)
  refine Go.on st8 ?_
  replace F_length_a0 := F_length_a0.same W8
  replace E_a0 := E_a0.wr W8
  replace F_members_a0 := F_members_a0.other W8 (Or.inr (slot_ne (Or.inl (hw _ (List.mem_of_getElem? (i := 12) rfl))) (Or.inl (hw _ (List.mem_of_getElem? (i := 31) rfl))) (by decide) (t := (.array .int)) (t' := .int) (by decide) (by decide)))
  replace F_weights_a0 := F_weights_a0.other W8 (Or.inr (slot_ne (Or.inl (hw _ (List.mem_of_getElem? (i := 15) rfl))) (Or.inl (hw _ (List.mem_of_getElem? (i := 31) rfl))) (by decide) (t := (.array .double)) (t' := .int) (by decide) (by decide)))
  replace F_exact_a0 := F_exact_a0.other W8 (Or.inr (slot_ne (Or.inl (hw _ (List.mem_of_getElem? (i := 17) rfl))) (Or.inl (hw _ (List.mem_of_getElem? (i := 31) rfl))) (by decide) (t := .boolean) (t' := .int) (by decide) (by decide)))
  replace F_slots_a0 := F_slots_a0.other W8 (Or.inr (slot_ne (Or.inl (hw _ (List.mem_of_getElem? (i := 29) rfl))) (Or.inl (hw _ (List.mem_of_getElem? (i := 31) rfl))) (by decide) (t := (.array .int)) (t' := .int) (by decide) (by decide)))
  replace F_fingerprint_a0 := F_fingerprint_a0.other W8 (Or.inr (slot_ne (Or.inl (hw _ (List.mem_of_getElem? (i := 33) rfl))) (Or.inl (hw _ (List.mem_of_getElem? (i := 31) rfl))) (by decide) (t := .long) (t' := .int) (by decide) (by decide)))
  replace F_history_a0 := F_history_a0.other W8 (Or.inr (slot_ne (Or.inl (hw _ (List.mem_of_getElem? (i := 52) rfl))) (Or.inl (hw _ (List.mem_of_getElem? (i := 31) rfl))) (by decide) (t := (.object "com/example/due_weight/dueweight/core/Pairs$History")) (t' := .int) (by decide) (by decide)))
  replace F_shift_a0 := F_shift_a0.other W8 (Or.inr (slot_ne (Or.inl (hw _ (List.mem_of_getElem? (i := 86) rfl))) (Or.inl (hw _ (List.mem_of_getElem? (i := 31) rfl))) (by decide) (t := .int) (t' := .int) (by decide) (by decide)))
  replace V_am := V_am.other W8 (Ne.symm ne_a0_am)
  replace V_wa := V_wa.other W8 (Ne.symm ne_a0_wa)
  have N8 := Fr.snoc X8 N1 g_a0
  replace ZZ := Nat.le_trans ZZ (Keep.of_wr W8).1
  replace KP := KP.wr W8 (Or.inl (List.mem_of_getElem? (i := 0) rfl))
  show Go _ _ _ _ _ _ _ _ (mkF m 70 #[Sr a0, Si i1, Sd 4607182418800017408, .second, Si ix] [(.int 7)])
  refine Go.on (fun _ k => XS.istore X8.here hx rfl (hb hby d3_70) rfl (l' := #[.val (.ref a0), .val (.int i1), .val (.double (4607182418800017408 : UInt64)), .second, .val (.int (7 : Int32))]) rfl k) ?_
  show Go _ _ _ _ _ _ _ _ (mkF m 72 #[Sr a0, Si i1, Sd 4607182418800017408, .second, Si 7] [])
  refine Go.on (fun _ k => XS.aloadN X8.here hx rfl (hb hby d3_72) rfl rfl k) ?_
  show Go _ _ _ _ _ _ _ _ (mkF m 73 #[Sr a0, Si i1, Sd 4607182418800017408, .second, Si 7] [(.ref a0)])
  obtain ⟨T9, X9, e9, st9⟩ := getF X8 hx hZ hown (host := "") (Or.inl (hw _ (List.mem_of_getElem? (i := 11) rfl))) Via.refl e8 F_members_a0 (g := (mkF m 73 #[Sr a0, Si i1, Sd 4607182418800017408, .second, Si 7] [(.ref a0)])) rfl rfl (hb hby d3_73)
  refine Go.on st9 ?_
  show Go _ _ _ _ _ _ _ _ (mkF m 76 #[Sr a0, Si i1, Sd 4607182418800017408, .second, Si 7] [(.ref am)])
  refine Go.on (fun _ k => XS.iload X9.here hx rfl (hb hby d3_76) rfl k) ?_
  refine Go.on (fun _ k => XS.iloadN X9.here hx rfl (hb hby d3_78) rfl k) ?_
  show Go _ _ _ _ _ _ _ _ (mkF m 79 #[Sr a0, Si i1, Sd 4607182418800017408, .second, Si 7] [(.int i1), (.int 7), (.ref am)])
  obtain ⟨cl10, Ar10, q10, S10, N10n, H10, G10⟩ := id V_am
  have hin10 : ¬ ((7 : Int32) < 0 ∨ cl10.slots.size ≤ ((7 : Int32)).toNatClampNeg) := inb_of S10 ⟨by decide, by decide⟩
  obtain ⟨T10, h10, X10, e10, W10, st10⟩ := stI X9 hx hZ e9 Ar10 (j := (7 : Int32)) hin10 (g := (mkF m 79 #[Sr a0, Si i1, Sd 4607182418800017408, .second, Si 7] [(.int i1), (.int 7), (.ref am)])) rfl rfl (hb hby d3_79)
  replace V_am := Arv.set Ar10 q10 S10 N10n H10 G10 rfl W10 7 rfl (Nat.le_of_ble_eq_true rfl)
  replace E_a0 := E_a0.wr W10
  replace F_members_a0 := F_members_a0.other W10 (Or.inl ne_a0_am)
  replace F_weights_a0 := F_weights_a0.other W10 (Or.inl ne_a0_am)
  replace F_exact_a0 := F_exact_a0.other W10 (Or.inl ne_a0_am)
  replace F_slots_a0 := F_slots_a0.other W10 (Or.inl ne_a0_am)
  replace F_length_a0 := F_length_a0.other W10 (Or.inl ne_a0_am)
  replace F_fingerprint_a0 := F_fingerprint_a0.other W10 (Or.inl ne_a0_am)
  replace F_history_a0 := F_history_a0.other W10 (Or.inl ne_a0_am)
  replace F_shift_a0 := F_shift_a0.other W10 (Or.inl ne_a0_am)
  replace V_wa := V_wa.other W10 (Ne.symm ne_am_wa)
  refine Go.on st10 ?_
  have N10 := Fr.snoc X10 N8 g_am
  replace ZZ := Nat.le_trans ZZ (Keep.of_wr W10).1
  replace KP := KP.wr W10 (Or.inl (List.mem_of_getElem? (i := 1) rfl))
  change Arv Z h10 am k_am .int (8 : Int32) [(.int m0), (.int m1), (.int m2), (.int m3), (.int m4), (.int m5), (.int m6), (.int i1)] (.int (0 : Int32)) at V_am
  show Go _ _ _ _ _ _ _ _ (mkF m 80 #[Sr a0, Si i1, Sd 4607182418800017408, .second, Si 7] [])
  refine Go.on (fun _ k => XS.aloadN X10.here hx rfl (hb hby d3_80) rfl rfl k) ?_
  show Go _ _ _ _ _ _ _ _ (mkF m 81 #[Sr a0, Si i1, Sd 4607182418800017408, .second, Si 7] [(.ref a0)])
  obtain ⟨T11, X11, e11, st11⟩ := getF X10 hx hZ hown (host := "") (Or.inl (hw _ (List.mem_of_getElem? (i := 14) rfl))) Via.refl e10 F_weights_a0 (g := (mkF m 81 #[Sr a0, Si i1, Sd 4607182418800017408, .second, Si 7] [(.ref a0)])) rfl rfl (hb hby d3_81)
  refine Go.on st11 ?_
  show Go _ _ _ _ _ _ _ _ (mkF m 84 #[Sr a0, Si i1, Sd 4607182418800017408, .second, Si 7] [(.ref wa)])
  refine Go.on (fun _ k => XS.iload X11.here hx rfl (hb hby d3_84) rfl k) ?_
  refine Go.on (fun _ k => XS.dloadN X11.here hx rfl (hb hby d3_86) rfl k) ?_
  show Go _ _ _ _ _ _ _ _ (mkF m 87 #[Sr a0, Si i1, Sd 4607182418800017408, .second, Si 7] [(.double 4607182418800017408), (.int 7), (.ref wa)])
  obtain ⟨cl12, Ar12, q12, S12, N12n, H12, G12⟩ := id V_wa
  have hin12 : ¬ ((7 : Int32) < 0 ∨ cl12.slots.size ≤ ((7 : Int32)).toNatClampNeg) := inb_of S12 ⟨by decide, by decide⟩
  obtain ⟨T12, h12, X12, e12, W12, st12⟩ := stD X11 hx hZ e11 Ar12 (j := (7 : Int32)) hin12 (g := (mkF m 87 #[Sr a0, Si i1, Sd 4607182418800017408, .second, Si 7] [(.double 4607182418800017408), (.int 7), (.ref wa)])) rfl rfl (hb hby d3_87)
  replace V_wa := Arv.set Ar12 q12 S12 N12n H12 G12 rfl W12 7 rfl (Nat.le_of_ble_eq_true rfl)
  replace E_a0 := E_a0.wr W12
  replace F_members_a0 := F_members_a0.other W12 (Or.inl ne_a0_wa)
  replace F_weights_a0 := F_weights_a0.other W12 (Or.inl ne_a0_wa)
  replace F_exact_a0 := F_exact_a0.other W12 (Or.inl ne_a0_wa)
  replace F_slots_a0 := F_slots_a0.other W12 (Or.inl ne_a0_wa)
  replace F_length_a0 := F_length_a0.other W12 (Or.inl ne_a0_wa)
  replace F_fingerprint_a0 := F_fingerprint_a0.other W12 (Or.inl ne_a0_wa)
  replace F_history_a0 := F_history_a0.other W12 (Or.inl ne_a0_wa)
  replace F_shift_a0 := F_shift_a0.other W12 (Or.inl ne_a0_wa)
  replace V_am := V_am.other W12 ne_am_wa
  refine Go.on st12 ?_
  have N12 := Fr.snoc X12 N10 g_wa
  replace ZZ := Nat.le_trans ZZ (Keep.of_wr W12).1
  replace KP := KP.wr W12 (Or.inl (List.mem_of_getElem? (i := 2) rfl))
  change Arv Z h12 wa k_wa .double (8 : Int32) [(.double (4607182418800017408 : UInt64)), (.double (4607182418800017408 : UInt64)), (.double (4607182418800017408 : UInt64)), (.double (4607182418800017408 : UInt64)), (.double (4607182418800017408 : UInt64)), (.double (4607182418800017408 : UInt64)), (.double (4607182418800017408 : UInt64)), (.double (4607182418800017408 : UInt64))] (.double (0 : UInt64)) at V_wa
  show Go _ _ _ _ _ _ _ _ (mkF m 88 #[Sr a0, Si i1, Sd 4607182418800017408, .second, Si 7] [])
  refine Go.on (fun _ k => XS.aloadN X12.here hx rfl (hb hby d3_88) rfl rfl k) ?_
  show Go _ _ _ _ _ _ _ _ (mkF m 89 #[Sr a0, Si i1, Sd 4607182418800017408, .second, Si 7] [(.ref a0)])
  obtain ⟨T13, X13, e13, st13⟩ := getF X12 hx hZ hown (host := "") (Or.inl (hw _ (List.mem_of_getElem? (i := 28) rfl))) Via.refl e12 F_slots_a0 (g := (mkF m 89 #[Sr a0, Si i1, Sd 4607182418800017408, .second, Si 7] [(.ref a0)])) rfl rfl (hb hby d3_89)
  refine Go.on st13 ?_
  show Go _ _ _ _ _ _ _ _ (mkF m 92 #[Sr a0, Si i1, Sd 4607182418800017408, .second, Si 7] [.null])
  refine Go.on (fun _ k => XS.ifnullYes X13.here hx rfl (pc0 := 92) (pc' := 118) rfl (hb hby d3_92) rfl (by decide) (by decide) k) ?_
  show Go _ _ _ _ _ _ _ _ (mkF m 118 #[Sr a0, Si i1, Sd 4607182418800017408, .second, Si 7] [])
  refine Go.on (fun _ k => XS.aloadN X13.here hx rfl (hb hby d3_118) rfl rfl k) ?_
  show Go _ _ _ _ _ _ _ _ (mkF m 119 #[Sr a0, Si i1, Sd 4607182418800017408, .second, Si 7] [(.ref a0)])
  obtain ⟨T14, X14, e14, st14⟩ := getF X13 hx hZ hown (host := "") (Or.inl (hw _ (List.mem_of_getElem? (i := 30) rfl))) Via.refl e13 F_length_a0 (g := (mkF m 119 #[Sr a0, Si i1, Sd 4607182418800017408, .second, Si 7] [(.ref a0)])) rfl rfl (hb hby d3_119)
  refine Go.on st14 ?_
  show Go _ _ _ _ _ _ _ _ (mkF m 122 #[Sr a0, Si i1, Sd 4607182418800017408, .second, Si 7] [(.int 8)])
  refine Go.on (fun _ k => XS.bipush X14.here hx rfl (hb hby d3_122) k) ?_
  show Go _ _ _ _ _ _ _ _ (mkF m 124 #[Sr a0, Si i1, Sd 4607182418800017408, .second, Si 7] [(.int 8), (.int 8)])
  have hc15 : ¬ ((8 : Int32) < (8 : Int32)) := by decide
  refine Go.on (fun _ k => XS.icmpYes X14.here hx rfl (pc0 := 124) (pc' := 215) rfl (hb hby d3_124) rfl (flt hc15).2.2.2 (by decide) (by decide) k) ?_
  refine Go.on (fun _ k => XS.aloadN X14.here hx rfl (hb hby d3_215) rfl rfl k) ?_
  refine Go.on (fun _ k => XS.dup X14.here hx rfl (hb hby d3_216) rfl rfl k) ?_
  show Go _ _ _ _ _ _ _ _ (mkF m 217 #[Sr a0, Si i1, Sd 4607182418800017408, .second, Si 7] [(.ref a0), (.ref a0)])
  obtain ⟨T16, X16, e16, st16⟩ := getF X14 hx hZ hown (host := "") (Or.inl (hw _ (List.mem_of_getElem? (i := 32) rfl))) Via.refl e14 F_fingerprint_a0 (g := (mkF m 217 #[Sr a0, Si i1, Sd 4607182418800017408, .second, Si 7] [(.ref a0), (.ref a0)])) rfl rfl (hb hby d3_217)
  refine Go.on st16 ?_
  show Go _ _ _ _ _ _ _ _ (mkF m 220 #[Sr a0, Si i1, Sd 4607182418800017408, .second, Si 7] [(.long fp0), (.ref a0)])
  refine Go.on (fun _ k => XS.iloadN X16.here hx rfl (hb hby d3_220) rfl k) ?_
  refine Go.on (fun _ k => XS.aloadN X16.here hx rfl (hb hby d3_221) rfl rfl k) ?_
  show Go _ _ _ _ _ _ _ _ (mkF m 222 #[Sr a0, Si i1, Sd 4607182418800017408, .second, Si 7] [(.ref a0), (.int i1), (.long fp0), (.ref a0)])
  obtain ⟨T17, X17, e17, st17⟩ := getF X16 hx hZ hown (host := "") (Or.inl (hw _ (List.mem_of_getElem? (i := 14) rfl))) Via.refl e16 F_weights_a0 (g := (mkF m 222 #[Sr a0, Si i1, Sd 4607182418800017408, .second, Si 7] [(.ref a0), (.int i1), (.long fp0), (.ref a0)])) rfl rfl (hb hby d3_222)
  refine Go.on st17 ?_
  show Go _ _ _ _ _ _ _ _ (mkF m 225 #[Sr a0, Si i1, Sd 4607182418800017408, .second, Si 7] [(.ref wa), (.int i1), (.long fp0), (.ref a0)])
  refine Go.on (fun _ k => XS.iload X17.here hx rfl (hb hby d3_225) rfl k) ?_
  show Go _ _ _ _ _ _ _ _ (mkF m 227 #[Sr a0, Si i1, Sd 4607182418800017408, .second, Si 7] [(.int 7), (.ref wa), (.int i1), (.long fp0), (.ref a0)])
  obtain ⟨cl18, Ar18, -, S18, -, H18, -⟩ := id V_wa
  have hin18 : ¬ ((7 : Int32) < 0 ∨ cl18.slots.size ≤ ((7 : Int32)).toNatClampNeg) := inb_of S18 ⟨by decide, by decide⟩
  refine Go.on (X17.daload hx (j := (7 : Int32)) (v := (.double (4607182418800017408 : UInt64))) (by rw [e17]; exact Ar18.1) (State.isArrayOf_alike hZ.alike Ar18.2.1) Ar18.2.2 hin18 (H18.at hin18 (rfl)) (g := (mkF m 227 #[Sr a0, Si i1, Sd 4607182418800017408, .second, Si 7] [(.int 7), (.ref wa), (.int i1), (.long fp0), (.ref a0)])) rfl rfl (hb hby d3_227)) ?_
  show Go _ _ _ _ _ _ _ _ (mkF m 228 #[Sr a0, Si i1, Sd 4607182418800017408, .second, Si 7] [(.double 4607182418800017408), (.int i1), (.long fp0), (.ref a0)])
  obtain ⟨_, _, ⟨T19, L19, k19, n19⟩, -, X19, ⟨Lc19, hQ19, l19, y19, z19⟩, st19⟩ := Jvm.LawKit.callS X17 hx (y := (⟨"com/example/due_weight/dueweight/core/Pairs", "fingerprint", "(ID)J"⟩ : MethodName)) hown (mvT hZ (hw _ (List.mem_of_getElem? (i := 34) rfl))) (mvT hZ (hw _ (List.mem_of_getElem? (i := 35) rfl))) (mvT hZ (hw _ (List.mem_of_getElem? (i := 3) rfl))) (mvT hZ (hw _ (List.mem_of_getElem? (i := 36) rfl))) (by decide) (backOf (W := 3) (rm5 l Z aw hw [] i1 (4607182418800017408 : UInt64)  h12 n0 ZZ (by decide +kernel)) hZ (hw _ (List.mem_of_getElem? (i := 36) rfl)) (hw _ (List.mem_of_getElem? (i := 3) rfl)) (by decide) (by decide)) (g := (mkF m 228 #[Sr a0, Si i1, Sd 4607182418800017408, .second, Si 7] [(.double 4607182418800017408), (.int i1), (.long fp0), (.ref a0)])) rfl (by rw [hml]; rfl) (argsL := [(.int i1), (.double (4607182418800017408 : UInt64))]) (rest := [(.long fp0), (.ref a0)]) (lenOf pd_5 rfl) rfl (by show 2 * 0 + _ ≤ _; exact Nat.le_of_eq rfl) (hb hby d3_228) (fun _ _ => ⟨rfl, e17, (by decide : 0 + 0 ≤ _), (by decide : 0 + 0 ≤ _)⟩)
  dsimp only [Pt.U, Pt.locs, Pt.cells, Pt.slots] at X19 l19 y19 z19 st19 hQ19
  subst l19 y19 z19
  obtain ⟨rfl, N19q, e19⟩ := hQ19
  have N19 := Fr.app N12 N19q
  refine Go.on st19 ?_
  show Go _ _ _ _ _ _ _ _ (mkF m 231 #[Sr a0, Si i1, Sd 4607182418800017408, .second, Si 7] [(.long (mixV ((mixV ((4607182418800017408 : UInt64).toInt64)) + (i1.toInt64)))), (.long fp0), (.ref a0)])
  generalize hfv : (mixV ((mixV ((4607182418800017408 : UInt64).toInt64)) + (i1.toInt64))) = fv
  show Go _ _ _ _ _ _ _ _ (mkF m 231 #[Sr a0, Si i1, Sd 4607182418800017408, .second, Si 7] [(.long fv), (.long fp0), (.ref a0)])
  refine Go.on (fun _ k => XS.ladd X19.here hx rfl (hb hby d3_231) rfl k) ?_
  show Go _ _ _ _ _ _ _ _ (mkF m 232 #[Sr a0, Si i1, Sd 4607182418800017408, .second, Si 7] [(.long (fp0 + fv)), (.ref a0)])
  obtain ⟨T20, h20, X20, e20, W20, st20⟩ := putF X19 hx hZ hown (host := "") (Or.inl (hw _ (List.mem_of_getElem? (i := 32) rfl))) Via.refl e19 F_fingerprint_a0 E_a0 (Or.inl (hw _ (List.mem_of_getElem? (i := 33) rfl))) (hw _ (List.mem_of_getElem? (i := 2) rfl)) (ty := .long) (by decide) rfl rfl (g := (mkF m 232 #[Sr a0, Si i1, Sd 4607182418800017408, .second, Si 7] [(.long (fp0 + fv)), (.ref a0)])) rfl rfl (hb hby d3_232)
  refine Go.on st20 ?_
  replace F_fingerprint_a0 := F_fingerprint_a0.same W20
  replace E_a0 := E_a0.wr W20
  replace F_members_a0 := F_members_a0.other W20 (Or.inr (slot_ne (Or.inl (hw _ (List.mem_of_getElem? (i := 12) rfl))) (Or.inl (hw _ (List.mem_of_getElem? (i := 33) rfl))) (by decide) (t := (.array .int)) (t' := .long) (by decide) (by decide)))
  replace F_weights_a0 := F_weights_a0.other W20 (Or.inr (slot_ne (Or.inl (hw _ (List.mem_of_getElem? (i := 15) rfl))) (Or.inl (hw _ (List.mem_of_getElem? (i := 33) rfl))) (by decide) (t := (.array .double)) (t' := .long) (by decide) (by decide)))
  replace F_exact_a0 := F_exact_a0.other W20 (Or.inr (slot_ne (Or.inl (hw _ (List.mem_of_getElem? (i := 17) rfl))) (Or.inl (hw _ (List.mem_of_getElem? (i := 33) rfl))) (by decide) (t := .boolean) (t' := .long) (by decide) (by decide)))
  replace F_slots_a0 := F_slots_a0.other W20 (Or.inr (slot_ne (Or.inl (hw _ (List.mem_of_getElem? (i := 29) rfl))) (Or.inl (hw _ (List.mem_of_getElem? (i := 33) rfl))) (by decide) (t := (.array .int)) (t' := .long) (by decide) (by decide)))
  replace F_length_a0 := F_length_a0.other W20 (Or.inr (slot_ne (Or.inl (hw _ (List.mem_of_getElem? (i := 31) rfl))) (Or.inl (hw _ (List.mem_of_getElem? (i := 33) rfl))) (by decide) (t := .int) (t' := .long) (by decide) (by decide)))
  replace F_history_a0 := F_history_a0.other W20 (Or.inr (slot_ne (Or.inl (hw _ (List.mem_of_getElem? (i := 52) rfl))) (Or.inl (hw _ (List.mem_of_getElem? (i := 33) rfl))) (by decide) (t := (.object "com/example/due_weight/dueweight/core/Pairs$History")) (t' := .long) (by decide) (by decide)))
  replace F_shift_a0 := F_shift_a0.other W20 (Or.inr (slot_ne (Or.inl (hw _ (List.mem_of_getElem? (i := 86) rfl))) (Or.inl (hw _ (List.mem_of_getElem? (i := 33) rfl))) (by decide) (t := .int) (t' := .long) (by decide) (by decide)))
  replace V_am := V_am.other W20 (Ne.symm ne_a0_am)
  replace V_wa := V_wa.other W20 (Ne.symm ne_a0_wa)
  have N20 := Fr.snoc X20 N19 g_a0
  replace ZZ := Nat.le_trans ZZ (Keep.of_wr W20).1
  replace KP := KP.wr W20 (Or.inl (List.mem_of_getElem? (i := 0) rfl))
  show Go _ _ _ _ _ _ _ _ (mkF m 235 #[Sr a0, Si i1, Sd 4607182418800017408, .second, Si 7] [])
  refine Go.on (fun _ k => XS.aloadN X20.here hx rfl (hb hby d3_235) rfl rfl k) ?_
  show Go _ _ _ _ _ _ _ _ (mkF m 236 #[Sr a0, Si i1, Sd 4607182418800017408, .second, Si 7] [(.ref a0)])
  obtain ⟨T21, X21, e21, st21⟩ := getF X20 hx hZ hown (host := "") (Or.inl (hw _ (List.mem_of_getElem? (i := 51) rfl))) Via.refl e20 F_history_a0 (g := (mkF m 236 #[Sr a0, Si i1, Sd 4607182418800017408, .second, Si 7] [(.ref a0)])) rfl rfl (hb hby d3_236)
  refine Go.on st21 ?_
  show Go _ _ _ _ _ _ _ _ (mkF m 239 #[Sr a0, Si i1, Sd 4607182418800017408, .second, Si 7] [.null])
  refine Go.on (fun _ k => XS.ifnullYes X21.here hx rfl (pc0 := 239) (pc' := 255) rfl (hb hby d3_239) rfl (by decide) (by decide) k) ?_
  show Go _ _ _ _ _ _ _ _ (mkF m 255 #[Sr a0, Si i1, Sd 4607182418800017408, .second, Si 7] [])
  refine Go.on (fun _ k => XS.iload X21.here hx rfl (hb hby d3_255) rfl k) ?_
  show Go _ _ _ _ _ _ _ _ (mkF m 257 #[Sr a0, Si i1, Sd 4607182418800017408, .second, Si 7] [(.int 7)])
  refine Go.retV X21 hx Bd.returns rfl (Or.inl ⟨rfl, Or.inl rfl, _, rfl⟩) (hb hby d3_257) ?_ (by rw [hK1]; decide) (by rw [hK2]; decide)
  rw [e21, ← hQQ]
  exact ⟨am, wa, k_am, k_wa, _, rfl, N20, KP, E_a0, F_members_a0, F_weights_a0, F_exact_a0, F_slots_a0, F_length_a0, F_fingerprint_a0, F_history_a0, F_shift_a0, V_am, V_wa, g_am, g_wa, ne_a0_am, ne_a0_wa, ne_am_wa⟩
theorem d16_0 : decode prog_21_method_9_code 0 = .ok (.aload_n 0, 1) := by decide +kernel
theorem d16_1 : decode prog_21_method_9_code 1 = .ok (.getfield 7, 3) := by decide +kernel
theorem d16_4 : decode prog_21_method_9_code 4 = .ok (.iload_n 1, 1) := by decide +kernel
theorem d16_5 : decode prog_21_method_9_code 5 = .ok (.iaload, 1) := by decide +kernel
theorem d16_6 : decode prog_21_method_9_code 6 = .ok (.ldc 28, 2) := by decide +kernel
theorem d16_8 : decode prog_21_method_9_code 8 = .ok (.imul, 1) := by decide +kernel
theorem d16_9 : decode prog_21_method_9_code 9 = .ok (.aload_n 0, 1) := by decide +kernel
theorem d16_10 : decode prog_21_method_9_code 10 = .ok (.getfield 29, 3) := by decide +kernel
theorem d16_13 : decode prog_21_method_9_code 13 = .ok (.iushr, 1) := by decide +kernel
theorem d16_14 : decode prog_21_method_9_code 14 = .ok (.istore_n 2, 1) := by decide +kernel
theorem d16_15 : decode prog_21_method_9_code 15 = .ok (.aload_n 0, 1) := by decide +kernel
theorem d16_16 : decode prog_21_method_9_code 16 = .ok (.getfield 25, 3) := by decide +kernel
theorem d16_19 : decode prog_21_method_9_code 19 = .ok (.iload_n 2, 1) := by decide +kernel
theorem d16_20 : decode prog_21_method_9_code 20 = .ok (.iaload, 1) := by decide +kernel
theorem d16_21 : decode prog_21_method_9_code 21 = .ok (.ifCond .eq 18, 3) := by decide +kernel
theorem d16_24 : decode prog_21_method_9_code 24 = .ok (.iload_n 2, 1) := by decide +kernel
theorem d16_25 : decode prog_21_method_9_code 25 = .ok (.iconst 1, 1) := by decide +kernel
theorem d16_26 : decode prog_21_method_9_code 26 = .ok (.iadd, 1) := by decide +kernel
theorem d16_27 : decode prog_21_method_9_code 27 = .ok (.aload_n 0, 1) := by decide +kernel
theorem d16_28 : decode prog_21_method_9_code 28 = .ok (.getfield 25, 3) := by decide +kernel
theorem d16_31 : decode prog_21_method_9_code 31 = .ok (.arraylength, 1) := by decide +kernel
theorem d16_32 : decode prog_21_method_9_code 32 = .ok (.iconst 1, 1) := by decide +kernel
theorem d16_33 : decode prog_21_method_9_code 33 = .ok (.isub, 1) := by decide +kernel
theorem d16_34 : decode prog_21_method_9_code 34 = .ok (.iand, 1) := by decide +kernel
theorem d16_35 : decode prog_21_method_9_code 35 = .ok (.istore_n 2, 1) := by decide +kernel
theorem d16_36 : decode prog_21_method_9_code 36 = .ok (.goto (-21), 3) := by decide +kernel
theorem d16_39 : decode prog_21_method_9_code 39 = .ok (.aload_n 0, 1) := by decide +kernel
theorem d16_40 : decode prog_21_method_9_code 40 = .ok (.getfield 25, 3) := by decide +kernel
theorem d16_43 : decode prog_21_method_9_code 43 = .ok (.iload_n 2, 1) := by decide +kernel
theorem d16_44 : decode prog_21_method_9_code 44 = .ok (.iload_n 1, 1) := by decide +kernel
theorem d16_45 : decode prog_21_method_9_code 45 = .ok (.iconst 1, 1) := by decide +kernel
theorem d16_46 : decode prog_21_method_9_code 46 = .ok (.iadd, 1) := by decide +kernel
theorem d16_47 : decode prog_21_method_9_code 47 = .ok (.iastore, 1) := by decide +kernel
theorem d16_48 : decode prog_21_method_9_code 48 = .ok (.return_, 1) := by decide +kernel
theorem ef_fillc (m : MethodId) (a0 : Addr) (i1 : Int32) : entryFrame m #[(.ref a0), (.int i1)] 3 = mkF m 0 #[.val (.ref a0), .val (.int i1), .unset] [] := by first | (simp [entryFrame, mkF, argsToLocals, Value.category]; done) | rfl
def Q_fillc (Z : State) (a0 : Addr) (i1 : Int32) (ts : List Int32) (mv : Int32) (kk : Nat) (pp : Nat) (am : Addr) (sl : Addr) (k_am : ClassId) (us : List Value) (k_sl : ClassId) (h0 : Heap) (n0 : Nat) (v : Option Value) (h : Heap) (L : List Loc) : Prop := v = none ∧ Fr n0 L ∧ Keep h0 h [sl] ∧ Arv Z h sl k_sl .int (64 : Int32) ((ts.set pp (i1 + (1 : Int32))).map Value.int) (.int (0 : Int32))
set_option maxRecDepth 65536 in
set_option maxHeartbeats 40000000 in
theorem fillc (l : Launch) (Z : State) (aw : Array Value) (hw : ∀ d ∈ tables_1, d.before aw Z = true) (ws : List Jvm.Cond) (a0 : Addr) (i1 : Int32) (ts : List Int32) (mv : Int32) (kk : Nat) (pp : Nat) (am : Addr) (sl : Addr) (k_am : ClassId) (us : List Value) (k_sl : ClassId) (h0 : Heap) (n0 : Nat) (Z0 : n0 ≤ h0.size) (F_members_a0 : Fld Z h0 a0 "com/example/due_weight/dueweight/core/Pairs" "members" "[I" (.ref am)) (F_shift_a0 : Fld Z h0 a0 "com/example/due_weight/dueweight/core/Pairs" "shift" "I" (.int (26 : Int32))) (F_slots_a0 : Fld Z h0 a0 "com/example/due_weight/dueweight/core/Pairs" "slots" "[I" (.ref sl)) (V_am : Arv Z h0 am k_am .int (16 : Int32) us (.int (0 : Int32))) (V_sl : Arv Z h0 sl k_sl .int (64 : Int32) (ts.map Value.int) (.int (0 : Int32))) (g_sl : n0 ≤ sl) (ne_a0_sl : a0 ≠ sl) (ne_am_sl : am ≠ sl) (hin : ¬ i1 < 0 ∧ i1 < (16 : Int32)) (hat : us.getD i1.toNatClampNeg (.int (0 : Int32)) = (.int mv)) (hl : ts.length = 64) (hk : Run ts (hN mv) kk) (he : pl ts (hN mv + kk) = 0) (hpp : (hN mv + kk) % 64 = pp) :
    MetFree l (⟨"com/example/due_weight/dueweight/core/Pairs", "fill", "(I)V"⟩ : MethodName) (head1 (Jvm.Cond.code (⟨"com/example/due_weight/dueweight/core/Pairs", "fill", "(I)V"⟩ : MethodName) prog_21_method_9_code 3 none :: ws) ({ frames := 0, cells := 0, slots := 0, locals := 0 } : Room)) (fun a U => a = #[(.ref a0), (.int i1)] ∧ Z.Warmed39 U.vm ∧ U.heap = h0) (fun _ _ _ _ _ => True) (fun _ U o U' => ∃ v L, o = .returned v ∧ Q_fillc Z a0 i1 ts mv kk pp am sl k_am us k_sl h0 n0 v U'.heap L ∧ FrameEnd U o U' L ({ frames := 0, cells := 0, slots := 0, locals := 0 } : Room).cells ({ frames := 0, cells := 0, slots := 0, locals := 0 } : Room).slots) := by
  refine MetFree.of_bodySF (plainFor_of_name pn_0) hisR ?_
  intro p e s m args below meth c s₁ Bd hml0 hP hK
  obtain ⟨rfl, hZ, hh⟩ := hP
  have hx := Bd.exec
  have hby := Bd.bytes
  have hml : c.maxLocals = 3 := hml0
  have hown : s.vm.findClass "com/example/due_weight/dueweight/core/Pairs" = some m.cls := findClass_of_methodNamed Bd.named
  have hnm := (name_of_methodNamed Bd.named Bd.method).1
  have hlk : meth.locks = false := BodyLoose.notSynchronized Bd
  have X0 : Stand p l e ({ frames := 0, cells := 0, slots := 0, locals := 0 } : Room) s m #[(.ref a0), (.int i1)] below meth c s₁ [] 0 0 := Stand.of_body Bd
  have e0 : s₁.heap = h0 := by rw [← hh, Bd.state]; rfl
  have N0 := Fr.nil n0
  have ZZ := Z0
  show Go p e below s ({ frames := 0, cells := 0, slots := 0, locals := 0 } : Room).cells ({ frames := 0, cells := 0, slots := 0, locals := 0 } : Room).slots (fun v h L => Q_fillc Z a0 i1 ts mv kk pp am sl k_am us k_sl h0 n0 v h L) s₁ (entryFrame m #[(.ref a0), (.int i1)] 3)
  refine Go.cast (ef_fillc m a0 i1) ?_
  refine Go.gen ?_
  intro K1 K2 QQ hK1 hK2 hQQ
  have KP : Keep h0 h0 [sl] := Keep.refl _ _
  have hL : ∀ (kz : Nat) (hv : Int32) (y : Nat) (T1 : State) (locs1 : List Loc), Stand p l e ({ frames := 0, cells := 0, slots := 0, locals := 0 } : Room) s m #[(.ref a0), (.int i1)] below meth c T1 locs1 0 0 → T1.heap = h0 → Fr n0 locs1 → hv.toInt = (y : Int) → y < 64 → Run ts y kz → pl ts (y + kz) = 0 → (y + kz) % 64 = pp → Go p e below s K1 K2 QQ T1 (mkF m 15 #[Sr a0, Si i1, Si hv] []) := by
    intro kz
    induction kz with
    | zero =>
      intro hv y T1 locs1 X1 e1 N1 hj h64 hR hE hP
      show Go _ _ _ _ _ _ _ _ (mkF m 15 #[Sr a0, Si i1, Si hv] [])
      refine Go.on (fun _ k => XS.aloadN X1.here hx rfl (hb hby d16_15) rfl rfl k) ?_
      show Go _ _ _ _ _ _ _ _ (mkF m 16 #[Sr a0, Si i1, Si hv] [(.ref a0)])
      obtain ⟨T2, X2, e2, st2⟩ := getF X1 hx hZ hown (host := "") (Or.inl (hw _ (List.mem_of_getElem? (i := 28) rfl))) Via.refl e1 F_slots_a0 (g := (mkF m 16 #[Sr a0, Si i1, Si hv] [(.ref a0)])) rfl rfl (hb hby d16_16)
      refine Go.on st2 ?_
      show Go _ _ _ _ _ _ _ _ (mkF m 19 #[Sr a0, Si i1, Si hv] [(.ref sl)])
      refine Go.on (fun _ k => XS.iloadN X2.here hx rfl (hb hby d16_19) rfl k) ?_
      show Go _ _ _ _ _ _ _ _ (mkF m 20 #[Sr a0, Si i1, Si hv] [(.int hv), (.ref sl)])
      obtain ⟨cl3, Ar3, -, S3, -, H3, -⟩ := id V_sl
      have hin3 : ¬ (hv < 0 ∨ cl3.slots.size ≤ (hv).toNatClampNeg) := inb_of S3 (own_in64 hj h64)
      refine Go.on (X2.iaload hx (j := hv) (v := (.int (0 : Int32))) (by rw [e2]; exact Ar3.1) (State.isArrayOf_alike hZ.alike Ar3.2.1) Ar3.2.2 hin3 (H3.at hin3 ((own_ld hl hj h64).trans (congrArg Value.int (own_zero_pl hE)))) (g := (mkF m 20 #[Sr a0, Si i1, Si hv] [(.int hv), (.ref sl)])) rfl rfl (hb hby d16_20)) ?_
      show Go _ _ _ _ _ _ _ _ (mkF m 21 #[Sr a0, Si i1, Si hv] [(.int 0)])
      have hc4 : (0 : Int32) = (0 : Int32) := by decide
      refine Go.on (fun _ k => XS.ifYes X2.here hx rfl (pc0 := 21) (pc' := 39) rfl (hb hby d16_21) rfl ((if0 _ _).trans (teq hc4).1) (by decide) (by decide) k) ?_
      refine Go.on (fun _ k => XS.aloadN X2.here hx rfl (hb hby d16_39) rfl rfl k) ?_
      show Go _ _ _ _ _ _ _ _ (mkF m 40 #[Sr a0, Si i1, Si hv] [(.ref a0)])
      obtain ⟨T5, X5, e5, st5⟩ := getF X2 hx hZ hown (host := "") (Or.inl (hw _ (List.mem_of_getElem? (i := 28) rfl))) Via.refl e2 F_slots_a0 (g := (mkF m 40 #[Sr a0, Si i1, Si hv] [(.ref a0)])) rfl rfl (hb hby d16_40)
      refine Go.on st5 ?_
      show Go _ _ _ _ _ _ _ _ (mkF m 43 #[Sr a0, Si i1, Si hv] [(.ref sl)])
      refine Go.on (fun _ k => XS.iloadN X5.here hx rfl (hb hby d16_43) rfl k) ?_
      refine Go.on (fun _ k => XS.iloadN X5.here hx rfl (hb hby d16_44) rfl k) ?_
      refine Go.on (fun _ k => XS.iconst X5.here hx rfl (hb hby d16_45) k) ?_
      refine Go.on (fun _ k => XS.iadd X5.here hx rfl (hb hby d16_46) rfl k) ?_
      show Go _ _ _ _ _ _ _ _ (mkF m 47 #[Sr a0, Si i1, Si hv] [(.int (i1 + (1 : Int32))), (.int hv), (.ref sl)])
      obtain ⟨cl6, Ar6, q6, S6, N6n, H6, G6⟩ := id V_sl
      have hin6 : ¬ (hv < 0 ∨ cl6.slots.size ≤ (hv).toNatClampNeg) := inb_of S6 (own_in64 hj h64)
      obtain ⟨T6, h6, X6, e6, W6, st6⟩ := stI X5 hx hZ e5 Ar6 (j := hv) hin6 (g := (mkF m 47 #[Sr a0, Si i1, Si hv] [(.int (i1 + (1 : Int32))), (.int hv), (.ref sl)])) rfl rfl (hb hby d16_47)
      replace V_sl := Arv.set Ar6 q6 S6 N6n H6 G6 rfl W6 hv.toNatClampNeg rfl (own_ltm hl hj h64)
      replace F_members_a0 := F_members_a0.other W6 (Or.inl ne_a0_sl)
      replace F_shift_a0 := F_shift_a0.other W6 (Or.inl ne_a0_sl)
      replace F_slots_a0 := F_slots_a0.other W6 (Or.inl ne_a0_sl)
      replace V_am := V_am.other W6 ne_am_sl
      refine Go.on st6 ?_
      have N6 := Fr.snoc X6 N1 g_sl
      replace ZZ := Nat.le_trans ZZ (Keep.of_wr W6).1
      replace KP := KP.wr W6 (Or.inl (List.mem_of_getElem? (i := 0) rfl))
      rw [own_setm _ hj h64 hP] at V_sl
      show Go _ _ _ _ _ _ _ _ (mkF m 48 #[Sr a0, Si i1, Si hv] [])
      refine Go.ret0 X6 hx Bd.returns (hb hby d16_48) ?_ (by rw [hK1]; decide) (by rw [hK2]; decide)
      rw [e6, ← hQQ]
      exact ⟨rfl, N6, KP, V_sl⟩
    | succ kz ih =>
      intro hv y T1 locs1 X1 e1 N1 hj h64 hR hE hP
      show Go _ _ _ _ _ _ _ _ (mkF m 15 #[Sr a0, Si i1, Si hv] [])
      refine Go.on (fun _ k => XS.aloadN X1.here hx rfl (hb hby d16_15) rfl rfl k) ?_
      show Go _ _ _ _ _ _ _ _ (mkF m 16 #[Sr a0, Si i1, Si hv] [(.ref a0)])
      obtain ⟨T7, X7, e7, st7⟩ := getF X1 hx hZ hown (host := "") (Or.inl (hw _ (List.mem_of_getElem? (i := 28) rfl))) Via.refl e1 F_slots_a0 (g := (mkF m 16 #[Sr a0, Si i1, Si hv] [(.ref a0)])) rfl rfl (hb hby d16_16)
      refine Go.on st7 ?_
      show Go _ _ _ _ _ _ _ _ (mkF m 19 #[Sr a0, Si i1, Si hv] [(.ref sl)])
      refine Go.on (fun _ k => XS.iloadN X7.here hx rfl (hb hby d16_19) rfl k) ?_
      show Go _ _ _ _ _ _ _ _ (mkF m 20 #[Sr a0, Si i1, Si hv] [(.int hv), (.ref sl)])
      obtain ⟨cl8, Ar8, -, S8, -, H8, -⟩ := id V_sl
      have hin8 : ¬ (hv < 0 ∨ cl8.slots.size ≤ (hv).toNatClampNeg) := inb_of S8 (own_in64 hj h64)
      refine Go.on (X7.iaload hx (j := hv) (v := (.int (pl ts y))) (by rw [e7]; exact Ar8.1) (State.isArrayOf_alike hZ.alike Ar8.2.1) Ar8.2.2 hin8 (H8.at hin8 (own_ld hl hj h64)) (g := (mkF m 20 #[Sr a0, Si i1, Si hv] [(.int hv), (.ref sl)])) rfl rfl (hb hby d16_20)) ?_
      show Go _ _ _ _ _ _ _ _ (mkF m 21 #[Sr a0, Si i1, Si hv] [(.int (pl ts y))])
      have hc9 : ¬ ((pl ts y) = (0 : Int32)) := own_pl0 hR
      refine Go.on (fun _ k => XS.ifNo X7.here hx rfl (hb hby d16_21) rfl ((if0 _ _).trans (feq hc9).1) k) ?_
      refine Go.on (fun _ k => XS.iloadN X7.here hx rfl (hb hby d16_24) rfl k) ?_
      refine Go.on (fun _ k => XS.iconst X7.here hx rfl (hb hby d16_25) k) ?_
      refine Go.on (fun _ k => XS.iadd X7.here hx rfl (hb hby d16_26) rfl k) ?_
      refine Go.on (fun _ k => XS.aloadN X7.here hx rfl (hb hby d16_27) rfl rfl k) ?_
      show Go _ _ _ _ _ _ _ _ (mkF m 28 #[Sr a0, Si i1, Si hv] [(.ref a0), (.int (hv + (1 : Int32)))])
      obtain ⟨T10, X10, e10, st10⟩ := getF X7 hx hZ hown (host := "") (Or.inl (hw _ (List.mem_of_getElem? (i := 28) rfl))) Via.refl e7 F_slots_a0 (g := (mkF m 28 #[Sr a0, Si i1, Si hv] [(.ref a0), (.int (hv + (1 : Int32)))])) rfl rfl (hb hby d16_28)
      refine Go.on st10 ?_
      show Go _ _ _ _ _ _ _ _ (mkF m 31 #[Sr a0, Si i1, Si hv] [(.ref sl), (.int (hv + (1 : Int32)))])
      obtain ⟨cl11, Ar11, -, S11, N11n, -, -⟩ := id V_sl
      refine Go.on (X10.arraylength hx (by rw [e10]; exact Ar11.1) (State.isArrayOf_alike hZ.alike Ar11.2.1) (g := (mkF m 31 #[Sr a0, Si i1, Si hv] [(.ref sl), (.int (hv + (1 : Int32)))])) rfl rfl (hb hby d16_31)) ?_
      rw [len_of S11 N11n]
      show Go _ _ _ _ _ _ _ _ (mkF m 32 #[Sr a0, Si i1, Si hv] [(.int 64), (.int (hv + (1 : Int32)))])
      refine Go.on (fun _ k => XS.iconst X10.here hx rfl (hb hby d16_32) k) ?_
      refine Go.on (fun _ k => XS.isub X10.here hx rfl (hb hby d16_33) rfl k) ?_
      refine Go.on (fun _ k => XS.iand X10.here hx rfl (hb hby d16_34) rfl k) ?_
      show Go _ _ _ _ _ _ _ _ (mkF m 35 #[Sr a0, Si i1, Si hv] [(.int ((hv + (1 : Int32)) &&& (63 : Int32)))])
      refine Go.on (fun _ k => XS.istoreN X10.here hx rfl (hb hby d16_35) rfl (l' := #[.val (.ref a0), .val (.int i1), .val (.int ((hv + (1 : Int32)) &&& (63 : Int32)))]) rfl k) ?_
      show Go _ _ _ _ _ _ _ _ (mkF m 36 #[Sr a0, Si i1, .val (.int ((hv + (1 : Int32)) &&& (63 : Int32)))] [])
      refine Go.on (fun _ k => XS.goto X10.here hx rfl (pc0 := 36) (pc' := 15) rfl (hb hby d16_36) (by decide) (by decide) k) ?_
      show Go _ _ _ _ _ _ _ _ (mkF m 15 #[Sr a0, Si i1, .val (.int ((hv + (1 : Int32)) &&& (63 : Int32)))] [])
      exact ih _ _ _ _ X10 e10 N1 (own_next hj h64) (Nat.mod_lt _ (by decide)) hR.next (own_step_pl hE) (own_step_pp hP)
  refine Go.on (fun _ k => XS.aloadN X0.here hx rfl (hb hby d16_0) rfl rfl k) ?_
  show Go _ _ _ _ _ _ _ _ (mkF m 1 #[Sr a0, Si i1, .unset] [(.ref a0)])
  obtain ⟨T12, X12, e12, st12⟩ := getF X0 hx hZ hown (host := "") (Or.inl (hw _ (List.mem_of_getElem? (i := 11) rfl))) Via.refl e0 F_members_a0 (g := (mkF m 1 #[Sr a0, Si i1, .unset] [(.ref a0)])) rfl rfl (hb hby d16_1)
  refine Go.on st12 ?_
  show Go _ _ _ _ _ _ _ _ (mkF m 4 #[Sr a0, Si i1, .unset] [(.ref am)])
  refine Go.on (fun _ k => XS.iloadN X12.here hx rfl (hb hby d16_4) rfl k) ?_
  show Go _ _ _ _ _ _ _ _ (mkF m 5 #[Sr a0, Si i1, .unset] [(.int i1), (.ref am)])
  obtain ⟨cl13, Ar13, -, S13, -, H13, -⟩ := id V_am
  have hin13 : ¬ (i1 < 0 ∨ cl13.slots.size ≤ (i1).toNatClampNeg) := inb_of S13 hin
  refine Go.on (X12.iaload hx (j := i1) (v := (.int mv)) (by rw [e12]; exact Ar13.1) (State.isArrayOf_alike hZ.alike Ar13.2.1) Ar13.2.2 hin13 (H13.at hin13 (hat)) (g := (mkF m 5 #[Sr a0, Si i1, .unset] [(.int i1), (.ref am)])) rfl rfl (hb hby d16_5)) ?_
  show Go _ _ _ _ _ _ _ _ (mkF m 6 #[Sr a0, Si i1, .unset] [(.int mv)])
  refine Go.on (fun _ k => X12.ldcI hx hown (mvT hZ (hw _ (List.mem_of_getElem? (i := 91) rfl))) rfl (hb hby d16_6) k) ?_
  show Go _ _ _ _ _ _ _ _ (mkF m 8 #[Sr a0, Si i1, .unset] [(.int (-1640531527 : Int32)), (.int mv)])
  refine Go.on (fun _ k => XS.imul X12.here hx rfl (hb hby d16_8) rfl k) ?_
  refine Go.on (fun _ k => XS.aloadN X12.here hx rfl (hb hby d16_9) rfl rfl k) ?_
  show Go _ _ _ _ _ _ _ _ (mkF m 10 #[Sr a0, Si i1, .unset] [(.ref a0), (.int (mv * (-1640531527 : Int32)))])
  obtain ⟨T14, X14, e14, st14⟩ := getF X12 hx hZ hown (host := "") (Or.inl (hw _ (List.mem_of_getElem? (i := 85) rfl))) Via.refl e12 F_shift_a0 (g := (mkF m 10 #[Sr a0, Si i1, .unset] [(.ref a0), (.int (mv * (-1640531527 : Int32)))])) rfl rfl (hb hby d16_10)
  refine Go.on st14 ?_
  show Go _ _ _ _ _ _ _ _ (mkF m 13 #[Sr a0, Si i1, .unset] [(.int 26), (.int (mv * (-1640531527 : Int32)))])
  refine Go.on (fun _ k => XS.iushr X14.here hx rfl (hb hby d16_13) rfl k) ?_
  show Go _ _ _ _ _ _ _ _ (mkF m 14 #[Sr a0, Si i1, .unset] [(.int (((mv * (-1640531527 : Int32)).toUInt32 >>> ((26 : Int32) &&& 31).toUInt32).toInt32))])
  refine Go.on (fun _ k => XS.istoreN X14.here hx rfl (hb hby d16_14) rfl (l' := #[.val (.ref a0), .val (.int i1), .val (.int (((mv * (-1640531527 : Int32)).toUInt32 >>> ((26 : Int32) &&& 31).toUInt32).toInt32))]) rfl k) ?_
  show Go _ _ _ _ _ _ _ _ (mkF m 15 #[Sr a0, Si i1, .val (.int (((mv * (-1640531527 : Int32)).toUInt32 >>> ((26 : Int32) &&& 31).toUInt32).toInt32))] [])
  exact hL kk _ _ _ _ X14 e14 N0 (own_hI mv).1 (own_hI mv).2 hk he hpp
-- part B
theorem d4_44 : decode prog_21_method_6_code 44 = .ok (.iload_n 1, 1) := by decide +kernel
theorem d4_45 : decode prog_21_method_6_code 45 = .ok (.ldc 28, 2) := by decide +kernel
theorem d4_47 : decode prog_21_method_6_code 47 = .ok (.imul, 1) := by decide +kernel
theorem d4_48 : decode prog_21_method_6_code 48 = .ok (.aload_n 0, 1) := by decide +kernel
theorem d4_49 : decode prog_21_method_6_code 49 = .ok (.getfield 29, 3) := by decide +kernel
theorem d4_52 : decode prog_21_method_6_code 52 = .ok (.iushr, 1) := by decide +kernel
theorem d4_53 : decode prog_21_method_6_code 53 = .ok (.istore_n 3, 1) := by decide +kernel
theorem d4_54 : decode prog_21_method_6_code 54 = .ok (.aload_n 0, 1) := by decide +kernel
theorem d4_55 : decode prog_21_method_6_code 55 = .ok (.getfield 25, 3) := by decide +kernel
theorem d4_58 : decode prog_21_method_6_code 58 = .ok (.iload_n 3, 1) := by decide +kernel
theorem d4_59 : decode prog_21_method_6_code 59 = .ok (.iaload, 1) := by decide +kernel
theorem d4_60 : decode prog_21_method_6_code 60 = .ok (.ifCond .eq 35, 3) := by decide +kernel
theorem d4_63 : decode prog_21_method_6_code 63 = .ok (.aload_n 0, 1) := by decide +kernel
theorem d4_64 : decode prog_21_method_6_code 64 = .ok (.getfield 7, 3) := by decide +kernel
theorem d4_67 : decode prog_21_method_6_code 67 = .ok (.aload_n 0, 1) := by decide +kernel
theorem d4_68 : decode prog_21_method_6_code 68 = .ok (.getfield 25, 3) := by decide +kernel
theorem d4_71 : decode prog_21_method_6_code 71 = .ok (.iload_n 3, 1) := by decide +kernel
theorem d4_72 : decode prog_21_method_6_code 72 = .ok (.iaload, 1) := by decide +kernel
theorem d4_73 : decode prog_21_method_6_code 73 = .ok (.iconst 1, 1) := by decide +kernel
theorem d4_74 : decode prog_21_method_6_code 74 = .ok (.isub, 1) := by decide +kernel
theorem d4_75 : decode prog_21_method_6_code 75 = .ok (.iaload, 1) := by decide +kernel
theorem d4_76 : decode prog_21_method_6_code 76 = .ok (.iload_n 1, 1) := by decide +kernel
theorem d4_77 : decode prog_21_method_6_code 77 = .ok (.if_icmp .eq 18, 3) := by decide +kernel
theorem d4_80 : decode prog_21_method_6_code 80 = .ok (.iload_n 3, 1) := by decide +kernel
theorem d4_81 : decode prog_21_method_6_code 81 = .ok (.iconst 1, 1) := by decide +kernel
theorem d4_82 : decode prog_21_method_6_code 82 = .ok (.iadd, 1) := by decide +kernel
theorem d4_83 : decode prog_21_method_6_code 83 = .ok (.aload_n 0, 1) := by decide +kernel
theorem d4_84 : decode prog_21_method_6_code 84 = .ok (.getfield 25, 3) := by decide +kernel
theorem d4_87 : decode prog_21_method_6_code 87 = .ok (.arraylength, 1) := by decide +kernel
theorem d4_88 : decode prog_21_method_6_code 88 = .ok (.iconst 1, 1) := by decide +kernel
theorem d4_89 : decode prog_21_method_6_code 89 = .ok (.isub, 1) := by decide +kernel
theorem d4_90 : decode prog_21_method_6_code 90 = .ok (.iand, 1) := by decide +kernel
theorem d4_91 : decode prog_21_method_6_code 91 = .ok (.istore_n 3, 1) := by decide +kernel
theorem d4_92 : decode prog_21_method_6_code 92 = .ok (.goto (-38), 3) := by decide +kernel
theorem d4_95 : decode prog_21_method_6_code 95 = .ok (.aload_n 0, 1) := by decide +kernel
theorem d4_96 : decode prog_21_method_6_code 96 = .ok (.getfield 25, 3) := by decide +kernel
theorem d4_99 : decode prog_21_method_6_code 99 = .ok (.iload_n 3, 1) := by decide +kernel
theorem d4_100 : decode prog_21_method_6_code 100 = .ok (.iaload, 1) := by decide +kernel
theorem d4_101 : decode prog_21_method_6_code 101 = .ok (.iconst 1, 1) := by decide +kernel
theorem d4_102 : decode prog_21_method_6_code 102 = .ok (.isub, 1) := by decide +kernel
theorem d4_103 : decode prog_21_method_6_code 103 = .ok (.istore_n 2, 1) := by decide +kernel
theorem ef_ixh (m : MethodId) (a0 : Addr) (i1 : Int32) : entryFrame m #[(.ref a0), (.int i1)] 4 = mkF m 0 #[.val (.ref a0), .val (.int i1), .unset, .unset] [] := by first | (simp [entryFrame, mkF, argsToLocals, Value.category]; done) | rfl
def Q_ixh (Z : State) (a0 : Addr) (i1 : Int32) (ts : List Int32) (ml : List Int32) (zs : List Value) (sl : Addr) (am : Addr) (k_am : ClassId) (us : List Value) (k_sl : ClassId) (h0 : Heap) (n0 : Nat) (v : Option Value) (h : Heap) (L : List Loc) : Prop := v = some (.int (findL ml i1 0)) ∧ Fr n0 L ∧ h = h0
set_option maxRecDepth 65536 in
set_option maxHeartbeats 40000000 in
theorem ixh (l : Launch) (Z : State) (aw : Array Value) (hw : ∀ d ∈ tables_1, d.before aw Z = true) (ws : List Jvm.Cond) (a0 : Addr) (i1 : Int32) (ts : List Int32) (ml : List Int32) (zs : List Value) (sl : Addr) (am : Addr) (k_am : ClassId) (us : List Value) (k_sl : ClassId) (h0 : Heap) (n0 : Nat) (Z0 : n0 ≤ h0.size) (F_slots_a0 : Fld Z h0 a0 "com/example/due_weight/dueweight/core/Pairs" "slots" "[I" (.ref sl)) (F_shift_a0 : Fld Z h0 a0 "com/example/due_weight/dueweight/core/Pairs" "shift" "I" (.int (26 : Int32))) (F_members_a0 : Fld Z h0 a0 "com/example/due_weight/dueweight/core/Pairs" "members" "[I" (.ref am)) (V_am : Arv Z h0 am k_am .int (16 : Int32) us (.int (0 : Int32))) (V_sl : Arv Z h0 sl k_sl .int (64 : Int32) (ts.map Value.int) (.int (0 : Int32))) (ht : Tab 9 ts ml) (hlm : ml.length = 9) (hus : us = ml.map Value.int ++ zs) (hnd : ∀ i j, i < 9 → j < 9 → ml.getD i 0 = ml.getD j 0 → i = j) :
    MetFree l (⟨"com/example/due_weight/dueweight/core/Pairs", "indexOf", "(I)I"⟩ : MethodName) (head1 (Jvm.Cond.code (⟨"com/example/due_weight/dueweight/core/Pairs", "indexOf", "(I)I"⟩ : MethodName) prog_21_method_6_code 4 (some .int) :: ws) ({ frames := 0, cells := 0, slots := 0, locals := 0 } : Room)) (fun a U => a = #[(.ref a0), (.int i1)] ∧ Z.Warmed39 U.vm ∧ U.heap = h0) (fun _ _ _ _ _ => True) (fun _ U o U' => ∃ v L, o = .returned v ∧ Q_ixh Z a0 i1 ts ml zs sl am k_am us k_sl h0 n0 v U'.heap L ∧ FrameEnd U o U' L ({ frames := 0, cells := 0, slots := 0, locals := 0 } : Room).cells ({ frames := 0, cells := 0, slots := 0, locals := 0 } : Room).slots) := by
  refine MetFree.of_bodySF (plainFor_of_name pn_0) hisR ?_
  intro p e s m args below meth c s₁ Bd hml0 hP hK
  obtain ⟨rfl, hZ, hh⟩ := hP
  have hx := Bd.exec
  have hby := Bd.bytes
  have hml : c.maxLocals = 4 := hml0
  have hown : s.vm.findClass "com/example/due_weight/dueweight/core/Pairs" = some m.cls := findClass_of_methodNamed Bd.named
  have hnm := (name_of_methodNamed Bd.named Bd.method).1
  have hlk : meth.locks = false := BodyLoose.notSynchronized Bd
  have X0 : Stand p l e ({ frames := 0, cells := 0, slots := 0, locals := 0 } : Room) s m #[(.ref a0), (.int i1)] below meth c s₁ [] 0 0 := Stand.of_body Bd
  have e0 : s₁.heap = h0 := by rw [← hh, Bd.state]; rfl
  have N0 := Fr.nil n0
  have ZZ := Z0
  show Go p e below s ({ frames := 0, cells := 0, slots := 0, locals := 0 } : Room).cells ({ frames := 0, cells := 0, slots := 0, locals := 0 } : Room).slots (fun v h L => Q_ixh Z a0 i1 ts ml zs sl am k_am us k_sl h0 n0 v h L) s₁ (entryFrame m #[(.ref a0), (.int i1)] 4)
  refine Go.cast (ef_ixh m a0 i1) ?_
  refine Go.gen ?_
  intro K1 K2 QQ hK1 hK2 hQQ
  obtain ⟨k0, hk0, hs0⟩ := own_stop ht i1
  have hL : ∀ (kz dd : Nat) (hv : Int32) (y : Nat) (T1 : State) (locs1 : List Loc), Stand p l e ({ frames := 0, cells := 0, slots := 0, locals := 0 } : Room) s m #[(.ref a0), (.int i1)] below meth c T1 locs1 0 0 → T1.heap = h0 → Fr n0 locs1 → hv.toInt = (y : Int) → y < 64 → y = (hN i1 + dd) % 64 → dd + kz = k0 → Go p e below s K1 K2 QQ T1 (mkF m 54 #[Sr a0, Si i1, .val (.int (-1 : Int32)), Si hv] []) := by
    intro kz
    induction kz with
    | zero =>
      intro dd hv y T1 locs1 X1 e1 N1 hj h64 hy hd
      obtain rfl : dd = k0 := hd
      rcases (own_stop_eq hy).mpr hs0 with hp | ⟨ii, hi, hp, hm⟩
      · -- empty
        show Go _ _ _ _ _ _ _ _ (mkF m 54 #[Sr a0, Si i1, .val (.int (-1 : Int32)), Si hv] [])
        refine Go.on (fun _ k => XS.aloadN X1.here hx rfl (hb hby d4_54) rfl rfl k) ?_
        show Go _ _ _ _ _ _ _ _ (mkF m 55 #[Sr a0, Si i1, .val (.int (-1 : Int32)), Si hv] [(.ref a0)])
        obtain ⟨T2, X2, e2, st2⟩ := getF X1 hx hZ hown (host := "") (Or.inl (hw _ (List.mem_of_getElem? (i := 28) rfl))) Via.refl e1 F_slots_a0 (g := (mkF m 55 #[Sr a0, Si i1, .val (.int (-1 : Int32)), Si hv] [(.ref a0)])) rfl rfl (hb hby d4_55)
        refine Go.on st2 ?_
        show Go _ _ _ _ _ _ _ _ (mkF m 58 #[Sr a0, Si i1, .val (.int (-1 : Int32)), Si hv] [(.ref sl)])
        refine Go.on (fun _ k => XS.iloadN X2.here hx rfl (hb hby d4_58) rfl k) ?_
        show Go _ _ _ _ _ _ _ _ (mkF m 59 #[Sr a0, Si i1, .val (.int (-1 : Int32)), Si hv] [(.int hv), (.ref sl)])
        obtain ⟨cl3, Ar3, -, S3, -, H3, -⟩ := id V_sl
        have hin3 : ¬ (hv < 0 ∨ cl3.slots.size ≤ (hv).toNatClampNeg) := inb_of S3 (own_in64 hj h64)
        refine Go.on (X2.iaload hx (j := hv) (v := (.int (0 : Int32))) (by rw [e2]; exact Ar3.1) (State.isArrayOf_alike hZ.alike Ar3.2.1) Ar3.2.2 hin3 (H3.at hin3 ((own_ld ht.1 hj h64).trans (congrArg Value.int hp))) (g := (mkF m 59 #[Sr a0, Si i1, .val (.int (-1 : Int32)), Si hv] [(.int hv), (.ref sl)])) rfl rfl (hb hby d4_59)) ?_
        show Go _ _ _ _ _ _ _ _ (mkF m 60 #[Sr a0, Si i1, .val (.int (-1 : Int32)), Si hv] [(.int 0)])
        have hc4 : (0 : Int32) = (0 : Int32) := by decide
        refine Go.on (fun _ k => XS.ifYes X2.here hx rfl (pc0 := 60) (pc' := 95) rfl (hb hby d4_60) rfl ((if0 _ _).trans (teq hc4).1) (by decide) (by decide) k) ?_
        refine Go.on (fun _ k => XS.aloadN X2.here hx rfl (hb hby d4_95) rfl rfl k) ?_
        show Go _ _ _ _ _ _ _ _ (mkF m 96 #[Sr a0, Si i1, .val (.int (-1 : Int32)), Si hv] [(.ref a0)])
        obtain ⟨T5, X5, e5, st5⟩ := getF X2 hx hZ hown (host := "") (Or.inl (hw _ (List.mem_of_getElem? (i := 28) rfl))) Via.refl e2 F_slots_a0 (g := (mkF m 96 #[Sr a0, Si i1, .val (.int (-1 : Int32)), Si hv] [(.ref a0)])) rfl rfl (hb hby d4_96)
        refine Go.on st5 ?_
        show Go _ _ _ _ _ _ _ _ (mkF m 99 #[Sr a0, Si i1, .val (.int (-1 : Int32)), Si hv] [(.ref sl)])
        refine Go.on (fun _ k => XS.iloadN X5.here hx rfl (hb hby d4_99) rfl k) ?_
        show Go _ _ _ _ _ _ _ _ (mkF m 100 #[Sr a0, Si i1, .val (.int (-1 : Int32)), Si hv] [(.int hv), (.ref sl)])
        obtain ⟨cl6, Ar6, -, S6, -, H6, -⟩ := id V_sl
        have hin6 : ¬ (hv < 0 ∨ cl6.slots.size ≤ (hv).toNatClampNeg) := inb_of S6 (own_in64 hj h64)
        refine Go.on (X5.iaload hx (j := hv) (v := (.int (0 : Int32))) (by rw [e5]; exact Ar6.1) (State.isArrayOf_alike hZ.alike Ar6.2.1) Ar6.2.2 hin6 (H6.at hin6 ((own_ld ht.1 hj h64).trans (congrArg Value.int hp))) (g := (mkF m 100 #[Sr a0, Si i1, .val (.int (-1 : Int32)), Si hv] [(.int hv), (.ref sl)])) rfl rfl (hb hby d4_100)) ?_
        show Go _ _ _ _ _ _ _ _ (mkF m 101 #[Sr a0, Si i1, .val (.int (-1 : Int32)), Si hv] [(.int 0)])
        refine Go.on (fun _ k => XS.iconst X5.here hx rfl (hb hby d4_101) k) ?_
        refine Go.on (fun _ k => XS.isub X5.here hx rfl (hb hby d4_102) rfl k) ?_
        show Go _ _ _ _ _ _ _ _ (mkF m 103 #[Sr a0, Si i1, .val (.int (-1 : Int32)), Si hv] [(.int (-1 : Int32))])
        refine Go.on (fun _ k => XS.istoreN X5.here hx rfl (hb hby d4_103) rfl (l' := #[.val (.ref a0), .val (.int i1), .val (.int (-1 : Int32)), .val (.int hv)]) rfl k) ?_
        show Go _ _ _ _ _ _ _ _ (mkF m 104 #[Sr a0, Si i1, .val (.int (-1 : Int32)), Si hv] [])
        refine Go.on (fun _ k => XS.iloadN X5.here hx rfl (hb hby d4_104) rfl k) ?_
        show Go _ _ _ _ _ _ _ _ (mkF m 105 #[Sr a0, Si i1, .val (.int (-1 : Int32)), Si hv] [(.int (-1 : Int32))])
        refine Go.retV X5 hx Bd.returns rfl (Or.inl ⟨rfl, Or.inl rfl, _, rfl⟩) (hb hby d4_105) ?_ (by rw [hK1]; decide) (by rw [hK2]; decide)
        rw [e5, ← hQQ]
        refine ⟨?_, N1, rfl⟩
        rw [own_end_none ht hlm hk0 ((own_pl_eq hy).symm.trans hp)]
      · -- found
        show Go _ _ _ _ _ _ _ _ (mkF m 54 #[Sr a0, Si i1, .val (.int (-1 : Int32)), Si hv] [])
        refine Go.on (fun _ k => XS.aloadN X1.here hx rfl (hb hby d4_54) rfl rfl k) ?_
        show Go _ _ _ _ _ _ _ _ (mkF m 55 #[Sr a0, Si i1, .val (.int (-1 : Int32)), Si hv] [(.ref a0)])
        obtain ⟨T7, X7, e7, st7⟩ := getF X1 hx hZ hown (host := "") (Or.inl (hw _ (List.mem_of_getElem? (i := 28) rfl))) Via.refl e1 F_slots_a0 (g := (mkF m 55 #[Sr a0, Si i1, .val (.int (-1 : Int32)), Si hv] [(.ref a0)])) rfl rfl (hb hby d4_55)
        refine Go.on st7 ?_
        show Go _ _ _ _ _ _ _ _ (mkF m 58 #[Sr a0, Si i1, .val (.int (-1 : Int32)), Si hv] [(.ref sl)])
        refine Go.on (fun _ k => XS.iloadN X7.here hx rfl (hb hby d4_58) rfl k) ?_
        show Go _ _ _ _ _ _ _ _ (mkF m 59 #[Sr a0, Si i1, .val (.int (-1 : Int32)), Si hv] [(.int hv), (.ref sl)])
        obtain ⟨cl8, Ar8, -, S8, -, H8, -⟩ := id V_sl
        have hin8 : ¬ (hv < 0 ∨ cl8.slots.size ≤ (hv).toNatClampNeg) := inb_of S8 (own_in64 hj h64)
        refine Go.on (X7.iaload hx (j := hv) (v := (.int (val ii))) (by rw [e7]; exact Ar8.1) (State.isArrayOf_alike hZ.alike Ar8.2.1) Ar8.2.2 hin8 (H8.at hin8 ((own_ld ht.1 hj h64).trans (congrArg Value.int hp))) (g := (mkF m 59 #[Sr a0, Si i1, .val (.int (-1 : Int32)), Si hv] [(.int hv), (.ref sl)])) rfl rfl (hb hby d4_59)) ?_
        show Go _ _ _ _ _ _ _ _ (mkF m 60 #[Sr a0, Si i1, .val (.int (-1 : Int32)), Si hv] [(.int (val ii))])
        have hc9 : ¬ ((val ii) = (0 : Int32)) := own_val_ne hi
        refine Go.on (fun _ k => XS.ifNo X7.here hx rfl (hb hby d4_60) rfl ((if0 _ _).trans (feq hc9).1) k) ?_
        refine Go.on (fun _ k => XS.aloadN X7.here hx rfl (hb hby d4_63) rfl rfl k) ?_
        show Go _ _ _ _ _ _ _ _ (mkF m 64 #[Sr a0, Si i1, .val (.int (-1 : Int32)), Si hv] [(.ref a0)])
        obtain ⟨T10, X10, e10, st10⟩ := getF X7 hx hZ hown (host := "") (Or.inl (hw _ (List.mem_of_getElem? (i := 11) rfl))) Via.refl e7 F_members_a0 (g := (mkF m 64 #[Sr a0, Si i1, .val (.int (-1 : Int32)), Si hv] [(.ref a0)])) rfl rfl (hb hby d4_64)
        refine Go.on st10 ?_
        show Go _ _ _ _ _ _ _ _ (mkF m 67 #[Sr a0, Si i1, .val (.int (-1 : Int32)), Si hv] [(.ref am)])
        refine Go.on (fun _ k => XS.aloadN X10.here hx rfl (hb hby d4_67) rfl rfl k) ?_
        show Go _ _ _ _ _ _ _ _ (mkF m 68 #[Sr a0, Si i1, .val (.int (-1 : Int32)), Si hv] [(.ref a0), (.ref am)])
        obtain ⟨T11, X11, e11, st11⟩ := getF X10 hx hZ hown (host := "") (Or.inl (hw _ (List.mem_of_getElem? (i := 28) rfl))) Via.refl e10 F_slots_a0 (g := (mkF m 68 #[Sr a0, Si i1, .val (.int (-1 : Int32)), Si hv] [(.ref a0), (.ref am)])) rfl rfl (hb hby d4_68)
        refine Go.on st11 ?_
        show Go _ _ _ _ _ _ _ _ (mkF m 71 #[Sr a0, Si i1, .val (.int (-1 : Int32)), Si hv] [(.ref sl), (.ref am)])
        refine Go.on (fun _ k => XS.iloadN X11.here hx rfl (hb hby d4_71) rfl k) ?_
        show Go _ _ _ _ _ _ _ _ (mkF m 72 #[Sr a0, Si i1, .val (.int (-1 : Int32)), Si hv] [(.int hv), (.ref sl), (.ref am)])
        obtain ⟨cl12, Ar12, -, S12, -, H12, -⟩ := id V_sl
        have hin12 : ¬ (hv < 0 ∨ cl12.slots.size ≤ (hv).toNatClampNeg) := inb_of S12 (own_in64 hj h64)
        refine Go.on (X11.iaload hx (j := hv) (v := (.int (val ii))) (by rw [e11]; exact Ar12.1) (State.isArrayOf_alike hZ.alike Ar12.2.1) Ar12.2.2 hin12 (H12.at hin12 ((own_ld ht.1 hj h64).trans (congrArg Value.int hp))) (g := (mkF m 72 #[Sr a0, Si i1, .val (.int (-1 : Int32)), Si hv] [(.int hv), (.ref sl), (.ref am)])) rfl rfl (hb hby d4_72)) ?_
        show Go _ _ _ _ _ _ _ _ (mkF m 73 #[Sr a0, Si i1, .val (.int (-1 : Int32)), Si hv] [(.int (val ii)), (.ref am)])
        refine Go.on (fun _ k => XS.iconst X11.here hx rfl (hb hby d4_73) k) ?_
        refine Go.on (fun _ k => XS.isub X11.here hx rfl (hb hby d4_74) rfl k) ?_
        show Go _ _ _ _ _ _ _ _ (mkF m 75 #[Sr a0, Si i1, .val (.int (-1 : Int32)), Si hv] [(.int ((val ii) - (1 : Int32))), (.ref am)])
        obtain ⟨cl13, Ar13, -, S13, -, H13, -⟩ := id V_am
        have hin13 : ¬ (((val ii) - (1 : Int32)) < 0 ∨ cl13.slots.size ≤ (((val ii) - (1 : Int32))).toNatClampNeg) := inb_of S13 (own_min hi)
        refine Go.on (X11.iaload hx (j := ((val ii) - (1 : Int32))) (v := (.int i1)) (by rw [e11]; exact Ar13.1) (State.isArrayOf_alike hZ.alike Ar13.2.1) Ar13.2.2 hin13 (H13.at hin13 ((own_mat hus hlm hi).trans (congrArg Value.int hm))) (g := (mkF m 75 #[Sr a0, Si i1, .val (.int (-1 : Int32)), Si hv] [(.int ((val ii) - (1 : Int32))), (.ref am)])) rfl rfl (hb hby d4_75)) ?_
        show Go _ _ _ _ _ _ _ _ (mkF m 76 #[Sr a0, Si i1, .val (.int (-1 : Int32)), Si hv] [(.int i1)])
        refine Go.on (fun _ k => XS.iloadN X11.here hx rfl (hb hby d4_76) rfl k) ?_
        show Go _ _ _ _ _ _ _ _ (mkF m 77 #[Sr a0, Si i1, .val (.int (-1 : Int32)), Si hv] [(.int i1), (.int i1)])
        have hc14 : i1 = i1 := rfl
        refine Go.on (fun _ k => XS.icmpYes X11.here hx rfl (pc0 := 77) (pc' := 95) rfl (hb hby d4_77) rfl (teq hc14).1 (by decide) (by decide) k) ?_
        refine Go.on (fun _ k => XS.aloadN X11.here hx rfl (hb hby d4_95) rfl rfl k) ?_
        show Go _ _ _ _ _ _ _ _ (mkF m 96 #[Sr a0, Si i1, .val (.int (-1 : Int32)), Si hv] [(.ref a0)])
        obtain ⟨T15, X15, e15, st15⟩ := getF X11 hx hZ hown (host := "") (Or.inl (hw _ (List.mem_of_getElem? (i := 28) rfl))) Via.refl e11 F_slots_a0 (g := (mkF m 96 #[Sr a0, Si i1, .val (.int (-1 : Int32)), Si hv] [(.ref a0)])) rfl rfl (hb hby d4_96)
        refine Go.on st15 ?_
        show Go _ _ _ _ _ _ _ _ (mkF m 99 #[Sr a0, Si i1, .val (.int (-1 : Int32)), Si hv] [(.ref sl)])
        refine Go.on (fun _ k => XS.iloadN X15.here hx rfl (hb hby d4_99) rfl k) ?_
        show Go _ _ _ _ _ _ _ _ (mkF m 100 #[Sr a0, Si i1, .val (.int (-1 : Int32)), Si hv] [(.int hv), (.ref sl)])
        obtain ⟨cl16, Ar16, -, S16, -, H16, -⟩ := id V_sl
        have hin16 : ¬ (hv < 0 ∨ cl16.slots.size ≤ (hv).toNatClampNeg) := inb_of S16 (own_in64 hj h64)
        refine Go.on (X15.iaload hx (j := hv) (v := (.int (val ii))) (by rw [e15]; exact Ar16.1) (State.isArrayOf_alike hZ.alike Ar16.2.1) Ar16.2.2 hin16 (H16.at hin16 ((own_ld ht.1 hj h64).trans (congrArg Value.int hp))) (g := (mkF m 100 #[Sr a0, Si i1, .val (.int (-1 : Int32)), Si hv] [(.int hv), (.ref sl)])) rfl rfl (hb hby d4_100)) ?_
        show Go _ _ _ _ _ _ _ _ (mkF m 101 #[Sr a0, Si i1, .val (.int (-1 : Int32)), Si hv] [(.int (val ii))])
        refine Go.on (fun _ k => XS.iconst X15.here hx rfl (hb hby d4_101) k) ?_
        refine Go.on (fun _ k => XS.isub X15.here hx rfl (hb hby d4_102) rfl k) ?_
        show Go _ _ _ _ _ _ _ _ (mkF m 103 #[Sr a0, Si i1, .val (.int (-1 : Int32)), Si hv] [(.int ((val ii) - (1 : Int32)))])
        refine Go.on (fun _ k => XS.istoreN X15.here hx rfl (hb hby d4_103) rfl (l' := #[.val (.ref a0), .val (.int i1), .val (.int ((val ii) - (1 : Int32))), .val (.int hv)]) rfl k) ?_
        show Go _ _ _ _ _ _ _ _ (mkF m 104 #[Sr a0, Si i1, .val (.int ((val ii) - (1 : Int32))), Si hv] [])
        refine Go.on (fun _ k => XS.iloadN X15.here hx rfl (hb hby d4_104) rfl k) ?_
        show Go _ _ _ _ _ _ _ _ (mkF m 105 #[Sr a0, Si i1, .val (.int ((val ii) - (1 : Int32))), Si hv] [(.int ((val ii) - (1 : Int32)))])
        refine Go.retV X15 hx Bd.returns rfl (Or.inl ⟨rfl, Or.inl rfl, _, rfl⟩) (hb hby d4_105) ?_ (by rw [hK1]; decide) (by rw [hK2]; decide)
        rw [e15, ← hQQ]
        refine ⟨?_, N1, rfl⟩
        rw [own_end_some hlm hnd hi hm, own_valn hi]
    | succ kz ih =>
      intro dd hv y T1 locs1 X1 e1 N1 hj h64 hy hd
      obtain ⟨ii, hi, hp, hm⟩ := own_not_stop ht (fun q => hk0 dd (by omega) ((own_stop_eq hy).mp q))
      show Go _ _ _ _ _ _ _ _ (mkF m 54 #[Sr a0, Si i1, .val (.int (-1 : Int32)), Si hv] [])
      refine Go.on (fun _ k => XS.aloadN X1.here hx rfl (hb hby d4_54) rfl rfl k) ?_
      show Go _ _ _ _ _ _ _ _ (mkF m 55 #[Sr a0, Si i1, .val (.int (-1 : Int32)), Si hv] [(.ref a0)])
      obtain ⟨T17, X17, e17, st17⟩ := getF X1 hx hZ hown (host := "") (Or.inl (hw _ (List.mem_of_getElem? (i := 28) rfl))) Via.refl e1 F_slots_a0 (g := (mkF m 55 #[Sr a0, Si i1, .val (.int (-1 : Int32)), Si hv] [(.ref a0)])) rfl rfl (hb hby d4_55)
      refine Go.on st17 ?_
      show Go _ _ _ _ _ _ _ _ (mkF m 58 #[Sr a0, Si i1, .val (.int (-1 : Int32)), Si hv] [(.ref sl)])
      refine Go.on (fun _ k => XS.iloadN X17.here hx rfl (hb hby d4_58) rfl k) ?_
      show Go _ _ _ _ _ _ _ _ (mkF m 59 #[Sr a0, Si i1, .val (.int (-1 : Int32)), Si hv] [(.int hv), (.ref sl)])
      obtain ⟨cl18, Ar18, -, S18, -, H18, -⟩ := id V_sl
      have hin18 : ¬ (hv < 0 ∨ cl18.slots.size ≤ (hv).toNatClampNeg) := inb_of S18 (own_in64 hj h64)
      refine Go.on (X17.iaload hx (j := hv) (v := (.int (val ii))) (by rw [e17]; exact Ar18.1) (State.isArrayOf_alike hZ.alike Ar18.2.1) Ar18.2.2 hin18 (H18.at hin18 ((own_ld ht.1 hj h64).trans (congrArg Value.int hp))) (g := (mkF m 59 #[Sr a0, Si i1, .val (.int (-1 : Int32)), Si hv] [(.int hv), (.ref sl)])) rfl rfl (hb hby d4_59)) ?_
      show Go _ _ _ _ _ _ _ _ (mkF m 60 #[Sr a0, Si i1, .val (.int (-1 : Int32)), Si hv] [(.int (val ii))])
      have hc19 : ¬ ((val ii) = (0 : Int32)) := own_val_ne hi
      refine Go.on (fun _ k => XS.ifNo X17.here hx rfl (hb hby d4_60) rfl ((if0 _ _).trans (feq hc19).1) k) ?_
      refine Go.on (fun _ k => XS.aloadN X17.here hx rfl (hb hby d4_63) rfl rfl k) ?_
      show Go _ _ _ _ _ _ _ _ (mkF m 64 #[Sr a0, Si i1, .val (.int (-1 : Int32)), Si hv] [(.ref a0)])
      obtain ⟨T20, X20, e20, st20⟩ := getF X17 hx hZ hown (host := "") (Or.inl (hw _ (List.mem_of_getElem? (i := 11) rfl))) Via.refl e17 F_members_a0 (g := (mkF m 64 #[Sr a0, Si i1, .val (.int (-1 : Int32)), Si hv] [(.ref a0)])) rfl rfl (hb hby d4_64)
      refine Go.on st20 ?_
      show Go _ _ _ _ _ _ _ _ (mkF m 67 #[Sr a0, Si i1, .val (.int (-1 : Int32)), Si hv] [(.ref am)])
      refine Go.on (fun _ k => XS.aloadN X20.here hx rfl (hb hby d4_67) rfl rfl k) ?_
      show Go _ _ _ _ _ _ _ _ (mkF m 68 #[Sr a0, Si i1, .val (.int (-1 : Int32)), Si hv] [(.ref a0), (.ref am)])
      obtain ⟨T21, X21, e21, st21⟩ := getF X20 hx hZ hown (host := "") (Or.inl (hw _ (List.mem_of_getElem? (i := 28) rfl))) Via.refl e20 F_slots_a0 (g := (mkF m 68 #[Sr a0, Si i1, .val (.int (-1 : Int32)), Si hv] [(.ref a0), (.ref am)])) rfl rfl (hb hby d4_68)
      refine Go.on st21 ?_
      show Go _ _ _ _ _ _ _ _ (mkF m 71 #[Sr a0, Si i1, .val (.int (-1 : Int32)), Si hv] [(.ref sl), (.ref am)])
      refine Go.on (fun _ k => XS.iloadN X21.here hx rfl (hb hby d4_71) rfl k) ?_
      show Go _ _ _ _ _ _ _ _ (mkF m 72 #[Sr a0, Si i1, .val (.int (-1 : Int32)), Si hv] [(.int hv), (.ref sl), (.ref am)])
      obtain ⟨cl22, Ar22, -, S22, -, H22, -⟩ := id V_sl
      have hin22 : ¬ (hv < 0 ∨ cl22.slots.size ≤ (hv).toNatClampNeg) := inb_of S22 (own_in64 hj h64)
      refine Go.on (X21.iaload hx (j := hv) (v := (.int (val ii))) (by rw [e21]; exact Ar22.1) (State.isArrayOf_alike hZ.alike Ar22.2.1) Ar22.2.2 hin22 (H22.at hin22 ((own_ld ht.1 hj h64).trans (congrArg Value.int hp))) (g := (mkF m 72 #[Sr a0, Si i1, .val (.int (-1 : Int32)), Si hv] [(.int hv), (.ref sl), (.ref am)])) rfl rfl (hb hby d4_72)) ?_
      show Go _ _ _ _ _ _ _ _ (mkF m 73 #[Sr a0, Si i1, .val (.int (-1 : Int32)), Si hv] [(.int (val ii)), (.ref am)])
      refine Go.on (fun _ k => XS.iconst X21.here hx rfl (hb hby d4_73) k) ?_
      refine Go.on (fun _ k => XS.isub X21.here hx rfl (hb hby d4_74) rfl k) ?_
      show Go _ _ _ _ _ _ _ _ (mkF m 75 #[Sr a0, Si i1, .val (.int (-1 : Int32)), Si hv] [(.int ((val ii) - (1 : Int32))), (.ref am)])
      obtain ⟨cl23, Ar23, -, S23, -, H23, -⟩ := id V_am
      have hin23 : ¬ (((val ii) - (1 : Int32)) < 0 ∨ cl23.slots.size ≤ (((val ii) - (1 : Int32))).toNatClampNeg) := inb_of S23 (own_min hi)
      refine Go.on (X21.iaload hx (j := ((val ii) - (1 : Int32))) (v := (.int (ml.getD ii 0))) (by rw [e21]; exact Ar23.1) (State.isArrayOf_alike hZ.alike Ar23.2.1) Ar23.2.2 hin23 (H23.at hin23 (own_mat hus hlm hi)) (g := (mkF m 75 #[Sr a0, Si i1, .val (.int (-1 : Int32)), Si hv] [(.int ((val ii) - (1 : Int32))), (.ref am)])) rfl rfl (hb hby d4_75)) ?_
      show Go _ _ _ _ _ _ _ _ (mkF m 76 #[Sr a0, Si i1, .val (.int (-1 : Int32)), Si hv] [(.int (ml.getD ii 0))])
      refine Go.on (fun _ k => XS.iloadN X21.here hx rfl (hb hby d4_76) rfl k) ?_
      show Go _ _ _ _ _ _ _ _ (mkF m 77 #[Sr a0, Si i1, .val (.int (-1 : Int32)), Si hv] [(.int i1), (.int (ml.getD ii 0))])
      have hc24 : ¬ ((ml.getD ii 0) = i1) := hm
      refine Go.on (fun _ k => XS.icmpNo X21.here hx rfl (hb hby d4_77) rfl (feq hc24).1 k) ?_
      refine Go.on (fun _ k => XS.iloadN X21.here hx rfl (hb hby d4_80) rfl k) ?_
      refine Go.on (fun _ k => XS.iconst X21.here hx rfl (hb hby d4_81) k) ?_
      refine Go.on (fun _ k => XS.iadd X21.here hx rfl (hb hby d4_82) rfl k) ?_
      refine Go.on (fun _ k => XS.aloadN X21.here hx rfl (hb hby d4_83) rfl rfl k) ?_
      show Go _ _ _ _ _ _ _ _ (mkF m 84 #[Sr a0, Si i1, .val (.int (-1 : Int32)), Si hv] [(.ref a0), (.int (hv + (1 : Int32)))])
      obtain ⟨T25, X25, e25, st25⟩ := getF X21 hx hZ hown (host := "") (Or.inl (hw _ (List.mem_of_getElem? (i := 28) rfl))) Via.refl e21 F_slots_a0 (g := (mkF m 84 #[Sr a0, Si i1, .val (.int (-1 : Int32)), Si hv] [(.ref a0), (.int (hv + (1 : Int32)))])) rfl rfl (hb hby d4_84)
      refine Go.on st25 ?_
      show Go _ _ _ _ _ _ _ _ (mkF m 87 #[Sr a0, Si i1, .val (.int (-1 : Int32)), Si hv] [(.ref sl), (.int (hv + (1 : Int32)))])
      obtain ⟨cl26, Ar26, -, S26, N26n, -, -⟩ := id V_sl
      refine Go.on (X25.arraylength hx (by rw [e25]; exact Ar26.1) (State.isArrayOf_alike hZ.alike Ar26.2.1) (g := (mkF m 87 #[Sr a0, Si i1, .val (.int (-1 : Int32)), Si hv] [(.ref sl), (.int (hv + (1 : Int32)))])) rfl rfl (hb hby d4_87)) ?_
      rw [len_of S26 N26n]
      show Go _ _ _ _ _ _ _ _ (mkF m 88 #[Sr a0, Si i1, .val (.int (-1 : Int32)), Si hv] [(.int 64), (.int (hv + (1 : Int32)))])
      refine Go.on (fun _ k => XS.iconst X25.here hx rfl (hb hby d4_88) k) ?_
      refine Go.on (fun _ k => XS.isub X25.here hx rfl (hb hby d4_89) rfl k) ?_
      refine Go.on (fun _ k => XS.iand X25.here hx rfl (hb hby d4_90) rfl k) ?_
      show Go _ _ _ _ _ _ _ _ (mkF m 91 #[Sr a0, Si i1, .val (.int (-1 : Int32)), Si hv] [(.int ((hv + (1 : Int32)) &&& (63 : Int32)))])
      refine Go.on (fun _ k => XS.istoreN X25.here hx rfl (hb hby d4_91) rfl (l' := #[.val (.ref a0), .val (.int i1), .val (.int (-1 : Int32)), .val (.int ((hv + (1 : Int32)) &&& (63 : Int32)))]) rfl k) ?_
      show Go _ _ _ _ _ _ _ _ (mkF m 92 #[Sr a0, Si i1, .val (.int (-1 : Int32)), .val (.int ((hv + (1 : Int32)) &&& (63 : Int32)))] [])
      refine Go.on (fun _ k => XS.goto X25.here hx rfl (pc0 := 92) (pc' := 54) rfl (hb hby d4_92) (by decide) (by decide) k) ?_
      show Go _ _ _ _ _ _ _ _ (mkF m 54 #[Sr a0, Si i1, .val (.int (-1 : Int32)), .val (.int ((hv + (1 : Int32)) &&& (63 : Int32)))] [])
      exact ih (dd + 1) _ _ _ _ X25 e25 N1 (own_next hj h64) (Nat.mod_lt _ (by decide)) (own_ynext hy) (by omega)
  refine Go.on (fun _ k => XS.iconst X0.here hx rfl (hb hby d4_0) k) ?_
  show Go _ _ _ _ _ _ _ _ (mkF m 1 #[Sr a0, Si i1, .unset, .unset] [(.int (-1 : Int32))])
  refine Go.on (fun _ k => XS.istoreN X0.here hx rfl (hb hby d4_1) rfl (l' := #[.val (.ref a0), .val (.int i1), .val (.int (-1 : Int32)), .unset]) rfl k) ?_
  show Go _ _ _ _ _ _ _ _ (mkF m 2 #[Sr a0, Si i1, .val (.int (-1 : Int32)), .unset] [])
  refine Go.on (fun _ k => XS.aloadN X0.here hx rfl (hb hby d4_2) rfl rfl k) ?_
  show Go _ _ _ _ _ _ _ _ (mkF m 3 #[Sr a0, Si i1, .val (.int (-1 : Int32)), .unset] [(.ref a0)])
  obtain ⟨T27, X27, e27, st27⟩ := getF X0 hx hZ hown (host := "") (Or.inl (hw _ (List.mem_of_getElem? (i := 28) rfl))) Via.refl e0 F_slots_a0 (g := (mkF m 3 #[Sr a0, Si i1, .val (.int (-1 : Int32)), .unset] [(.ref a0)])) rfl rfl (hb hby d4_3)
  refine Go.on st27 ?_
  show Go _ _ _ _ _ _ _ _ (mkF m 6 #[Sr a0, Si i1, .val (.int (-1 : Int32)), .unset] [(.ref sl)])
  refine Go.on (fun _ k => XS.ifnonnullYes X27.here hx rfl (pc0 := 6) (pc' := 44) rfl (hb hby d4_6) rfl (by decide) (by decide) k) ?_
  show Go _ _ _ _ _ _ _ _ (mkF m 44 #[Sr a0, Si i1, .val (.int (-1 : Int32)), .unset] [])
  refine Go.on (fun _ k => XS.iloadN X27.here hx rfl (hb hby d4_44) rfl k) ?_
  show Go _ _ _ _ _ _ _ _ (mkF m 45 #[Sr a0, Si i1, .val (.int (-1 : Int32)), .unset] [(.int i1)])
  refine Go.on (fun _ k => X27.ldcI hx hown (mvT hZ (hw _ (List.mem_of_getElem? (i := 91) rfl))) rfl (hb hby d4_45) k) ?_
  show Go _ _ _ _ _ _ _ _ (mkF m 47 #[Sr a0, Si i1, .val (.int (-1 : Int32)), .unset] [(.int (-1640531527 : Int32)), (.int i1)])
  refine Go.on (fun _ k => XS.imul X27.here hx rfl (hb hby d4_47) rfl k) ?_
  refine Go.on (fun _ k => XS.aloadN X27.here hx rfl (hb hby d4_48) rfl rfl k) ?_
  show Go _ _ _ _ _ _ _ _ (mkF m 49 #[Sr a0, Si i1, .val (.int (-1 : Int32)), .unset] [(.ref a0), (.int (i1 * (-1640531527 : Int32)))])
  obtain ⟨T28, X28, e28, st28⟩ := getF X27 hx hZ hown (host := "") (Or.inl (hw _ (List.mem_of_getElem? (i := 85) rfl))) Via.refl e27 F_shift_a0 (g := (mkF m 49 #[Sr a0, Si i1, .val (.int (-1 : Int32)), .unset] [(.ref a0), (.int (i1 * (-1640531527 : Int32)))])) rfl rfl (hb hby d4_49)
  refine Go.on st28 ?_
  show Go _ _ _ _ _ _ _ _ (mkF m 52 #[Sr a0, Si i1, .val (.int (-1 : Int32)), .unset] [(.int 26), (.int (i1 * (-1640531527 : Int32)))])
  refine Go.on (fun _ k => XS.iushr X28.here hx rfl (hb hby d4_52) rfl k) ?_
  show Go _ _ _ _ _ _ _ _ (mkF m 53 #[Sr a0, Si i1, .val (.int (-1 : Int32)), .unset] [(.int (((i1 * (-1640531527 : Int32)).toUInt32 >>> ((26 : Int32) &&& 31).toUInt32).toInt32))])
  refine Go.on (fun _ k => XS.istoreN X28.here hx rfl (hb hby d4_53) rfl (l' := #[.val (.ref a0), .val (.int i1), .val (.int (-1 : Int32)), .val (.int (((i1 * (-1640531527 : Int32)).toUInt32 >>> ((26 : Int32) &&& 31).toUInt32).toInt32))]) rfl k) ?_
  show Go _ _ _ _ _ _ _ _ (mkF m 54 #[Sr a0, Si i1, .val (.int (-1 : Int32)), .val (.int (((i1 * (-1640531527 : Int32)).toUInt32 >>> ((26 : Int32) &&& 31).toUInt32).toInt32))] [])
  exact hL k0 0 _ _ _ _ X28 e28 N0 (own_hI i1).1 (own_hI i1).2 (own_h0 i1) (Nat.zero_add _)
theorem d15_0 : decode jdk_33_method_47_code 0 = .ok (.iload_n 0, 1) := by decide +kernel
theorem d15_1 : decode jdk_33_method_47_code 1 = .ok (.ifCond .gt 14, 3) := by decide +kernel
theorem d15_15 : decode jdk_33_method_47_code 15 = .ok (.bipush 31, 2) := by decide +kernel
theorem d15_17 : decode jdk_33_method_47_code 17 = .ok (.istore_n 1, 1) := by decide +kernel
theorem d15_18 : decode jdk_33_method_47_code 18 = .ok (.iload_n 0, 1) := by decide +kernel
theorem d15_19 : decode jdk_33_method_47_code 19 = .ok (.ldc_w 264, 3) := by decide +kernel
theorem d15_22 : decode jdk_33_method_47_code 22 = .ok (.if_icmp .lt 11, 3) := by decide +kernel
theorem d15_33 : decode jdk_33_method_47_code 33 = .ok (.iload_n 0, 1) := by decide +kernel
theorem d15_34 : decode jdk_33_method_47_code 34 = .ok (.sipush 256, 3) := by decide +kernel
theorem d15_37 : decode jdk_33_method_47_code 37 = .ok (.if_icmp .lt 11, 3) := by decide +kernel
theorem d15_48 : decode jdk_33_method_47_code 48 = .ok (.iload_n 0, 1) := by decide +kernel
theorem d15_49 : decode jdk_33_method_47_code 49 = .ok (.bipush 16, 2) := by decide +kernel
theorem d15_51 : decode jdk_33_method_47_code 51 = .ok (.if_icmp .lt 10, 3) := by decide +kernel
theorem d15_54 : decode jdk_33_method_47_code 54 = .ok (.iinc 1 (-4), 3) := by decide +kernel
theorem d15_57 : decode jdk_33_method_47_code 57 = .ok (.iload_n 0, 1) := by decide +kernel
theorem d15_58 : decode jdk_33_method_47_code 58 = .ok (.iconst 4, 1) := by decide +kernel
theorem d15_59 : decode jdk_33_method_47_code 59 = .ok (.iushr, 1) := by decide +kernel
theorem d15_60 : decode jdk_33_method_47_code 60 = .ok (.istore_n 0, 1) := by decide +kernel
theorem d15_61 : decode jdk_33_method_47_code 61 = .ok (.iload_n 0, 1) := by decide +kernel
theorem d15_62 : decode jdk_33_method_47_code 62 = .ok (.iconst 4, 1) := by decide +kernel
theorem d15_63 : decode jdk_33_method_47_code 63 = .ok (.if_icmp .lt 10, 3) := by decide +kernel
theorem d15_73 : decode jdk_33_method_47_code 73 = .ok (.iload_n 1, 1) := by decide +kernel
theorem d15_74 : decode jdk_33_method_47_code 74 = .ok (.iload_n 0, 1) := by decide +kernel
theorem d15_75 : decode jdk_33_method_47_code 75 = .ok (.iconst 1, 1) := by decide +kernel
theorem d15_76 : decode jdk_33_method_47_code 76 = .ok (.iushr, 1) := by decide +kernel
theorem d15_77 : decode jdk_33_method_47_code 77 = .ok (.isub, 1) := by decide +kernel
theorem d15_78 : decode jdk_33_method_47_code 78 = .ok (.ireturn, 1) := by decide +kernel
theorem pn_3 : plainName "java/lang/Integer" = true := by first | (simp [plainName, overriddenIn]; done) | decide +kernel
theorem ef_nlz35 (m : MethodId)  : entryFrame m #[(.int (35 : Int32))] 2 = mkF m 0 #[.val (.int (35 : Int32)), .unset] [] := by first | (simp [entryFrame, mkF, argsToLocals, Value.category]; done) | rfl
def Q_nlz35 (Z : State)  (h0 : Heap) (n0 : Nat) (v : Option Value) (h : Heap) (L : List Loc) : Prop := v = some (.int (26 : Int32)) ∧ Fr n0 L ∧ h = h0
set_option maxRecDepth 65536 in
set_option maxHeartbeats 40000000 in
theorem nlz35 (l : Launch) (Z : State) (aw : Array Value) (hw : ∀ d ∈ tables_1, d.before aw Z = true) (ws : List Jvm.Cond)  (h0 : Heap) (n0 : Nat) (Z0 : n0 ≤ h0.size) :
    MetFree l (⟨"java/lang/Integer", "numberOfLeadingZeros", "(I)I"⟩ : MethodName) (head1 (Jvm.Cond.code (⟨"java/lang/Integer", "numberOfLeadingZeros", "(I)I"⟩ : MethodName) jdk_33_method_47_code 2 (some .int) :: ws) ({ frames := 0, cells := 0, slots := 0, locals := 0 } : Room)) (fun a U => a = #[(.int (35 : Int32))] ∧ Z.Warmed39 U.vm ∧ U.heap = h0) (fun _ _ _ _ _ => True) (fun _ U o U' => ∃ v L, o = .returned v ∧ Q_nlz35 Z  h0 n0 v U'.heap L ∧ FrameEnd U o U' L ({ frames := 0, cells := 0, slots := 0, locals := 0 } : Room).cells ({ frames := 0, cells := 0, slots := 0, locals := 0 } : Room).slots) := by
  refine MetFree.of_bodySF (plainFor_of_name pn_3) hisR ?_
  intro p e s m args below meth c s₁ Bd hml0 hP hK
  obtain ⟨rfl, hZ, hh⟩ := hP
  have hx := Bd.exec
  have hby := Bd.bytes
  have hml : c.maxLocals = 2 := hml0
  have hown : s.vm.findClass "java/lang/Integer" = some m.cls := findClass_of_methodNamed Bd.named
  have hnm := (name_of_methodNamed Bd.named Bd.method).1
  have hlk : meth.locks = false := BodyLoose.notSynchronized Bd
  have X0 : Stand p l e ({ frames := 0, cells := 0, slots := 0, locals := 0 } : Room) s m #[(.int (35 : Int32))] below meth c s₁ [] 0 0 := Stand.of_body Bd
  have e0 : s₁.heap = h0 := by rw [← hh, Bd.state]; rfl
  have N0 := Fr.nil n0
  have ZZ := Z0
  show Go p e below s ({ frames := 0, cells := 0, slots := 0, locals := 0 } : Room).cells ({ frames := 0, cells := 0, slots := 0, locals := 0 } : Room).slots (fun v h L => Q_nlz35 Z  h0 n0 v h L) s₁ (entryFrame m #[(.int (35 : Int32))] 2)
  refine Go.cast (ef_nlz35 m ) ?_
  refine Go.gen ?_
  intro K1 K2 QQ hK1 hK2 hQQ
  refine Go.on (fun _ k => XS.iloadN X0.here hx rfl (hb hby d15_0) rfl k) ?_
  show Go _ _ _ _ _ _ _ _ (mkF m 1 #[Si 35, .unset] [(.int 35)])
  have hc1 : (0 : Int32) < (35 : Int32) := by decide
  refine Go.on (fun _ k => XS.ifYes X0.here hx rfl (pc0 := 1) (pc' := 15) rfl (hb hby d15_1) rfl ((if0 _ _).trans (tlt hc1).2.2.1) (by decide) (by decide) k) ?_
  refine Go.on (fun _ k => XS.bipush X0.here hx rfl (hb hby d15_15) k) ?_
  show Go _ _ _ _ _ _ _ _ (mkF m 17 #[Si 35, .unset] [(.int 31)])
  refine Go.on (fun _ k => XS.istoreN X0.here hx rfl (hb hby d15_17) rfl (l' := #[.val (.int (35 : Int32)), .val (.int (31 : Int32))]) rfl k) ?_
  show Go _ _ _ _ _ _ _ _ (mkF m 18 #[Si 35, Si 31] [])
  refine Go.on (fun _ k => XS.iloadN X0.here hx rfl (hb hby d15_18) rfl k) ?_
  show Go _ _ _ _ _ _ _ _ (mkF m 19 #[Si 35, Si 31] [(.int 35)])
  refine Go.on (fun _ k => X0.ldcWI hx hown (mvT hZ (hw _ (List.mem_of_getElem? (i := 84) rfl))) rfl (hb hby d15_19) k) ?_
  show Go _ _ _ _ _ _ _ _ (mkF m 22 #[Si 35, Si 31] [(.int 65536), (.int 35)])
  have hc2 : (35 : Int32) < (65536 : Int32) := by decide
  refine Go.on (fun _ k => XS.icmpYes X0.here hx rfl (pc0 := 22) (pc' := 33) rfl (hb hby d15_22) rfl (tlt hc2).1 (by decide) (by decide) k) ?_
  refine Go.on (fun _ k => XS.iloadN X0.here hx rfl (hb hby d15_33) rfl k) ?_
  refine Go.on (fun _ k => XS.sipush X0.here hx rfl (hb hby d15_34) k) ?_
  show Go _ _ _ _ _ _ _ _ (mkF m 37 #[Si 35, Si 31] [(.int 256), (.int 35)])
  have hc3 : (35 : Int32) < (256 : Int32) := by decide
  refine Go.on (fun _ k => XS.icmpYes X0.here hx rfl (pc0 := 37) (pc' := 48) rfl (hb hby d15_37) rfl (tlt hc3).1 (by decide) (by decide) k) ?_
  refine Go.on (fun _ k => XS.iloadN X0.here hx rfl (hb hby d15_48) rfl k) ?_
  refine Go.on (fun _ k => XS.bipush X0.here hx rfl (hb hby d15_49) k) ?_
  show Go _ _ _ _ _ _ _ _ (mkF m 51 #[Si 35, Si 31] [(.int 16), (.int 35)])
  have hc4 : ¬ ((35 : Int32) < (16 : Int32)) := by decide
  refine Go.on (fun _ k => XS.icmpNo X0.here hx rfl (hb hby d15_51) rfl (flt hc4).1 k) ?_
  show Go _ _ _ _ _ _ _ _ (mkF m 54 #[Si 35, Si 31] [])
  refine Go.on (fun _ k => XS.iinc X0.here hx rfl (hb hby d15_54) rfl (l' := #[.val (.int (35 : Int32)), .val (.int (27 : Int32))]) rfl k) ?_
  show Go _ _ _ _ _ _ _ _ (mkF m 57 #[Si 35, Si 27] [])
  refine Go.on (fun _ k => XS.iloadN X0.here hx rfl (hb hby d15_57) rfl k) ?_
  refine Go.on (fun _ k => XS.iconst X0.here hx rfl (hb hby d15_58) k) ?_
  refine Go.on (fun _ k => XS.iushr X0.here hx rfl (hb hby d15_59) rfl k) ?_
  show Go _ _ _ _ _ _ _ _ (mkF m 60 #[Si 35, Si 27] [(.int 2)])
  refine Go.on (fun _ k => XS.istoreN X0.here hx rfl (hb hby d15_60) rfl (l' := #[.val (.int (2 : Int32)), .val (.int (27 : Int32))]) rfl k) ?_
  show Go _ _ _ _ _ _ _ _ (mkF m 61 #[Si 2, Si 27] [])
  refine Go.on (fun _ k => XS.iloadN X0.here hx rfl (hb hby d15_61) rfl k) ?_
  refine Go.on (fun _ k => XS.iconst X0.here hx rfl (hb hby d15_62) k) ?_
  show Go _ _ _ _ _ _ _ _ (mkF m 63 #[Si 2, Si 27] [(.int 4), (.int 2)])
  have hc5 : (2 : Int32) < (4 : Int32) := by decide
  refine Go.on (fun _ k => XS.icmpYes X0.here hx rfl (pc0 := 63) (pc' := 73) rfl (hb hby d15_63) rfl (tlt hc5).1 (by decide) (by decide) k) ?_
  refine Go.on (fun _ k => XS.iloadN X0.here hx rfl (hb hby d15_73) rfl k) ?_
  refine Go.on (fun _ k => XS.iloadN X0.here hx rfl (hb hby d15_74) rfl k) ?_
  refine Go.on (fun _ k => XS.iconst X0.here hx rfl (hb hby d15_75) k) ?_
  refine Go.on (fun _ k => XS.iushr X0.here hx rfl (hb hby d15_76) rfl k) ?_
  refine Go.on (fun _ k => XS.isub X0.here hx rfl (hb hby d15_77) rfl k) ?_
  show Go _ _ _ _ _ _ _ _ (mkF m 78 #[Si 2, Si 27] [(.int 26)])
  refine Go.retV X0 hx Bd.returns rfl (Or.inl ⟨rfl, Or.inl rfl, _, rfl⟩) (hb hby d15_78) ?_ (by rw [hK1]; decide) (by rw [hK2]; decide)
  rw [e0, ← hQQ]
  exact ⟨rfl, N0, rfl⟩
-- part C
theorem pd_8 : parseMethodDescriptor "(I)V" = some ⟨[.int], none⟩ := by decide +kernel
theorem d14_0 : decode prog_21_method_8_code 0 = .ok (.bipush 32, 2) := by decide +kernel
theorem d14_2 : decode prog_21_method_8_code 2 = .ok (.iconst 4, 1) := by decide +kernel
theorem d14_3 : decode prog_21_method_8_code 3 = .ok (.aload_n 0, 1) := by decide +kernel
theorem d14_4 : decode prog_21_method_8_code 4 = .ok (.getfield 21, 3) := by decide +kernel
theorem d14_7 : decode prog_21_method_8_code 7 = .ok (.imul, 1) := by decide +kernel
theorem d14_8 : decode prog_21_method_8_code 8 = .ok (.iconst 1, 1) := by decide +kernel
theorem d14_9 : decode prog_21_method_8_code 9 = .ok (.isub, 1) := by decide +kernel
theorem d14_10 : decode prog_21_method_8_code 10 = .ok (.invokestatic 81, 3) := by decide +kernel
theorem d14_13 : decode prog_21_method_8_code 13 = .ok (.isub, 1) := by decide +kernel
theorem d14_14 : decode prog_21_method_8_code 14 = .ok (.istore_n 1, 1) := by decide +kernel
theorem d14_15 : decode prog_21_method_8_code 15 = .ok (.aload_n 0, 1) := by decide +kernel
theorem d14_16 : decode prog_21_method_8_code 16 = .ok (.iconst 1, 1) := by decide +kernel
theorem d14_17 : decode prog_21_method_8_code 17 = .ok (.iload_n 1, 1) := by decide +kernel
theorem d14_18 : decode prog_21_method_8_code 18 = .ok (.ishl, 1) := by decide +kernel
theorem d14_19 : decode prog_21_method_8_code 19 = .ok (.newarray .int, 2) := by decide +kernel
theorem d14_21 : decode prog_21_method_8_code 21 = .ok (.putfield 25, 3) := by decide +kernel
theorem d14_24 : decode prog_21_method_8_code 24 = .ok (.aload_n 0, 1) := by decide +kernel
theorem d14_25 : decode prog_21_method_8_code 25 = .ok (.bipush 32, 2) := by decide +kernel
theorem d14_27 : decode prog_21_method_8_code 27 = .ok (.iload_n 1, 1) := by decide +kernel
theorem d14_28 : decode prog_21_method_8_code 28 = .ok (.isub, 1) := by decide +kernel
theorem d14_29 : decode prog_21_method_8_code 29 = .ok (.putfield 29, 3) := by decide +kernel
theorem d14_32 : decode prog_21_method_8_code 32 = .ok (.iconst 0, 1) := by decide +kernel
theorem d14_33 : decode prog_21_method_8_code 33 = .ok (.istore_n 2, 1) := by decide +kernel
theorem d14_34 : decode prog_21_method_8_code 34 = .ok (.iload_n 2, 1) := by decide +kernel
theorem d14_35 : decode prog_21_method_8_code 35 = .ok (.aload_n 0, 1) := by decide +kernel
theorem d14_36 : decode prog_21_method_8_code 36 = .ok (.getfield 21, 3) := by decide +kernel
theorem d14_39 : decode prog_21_method_8_code 39 = .ok (.if_icmp .ge 14, 3) := by decide +kernel
theorem d14_42 : decode prog_21_method_8_code 42 = .ok (.aload_n 0, 1) := by decide +kernel
theorem d14_43 : decode prog_21_method_8_code 43 = .ok (.iload_n 2, 1) := by decide +kernel
theorem d14_44 : decode prog_21_method_8_code 44 = .ok (.invokevirtual 51, 3) := by decide +kernel
theorem d14_47 : decode prog_21_method_8_code 47 = .ok (.iinc 2 1, 3) := by decide +kernel
theorem d14_50 : decode prog_21_method_8_code 50 = .ok (.goto (-16), 3) := by decide +kernel
theorem d14_53 : decode prog_21_method_8_code 53 = .ok (.return_, 1) := by decide +kernel
theorem ef_indexc (m : MethodId) (a0 : Addr) : entryFrame m #[(.ref a0)] 3 = mkF m 0 #[.val (.ref a0), .unset, .unset] [] := by first | (simp [entryFrame, mkF, argsToLocals, Value.category]; done) | rfl
def Q_indexc (Z : State) (a0 : Addr) (ml : List Int32) (zs : List Value) (am : Addr) (wa : Addr) (fp0 : Int64) (k_am : ClassId) (us : List Value) (h0 : Heap) (n0 : Nat) (v : Option Value) (h : Heap) (L : List Loc) : Prop := ∃ (sl : Addr) (k_sl : ClassId) (ts : List Int32), v = none ∧ Fr n0 L ∧ Keep h0 h [a0] ∧ Exa Z h a0 "com/example/due_weight/dueweight/core/Pairs" ∧ Fld Z h a0 "com/example/due_weight/dueweight/core/Pairs" "members" "[I" (.ref am) ∧ Fld Z h a0 "com/example/due_weight/dueweight/core/Pairs" "weights" "[D" (.ref wa) ∧ Fld Z h a0 "com/example/due_weight/dueweight/core/Pairs" "exact" "Z" (.int (1 : Int32)) ∧ Fld Z h a0 "com/example/due_weight/dueweight/core/Pairs" "slots" "[I" (.ref sl) ∧ Fld Z h a0 "com/example/due_weight/dueweight/core/Pairs" "length" "I" (.int (9 : Int32)) ∧ Fld Z h a0 "com/example/due_weight/dueweight/core/Pairs" "fingerprint" "J" (.long fp0) ∧ Fld Z h a0 "com/example/due_weight/dueweight/core/Pairs" "history" "Lcom/example/due_weight/dueweight/core/Pairs$History;" .null ∧ Fld Z h a0 "com/example/due_weight/dueweight/core/Pairs" "shift" "I" (.int (26 : Int32)) ∧ Arv Z h sl k_sl .int (64 : Int32) (ts.map Value.int) (.int (0 : Int32)) ∧ Tab 9 ts ml ∧ h0.size ≤ sl
set_option maxRecDepth 65536 in
set_option maxHeartbeats 40000000 in
theorem indexc (l : Launch) (Z : State) (aw : Array Value) (hw : ∀ d ∈ tables_1, d.before aw Z = true) (ws : List Jvm.Cond) (a0 : Addr) (ml : List Int32) (zs : List Value) (am : Addr) (wa : Addr) (fp0 : Int64) (k_am : ClassId) (us : List Value) (h0 : Heap) (n0 : Nat) (Z0 : n0 ≤ h0.size) (E_a0 : Exa Z h0 a0 "com/example/due_weight/dueweight/core/Pairs") (F_members_a0 : Fld Z h0 a0 "com/example/due_weight/dueweight/core/Pairs" "members" "[I" (.ref am)) (F_weights_a0 : Fld Z h0 a0 "com/example/due_weight/dueweight/core/Pairs" "weights" "[D" (.ref wa)) (F_exact_a0 : Fld Z h0 a0 "com/example/due_weight/dueweight/core/Pairs" "exact" "Z" (.int (1 : Int32))) (F_slots_a0 : Fld Z h0 a0 "com/example/due_weight/dueweight/core/Pairs" "slots" "[I" .null) (F_length_a0 : Fld Z h0 a0 "com/example/due_weight/dueweight/core/Pairs" "length" "I" (.int (9 : Int32))) (F_fingerprint_a0 : Fld Z h0 a0 "com/example/due_weight/dueweight/core/Pairs" "fingerprint" "J" (.long fp0)) (F_history_a0 : Fld Z h0 a0 "com/example/due_weight/dueweight/core/Pairs" "history" "Lcom/example/due_weight/dueweight/core/Pairs$History;" .null) (F_shift_a0 : Fld Z h0 a0 "com/example/due_weight/dueweight/core/Pairs" "shift" "I" (.int (0 : Int32))) (V_am : Arv Z h0 am k_am .int (16 : Int32) us (.int (0 : Int32))) (g_a0 : n0 ≤ a0) (ne_a0_am : a0 ≠ am) (hlm : ml.length = 9) (hus : us = ml.map Value.int ++ zs) :
    MetFree l (⟨"com/example/due_weight/dueweight/core/Pairs", "index", "()V"⟩ : MethodName) (head1 (Jvm.Cond.code (⟨"com/example/due_weight/dueweight/core/Pairs", "index", "()V"⟩ : MethodName) prog_21_method_8_code 3 none :: ws) ({ frames := 1, cells := 1, slots := 64, locals := 14 } : Room)) (fun a U => a = #[(.ref a0)] ∧ Z.Warmed39 U.vm ∧ U.heap = h0) (fun _ _ _ _ _ => True) (fun _ U o U' => ∃ v L, o = .returned v ∧ Q_indexc Z a0 ml zs am wa fp0 k_am us h0 n0 v U'.heap L ∧ FrameEnd U o U' L ({ frames := 1, cells := 1, slots := 64, locals := 14 } : Room).cells ({ frames := 1, cells := 1, slots := 64, locals := 14 } : Room).slots) := by
  refine MetFree.of_bodySF (plainFor_of_name pn_0) hisR ?_
  intro p e s m args below meth c s₁ Bd hml0 hP hK
  obtain ⟨rfl, hZ, hh⟩ := hP
  have hx := Bd.exec
  have hby := Bd.bytes
  have hml : c.maxLocals = 3 := hml0
  have hown : s.vm.findClass "com/example/due_weight/dueweight/core/Pairs" = some m.cls := findClass_of_methodNamed Bd.named
  have hnm := (name_of_methodNamed Bd.named Bd.method).1
  have hlk : meth.locks = false := BodyLoose.notSynchronized Bd
  have X0 : Stand p l e ({ frames := 1, cells := 1, slots := 64, locals := 14 } : Room) s m #[(.ref a0)] below meth c s₁ [] 0 0 := Stand.of_body Bd
  have e0 : s₁.heap = h0 := by rw [← hh, Bd.state]; rfl
  have N0 := Fr.nil n0
  have ZZ := Z0
  show Go p e below s ({ frames := 1, cells := 1, slots := 64, locals := 14 } : Room).cells ({ frames := 1, cells := 1, slots := 64, locals := 14 } : Room).slots (fun v h L => Q_indexc Z a0 ml zs am wa fp0 k_am us h0 n0 v h L) s₁ (entryFrame m #[(.ref a0)] 3)
  refine Go.cast (ef_indexc m a0) ?_
  refine Go.gen ?_
  intro K1 K2 QQ hK1 hK2 hQQ
  have KP : Keep h0 h0 [a0] := Keep.refl _ _
  refine Go.on (fun _ k => XS.bipush X0.here hx rfl (hb hby d14_0) k) ?_
  refine Go.on (fun _ k => XS.iconst X0.here hx rfl (hb hby d14_2) k) ?_
  refine Go.on (fun _ k => XS.aloadN X0.here hx rfl (hb hby d14_3) rfl rfl k) ?_
  show Go _ _ _ _ _ _ _ _ (mkF m 4 #[Sr a0, .unset, .unset] [(.ref a0), (.int 4), (.int 32)])
  obtain ⟨T1, X1, e1, st1⟩ := getF X0 hx hZ hown (host := "") (Or.inl (hw _ (List.mem_of_getElem? (i := 30) rfl))) Via.refl e0 F_length_a0 (g := (mkF m 4 #[Sr a0, .unset, .unset] [(.ref a0), (.int 4), (.int 32)])) rfl rfl (hb hby d14_4)
  refine Go.on st1 ?_
  show Go _ _ _ _ _ _ _ _ (mkF m 7 #[Sr a0, .unset, .unset] [(.int 9), (.int 4), (.int 32)])
  refine Go.on (fun _ k => XS.imul X1.here hx rfl (hb hby d14_7) rfl k) ?_
  refine Go.on (fun _ k => XS.iconst X1.here hx rfl (hb hby d14_8) k) ?_
  refine Go.on (fun _ k => XS.isub X1.here hx rfl (hb hby d14_9) rfl k) ?_
  show Go _ _ _ _ _ _ _ _ (mkF m 10 #[Sr a0, .unset, .unset] [(.int 35), (.int 32)])
  obtain ⟨_, _, ⟨T2, L2, k2, n2⟩, -, X2, ⟨Lc2, hQ2, l2, y2, z2⟩, st2⟩ := Jvm.LawKit.callS X1 hx (y := (⟨"java/lang/Integer", "numberOfLeadingZeros", "(I)I"⟩ : MethodName)) hown (mvT hZ (hw _ (List.mem_of_getElem? (i := 80) rfl))) (mvT hZ (hw _ (List.mem_of_getElem? (i := 81) rfl))) (mvT hZ (hw _ (List.mem_of_getElem? (i := 82) rfl))) (mvT hZ (hw _ (List.mem_of_getElem? (i := 83) rfl))) (by decide) (backOf (W := 1) (nlz35 l Z aw hw []   h0 n0 ZZ ) hZ (hw _ (List.mem_of_getElem? (i := 83) rfl)) (hw _ (List.mem_of_getElem? (i := 82) rfl)) (by decide) (by decide)) (g := (mkF m 10 #[Sr a0, .unset, .unset] [(.int 35), (.int 32)])) rfl (by rw [hml]; rfl) (argsL := [(.int (35 : Int32))]) (rest := [(.int (32 : Int32))]) (lenOf pd_4 rfl) rfl (by show 2 * 0 + _ ≤ _; exact Nat.le_of_eq rfl) (hb hby d14_10) (fun _ _ => ⟨rfl, e1, (by decide : 0 + 0 ≤ _), (by decide : 0 + 0 ≤ _)⟩)
  dsimp only [Pt.U, Pt.locs, Pt.cells, Pt.slots] at X2 l2 y2 z2 st2 hQ2
  subst l2 y2 z2
  obtain ⟨rfl, N2q, e2⟩ := hQ2
  have N2 := Fr.app N0 N2q
  refine Go.on st2 ?_
  show Go _ _ _ _ _ _ _ _ (mkF m 13 #[Sr a0, .unset, .unset] [(.int 26), (.int 32)])
  refine Go.on (fun _ k => XS.isub X2.here hx rfl (hb hby d14_13) rfl k) ?_
  show Go _ _ _ _ _ _ _ _ (mkF m 14 #[Sr a0, .unset, .unset] [(.int 6)])
  refine Go.on (fun _ k => XS.istoreN X2.here hx rfl (hb hby d14_14) rfl (l' := #[.val (.ref a0), .val (.int (6 : Int32)), .unset]) rfl k) ?_
  show Go _ _ _ _ _ _ _ _ (mkF m 15 #[Sr a0, Si 6, .unset] [])
  refine Go.on (fun _ k => XS.aloadN X2.here hx rfl (hb hby d14_15) rfl rfl k) ?_
  refine Go.on (fun _ k => XS.iconst X2.here hx rfl (hb hby d14_16) k) ?_
  refine Go.on (fun _ k => XS.iloadN X2.here hx rfl (hb hby d14_17) rfl k) ?_
  show Go _ _ _ _ _ _ _ _ (mkF m 18 #[Sr a0, Si 6, .unset] [(.int 6), (.int 1), (.ref a0)])
  refine Go.on (fun _ k => XS.ishl X2.here hx rfl (hb hby d14_18) rfl k) ?_
  show Go _ _ _ _ _ _ _ _ (mkF m 19 #[Sr a0, Si 6, .unset] [(.int 64), (.ref a0)])
  obtain ⟨T3, h3, k_sl, X3, e3, E3, A3, st3⟩ := newP X2 hx hZ (hw _ (List.mem_of_getElem? (i := 10) rfl)) e2 (g := (mkF m 19 #[Sr a0, Si 6, .unset] [(.int 64), (.ref a0)])) rfl (hb hby d14_19) rfl (by decide) (cap := 64) (by decide) (by decide) (by decide) (by decide)
  obtain ⟨sl, g3⟩ : ∃ z, z = h0.size := ⟨_, rfl⟩
  have ne_a0_sl : a0 ≠ sl := Nat.ne_of_lt (Nat.lt_of_lt_of_le E_a0.lt (Nat.le_of_eq g3.symm))
  have ne_am_sl : am ≠ sl := Nat.ne_of_lt (Nat.lt_of_lt_of_le V_am.lt (Nat.le_of_eq g3.symm))
  have g_sl : n0 ≤ sl := Nat.le_trans ZZ (Nat.le_of_eq g3.symm)
  have sz_sl : h0.size ≤ sl := Nat.le_trans KP.1 (Nat.le_of_eq g3.symm)
  rw [← g3] at A3 st3
  replace E_a0 := E_a0.ext E3
  replace F_members_a0 := F_members_a0.ext E3
  replace F_weights_a0 := F_weights_a0.ext E3
  replace F_exact_a0 := F_exact_a0.ext E3
  replace F_slots_a0 := F_slots_a0.ext E3
  replace F_length_a0 := F_length_a0.ext E3
  replace F_fingerprint_a0 := F_fingerprint_a0.ext E3
  replace F_history_a0 := F_history_a0.ext E3
  replace F_shift_a0 := F_shift_a0.ext E3
  replace V_am := V_am.ext E3
  replace ZZ := Nat.le_trans ZZ E3.1
  replace KP := KP.ext E3
  have V_sl : Arv Z h3 sl k_sl .int (64 : Int32) [(.int (0 : Int32)), (.int (0 : Int32)), (.int (0 : Int32)), (.int (0 : Int32)), (.int (0 : Int32)), (.int (0 : Int32)), (.int (0 : Int32)), (.int (0 : Int32)), (.int (0 : Int32)), (.int (0 : Int32)), (.int (0 : Int32)), (.int (0 : Int32)), (.int (0 : Int32)), (.int (0 : Int32)), (.int (0 : Int32)), (.int (0 : Int32)), (.int (0 : Int32)), (.int (0 : Int32)), (.int (0 : Int32)), (.int (0 : Int32)), (.int (0 : Int32)), (.int (0 : Int32)), (.int (0 : Int32)), (.int (0 : Int32)), (.int (0 : Int32)), (.int (0 : Int32)), (.int (0 : Int32)), (.int (0 : Int32)), (.int (0 : Int32)), (.int (0 : Int32)), (.int (0 : Int32)), (.int (0 : Int32)), (.int (0 : Int32)), (.int (0 : Int32)), (.int (0 : Int32)), (.int (0 : Int32)), (.int (0 : Int32)), (.int (0 : Int32)), (.int (0 : Int32)), (.int (0 : Int32)), (.int (0 : Int32)), (.int (0 : Int32)), (.int (0 : Int32)), (.int (0 : Int32)), (.int (0 : Int32)), (.int (0 : Int32)), (.int (0 : Int32)), (.int (0 : Int32)), (.int (0 : Int32)), (.int (0 : Int32)), (.int (0 : Int32)), (.int (0 : Int32)), (.int (0 : Int32)), (.int (0 : Int32)), (.int (0 : Int32)), (.int (0 : Int32)), (.int (0 : Int32)), (.int (0 : Int32)), (.int (0 : Int32)), (.int (0 : Int32)), (.int (0 : Int32)), (.int (0 : Int32)), (.int (0 : Int32)), (.int (0 : Int32))] (.int (0 : Int32)) := (Arv.new A3 (by decide)).pad (pad_rep [] (.int (0 : Int32)) 64)
  refine Go.on st3 ?_
  show Go _ _ _ _ _ _ _ _ (mkF m 21 #[Sr a0, Si 6, .unset] [(.ref sl), (.ref a0)])
  replace V_sl : Arv Z h3 sl k_sl .int (64 : Int32) ((List.replicate 64 (0 : Int32)).map Value.int) (.int (0 : Int32)) := V_sl
  have ht0 : Tab 0 (List.replicate 64 (0 : Int32)) ml := Tab.start
  generalize List.replicate 64 (0 : Int32) = ts0 at V_sl ht0
  obtain ⟨T4, h4, X4, e4, W4, st4⟩ := putF X3 hx hZ hown (host := "") (Or.inl (hw _ (List.mem_of_getElem? (i := 28) rfl))) Via.refl e3 F_slots_a0 E_a0 (Or.inl (hw _ (List.mem_of_getElem? (i := 29) rfl))) (hw _ (List.mem_of_getElem? (i := 2) rfl)) (ty := (.array .int)) (by decide) rfl rfl (g := (mkF m 21 #[Sr a0, Si 6, .unset] [(.ref sl), (.ref a0)])) rfl rfl (hb hby d14_21)
  refine Go.on st4 ?_
  replace F_slots_a0 := F_slots_a0.same W4
  replace E_a0 := E_a0.wr W4
  replace F_members_a0 := F_members_a0.other W4 (Or.inr (slot_ne (Or.inl (hw _ (List.mem_of_getElem? (i := 12) rfl))) (Or.inl (hw _ (List.mem_of_getElem? (i := 29) rfl))) (by decide) (t := (.array .int)) (t' := (.array .int)) (by decide) (by decide)))
  replace F_weights_a0 := F_weights_a0.other W4 (Or.inr (slot_ne (Or.inl (hw _ (List.mem_of_getElem? (i := 15) rfl))) (Or.inl (hw _ (List.mem_of_getElem? (i := 29) rfl))) (by decide) (t := (.array .double)) (t' := (.array .int)) (by decide) (by decide)))
  replace F_exact_a0 := F_exact_a0.other W4 (Or.inr (slot_ne (Or.inl (hw _ (List.mem_of_getElem? (i := 17) rfl))) (Or.inl (hw _ (List.mem_of_getElem? (i := 29) rfl))) (by decide) (t := .boolean) (t' := (.array .int)) (by decide) (by decide)))
  replace F_length_a0 := F_length_a0.other W4 (Or.inr (slot_ne (Or.inl (hw _ (List.mem_of_getElem? (i := 31) rfl))) (Or.inl (hw _ (List.mem_of_getElem? (i := 29) rfl))) (by decide) (t := .int) (t' := (.array .int)) (by decide) (by decide)))
  replace F_fingerprint_a0 := F_fingerprint_a0.other W4 (Or.inr (slot_ne (Or.inl (hw _ (List.mem_of_getElem? (i := 33) rfl))) (Or.inl (hw _ (List.mem_of_getElem? (i := 29) rfl))) (by decide) (t := .long) (t' := (.array .int)) (by decide) (by decide)))
  replace F_history_a0 := F_history_a0.other W4 (Or.inr (slot_ne (Or.inl (hw _ (List.mem_of_getElem? (i := 52) rfl))) (Or.inl (hw _ (List.mem_of_getElem? (i := 29) rfl))) (by decide) (t := (.object "com/example/due_weight/dueweight/core/Pairs$History")) (t' := (.array .int)) (by decide) (by decide)))
  replace F_shift_a0 := F_shift_a0.other W4 (Or.inr (slot_ne (Or.inl (hw _ (List.mem_of_getElem? (i := 86) rfl))) (Or.inl (hw _ (List.mem_of_getElem? (i := 29) rfl))) (by decide) (t := .int) (t' := (.array .int)) (by decide) (by decide)))
  replace V_am := V_am.other W4 (Ne.symm ne_a0_am)
  replace V_sl := V_sl.other W4 (Ne.symm ne_a0_sl)
  have N4 := Fr.snoc X4 N2 g_a0
  replace ZZ := Nat.le_trans ZZ (Keep.of_wr W4).1
  replace KP := KP.wr W4 (Or.inl (List.mem_of_getElem? (i := 0) rfl))
  show Go _ _ _ _ _ _ _ _ (mkF m 24 #[Sr a0, Si 6, .unset] [])
  refine Go.on (fun _ k => XS.aloadN X4.here hx rfl (hb hby d14_24) rfl rfl k) ?_
  refine Go.on (fun _ k => XS.bipush X4.here hx rfl (hb hby d14_25) k) ?_
  refine Go.on (fun _ k => XS.iloadN X4.here hx rfl (hb hby d14_27) rfl k) ?_
  refine Go.on (fun _ k => XS.isub X4.here hx rfl (hb hby d14_28) rfl k) ?_
  show Go _ _ _ _ _ _ _ _ (mkF m 29 #[Sr a0, Si 6, .unset] [(.int 26), (.ref a0)])
  obtain ⟨T5, h5, X5, e5, W5, st5⟩ := putF X4 hx hZ hown (host := "") (Or.inl (hw _ (List.mem_of_getElem? (i := 85) rfl))) Via.refl e4 F_shift_a0 E_a0 (Or.inl (hw _ (List.mem_of_getElem? (i := 86) rfl))) (hw _ (List.mem_of_getElem? (i := 2) rfl)) (ty := .int) (by decide) rfl rfl (g := (mkF m 29 #[Sr a0, Si 6, .unset] [(.int 26), (.ref a0)])) rfl rfl (hb hby d14_29)
  refine Go.on st5 ?_
  replace F_shift_a0 := F_shift_a0.same W5
  replace E_a0 := E_a0.wr W5
  replace F_members_a0 := F_members_a0.other W5 (Or.inr (slot_ne (Or.inl (hw _ (List.mem_of_getElem? (i := 12) rfl))) (Or.inl (hw _ (List.mem_of_getElem? (i := 86) rfl))) (by decide) (t := (.array .int)) (t' := .int) (by decide) (by decide)))
  replace F_weights_a0 := F_weights_a0.other W5 (Or.inr (slot_ne (Or.inl (hw _ (List.mem_of_getElem? (i := 15) rfl))) (Or.inl (hw _ (List.mem_of_getElem? (i := 86) rfl))) (by decide) (t := (.array .double)) (t' := .int) (by decide) (by decide)))
  replace F_exact_a0 := F_exact_a0.other W5 (Or.inr (slot_ne (Or.inl (hw _ (List.mem_of_getElem? (i := 17) rfl))) (Or.inl (hw _ (List.mem_of_getElem? (i := 86) rfl))) (by decide) (t := .boolean) (t' := .int) (by decide) (by decide)))
  replace F_slots_a0 := F_slots_a0.other W5 (Or.inr (slot_ne (Or.inl (hw _ (List.mem_of_getElem? (i := 29) rfl))) (Or.inl (hw _ (List.mem_of_getElem? (i := 86) rfl))) (by decide) (t := (.array .int)) (t' := .int) (by decide) (by decide)))
  replace F_length_a0 := F_length_a0.other W5 (Or.inr (slot_ne (Or.inl (hw _ (List.mem_of_getElem? (i := 31) rfl))) (Or.inl (hw _ (List.mem_of_getElem? (i := 86) rfl))) (by decide) (t := .int) (t' := .int) (by decide) (by decide)))
  replace F_fingerprint_a0 := F_fingerprint_a0.other W5 (Or.inr (slot_ne (Or.inl (hw _ (List.mem_of_getElem? (i := 33) rfl))) (Or.inl (hw _ (List.mem_of_getElem? (i := 86) rfl))) (by decide) (t := .long) (t' := .int) (by decide) (by decide)))
  replace F_history_a0 := F_history_a0.other W5 (Or.inr (slot_ne (Or.inl (hw _ (List.mem_of_getElem? (i := 52) rfl))) (Or.inl (hw _ (List.mem_of_getElem? (i := 86) rfl))) (by decide) (t := (.object "com/example/due_weight/dueweight/core/Pairs$History")) (t' := .int) (by decide) (by decide)))
  replace V_am := V_am.other W5 (Ne.symm ne_a0_am)
  replace V_sl := V_sl.other W5 (Ne.symm ne_a0_sl)
  have N5 := Fr.snoc X5 N4 g_a0
  replace ZZ := Nat.le_trans ZZ (Keep.of_wr W5).1
  replace KP := KP.wr W5 (Or.inl (List.mem_of_getElem? (i := 0) rfl))
  show Go _ _ _ _ _ _ _ _ (mkF m 32 #[Sr a0, Si 6, .unset] [])
  refine Go.on (fun _ k => XS.iconst X5.here hx rfl (hb hby d14_32) k) ?_
  show Go _ _ _ _ _ _ _ _ (mkF m 33 #[Sr a0, Si 6, .unset] [(.int 0)])
  refine Go.on (fun _ k => XS.istoreN X5.here hx rfl (hb hby d14_33) rfl (l' := #[.val (.ref a0), .val (.int (6 : Int32)), .val (.int (0 : Int32))]) rfl k) ?_
  show Go _ _ _ _ _ _ _ _ (mkF m 34 #[Sr a0, Si 6, Si 0] [])
  refine Go.on (fun _ k => XS.iloadN X5.here hx rfl (hb hby d14_34) rfl k) ?_
  refine Go.on (fun _ k => XS.aloadN X5.here hx rfl (hb hby d14_35) rfl rfl k) ?_
  show Go _ _ _ _ _ _ _ _ (mkF m 36 #[Sr a0, Si 6, Si 0] [(.ref a0), (.int 0)])
  obtain ⟨T6, X6, e6, st6⟩ := getF X5 hx hZ hown (host := "") (Or.inl (hw _ (List.mem_of_getElem? (i := 30) rfl))) Via.refl e5 F_length_a0 (g := (mkF m 36 #[Sr a0, Si 6, Si 0] [(.ref a0), (.int 0)])) rfl rfl (hb hby d14_36)
  refine Go.on st6 ?_
  show Go _ _ _ _ _ _ _ _ (mkF m 39 #[Sr a0, Si 6, Si 0] [(.int 9), (.int 0)])
  have hc7 : (0 : Int32) < (9 : Int32) := by decide
  refine Go.on (fun _ k => XS.icmpNo X6.here hx rfl (hb hby d14_39) rfl (tlt hc7).2.1 k) ?_
  refine Go.on (fun _ k => XS.aloadN X6.here hx rfl (hb hby d14_42) rfl rfl k) ?_
  refine Go.on (fun _ k => XS.iloadN X6.here hx rfl (hb hby d14_43) rfl k) ?_
  show Go _ _ _ _ _ _ _ _ (mkF m 44 #[Sr a0, Si 6, Si 0] [(.int 0), (.ref a0)])
  obtain ⟨kz0, hr0, he0⟩ := own_dist ht0.1 (by have := ht0.2.1; omega) (hN (ml.getD 0 0))
  obtain ⟨cq8, q8, q8'⟩ := E_a0.cell
  obtain ⟨_, _, ⟨T8, L8, k8, n8⟩, -, X8, ⟨Lc8, hQ8, l8, y8, z8⟩, st8⟩ := X6.privateBack hx (y := (⟨"com/example/due_weight/dueweight/core/Pairs", "fill", "(I)V"⟩ : MethodName)) hown (mvT hZ (hw _ (List.mem_of_getElem? (i := 87) rfl))) (mvT hZ (hw _ (List.mem_of_getElem? (i := 88) rfl))) (own_selp (mvT hZ (hw _ (List.mem_of_getElem? (i := 2) rfl))) (mvP hZ (hw _ (List.mem_of_getElem? (i := 89) rfl))) (mvT hZ (hw _ (List.mem_of_getElem? (i := 88) rfl))) (by decide)) (Cond.privateMethod_at (mvP hZ (hw _ (List.mem_of_getElem? (i := 89) rfl)) (args := #[]))) (mvT hZ (hw _ (List.mem_of_getElem? (i := 90) rfl))) (by decide) (backOf (W := 0) (fillc l Z aw hw [] a0 (0 : Int32) ts0 (ml.getD 0 0) kz0 ((hN (ml.getD 0 0) + kz0) % 64) am sl k_am us k_sl h5 n0 ZZ F_members_a0 F_shift_a0 F_slots_a0 V_am V_sl g_sl ne_a0_sl ne_am_sl (by decide) (own_hatn (n := 0) hus hlm (by decide)) ht0.1 hr0 he0 rfl) hZ (hw _ (List.mem_of_getElem? (i := 90) rfl)) (hw _ (List.mem_of_getElem? (i := 3) rfl)) (by decide) (by decide)) (g := (mkF m 44 #[Sr a0, Si 6, Si 0] [(.int 0), (.ref a0)])) rfl (by rw [hml]; rfl) (Steps.refl _) (a := a0) (by rw [e6]; exact q8) q8' (argsL := [(.int (0 : Int32))]) (rest := []) (lenOf pd_8 rfl) rfl (by show 2 * 0 + _ ≤ _; exact Nat.le_of_eq rfl) (hb hby d14_44) (fun _ _ => ⟨rfl, e6, (by decide : 1 + 0 ≤ _), (by decide : 64 + 0 ≤ _)⟩)
  dsimp only [Pt.U, Pt.locs, Pt.cells, Pt.slots] at X8 l8 y8 z8 st8 hQ8
  subst l8 y8 z8
  obtain ⟨h8, e8⟩ : ∃ q, T8.heap = q := ⟨_, rfl⟩
  rw [e8] at hQ8
  obtain ⟨rfl, N8q, K8q, VQ8⟩ := hQ8
  have N8 := Fr.app N5 N8q
  replace E_a0 := E_a0.keep K8q
  replace F_members_a0 := F_members_a0.keep K8q (ninS ne_a0_sl nin0)
  replace F_weights_a0 := F_weights_a0.keep K8q (ninS ne_a0_sl nin0)
  replace F_exact_a0 := F_exact_a0.keep K8q (ninS ne_a0_sl nin0)
  replace F_slots_a0 := F_slots_a0.keep K8q (ninS ne_a0_sl nin0)
  replace F_length_a0 := F_length_a0.keep K8q (ninS ne_a0_sl nin0)
  replace F_fingerprint_a0 := F_fingerprint_a0.keep K8q (ninS ne_a0_sl nin0)
  replace F_history_a0 := F_history_a0.keep K8q (ninS ne_a0_sl nin0)
  replace F_shift_a0 := F_shift_a0.keep K8q (ninS ne_a0_sl nin0)
  replace V_am := V_am.keep K8q (ninS ne_am_sl nin0)
  replace ZZ := Nat.le_trans ZZ K8q.1
  replace KP := KP.trans K8q (allS (Or.inr sz_sl) all0)
  have ht1 := ht0.fill (by decide) hr0 he0
  rw [show (0 : Int32) + (1 : Int32) = val 0 from by decide] at VQ8
  generalize ts0.set ((hN (ml.getD 0 0) + kz0) % 64) (val 0) = ts1 at VQ8 ht1
  have V_sl := VQ8
  refine Go.on (fun _ k => st8.trans k) ?_
  show Go _ _ _ _ _ _ _ _ (mkF m 47 #[Sr a0, Si 6, Si 0] [])
  refine Go.on (fun _ k => XS.iinc X8.here hx rfl (hb hby d14_47) rfl (l' := #[.val (.ref a0), .val (.int (6 : Int32)), .val (.int (1 : Int32))]) rfl k) ?_
  show Go _ _ _ _ _ _ _ _ (mkF m 50 #[Sr a0, Si 6, Si 1] [])
  refine Go.on (fun _ k => XS.goto X8.here hx rfl (pc0 := 50) (pc' := 34) rfl (hb hby d14_50) (by decide) (by decide) k) ?_
  refine Go.on (fun _ k => XS.iloadN X8.here hx rfl (hb hby d14_34) rfl k) ?_
  refine Go.on (fun _ k => XS.aloadN X8.here hx rfl (hb hby d14_35) rfl rfl k) ?_
  show Go _ _ _ _ _ _ _ _ (mkF m 36 #[Sr a0, Si 6, Si 1] [(.ref a0), (.int 1)])
  obtain ⟨T9, X9, e9, st9⟩ := getF X8 hx hZ hown (host := "") (Or.inl (hw _ (List.mem_of_getElem? (i := 30) rfl))) Via.refl e8 F_length_a0 (g := (mkF m 36 #[Sr a0, Si 6, Si 1] [(.ref a0), (.int 1)])) rfl rfl (hb hby d14_36)
  refine Go.on st9 ?_
  show Go _ _ _ _ _ _ _ _ (mkF m 39 #[Sr a0, Si 6, Si 1] [(.int 9), (.int 1)])
  have hc10 : (1 : Int32) < (9 : Int32) := by decide
  refine Go.on (fun _ k => XS.icmpNo X9.here hx rfl (hb hby d14_39) rfl (tlt hc10).2.1 k) ?_
  refine Go.on (fun _ k => XS.aloadN X9.here hx rfl (hb hby d14_42) rfl rfl k) ?_
  refine Go.on (fun _ k => XS.iloadN X9.here hx rfl (hb hby d14_43) rfl k) ?_
  show Go _ _ _ _ _ _ _ _ (mkF m 44 #[Sr a0, Si 6, Si 1] [(.int 1), (.ref a0)])
  obtain ⟨kz1, hr1, he1⟩ := own_dist ht1.1 (by have := ht1.2.1; omega) (hN (ml.getD 1 0))
  obtain ⟨cq11, q11, q11'⟩ := E_a0.cell
  obtain ⟨_, _, ⟨T11, L11, k11, n11⟩, -, X11, ⟨Lc11, hQ11, l11, y11, z11⟩, st11⟩ := X9.privateBack hx (y := (⟨"com/example/due_weight/dueweight/core/Pairs", "fill", "(I)V"⟩ : MethodName)) hown (mvT hZ (hw _ (List.mem_of_getElem? (i := 87) rfl))) (mvT hZ (hw _ (List.mem_of_getElem? (i := 88) rfl))) (own_selp (mvT hZ (hw _ (List.mem_of_getElem? (i := 2) rfl))) (mvP hZ (hw _ (List.mem_of_getElem? (i := 89) rfl))) (mvT hZ (hw _ (List.mem_of_getElem? (i := 88) rfl))) (by decide)) (Cond.privateMethod_at (mvP hZ (hw _ (List.mem_of_getElem? (i := 89) rfl)) (args := #[]))) (mvT hZ (hw _ (List.mem_of_getElem? (i := 90) rfl))) (by decide) (backOf (W := 0) (fillc l Z aw hw [] a0 (1 : Int32) ts1 (ml.getD 1 0) kz1 ((hN (ml.getD 1 0) + kz1) % 64) am sl k_am us k_sl h8 n0 ZZ F_members_a0 F_shift_a0 F_slots_a0 V_am V_sl g_sl ne_a0_sl ne_am_sl (by decide) (own_hatn (n := 1) hus hlm (by decide)) ht1.1 hr1 he1 rfl) hZ (hw _ (List.mem_of_getElem? (i := 90) rfl)) (hw _ (List.mem_of_getElem? (i := 3) rfl)) (by decide) (by decide)) (g := (mkF m 44 #[Sr a0, Si 6, Si 1] [(.int 1), (.ref a0)])) rfl (by rw [hml]; rfl) (Steps.refl _) (a := a0) (by rw [e9]; exact q11) q11' (argsL := [(.int (1 : Int32))]) (rest := []) (lenOf pd_8 rfl) rfl (by show 2 * 0 + _ ≤ _; exact Nat.le_of_eq rfl) (hb hby d14_44) (fun _ _ => ⟨rfl, e9, (by decide : 1 + 0 ≤ _), (by decide : 64 + 0 ≤ _)⟩)
  dsimp only [Pt.U, Pt.locs, Pt.cells, Pt.slots] at X11 l11 y11 z11 st11 hQ11
  subst l11 y11 z11
  obtain ⟨h11, e11⟩ : ∃ q, T11.heap = q := ⟨_, rfl⟩
  rw [e11] at hQ11
  obtain ⟨rfl, N11q, K11q, VQ11⟩ := hQ11
  have N11 := Fr.app N8 N11q
  replace E_a0 := E_a0.keep K11q
  replace F_members_a0 := F_members_a0.keep K11q (ninS ne_a0_sl nin0)
  replace F_weights_a0 := F_weights_a0.keep K11q (ninS ne_a0_sl nin0)
  replace F_exact_a0 := F_exact_a0.keep K11q (ninS ne_a0_sl nin0)
  replace F_slots_a0 := F_slots_a0.keep K11q (ninS ne_a0_sl nin0)
  replace F_length_a0 := F_length_a0.keep K11q (ninS ne_a0_sl nin0)
  replace F_fingerprint_a0 := F_fingerprint_a0.keep K11q (ninS ne_a0_sl nin0)
  replace F_history_a0 := F_history_a0.keep K11q (ninS ne_a0_sl nin0)
  replace F_shift_a0 := F_shift_a0.keep K11q (ninS ne_a0_sl nin0)
  replace V_am := V_am.keep K11q (ninS ne_am_sl nin0)
  replace ZZ := Nat.le_trans ZZ K11q.1
  replace KP := KP.trans K11q (allS (Or.inr sz_sl) all0)
  have ht2 := ht1.fill (by decide) hr1 he1
  rw [show (1 : Int32) + (1 : Int32) = val 1 from by decide] at VQ11
  generalize ts1.set ((hN (ml.getD 1 0) + kz1) % 64) (val 1) = ts2 at VQ11 ht2
  have V_sl := VQ11
  refine Go.on (fun _ k => st11.trans k) ?_
  show Go _ _ _ _ _ _ _ _ (mkF m 47 #[Sr a0, Si 6, Si 1] [])
  refine Go.on (fun _ k => XS.iinc X11.here hx rfl (hb hby d14_47) rfl (l' := #[.val (.ref a0), .val (.int (6 : Int32)), .val (.int (2 : Int32))]) rfl k) ?_
  show Go _ _ _ _ _ _ _ _ (mkF m 50 #[Sr a0, Si 6, Si 2] [])
  refine Go.on (fun _ k => XS.goto X11.here hx rfl (pc0 := 50) (pc' := 34) rfl (hb hby d14_50) (by decide) (by decide) k) ?_
  refine Go.on (fun _ k => XS.iloadN X11.here hx rfl (hb hby d14_34) rfl k) ?_
  refine Go.on (fun _ k => XS.aloadN X11.here hx rfl (hb hby d14_35) rfl rfl k) ?_
  show Go _ _ _ _ _ _ _ _ (mkF m 36 #[Sr a0, Si 6, Si 2] [(.ref a0), (.int 2)])
  obtain ⟨T12, X12, e12, st12⟩ := getF X11 hx hZ hown (host := "") (Or.inl (hw _ (List.mem_of_getElem? (i := 30) rfl))) Via.refl e11 F_length_a0 (g := (mkF m 36 #[Sr a0, Si 6, Si 2] [(.ref a0), (.int 2)])) rfl rfl (hb hby d14_36)
  refine Go.on st12 ?_
  show Go _ _ _ _ _ _ _ _ (mkF m 39 #[Sr a0, Si 6, Si 2] [(.int 9), (.int 2)])
  have hc13 : (2 : Int32) < (9 : Int32) := by decide
  refine Go.on (fun _ k => XS.icmpNo X12.here hx rfl (hb hby d14_39) rfl (tlt hc13).2.1 k) ?_
  refine Go.on (fun _ k => XS.aloadN X12.here hx rfl (hb hby d14_42) rfl rfl k) ?_
  refine Go.on (fun _ k => XS.iloadN X12.here hx rfl (hb hby d14_43) rfl k) ?_
  show Go _ _ _ _ _ _ _ _ (mkF m 44 #[Sr a0, Si 6, Si 2] [(.int 2), (.ref a0)])
  obtain ⟨kz2, hr2, he2⟩ := own_dist ht2.1 (by have := ht2.2.1; omega) (hN (ml.getD 2 0))
  obtain ⟨cq14, q14, q14'⟩ := E_a0.cell
  obtain ⟨_, _, ⟨T14, L14, k14, n14⟩, -, X14, ⟨Lc14, hQ14, l14, y14, z14⟩, st14⟩ := X12.privateBack hx (y := (⟨"com/example/due_weight/dueweight/core/Pairs", "fill", "(I)V"⟩ : MethodName)) hown (mvT hZ (hw _ (List.mem_of_getElem? (i := 87) rfl))) (mvT hZ (hw _ (List.mem_of_getElem? (i := 88) rfl))) (own_selp (mvT hZ (hw _ (List.mem_of_getElem? (i := 2) rfl))) (mvP hZ (hw _ (List.mem_of_getElem? (i := 89) rfl))) (mvT hZ (hw _ (List.mem_of_getElem? (i := 88) rfl))) (by decide)) (Cond.privateMethod_at (mvP hZ (hw _ (List.mem_of_getElem? (i := 89) rfl)) (args := #[]))) (mvT hZ (hw _ (List.mem_of_getElem? (i := 90) rfl))) (by decide) (backOf (W := 0) (fillc l Z aw hw [] a0 (2 : Int32) ts2 (ml.getD 2 0) kz2 ((hN (ml.getD 2 0) + kz2) % 64) am sl k_am us k_sl h11 n0 ZZ F_members_a0 F_shift_a0 F_slots_a0 V_am V_sl g_sl ne_a0_sl ne_am_sl (by decide) (own_hatn (n := 2) hus hlm (by decide)) ht2.1 hr2 he2 rfl) hZ (hw _ (List.mem_of_getElem? (i := 90) rfl)) (hw _ (List.mem_of_getElem? (i := 3) rfl)) (by decide) (by decide)) (g := (mkF m 44 #[Sr a0, Si 6, Si 2] [(.int 2), (.ref a0)])) rfl (by rw [hml]; rfl) (Steps.refl _) (a := a0) (by rw [e12]; exact q14) q14' (argsL := [(.int (2 : Int32))]) (rest := []) (lenOf pd_8 rfl) rfl (by show 2 * 0 + _ ≤ _; exact Nat.le_of_eq rfl) (hb hby d14_44) (fun _ _ => ⟨rfl, e12, (by decide : 1 + 0 ≤ _), (by decide : 64 + 0 ≤ _)⟩)
  dsimp only [Pt.U, Pt.locs, Pt.cells, Pt.slots] at X14 l14 y14 z14 st14 hQ14
  subst l14 y14 z14
  obtain ⟨h14, e14⟩ : ∃ q, T14.heap = q := ⟨_, rfl⟩
  rw [e14] at hQ14
  obtain ⟨rfl, N14q, K14q, VQ14⟩ := hQ14
  have N14 := Fr.app N11 N14q
  replace E_a0 := E_a0.keep K14q
  replace F_members_a0 := F_members_a0.keep K14q (ninS ne_a0_sl nin0)
  replace F_weights_a0 := F_weights_a0.keep K14q (ninS ne_a0_sl nin0)
  replace F_exact_a0 := F_exact_a0.keep K14q (ninS ne_a0_sl nin0)
  replace F_slots_a0 := F_slots_a0.keep K14q (ninS ne_a0_sl nin0)
  replace F_length_a0 := F_length_a0.keep K14q (ninS ne_a0_sl nin0)
  replace F_fingerprint_a0 := F_fingerprint_a0.keep K14q (ninS ne_a0_sl nin0)
  replace F_history_a0 := F_history_a0.keep K14q (ninS ne_a0_sl nin0)
  replace F_shift_a0 := F_shift_a0.keep K14q (ninS ne_a0_sl nin0)
  replace V_am := V_am.keep K14q (ninS ne_am_sl nin0)
  replace ZZ := Nat.le_trans ZZ K14q.1
  replace KP := KP.trans K14q (allS (Or.inr sz_sl) all0)
  have ht3 := ht2.fill (by decide) hr2 he2
  rw [show (2 : Int32) + (1 : Int32) = val 2 from by decide] at VQ14
  generalize ts2.set ((hN (ml.getD 2 0) + kz2) % 64) (val 2) = ts3 at VQ14 ht3
  have V_sl := VQ14
  refine Go.on (fun _ k => st14.trans k) ?_
  show Go _ _ _ _ _ _ _ _ (mkF m 47 #[Sr a0, Si 6, Si 2] [])
  refine Go.on (fun _ k => XS.iinc X14.here hx rfl (hb hby d14_47) rfl (l' := #[.val (.ref a0), .val (.int (6 : Int32)), .val (.int (3 : Int32))]) rfl k) ?_
  show Go _ _ _ _ _ _ _ _ (mkF m 50 #[Sr a0, Si 6, Si 3] [])
  refine Go.on (fun _ k => XS.goto X14.here hx rfl (pc0 := 50) (pc' := 34) rfl (hb hby d14_50) (by decide) (by decide) k) ?_
  refine Go.on (fun _ k => XS.iloadN X14.here hx rfl (hb hby d14_34) rfl k) ?_
  refine Go.on (fun _ k => XS.aloadN X14.here hx rfl (hb hby d14_35) rfl rfl k) ?_
  show Go _ _ _ _ _ _ _ _ (mkF m 36 #[Sr a0, Si 6, Si 3] [(.ref a0), (.int 3)])
  obtain ⟨T15, X15, e15, st15⟩ := getF X14 hx hZ hown (host := "") (Or.inl (hw _ (List.mem_of_getElem? (i := 30) rfl))) Via.refl e14 F_length_a0 (g := (mkF m 36 #[Sr a0, Si 6, Si 3] [(.ref a0), (.int 3)])) rfl rfl (hb hby d14_36)
  refine Go.on st15 ?_
  show Go _ _ _ _ _ _ _ _ (mkF m 39 #[Sr a0, Si 6, Si 3] [(.int 9), (.int 3)])
  have hc16 : (3 : Int32) < (9 : Int32) := by decide
  refine Go.on (fun _ k => XS.icmpNo X15.here hx rfl (hb hby d14_39) rfl (tlt hc16).2.1 k) ?_
  refine Go.on (fun _ k => XS.aloadN X15.here hx rfl (hb hby d14_42) rfl rfl k) ?_
  refine Go.on (fun _ k => XS.iloadN X15.here hx rfl (hb hby d14_43) rfl k) ?_
  show Go _ _ _ _ _ _ _ _ (mkF m 44 #[Sr a0, Si 6, Si 3] [(.int 3), (.ref a0)])
  obtain ⟨kz3, hr3, he3⟩ := own_dist ht3.1 (by have := ht3.2.1; omega) (hN (ml.getD 3 0))
  obtain ⟨cq17, q17, q17'⟩ := E_a0.cell
  obtain ⟨_, _, ⟨T17, L17, k17, n17⟩, -, X17, ⟨Lc17, hQ17, l17, y17, z17⟩, st17⟩ := X15.privateBack hx (y := (⟨"com/example/due_weight/dueweight/core/Pairs", "fill", "(I)V"⟩ : MethodName)) hown (mvT hZ (hw _ (List.mem_of_getElem? (i := 87) rfl))) (mvT hZ (hw _ (List.mem_of_getElem? (i := 88) rfl))) (own_selp (mvT hZ (hw _ (List.mem_of_getElem? (i := 2) rfl))) (mvP hZ (hw _ (List.mem_of_getElem? (i := 89) rfl))) (mvT hZ (hw _ (List.mem_of_getElem? (i := 88) rfl))) (by decide)) (Cond.privateMethod_at (mvP hZ (hw _ (List.mem_of_getElem? (i := 89) rfl)) (args := #[]))) (mvT hZ (hw _ (List.mem_of_getElem? (i := 90) rfl))) (by decide) (backOf (W := 0) (fillc l Z aw hw [] a0 (3 : Int32) ts3 (ml.getD 3 0) kz3 ((hN (ml.getD 3 0) + kz3) % 64) am sl k_am us k_sl h14 n0 ZZ F_members_a0 F_shift_a0 F_slots_a0 V_am V_sl g_sl ne_a0_sl ne_am_sl (by decide) (own_hatn (n := 3) hus hlm (by decide)) ht3.1 hr3 he3 rfl) hZ (hw _ (List.mem_of_getElem? (i := 90) rfl)) (hw _ (List.mem_of_getElem? (i := 3) rfl)) (by decide) (by decide)) (g := (mkF m 44 #[Sr a0, Si 6, Si 3] [(.int 3), (.ref a0)])) rfl (by rw [hml]; rfl) (Steps.refl _) (a := a0) (by rw [e15]; exact q17) q17' (argsL := [(.int (3 : Int32))]) (rest := []) (lenOf pd_8 rfl) rfl (by show 2 * 0 + _ ≤ _; exact Nat.le_of_eq rfl) (hb hby d14_44) (fun _ _ => ⟨rfl, e15, (by decide : 1 + 0 ≤ _), (by decide : 64 + 0 ≤ _)⟩)
  dsimp only [Pt.U, Pt.locs, Pt.cells, Pt.slots] at X17 l17 y17 z17 st17 hQ17
  subst l17 y17 z17
  obtain ⟨h17, e17⟩ : ∃ q, T17.heap = q := ⟨_, rfl⟩
  rw [e17] at hQ17
  obtain ⟨rfl, N17q, K17q, VQ17⟩ := hQ17
  have N17 := Fr.app N14 N17q
  replace E_a0 := E_a0.keep K17q
  replace F_members_a0 := F_members_a0.keep K17q (ninS ne_a0_sl nin0)
  replace F_weights_a0 := F_weights_a0.keep K17q (ninS ne_a0_sl nin0)
  replace F_exact_a0 := F_exact_a0.keep K17q (ninS ne_a0_sl nin0)
  replace F_slots_a0 := F_slots_a0.keep K17q (ninS ne_a0_sl nin0)
  replace F_length_a0 := F_length_a0.keep K17q (ninS ne_a0_sl nin0)
  replace F_fingerprint_a0 := F_fingerprint_a0.keep K17q (ninS ne_a0_sl nin0)
  replace F_history_a0 := F_history_a0.keep K17q (ninS ne_a0_sl nin0)
  replace F_shift_a0 := F_shift_a0.keep K17q (ninS ne_a0_sl nin0)
  replace V_am := V_am.keep K17q (ninS ne_am_sl nin0)
  replace ZZ := Nat.le_trans ZZ K17q.1
  replace KP := KP.trans K17q (allS (Or.inr sz_sl) all0)
  have ht4 := ht3.fill (by decide) hr3 he3
  rw [show (3 : Int32) + (1 : Int32) = val 3 from by decide] at VQ17
  generalize ts3.set ((hN (ml.getD 3 0) + kz3) % 64) (val 3) = ts4 at VQ17 ht4
  have V_sl := VQ17
  refine Go.on (fun _ k => st17.trans k) ?_
  show Go _ _ _ _ _ _ _ _ (mkF m 47 #[Sr a0, Si 6, Si 3] [])
  refine Go.on (fun _ k => XS.iinc X17.here hx rfl (hb hby d14_47) rfl (l' := #[.val (.ref a0), .val (.int (6 : Int32)), .val (.int (4 : Int32))]) rfl k) ?_
  show Go _ _ _ _ _ _ _ _ (mkF m 50 #[Sr a0, Si 6, Si 4] [])
  refine Go.on (fun _ k => XS.goto X17.here hx rfl (pc0 := 50) (pc' := 34) rfl (hb hby d14_50) (by decide) (by decide) k) ?_
  refine Go.on (fun _ k => XS.iloadN X17.here hx rfl (hb hby d14_34) rfl k) ?_
  refine Go.on (fun _ k => XS.aloadN X17.here hx rfl (hb hby d14_35) rfl rfl k) ?_
  show Go _ _ _ _ _ _ _ _ (mkF m 36 #[Sr a0, Si 6, Si 4] [(.ref a0), (.int 4)])
  obtain ⟨T18, X18, e18, st18⟩ := getF X17 hx hZ hown (host := "") (Or.inl (hw _ (List.mem_of_getElem? (i := 30) rfl))) Via.refl e17 F_length_a0 (g := (mkF m 36 #[Sr a0, Si 6, Si 4] [(.ref a0), (.int 4)])) rfl rfl (hb hby d14_36)
  refine Go.on st18 ?_
  show Go _ _ _ _ _ _ _ _ (mkF m 39 #[Sr a0, Si 6, Si 4] [(.int 9), (.int 4)])
  have hc19 : (4 : Int32) < (9 : Int32) := by decide
  refine Go.on (fun _ k => XS.icmpNo X18.here hx rfl (hb hby d14_39) rfl (tlt hc19).2.1 k) ?_
  refine Go.on (fun _ k => XS.aloadN X18.here hx rfl (hb hby d14_42) rfl rfl k) ?_
  refine Go.on (fun _ k => XS.iloadN X18.here hx rfl (hb hby d14_43) rfl k) ?_
  show Go _ _ _ _ _ _ _ _ (mkF m 44 #[Sr a0, Si 6, Si 4] [(.int 4), (.ref a0)])
  obtain ⟨kz4, hr4, he4⟩ := own_dist ht4.1 (by have := ht4.2.1; omega) (hN (ml.getD 4 0))
  obtain ⟨cq20, q20, q20'⟩ := E_a0.cell
  obtain ⟨_, _, ⟨T20, L20, k20, n20⟩, -, X20, ⟨Lc20, hQ20, l20, y20, z20⟩, st20⟩ := X18.privateBack hx (y := (⟨"com/example/due_weight/dueweight/core/Pairs", "fill", "(I)V"⟩ : MethodName)) hown (mvT hZ (hw _ (List.mem_of_getElem? (i := 87) rfl))) (mvT hZ (hw _ (List.mem_of_getElem? (i := 88) rfl))) (own_selp (mvT hZ (hw _ (List.mem_of_getElem? (i := 2) rfl))) (mvP hZ (hw _ (List.mem_of_getElem? (i := 89) rfl))) (mvT hZ (hw _ (List.mem_of_getElem? (i := 88) rfl))) (by decide)) (Cond.privateMethod_at (mvP hZ (hw _ (List.mem_of_getElem? (i := 89) rfl)) (args := #[]))) (mvT hZ (hw _ (List.mem_of_getElem? (i := 90) rfl))) (by decide) (backOf (W := 0) (fillc l Z aw hw [] a0 (4 : Int32) ts4 (ml.getD 4 0) kz4 ((hN (ml.getD 4 0) + kz4) % 64) am sl k_am us k_sl h17 n0 ZZ F_members_a0 F_shift_a0 F_slots_a0 V_am V_sl g_sl ne_a0_sl ne_am_sl (by decide) (own_hatn (n := 4) hus hlm (by decide)) ht4.1 hr4 he4 rfl) hZ (hw _ (List.mem_of_getElem? (i := 90) rfl)) (hw _ (List.mem_of_getElem? (i := 3) rfl)) (by decide) (by decide)) (g := (mkF m 44 #[Sr a0, Si 6, Si 4] [(.int 4), (.ref a0)])) rfl (by rw [hml]; rfl) (Steps.refl _) (a := a0) (by rw [e18]; exact q20) q20' (argsL := [(.int (4 : Int32))]) (rest := []) (lenOf pd_8 rfl) rfl (by show 2 * 0 + _ ≤ _; exact Nat.le_of_eq rfl) (hb hby d14_44) (fun _ _ => ⟨rfl, e18, (by decide : 1 + 0 ≤ _), (by decide : 64 + 0 ≤ _)⟩)
  dsimp only [Pt.U, Pt.locs, Pt.cells, Pt.slots] at X20 l20 y20 z20 st20 hQ20
  subst l20 y20 z20
  obtain ⟨h20, e20⟩ : ∃ q, T20.heap = q := ⟨_, rfl⟩
  rw [e20] at hQ20
  obtain ⟨rfl, N20q, K20q, VQ20⟩ := hQ20
  have N20 := Fr.app N17 N20q
  replace E_a0 := E_a0.keep K20q
  replace F_members_a0 := F_members_a0.keep K20q (ninS ne_a0_sl nin0)
  replace F_weights_a0 := F_weights_a0.keep K20q (ninS ne_a0_sl nin0)
  replace F_exact_a0 := F_exact_a0.keep K20q (ninS ne_a0_sl nin0)
  replace F_slots_a0 := F_slots_a0.keep K20q (ninS ne_a0_sl nin0)
  replace F_length_a0 := F_length_a0.keep K20q (ninS ne_a0_sl nin0)
  replace F_fingerprint_a0 := F_fingerprint_a0.keep K20q (ninS ne_a0_sl nin0)
  replace F_history_a0 := F_history_a0.keep K20q (ninS ne_a0_sl nin0)
  replace F_shift_a0 := F_shift_a0.keep K20q (ninS ne_a0_sl nin0)
  replace V_am := V_am.keep K20q (ninS ne_am_sl nin0)
  replace ZZ := Nat.le_trans ZZ K20q.1
  replace KP := KP.trans K20q (allS (Or.inr sz_sl) all0)
  have ht5 := ht4.fill (by decide) hr4 he4
  rw [show (4 : Int32) + (1 : Int32) = val 4 from by decide] at VQ20
  generalize ts4.set ((hN (ml.getD 4 0) + kz4) % 64) (val 4) = ts5 at VQ20 ht5
  have V_sl := VQ20
  refine Go.on (fun _ k => st20.trans k) ?_
  show Go _ _ _ _ _ _ _ _ (mkF m 47 #[Sr a0, Si 6, Si 4] [])
  refine Go.on (fun _ k => XS.iinc X20.here hx rfl (hb hby d14_47) rfl (l' := #[.val (.ref a0), .val (.int (6 : Int32)), .val (.int (5 : Int32))]) rfl k) ?_
  show Go _ _ _ _ _ _ _ _ (mkF m 50 #[Sr a0, Si 6, Si 5] [])
  refine Go.on (fun _ k => XS.goto X20.here hx rfl (pc0 := 50) (pc' := 34) rfl (hb hby d14_50) (by decide) (by decide) k) ?_
  refine Go.on (fun _ k => XS.iloadN X20.here hx rfl (hb hby d14_34) rfl k) ?_
  refine Go.on (fun _ k => XS.aloadN X20.here hx rfl (hb hby d14_35) rfl rfl k) ?_
  show Go _ _ _ _ _ _ _ _ (mkF m 36 #[Sr a0, Si 6, Si 5] [(.ref a0), (.int 5)])
  obtain ⟨T21, X21, e21, st21⟩ := getF X20 hx hZ hown (host := "") (Or.inl (hw _ (List.mem_of_getElem? (i := 30) rfl))) Via.refl e20 F_length_a0 (g := (mkF m 36 #[Sr a0, Si 6, Si 5] [(.ref a0), (.int 5)])) rfl rfl (hb hby d14_36)
  refine Go.on st21 ?_
  show Go _ _ _ _ _ _ _ _ (mkF m 39 #[Sr a0, Si 6, Si 5] [(.int 9), (.int 5)])
  have hc22 : (5 : Int32) < (9 : Int32) := by decide
  refine Go.on (fun _ k => XS.icmpNo X21.here hx rfl (hb hby d14_39) rfl (tlt hc22).2.1 k) ?_
  refine Go.on (fun _ k => XS.aloadN X21.here hx rfl (hb hby d14_42) rfl rfl k) ?_
  refine Go.on (fun _ k => XS.iloadN X21.here hx rfl (hb hby d14_43) rfl k) ?_
  show Go _ _ _ _ _ _ _ _ (mkF m 44 #[Sr a0, Si 6, Si 5] [(.int 5), (.ref a0)])
  obtain ⟨kz5, hr5, he5⟩ := own_dist ht5.1 (by have := ht5.2.1; omega) (hN (ml.getD 5 0))
  obtain ⟨cq23, q23, q23'⟩ := E_a0.cell
  obtain ⟨_, _, ⟨T23, L23, k23, n23⟩, -, X23, ⟨Lc23, hQ23, l23, y23, z23⟩, st23⟩ := X21.privateBack hx (y := (⟨"com/example/due_weight/dueweight/core/Pairs", "fill", "(I)V"⟩ : MethodName)) hown (mvT hZ (hw _ (List.mem_of_getElem? (i := 87) rfl))) (mvT hZ (hw _ (List.mem_of_getElem? (i := 88) rfl))) (own_selp (mvT hZ (hw _ (List.mem_of_getElem? (i := 2) rfl))) (mvP hZ (hw _ (List.mem_of_getElem? (i := 89) rfl))) (mvT hZ (hw _ (List.mem_of_getElem? (i := 88) rfl))) (by decide)) (Cond.privateMethod_at (mvP hZ (hw _ (List.mem_of_getElem? (i := 89) rfl)) (args := #[]))) (mvT hZ (hw _ (List.mem_of_getElem? (i := 90) rfl))) (by decide) (backOf (W := 0) (fillc l Z aw hw [] a0 (5 : Int32) ts5 (ml.getD 5 0) kz5 ((hN (ml.getD 5 0) + kz5) % 64) am sl k_am us k_sl h20 n0 ZZ F_members_a0 F_shift_a0 F_slots_a0 V_am V_sl g_sl ne_a0_sl ne_am_sl (by decide) (own_hatn (n := 5) hus hlm (by decide)) ht5.1 hr5 he5 rfl) hZ (hw _ (List.mem_of_getElem? (i := 90) rfl)) (hw _ (List.mem_of_getElem? (i := 3) rfl)) (by decide) (by decide)) (g := (mkF m 44 #[Sr a0, Si 6, Si 5] [(.int 5), (.ref a0)])) rfl (by rw [hml]; rfl) (Steps.refl _) (a := a0) (by rw [e21]; exact q23) q23' (argsL := [(.int (5 : Int32))]) (rest := []) (lenOf pd_8 rfl) rfl (by show 2 * 0 + _ ≤ _; exact Nat.le_of_eq rfl) (hb hby d14_44) (fun _ _ => ⟨rfl, e21, (by decide : 1 + 0 ≤ _), (by decide : 64 + 0 ≤ _)⟩)
  dsimp only [Pt.U, Pt.locs, Pt.cells, Pt.slots] at X23 l23 y23 z23 st23 hQ23
  subst l23 y23 z23
  obtain ⟨h23, e23⟩ : ∃ q, T23.heap = q := ⟨_, rfl⟩
  rw [e23] at hQ23
  obtain ⟨rfl, N23q, K23q, VQ23⟩ := hQ23
  have N23 := Fr.app N20 N23q
  replace E_a0 := E_a0.keep K23q
  replace F_members_a0 := F_members_a0.keep K23q (ninS ne_a0_sl nin0)
  replace F_weights_a0 := F_weights_a0.keep K23q (ninS ne_a0_sl nin0)
  replace F_exact_a0 := F_exact_a0.keep K23q (ninS ne_a0_sl nin0)
  replace F_slots_a0 := F_slots_a0.keep K23q (ninS ne_a0_sl nin0)
  replace F_length_a0 := F_length_a0.keep K23q (ninS ne_a0_sl nin0)
  replace F_fingerprint_a0 := F_fingerprint_a0.keep K23q (ninS ne_a0_sl nin0)
  replace F_history_a0 := F_history_a0.keep K23q (ninS ne_a0_sl nin0)
  replace F_shift_a0 := F_shift_a0.keep K23q (ninS ne_a0_sl nin0)
  replace V_am := V_am.keep K23q (ninS ne_am_sl nin0)
  replace ZZ := Nat.le_trans ZZ K23q.1
  replace KP := KP.trans K23q (allS (Or.inr sz_sl) all0)
  have ht6 := ht5.fill (by decide) hr5 he5
  rw [show (5 : Int32) + (1 : Int32) = val 5 from by decide] at VQ23
  generalize ts5.set ((hN (ml.getD 5 0) + kz5) % 64) (val 5) = ts6 at VQ23 ht6
  have V_sl := VQ23
  refine Go.on (fun _ k => st23.trans k) ?_
  show Go _ _ _ _ _ _ _ _ (mkF m 47 #[Sr a0, Si 6, Si 5] [])
  refine Go.on (fun _ k => XS.iinc X23.here hx rfl (hb hby d14_47) rfl (l' := #[.val (.ref a0), .val (.int (6 : Int32)), .val (.int (6 : Int32))]) rfl k) ?_
  show Go _ _ _ _ _ _ _ _ (mkF m 50 #[Sr a0, Si 6, Si 6] [])
  refine Go.on (fun _ k => XS.goto X23.here hx rfl (pc0 := 50) (pc' := 34) rfl (hb hby d14_50) (by decide) (by decide) k) ?_
  refine Go.on (fun _ k => XS.iloadN X23.here hx rfl (hb hby d14_34) rfl k) ?_
  refine Go.on (fun _ k => XS.aloadN X23.here hx rfl (hb hby d14_35) rfl rfl k) ?_
  show Go _ _ _ _ _ _ _ _ (mkF m 36 #[Sr a0, Si 6, Si 6] [(.ref a0), (.int 6)])
  obtain ⟨T24, X24, e24, st24⟩ := getF X23 hx hZ hown (host := "") (Or.inl (hw _ (List.mem_of_getElem? (i := 30) rfl))) Via.refl e23 F_length_a0 (g := (mkF m 36 #[Sr a0, Si 6, Si 6] [(.ref a0), (.int 6)])) rfl rfl (hb hby d14_36)
  refine Go.on st24 ?_
  show Go _ _ _ _ _ _ _ _ (mkF m 39 #[Sr a0, Si 6, Si 6] [(.int 9), (.int 6)])
  have hc25 : (6 : Int32) < (9 : Int32) := by decide
  refine Go.on (fun _ k => XS.icmpNo X24.here hx rfl (hb hby d14_39) rfl (tlt hc25).2.1 k) ?_
  refine Go.on (fun _ k => XS.aloadN X24.here hx rfl (hb hby d14_42) rfl rfl k) ?_
  refine Go.on (fun _ k => XS.iloadN X24.here hx rfl (hb hby d14_43) rfl k) ?_
  show Go _ _ _ _ _ _ _ _ (mkF m 44 #[Sr a0, Si 6, Si 6] [(.int 6), (.ref a0)])
  obtain ⟨kz6, hr6, he6⟩ := own_dist ht6.1 (by have := ht6.2.1; omega) (hN (ml.getD 6 0))
  obtain ⟨cq26, q26, q26'⟩ := E_a0.cell
  obtain ⟨_, _, ⟨T26, L26, k26, n26⟩, -, X26, ⟨Lc26, hQ26, l26, y26, z26⟩, st26⟩ := X24.privateBack hx (y := (⟨"com/example/due_weight/dueweight/core/Pairs", "fill", "(I)V"⟩ : MethodName)) hown (mvT hZ (hw _ (List.mem_of_getElem? (i := 87) rfl))) (mvT hZ (hw _ (List.mem_of_getElem? (i := 88) rfl))) (own_selp (mvT hZ (hw _ (List.mem_of_getElem? (i := 2) rfl))) (mvP hZ (hw _ (List.mem_of_getElem? (i := 89) rfl))) (mvT hZ (hw _ (List.mem_of_getElem? (i := 88) rfl))) (by decide)) (Cond.privateMethod_at (mvP hZ (hw _ (List.mem_of_getElem? (i := 89) rfl)) (args := #[]))) (mvT hZ (hw _ (List.mem_of_getElem? (i := 90) rfl))) (by decide) (backOf (W := 0) (fillc l Z aw hw [] a0 (6 : Int32) ts6 (ml.getD 6 0) kz6 ((hN (ml.getD 6 0) + kz6) % 64) am sl k_am us k_sl h23 n0 ZZ F_members_a0 F_shift_a0 F_slots_a0 V_am V_sl g_sl ne_a0_sl ne_am_sl (by decide) (own_hatn (n := 6) hus hlm (by decide)) ht6.1 hr6 he6 rfl) hZ (hw _ (List.mem_of_getElem? (i := 90) rfl)) (hw _ (List.mem_of_getElem? (i := 3) rfl)) (by decide) (by decide)) (g := (mkF m 44 #[Sr a0, Si 6, Si 6] [(.int 6), (.ref a0)])) rfl (by rw [hml]; rfl) (Steps.refl _) (a := a0) (by rw [e24]; exact q26) q26' (argsL := [(.int (6 : Int32))]) (rest := []) (lenOf pd_8 rfl) rfl (by show 2 * 0 + _ ≤ _; exact Nat.le_of_eq rfl) (hb hby d14_44) (fun _ _ => ⟨rfl, e24, (by decide : 1 + 0 ≤ _), (by decide : 64 + 0 ≤ _)⟩)
  dsimp only [Pt.U, Pt.locs, Pt.cells, Pt.slots] at X26 l26 y26 z26 st26 hQ26
  subst l26 y26 z26
  obtain ⟨h26, e26⟩ : ∃ q, T26.heap = q := ⟨_, rfl⟩
  rw [e26] at hQ26
  obtain ⟨rfl, N26q, K26q, VQ26⟩ := hQ26
  have N26 := Fr.app N23 N26q
  replace E_a0 := E_a0.keep K26q
  replace F_members_a0 := F_members_a0.keep K26q (ninS ne_a0_sl nin0)
  replace F_weights_a0 := F_weights_a0.keep K26q (ninS ne_a0_sl nin0)
  replace F_exact_a0 := F_exact_a0.keep K26q (ninS ne_a0_sl nin0)
  replace F_slots_a0 := F_slots_a0.keep K26q (ninS ne_a0_sl nin0)
  replace F_length_a0 := F_length_a0.keep K26q (ninS ne_a0_sl nin0)
  replace F_fingerprint_a0 := F_fingerprint_a0.keep K26q (ninS ne_a0_sl nin0)
  replace F_history_a0 := F_history_a0.keep K26q (ninS ne_a0_sl nin0)
  replace F_shift_a0 := F_shift_a0.keep K26q (ninS ne_a0_sl nin0)
  replace V_am := V_am.keep K26q (ninS ne_am_sl nin0)
  replace ZZ := Nat.le_trans ZZ K26q.1
  replace KP := KP.trans K26q (allS (Or.inr sz_sl) all0)
  have ht7 := ht6.fill (by decide) hr6 he6
  rw [show (6 : Int32) + (1 : Int32) = val 6 from by decide] at VQ26
  generalize ts6.set ((hN (ml.getD 6 0) + kz6) % 64) (val 6) = ts7 at VQ26 ht7
  have V_sl := VQ26
  refine Go.on (fun _ k => st26.trans k) ?_
  show Go _ _ _ _ _ _ _ _ (mkF m 47 #[Sr a0, Si 6, Si 6] [])
  refine Go.on (fun _ k => XS.iinc X26.here hx rfl (hb hby d14_47) rfl (l' := #[.val (.ref a0), .val (.int (6 : Int32)), .val (.int (7 : Int32))]) rfl k) ?_
  show Go _ _ _ _ _ _ _ _ (mkF m 50 #[Sr a0, Si 6, Si 7] [])
  refine Go.on (fun _ k => XS.goto X26.here hx rfl (pc0 := 50) (pc' := 34) rfl (hb hby d14_50) (by decide) (by decide) k) ?_
  refine Go.on (fun _ k => XS.iloadN X26.here hx rfl (hb hby d14_34) rfl k) ?_
  refine Go.on (fun _ k => XS.aloadN X26.here hx rfl (hb hby d14_35) rfl rfl k) ?_
  show Go _ _ _ _ _ _ _ _ (mkF m 36 #[Sr a0, Si 6, Si 7] [(.ref a0), (.int 7)])
  obtain ⟨T27, X27, e27, st27⟩ := getF X26 hx hZ hown (host := "") (Or.inl (hw _ (List.mem_of_getElem? (i := 30) rfl))) Via.refl e26 F_length_a0 (g := (mkF m 36 #[Sr a0, Si 6, Si 7] [(.ref a0), (.int 7)])) rfl rfl (hb hby d14_36)
  refine Go.on st27 ?_
  show Go _ _ _ _ _ _ _ _ (mkF m 39 #[Sr a0, Si 6, Si 7] [(.int 9), (.int 7)])
  have hc28 : (7 : Int32) < (9 : Int32) := by decide
  refine Go.on (fun _ k => XS.icmpNo X27.here hx rfl (hb hby d14_39) rfl (tlt hc28).2.1 k) ?_
  refine Go.on (fun _ k => XS.aloadN X27.here hx rfl (hb hby d14_42) rfl rfl k) ?_
  refine Go.on (fun _ k => XS.iloadN X27.here hx rfl (hb hby d14_43) rfl k) ?_
  show Go _ _ _ _ _ _ _ _ (mkF m 44 #[Sr a0, Si 6, Si 7] [(.int 7), (.ref a0)])
  obtain ⟨kz7, hr7, he7⟩ := own_dist ht7.1 (by have := ht7.2.1; omega) (hN (ml.getD 7 0))
  obtain ⟨cq29, q29, q29'⟩ := E_a0.cell
  obtain ⟨_, _, ⟨T29, L29, k29, n29⟩, -, X29, ⟨Lc29, hQ29, l29, y29, z29⟩, st29⟩ := X27.privateBack hx (y := (⟨"com/example/due_weight/dueweight/core/Pairs", "fill", "(I)V"⟩ : MethodName)) hown (mvT hZ (hw _ (List.mem_of_getElem? (i := 87) rfl))) (mvT hZ (hw _ (List.mem_of_getElem? (i := 88) rfl))) (own_selp (mvT hZ (hw _ (List.mem_of_getElem? (i := 2) rfl))) (mvP hZ (hw _ (List.mem_of_getElem? (i := 89) rfl))) (mvT hZ (hw _ (List.mem_of_getElem? (i := 88) rfl))) (by decide)) (Cond.privateMethod_at (mvP hZ (hw _ (List.mem_of_getElem? (i := 89) rfl)) (args := #[]))) (mvT hZ (hw _ (List.mem_of_getElem? (i := 90) rfl))) (by decide) (backOf (W := 0) (fillc l Z aw hw [] a0 (7 : Int32) ts7 (ml.getD 7 0) kz7 ((hN (ml.getD 7 0) + kz7) % 64) am sl k_am us k_sl h26 n0 ZZ F_members_a0 F_shift_a0 F_slots_a0 V_am V_sl g_sl ne_a0_sl ne_am_sl (by decide) (own_hatn (n := 7) hus hlm (by decide)) ht7.1 hr7 he7 rfl) hZ (hw _ (List.mem_of_getElem? (i := 90) rfl)) (hw _ (List.mem_of_getElem? (i := 3) rfl)) (by decide) (by decide)) (g := (mkF m 44 #[Sr a0, Si 6, Si 7] [(.int 7), (.ref a0)])) rfl (by rw [hml]; rfl) (Steps.refl _) (a := a0) (by rw [e27]; exact q29) q29' (argsL := [(.int (7 : Int32))]) (rest := []) (lenOf pd_8 rfl) rfl (by show 2 * 0 + _ ≤ _; exact Nat.le_of_eq rfl) (hb hby d14_44) (fun _ _ => ⟨rfl, e27, (by decide : 1 + 0 ≤ _), (by decide : 64 + 0 ≤ _)⟩)
  dsimp only [Pt.U, Pt.locs, Pt.cells, Pt.slots] at X29 l29 y29 z29 st29 hQ29
  subst l29 y29 z29
  obtain ⟨h29, e29⟩ : ∃ q, T29.heap = q := ⟨_, rfl⟩
  rw [e29] at hQ29
  obtain ⟨rfl, N29q, K29q, VQ29⟩ := hQ29
  have N29 := Fr.app N26 N29q
  replace E_a0 := E_a0.keep K29q
  replace F_members_a0 := F_members_a0.keep K29q (ninS ne_a0_sl nin0)
  replace F_weights_a0 := F_weights_a0.keep K29q (ninS ne_a0_sl nin0)
  replace F_exact_a0 := F_exact_a0.keep K29q (ninS ne_a0_sl nin0)
  replace F_slots_a0 := F_slots_a0.keep K29q (ninS ne_a0_sl nin0)
  replace F_length_a0 := F_length_a0.keep K29q (ninS ne_a0_sl nin0)
  replace F_fingerprint_a0 := F_fingerprint_a0.keep K29q (ninS ne_a0_sl nin0)
  replace F_history_a0 := F_history_a0.keep K29q (ninS ne_a0_sl nin0)
  replace F_shift_a0 := F_shift_a0.keep K29q (ninS ne_a0_sl nin0)
  replace V_am := V_am.keep K29q (ninS ne_am_sl nin0)
  replace ZZ := Nat.le_trans ZZ K29q.1
  replace KP := KP.trans K29q (allS (Or.inr sz_sl) all0)
  have ht8 := ht7.fill (by decide) hr7 he7
  rw [show (7 : Int32) + (1 : Int32) = val 7 from by decide] at VQ29
  generalize ts7.set ((hN (ml.getD 7 0) + kz7) % 64) (val 7) = ts8 at VQ29 ht8
  have V_sl := VQ29
  refine Go.on (fun _ k => st29.trans k) ?_
  show Go _ _ _ _ _ _ _ _ (mkF m 47 #[Sr a0, Si 6, Si 7] [])
  refine Go.on (fun _ k => XS.iinc X29.here hx rfl (hb hby d14_47) rfl (l' := #[.val (.ref a0), .val (.int (6 : Int32)), .val (.int (8 : Int32))]) rfl k) ?_
  show Go _ _ _ _ _ _ _ _ (mkF m 50 #[Sr a0, Si 6, Si 8] [])
  refine Go.on (fun _ k => XS.goto X29.here hx rfl (pc0 := 50) (pc' := 34) rfl (hb hby d14_50) (by decide) (by decide) k) ?_
  refine Go.on (fun _ k => XS.iloadN X29.here hx rfl (hb hby d14_34) rfl k) ?_
  refine Go.on (fun _ k => XS.aloadN X29.here hx rfl (hb hby d14_35) rfl rfl k) ?_
  show Go _ _ _ _ _ _ _ _ (mkF m 36 #[Sr a0, Si 6, Si 8] [(.ref a0), (.int 8)])
  obtain ⟨T30, X30, e30, st30⟩ := getF X29 hx hZ hown (host := "") (Or.inl (hw _ (List.mem_of_getElem? (i := 30) rfl))) Via.refl e29 F_length_a0 (g := (mkF m 36 #[Sr a0, Si 6, Si 8] [(.ref a0), (.int 8)])) rfl rfl (hb hby d14_36)
  refine Go.on st30 ?_
  show Go _ _ _ _ _ _ _ _ (mkF m 39 #[Sr a0, Si 6, Si 8] [(.int 9), (.int 8)])
  have hc31 : (8 : Int32) < (9 : Int32) := by decide
  refine Go.on (fun _ k => XS.icmpNo X30.here hx rfl (hb hby d14_39) rfl (tlt hc31).2.1 k) ?_
  refine Go.on (fun _ k => XS.aloadN X30.here hx rfl (hb hby d14_42) rfl rfl k) ?_
  refine Go.on (fun _ k => XS.iloadN X30.here hx rfl (hb hby d14_43) rfl k) ?_
  show Go _ _ _ _ _ _ _ _ (mkF m 44 #[Sr a0, Si 6, Si 8] [(.int 8), (.ref a0)])
  obtain ⟨kz8, hr8, he8⟩ := own_dist ht8.1 (by have := ht8.2.1; omega) (hN (ml.getD 8 0))
  obtain ⟨cq32, q32, q32'⟩ := E_a0.cell
  obtain ⟨_, _, ⟨T32, L32, k32, n32⟩, -, X32, ⟨Lc32, hQ32, l32, y32, z32⟩, st32⟩ := X30.privateBack hx (y := (⟨"com/example/due_weight/dueweight/core/Pairs", "fill", "(I)V"⟩ : MethodName)) hown (mvT hZ (hw _ (List.mem_of_getElem? (i := 87) rfl))) (mvT hZ (hw _ (List.mem_of_getElem? (i := 88) rfl))) (own_selp (mvT hZ (hw _ (List.mem_of_getElem? (i := 2) rfl))) (mvP hZ (hw _ (List.mem_of_getElem? (i := 89) rfl))) (mvT hZ (hw _ (List.mem_of_getElem? (i := 88) rfl))) (by decide)) (Cond.privateMethod_at (mvP hZ (hw _ (List.mem_of_getElem? (i := 89) rfl)) (args := #[]))) (mvT hZ (hw _ (List.mem_of_getElem? (i := 90) rfl))) (by decide) (backOf (W := 0) (fillc l Z aw hw [] a0 (8 : Int32) ts8 (ml.getD 8 0) kz8 ((hN (ml.getD 8 0) + kz8) % 64) am sl k_am us k_sl h29 n0 ZZ F_members_a0 F_shift_a0 F_slots_a0 V_am V_sl g_sl ne_a0_sl ne_am_sl (by decide) (own_hatn (n := 8) hus hlm (by decide)) ht8.1 hr8 he8 rfl) hZ (hw _ (List.mem_of_getElem? (i := 90) rfl)) (hw _ (List.mem_of_getElem? (i := 3) rfl)) (by decide) (by decide)) (g := (mkF m 44 #[Sr a0, Si 6, Si 8] [(.int 8), (.ref a0)])) rfl (by rw [hml]; rfl) (Steps.refl _) (a := a0) (by rw [e30]; exact q32) q32' (argsL := [(.int (8 : Int32))]) (rest := []) (lenOf pd_8 rfl) rfl (by show 2 * 0 + _ ≤ _; exact Nat.le_of_eq rfl) (hb hby d14_44) (fun _ _ => ⟨rfl, e30, (by decide : 1 + 0 ≤ _), (by decide : 64 + 0 ≤ _)⟩)
  dsimp only [Pt.U, Pt.locs, Pt.cells, Pt.slots] at X32 l32 y32 z32 st32 hQ32
  subst l32 y32 z32
  obtain ⟨h32, e32⟩ : ∃ q, T32.heap = q := ⟨_, rfl⟩
  rw [e32] at hQ32
  obtain ⟨rfl, N32q, K32q, VQ32⟩ := hQ32
  have N32 := Fr.app N29 N32q
  replace E_a0 := E_a0.keep K32q
  replace F_members_a0 := F_members_a0.keep K32q (ninS ne_a0_sl nin0)
  replace F_weights_a0 := F_weights_a0.keep K32q (ninS ne_a0_sl nin0)
  replace F_exact_a0 := F_exact_a0.keep K32q (ninS ne_a0_sl nin0)
  replace F_slots_a0 := F_slots_a0.keep K32q (ninS ne_a0_sl nin0)
  replace F_length_a0 := F_length_a0.keep K32q (ninS ne_a0_sl nin0)
  replace F_fingerprint_a0 := F_fingerprint_a0.keep K32q (ninS ne_a0_sl nin0)
  replace F_history_a0 := F_history_a0.keep K32q (ninS ne_a0_sl nin0)
  replace F_shift_a0 := F_shift_a0.keep K32q (ninS ne_a0_sl nin0)
  replace V_am := V_am.keep K32q (ninS ne_am_sl nin0)
  replace ZZ := Nat.le_trans ZZ K32q.1
  replace KP := KP.trans K32q (allS (Or.inr sz_sl) all0)
  have ht9 := ht8.fill (by decide) hr8 he8
  rw [show (8 : Int32) + (1 : Int32) = val 8 from by decide] at VQ32
  generalize ts8.set ((hN (ml.getD 8 0) + kz8) % 64) (val 8) = ts9 at VQ32 ht9
  have V_sl := VQ32
  refine Go.on (fun _ k => st32.trans k) ?_
  show Go _ _ _ _ _ _ _ _ (mkF m 47 #[Sr a0, Si 6, Si 8] [])
  refine Go.on (fun _ k => XS.iinc X32.here hx rfl (hb hby d14_47) rfl (l' := #[.val (.ref a0), .val (.int (6 : Int32)), .val (.int (9 : Int32))]) rfl k) ?_
  show Go _ _ _ _ _ _ _ _ (mkF m 50 #[Sr a0, Si 6, Si 9] [])
  refine Go.on (fun _ k => XS.goto X32.here hx rfl (pc0 := 50) (pc' := 34) rfl (hb hby d14_50) (by decide) (by decide) k) ?_
  refine Go.on (fun _ k => XS.iloadN X32.here hx rfl (hb hby d14_34) rfl k) ?_
  refine Go.on (fun _ k => XS.aloadN X32.here hx rfl (hb hby d14_35) rfl rfl k) ?_
  show Go _ _ _ _ _ _ _ _ (mkF m 36 #[Sr a0, Si 6, Si 9] [(.ref a0), (.int 9)])
  obtain ⟨T33, X33, e33, st33⟩ := getF X32 hx hZ hown (host := "") (Or.inl (hw _ (List.mem_of_getElem? (i := 30) rfl))) Via.refl e32 F_length_a0 (g := (mkF m 36 #[Sr a0, Si 6, Si 9] [(.ref a0), (.int 9)])) rfl rfl (hb hby d14_36)
  refine Go.on st33 ?_
  show Go _ _ _ _ _ _ _ _ (mkF m 39 #[Sr a0, Si 6, Si 9] [(.int 9), (.int 9)])
  have hc34 : ¬ ((9 : Int32) < (9 : Int32)) := by decide
  refine Go.on (fun _ k => XS.icmpYes X33.here hx rfl (pc0 := 39) (pc' := 53) rfl (hb hby d14_39) rfl (flt hc34).2.1 (by decide) (by decide) k) ?_
  show Go _ _ _ _ _ _ _ _ (mkF m 53 #[Sr a0, Si 6, Si 9] [])
  refine Go.ret0 X33 hx Bd.returns (hb hby d14_53) ?_ (by rw [hK1]; decide) (by rw [hK2]; decide)
  rw [e33, ← hQQ]
  exact ⟨sl, k_sl, ts9, rfl, N32, KP, E_a0, F_members_a0, F_weights_a0, F_exact_a0, F_slots_a0, F_length_a0, F_fingerprint_a0, F_history_a0, F_shift_a0, V_sl, ht9, sz_sl⟩
-- part D
theorem pd_9 : parseMethodDescriptor "()V" = some ⟨[], none⟩ := by decide +kernel
theorem d3_127 : decode prog_21_method_7_code 127 = .ok (.aload_n 0, 1) := by decide +kernel
theorem d3_128 : decode prog_21_method_7_code 128 = .ok (.invokevirtual 55, 3) := by decide +kernel
theorem d3_131 : decode prog_21_method_7_code 131 = .ok (.goto 84, 3) := by decide +kernel
theorem ef_add_8 (m : MethodId) (a0 : Addr) (i1 : Int32) : entryFrame m #[(.ref a0), (.int i1), (.double (4607182418800017408 : UInt64))] 5 = mkF m 0 #[.val (.ref a0), .val (.int i1), .val (.double (4607182418800017408 : UInt64)), .second, .unset] [] := by first | (simp [entryFrame, mkF, argsToLocals, Value.category]; done) | rfl
def Q_add_8 (Z : State) (a0 : Addr) (i1 : Int32) (am : Addr) (wa : Addr) (fp0 : Int64) (k_am : ClassId) (m0 : Int32) (m1 : Int32) (m2 : Int32) (m3 : Int32) (m4 : Int32) (m5 : Int32) (m6 : Int32) (m7 : Int32) (k_wa : ClassId) (h0 : Heap) (n0 : Nat) (v : Option Value) (h : Heap) (L : List Loc) : Prop := ∃ (mb wb : Addr) (k_mb k_wb : ClassId) (fq : Int64) (sl : Addr) (k_sl : ClassId) (ts : List Int32), v = some (.int (8 : Int32)) ∧ Fr n0 L ∧ Keep h0 h [a0, am, wa] ∧ Exa Z h a0 "com/example/due_weight/dueweight/core/Pairs" ∧ Fld Z h a0 "com/example/due_weight/dueweight/core/Pairs" "members" "[I" (.ref mb) ∧ Fld Z h a0 "com/example/due_weight/dueweight/core/Pairs" "weights" "[D" (.ref wb) ∧ Fld Z h a0 "com/example/due_weight/dueweight/core/Pairs" "exact" "Z" (.int (1 : Int32)) ∧ Fld Z h a0 "com/example/due_weight/dueweight/core/Pairs" "slots" "[I" (.ref sl) ∧ Fld Z h a0 "com/example/due_weight/dueweight/core/Pairs" "length" "I" (.int (9 : Int32)) ∧ Fld Z h a0 "com/example/due_weight/dueweight/core/Pairs" "fingerprint" "J" (.long fq) ∧ Fld Z h a0 "com/example/due_weight/dueweight/core/Pairs" "history" "Lcom/example/due_weight/dueweight/core/Pairs$History;" .null ∧ Fld Z h a0 "com/example/due_weight/dueweight/core/Pairs" "shift" "I" (.int (26 : Int32)) ∧ Arv Z h mb k_mb .int (16 : Int32) [(.int m0), (.int m1), (.int m2), (.int m3), (.int m4), (.int m5), (.int m6), (.int m7), (.int i1), (.int (0 : Int32)), (.int (0 : Int32)), (.int (0 : Int32)), (.int (0 : Int32)), (.int (0 : Int32)), (.int (0 : Int32)), (.int (0 : Int32))] (.int (0 : Int32)) ∧ Arv Z h wb k_wb .double (16 : Int32) [(.double (4607182418800017408 : UInt64)), (.double (4607182418800017408 : UInt64)), (.double (4607182418800017408 : UInt64)), (.double (4607182418800017408 : UInt64)), (.double (4607182418800017408 : UInt64)), (.double (4607182418800017408 : UInt64)), (.double (4607182418800017408 : UInt64)), (.double (4607182418800017408 : UInt64)), (.double (4607182418800017408 : UInt64)), (.double (0 : UInt64)), (.double (0 : UInt64)), (.double (0 : UInt64)), (.double (0 : UInt64)), (.double (0 : UInt64)), (.double (0 : UInt64)), (.double (0 : UInt64))] (.double (0 : UInt64)) ∧ n0 ≤ mb ∧ n0 ≤ wb ∧ a0 ≠ mb ∧ a0 ≠ wb ∧ mb ≠ wb ∧ Arv Z h sl k_sl .int (64 : Int32) (ts.map Value.int) (.int (0 : Int32)) ∧ Tab 9 ts [m0, m1, m2, m3, m4, m5, m6, m7, i1]
set_option maxRecDepth 65536 in
set_option maxHeartbeats 40000000 in
theorem add_8 (l : Launch) (Z : State) (aw : Array Value) (hw : ∀ d ∈ tables_1, d.before aw Z = true) (ws : List Jvm.Cond) (a0 : Addr) (i1 : Int32) (am : Addr) (wa : Addr) (fp0 : Int64) (k_am : ClassId) (m0 : Int32) (m1 : Int32) (m2 : Int32) (m3 : Int32) (m4 : Int32) (m5 : Int32) (m6 : Int32) (m7 : Int32) (k_wa : ClassId) (h0 : Heap) (n0 : Nat) (Z0 : n0 ≤ h0.size) (E_a0 : Exa Z h0 a0 "com/example/due_weight/dueweight/core/Pairs") (F_members_a0 : Fld Z h0 a0 "com/example/due_weight/dueweight/core/Pairs" "members" "[I" (.ref am)) (F_weights_a0 : Fld Z h0 a0 "com/example/due_weight/dueweight/core/Pairs" "weights" "[D" (.ref wa)) (F_exact_a0 : Fld Z h0 a0 "com/example/due_weight/dueweight/core/Pairs" "exact" "Z" (.int (1 : Int32))) (F_slots_a0 : Fld Z h0 a0 "com/example/due_weight/dueweight/core/Pairs" "slots" "[I" .null) (F_length_a0 : Fld Z h0 a0 "com/example/due_weight/dueweight/core/Pairs" "length" "I" (.int (8 : Int32))) (F_fingerprint_a0 : Fld Z h0 a0 "com/example/due_weight/dueweight/core/Pairs" "fingerprint" "J" (.long fp0)) (F_history_a0 : Fld Z h0 a0 "com/example/due_weight/dueweight/core/Pairs" "history" "Lcom/example/due_weight/dueweight/core/Pairs$History;" .null) (F_shift_a0 : Fld Z h0 a0 "com/example/due_weight/dueweight/core/Pairs" "shift" "I" (.int (0 : Int32))) (V_am : Arv Z h0 am k_am .int (8 : Int32) [(.int m0), (.int m1), (.int m2), (.int m3), (.int m4), (.int m5), (.int m6), (.int m7)] (.int (0 : Int32))) (V_wa : Arv Z h0 wa k_wa .double (8 : Int32) [(.double (4607182418800017408 : UInt64)), (.double (4607182418800017408 : UInt64)), (.double (4607182418800017408 : UInt64)), (.double (4607182418800017408 : UInt64)), (.double (4607182418800017408 : UInt64)), (.double (4607182418800017408 : UInt64)), (.double (4607182418800017408 : UInt64)), (.double (4607182418800017408 : UInt64))] (.double (0 : UInt64))) (g_a0 : n0 ≤ a0) (g_am : n0 ≤ am) (g_wa : n0 ≤ wa) (ne_a0_am : a0 ≠ am) (ne_a0_wa : a0 ≠ wa) (ne_am_wa : am ≠ wa) (hne0 : ¬ (m0 = i1)) (hne1 : ¬ (m1 = i1)) (hne2 : ¬ (m2 = i1)) (hne3 : ¬ (m3 = i1)) (hne4 : ¬ (m4 = i1)) (hne5 : ¬ (m5 = i1)) (hne6 : ¬ (m6 = i1)) (hne7 : ¬ (m7 = i1)) :
    MetFree l (⟨"com/example/due_weight/dueweight/core/Pairs", "add", "(ID)I"⟩ : MethodName) (head1 (Jvm.Cond.code (⟨"com/example/due_weight/dueweight/core/Pairs", "add", "(ID)I"⟩ : MethodName) prog_21_method_7_code 5 (some .int) :: ws) ({ frames := 3, cells := 3, slots := 96, locals := 45 } : Room)) (fun a U => a = #[(.ref a0), (.int i1), (.double (4607182418800017408 : UInt64))] ∧ Z.Warmed39 U.vm ∧ U.heap = h0) (fun _ _ _ _ _ => True) (fun _ U o U' => ∃ v L, o = .returned v ∧ Q_add_8 Z a0 i1 am wa fp0 k_am m0 m1 m2 m3 m4 m5 m6 m7 k_wa h0 n0 v U'.heap L ∧ FrameEnd U o U' L ({ frames := 3, cells := 3, slots := 96, locals := 45 } : Room).cells ({ frames := 3, cells := 3, slots := 96, locals := 45 } : Room).slots) := by
  refine MetFree.of_bodySF (plainFor_of_name pn_0) hisR ?_
  intro p e s m args below meth c s₁ Bd hml0 hP hK
  obtain ⟨rfl, hZ, hh⟩ := hP
  have hx := Bd.exec
  have hby := Bd.bytes
  have hml : c.maxLocals = 5 := hml0
  have hown : s.vm.findClass "com/example/due_weight/dueweight/core/Pairs" = some m.cls := findClass_of_methodNamed Bd.named
  have hnm := (name_of_methodNamed Bd.named Bd.method).1
  have hlk : meth.locks = false := BodyLoose.notSynchronized Bd
  have X0 : Stand p l e ({ frames := 3, cells := 3, slots := 96, locals := 45 } : Room) s m #[(.ref a0), (.int i1), (.double (4607182418800017408 : UInt64))] below meth c s₁ [] 0 0 := Stand.of_body Bd
  have e0 : s₁.heap = h0 := by rw [← hh, Bd.state]; rfl
  have N0 := Fr.nil n0
  have ZZ := Z0
  show Go p e below s ({ frames := 3, cells := 3, slots := 96, locals := 45 } : Room).cells ({ frames := 3, cells := 3, slots := 96, locals := 45 } : Room).slots (fun v h L => Q_add_8 Z a0 i1 am wa fp0 k_am m0 m1 m2 m3 m4 m5 m6 m7 k_wa h0 n0 v h L) s₁ (entryFrame m #[(.ref a0), (.int i1), (.double (4607182418800017408 : UInt64))] 5)
  refine Go.cast (ef_add_8 m a0 i1) ?_
  refine Go.gen ?_
  intro K1 K2 QQ hK1 hK2 hQQ
  have KP : Keep h0 h0 [a0, am, wa] := Keep.refl _ _
  refine Go.on (fun _ k => XS.aloadN X0.here hx rfl (hb hby d3_0) rfl rfl k) ?_
  refine Go.on (fun _ k => XS.iloadN X0.here hx rfl (hb hby d3_1) rfl k) ?_
  show Go _ _ _ _ _ _ _ _ (mkF m 2 #[Sr a0, Si i1, Sd 4607182418800017408, .second, .unset] [(.int i1), (.ref a0)])
  obtain ⟨cq1, kq1, q1a, q1b, q1c⟩ := isOf hZ e0 E_a0
  obtain ⟨_, _, ⟨T1, L1, k1, n1⟩, -, X1, ⟨Lc1, hQ1, l1, y1, z1⟩, st1⟩ := X0.virtualBack hx (y := (⟨"com/example/due_weight/dueweight/core/Pairs", "indexOf", "(I)I"⟩ : MethodName)) (z := (⟨"com/example/due_weight/dueweight/core/Pairs", "indexOf", "(I)I"⟩ : MethodName)) hown (mvT hZ (hw _ (List.mem_of_getElem? (i := 23) rfl))) (mvT hZ (hw _ (List.mem_of_getElem? (i := 24) rfl))) (notFace_of_selects (args := #[]) (mvT hZ (hw _ (List.mem_of_getElem? (i := 26) rfl)))) (mvT hZ (hw _ (List.mem_of_getElem? (i := 26) rfl))) (mvT hZ (hw _ (List.mem_of_getElem? (i := 25) rfl))) (by decide) (backOf (W := 0) (ixl l Z aw hw [] a0 i1 [m0, m1, m2, m3, m4, m5, m6, m7] [] (8 : Int32) am k_am (8 : Int32) [(.int m0), (.int m1), (.int m2), (.int m3), (.int m4), (.int m5), (.int m6), (.int m7)] h0 n0 ZZ F_slots_a0 F_length_a0 F_members_a0 V_am rfl (by decide) rfl) hZ (hw _ (List.mem_of_getElem? (i := 27) rfl)) (hw _ (List.mem_of_getElem? (i := 3) rfl)) (by decide) (by decide)) q1a q1c (g := (mkF m 2 #[Sr a0, Si i1, Sd 4607182418800017408, .second, .unset] [(.int i1), (.ref a0)])) rfl (by rw [hml]; rfl) (Steps.refl _) (argsL := [(.int i1)]) (rest := []) (lenOf pd_4 rfl) rfl (by show 2 * 0 + _ ≤ _; exact Nat.le_of_eq rfl) (hb hby d3_2) (fun _ _ => ⟨rfl, e0, (by decide : 0 + 0 ≤ _), (by decide : 0 + 0 ≤ _)⟩)
  dsimp only [Pt.U, Pt.locs, Pt.cells, Pt.slots] at X1 l1 y1 z1 st1 hQ1
  subst l1 y1 z1
  obtain ⟨rfl, N1q, e1⟩ := hQ1
  have N1 := Fr.app N0 N1q
  refine Go.on (fun _ k => st1.trans k) ?_
  show Go _ _ _ _ _ _ _ _ (mkF m 5 #[Sr a0, Si i1, Sd 4607182418800017408, .second, .unset] [(.int (findL [m0, m1, m2, m3, m4, m5, m6, m7] i1 0))])
  generalize hix : (findL [m0, m1, m2, m3, m4, m5, m6, m7] i1 0) = ix
  show Go _ _ _ _ _ _ _ _ (mkF m 5 #[Sr a0, Si i1, Sd 4607182418800017408, .second, .unset] [(.int ix)])
  refine Go.on (fun _ k => XS.istore X1.here hx rfl (hb hby d3_5) rfl (l' := #[.val (.ref a0), .val (.int i1), .val (.double (4607182418800017408 : UInt64)), .second, .val (.int ix)]) rfl k) ?_
  show Go _ _ _ _ _ _ _ _ (mkF m 7 #[Sr a0, Si i1, Sd 4607182418800017408, .second, Si ix] [])
  refine Go.on (fun _ k => XS.iload X1.here hx rfl (hb hby d3_7) rfl k) ?_
  show Go _ _ _ _ _ _ _ _ (mkF m 9 #[Sr a0, Si i1, Sd 4607182418800017408, .second, Si ix] [(.int ix)])
  have hc2 : ix < (0 : Int32) := by rw [← hix]; simp only [findL, if_neg hne0, if_neg hne1, if_neg hne2, if_neg hne3, if_neg hne4, if_neg hne5, if_neg hne6, if_neg hne7]; decide
  refine Go.on (fun _ k => XS.ifNo X1.here hx rfl (hb hby d3_9) rfl ((if0 _ _).trans (tlt hc2).2.1) k) ?_
  refine Go.on (fun _ k => XS.aloadN X1.here hx rfl (hb hby d3_12) rfl rfl k) ?_
  show Go _ _ _ _ _ _ _ _ (mkF m 13 #[Sr a0, Si i1, Sd 4607182418800017408, .second, Si ix] [(.ref a0)])
  obtain ⟨T3, X3, e3, st3⟩ := getF X1 hx hZ hown (host := "") (Or.inl (hw _ (List.mem_of_getElem? (i := 30) rfl))) Via.refl e1 F_length_a0 (g := (mkF m 13 #[Sr a0, Si i1, Sd 4607182418800017408, .second, Si ix] [(.ref a0)])) rfl rfl (hb hby d3_13)
  refine Go.on st3 ?_
  show Go _ _ _ _ _ _ _ _ (mkF m 16 #[Sr a0, Si i1, Sd 4607182418800017408, .second, Si ix] [(.int 8)])
  refine Go.on (fun _ k => XS.aloadN X3.here hx rfl (hb hby d3_16) rfl rfl k) ?_
  show Go _ _ _ _ _ _ _ _ (mkF m 17 #[Sr a0, Si i1, Sd 4607182418800017408, .second, Si ix] [(.ref a0), (.int 8)])
  obtain ⟨T4, X4, e4, st4⟩ := getF X3 hx hZ hown (host := "") (Or.inl (hw _ (List.mem_of_getElem? (i := 11) rfl))) Via.refl e3 F_members_a0 (g := (mkF m 17 #[Sr a0, Si i1, Sd 4607182418800017408, .second, Si ix] [(.ref a0), (.int 8)])) rfl rfl (hb hby d3_17)
  refine Go.on st4 ?_
  show Go _ _ _ _ _ _ _ _ (mkF m 20 #[Sr a0, Si i1, Sd 4607182418800017408, .second, Si ix] [(.ref am), (.int 8)])
  obtain ⟨cl5, Ar5, -, S5, N5n, -, -⟩ := id V_am
  refine Go.on (X4.arraylength hx (by rw [e4]; exact Ar5.1) (State.isArrayOf_alike hZ.alike Ar5.2.1) (g := (mkF m 20 #[Sr a0, Si i1, Sd 4607182418800017408, .second, Si ix] [(.ref am), (.int 8)])) rfl rfl (hb hby d3_20)) ?_
  rw [len_of S5 N5n]
  show Go _ _ _ _ _ _ _ _ (mkF m 21 #[Sr a0, Si i1, Sd 4607182418800017408, .second, Si ix] [(.int 8), (.int 8)])
  have hc6 : (8 : Int32) = (8 : Int32) := by decide
  refine Go.on (fun _ k => XS.icmpNo X4.here hx rfl (hb hby d3_21) rfl (teq hc6).2 k) ?_
  refine Go.on (fun _ k => XS.aloadN X4.here hx rfl (hb hby d3_24) rfl rfl k) ?_
  refine Go.on (fun _ k => XS.aloadN X4.here hx rfl (hb hby d3_25) rfl rfl k) ?_
  show Go _ _ _ _ _ _ _ _ (mkF m 26 #[Sr a0, Si i1, Sd 4607182418800017408, .second, Si ix] [(.ref a0), (.ref a0)])
  obtain ⟨T7, X7, e7, st7⟩ := getF X4 hx hZ hown (host := "") (Or.inl (hw _ (List.mem_of_getElem? (i := 11) rfl))) Via.refl e4 F_members_a0 (g := (mkF m 26 #[Sr a0, Si i1, Sd 4607182418800017408, .second, Si ix] [(.ref a0), (.ref a0)])) rfl rfl (hb hby d3_26)
  refine Go.on st7 ?_
  show Go _ _ _ _ _ _ _ _ (mkF m 29 #[Sr a0, Si i1, Sd 4607182418800017408, .second, Si ix] [(.ref am), (.ref a0)])
  refine Go.on (fun _ k => XS.aloadN X7.here hx rfl (hb hby d3_29) rfl rfl k) ?_
  show Go _ _ _ _ _ _ _ _ (mkF m 30 #[Sr a0, Si i1, Sd 4607182418800017408, .second, Si ix] [(.ref a0), (.ref am), (.ref a0)])
  obtain ⟨T8, X8, e8, st8⟩ := getF X7 hx hZ hown (host := "") (Or.inl (hw _ (List.mem_of_getElem? (i := 30) rfl))) Via.refl e7 F_length_a0 (g := (mkF m 30 #[Sr a0, Si i1, Sd 4607182418800017408, .second, Si ix] [(.ref a0), (.ref am), (.ref a0)])) rfl rfl (hb hby d3_30)
  refine Go.on st8 ?_
  show Go _ _ _ _ _ _ _ _ (mkF m 33 #[Sr a0, Si i1, Sd 4607182418800017408, .second, Si ix] [(.int 8), (.ref am), (.ref a0)])
  refine Go.on (fun _ k => XS.iconst X8.here hx rfl (hb hby d3_33) k) ?_
  show Go _ _ _ _ _ _ _ _ (mkF m 34 #[Sr a0, Si i1, Sd 4607182418800017408, .second, Si ix] [(.int 2), (.int 8), (.ref am), (.ref a0)])
  obtain ⟨_, _, ⟨T9, L9, k9, n9⟩, -, X9, ⟨Lc9, hQ9, l9, y9, z9⟩, st9⟩ := Jvm.LawKit.callS X8 hx (y := (⟨"java/lang/Math", "multiplyExact", "(II)I"⟩ : MethodName)) hown (mvT hZ (hw _ (List.mem_of_getElem? (i := 58) rfl))) (mvT hZ (hw _ (List.mem_of_getElem? (i := 59) rfl))) (mvT hZ (hw _ (List.mem_of_getElem? (i := 60) rfl))) (mvT hZ (hw _ (List.mem_of_getElem? (i := 61) rfl))) (by decide) (backOf (W := 2) (mul_8 l Z aw hw []   h0 n0 ZZ ) hZ (hw _ (List.mem_of_getElem? (i := 61) rfl)) (hw _ (List.mem_of_getElem? (i := 60) rfl)) (by decide) (by decide)) (g := (mkF m 34 #[Sr a0, Si i1, Sd 4607182418800017408, .second, Si ix] [(.int 2), (.int 8), (.ref am), (.ref a0)])) rfl (by rw [hml]; rfl) (argsL := [(.int (8 : Int32)), (.int (2 : Int32))]) (rest := [(.ref am), (.ref a0)]) (lenOf pd_3 rfl) rfl (by show 2 * 0 + _ ≤ _; exact Nat.le_of_eq rfl) (hb hby d3_34) (fun _ _ => ⟨rfl, e8, (by decide : 0 + 0 ≤ _), (by decide : 0 + 0 ≤ _)⟩)
  dsimp only [Pt.U, Pt.locs, Pt.cells, Pt.slots] at X9 l9 y9 z9 st9 hQ9
  subst l9 y9 z9
  obtain ⟨rfl, N9q, e9⟩ := hQ9
  have N9 := Fr.app N1 N9q
  refine Go.on st9 ?_
  show Go _ _ _ _ _ _ _ _ (mkF m 37 #[Sr a0, Si i1, Sd 4607182418800017408, .second, Si ix] [(.int 16), (.ref am), (.ref a0)])
  obtain ⟨_, _, ⟨T10, L10, k10, n10⟩, -, X10, ⟨Lc10, hQ10, l10, y10, z10⟩, st10⟩ := Jvm.LawKit.callS X9 hx (y := (⟨"java/util/Arrays", "copyOf", "([II)[I"⟩ : MethodName)) hown (mvT hZ (hw _ (List.mem_of_getElem? (i := 62) rfl))) (mvT hZ (hw _ (List.mem_of_getElem? (i := 63) rfl))) (mvT hZ (hw _ (List.mem_of_getElem? (i := 64) rfl))) (mvT hZ (hw _ (List.mem_of_getElem? (i := 65) rfl))) (by decide) (backOf (W := 1) (copy_int_8 l Z aw hw [] am k_am m0 m1 m2 m3 m4 m5 m6 m7 h0 n0 ZZ V_am) hZ (hw _ (List.mem_of_getElem? (i := 65) rfl)) (hw _ (List.mem_of_getElem? (i := 64) rfl)) (by decide) (by decide)) (g := (mkF m 37 #[Sr a0, Si i1, Sd 4607182418800017408, .second, Si ix] [(.int 16), (.ref am), (.ref a0)])) rfl (by rw [hml]; rfl) (argsL := [(.ref am), (.int (16 : Int32))]) (rest := [(.ref a0)]) (lenOf pd_6 rfl) rfl (by show 2 * 0 + _ ≤ _; exact Nat.le_of_eq rfl) (hb hby d3_37) (fun _ _ => ⟨rfl, e9, (by decide : 0 + 1 ≤ _), (by decide : 0 + 16 ≤ _)⟩)
  dsimp only [Pt.U, Pt.locs, Pt.cells, Pt.slots] at X10 l10 y10 z10 st10 hQ10
  subst l10 y10 z10
  obtain ⟨h10, e10⟩ : ∃ q, T10.heap = q := ⟨_, rfl⟩
  rw [e10] at hQ10
  obtain ⟨mb, k_mb, rfl, N10q, K10q, szq10, V_mb⟩ := hQ10
  have N10 := Fr.app N9 N10q
  have g_mb : n0 ≤ mb := Nat.le_trans ZZ szq10
  have sz_mb : h0.size ≤ mb := Nat.le_trans KP.1 szq10
  have ne_a0_mb : a0 ≠ mb := Nat.ne_of_lt (Nat.lt_of_lt_of_le E_a0.lt szq10)
  have ne_am_mb : am ≠ mb := Nat.ne_of_lt (Nat.lt_of_lt_of_le V_am.lt szq10)
  have ne_wa_mb : wa ≠ mb := Nat.ne_of_lt (Nat.lt_of_lt_of_le V_wa.lt szq10)
  replace E_a0 := E_a0.keep K10q
  replace F_members_a0 := F_members_a0.keep K10q nin0
  replace F_weights_a0 := F_weights_a0.keep K10q nin0
  replace F_exact_a0 := F_exact_a0.keep K10q nin0
  replace F_slots_a0 := F_slots_a0.keep K10q nin0
  replace F_length_a0 := F_length_a0.keep K10q nin0
  replace F_fingerprint_a0 := F_fingerprint_a0.keep K10q nin0
  replace F_history_a0 := F_history_a0.keep K10q nin0
  replace F_shift_a0 := F_shift_a0.keep K10q nin0
  replace V_am := V_am.keep K10q nin0
  replace V_wa := V_wa.keep K10q nin0
  replace ZZ := Nat.le_trans ZZ K10q.1
  replace KP := KP.trans K10q all0
  refine Go.on st10 ?_
  show Go _ _ _ _ _ _ _ _ (mkF m 40 #[Sr a0, Si i1, Sd 4607182418800017408, .second, Si ix] [(.ref mb), (.ref a0)])
  obtain ⟨T11, h11, X11, e11, W11, st11⟩ := putF X10 hx hZ hown (host := "") (Or.inl (hw _ (List.mem_of_getElem? (i := 11) rfl))) Via.refl e10 F_members_a0 E_a0 (Or.inl (hw _ (List.mem_of_getElem? (i := 12) rfl))) (hw _ (List.mem_of_getElem? (i := 2) rfl)) (ty := (.array .int)) (by decide) rfl rfl (g := (mkF m 40 #[Sr a0, Si i1, Sd 4607182418800017408, .second, Si ix] [(.ref mb), (.ref a0)])) rfl rfl (hb hby d3_40)
  refine Go.on st11 ?_
  replace F_members_a0 := F_members_a0.same W11
  replace E_a0 := E_a0.wr W11
  replace F_weights_a0 := F_weights_a0.other W11 (Or.inr (slot_ne (Or.inl (hw _ (List.mem_of_getElem? (i := 15) rfl))) (Or.inl (hw _ (List.mem_of_getElem? (i := 12) rfl))) (by decide) (t := (.array .double)) (t' := (.array .int)) (by decide) (by decide)))
  replace F_exact_a0 := F_exact_a0.other W11 (Or.inr (slot_ne (Or.inl (hw _ (List.mem_of_getElem? (i := 17) rfl))) (Or.inl (hw _ (List.mem_of_getElem? (i := 12) rfl))) (by decide) (t := .boolean) (t' := (.array .int)) (by decide) (by decide)))
  replace F_slots_a0 := F_slots_a0.other W11 (Or.inr (slot_ne (Or.inl (hw _ (List.mem_of_getElem? (i := 29) rfl))) (Or.inl (hw _ (List.mem_of_getElem? (i := 12) rfl))) (by decide) (t := (.array .int)) (t' := (.array .int)) (by decide) (by decide)))
  replace F_length_a0 := F_length_a0.other W11 (Or.inr (slot_ne (Or.inl (hw _ (List.mem_of_getElem? (i := 31) rfl))) (Or.inl (hw _ (List.mem_of_getElem? (i := 12) rfl))) (by decide) (t := .int) (t' := (.array .int)) (by decide) (by decide)))
  replace F_fingerprint_a0 := F_fingerprint_a0.other W11 (Or.inr (slot_ne (Or.inl (hw _ (List.mem_of_getElem? (i := 33) rfl))) (Or.inl (hw _ (List.mem_of_getElem? (i := 12) rfl))) (by decide) (t := .long) (t' := (.array .int)) (by decide) (by decide)))
  replace F_history_a0 := F_history_a0.other W11 (Or.inr (slot_ne (Or.inl (hw _ (List.mem_of_getElem? (i := 52) rfl))) (Or.inl (hw _ (List.mem_of_getElem? (i := 12) rfl))) (by decide) (t := (.object "com/example/due_weight/dueweight/core/Pairs$History")) (t' := (.array .int)) (by decide) (by decide)))
  replace F_shift_a0 := F_shift_a0.other W11 (Or.inr (slot_ne (Or.inl (hw _ (List.mem_of_getElem? (i := 86) rfl))) (Or.inl (hw _ (List.mem_of_getElem? (i := 12) rfl))) (by decide) (t := .int) (t' := (.array .int)) (by decide) (by decide)))
  replace V_am := V_am.other W11 (Ne.symm ne_a0_am)
  replace V_wa := V_wa.other W11 (Ne.symm ne_a0_wa)
  replace V_mb := V_mb.other W11 (Ne.symm ne_a0_mb)
  have N11 := Fr.snoc X11 N10 g_a0
  replace ZZ := Nat.le_trans ZZ (Keep.of_wr W11).1
  replace KP := KP.wr W11 (Or.inl (List.mem_of_getElem? (i := 0) rfl))
  show Go _ _ _ _ _ _ _ _ (mkF m 43 #[Sr a0, Si i1, Sd 4607182418800017408, .second, Si ix] [])
  refine Go.on (fun _ k => XS.aloadN X11.here hx rfl (hb hby d3_43) rfl rfl k) ?_
  refine Go.on (fun _ k => XS.aloadN X11.here hx rfl (hb hby d3_44) rfl rfl k) ?_
  show Go _ _ _ _ _ _ _ _ (mkF m 45 #[Sr a0, Si i1, Sd 4607182418800017408, .second, Si ix] [(.ref a0), (.ref a0)])
  obtain ⟨T12, X12, e12, st12⟩ := getF X11 hx hZ hown (host := "") (Or.inl (hw _ (List.mem_of_getElem? (i := 14) rfl))) Via.refl e11 F_weights_a0 (g := (mkF m 45 #[Sr a0, Si i1, Sd 4607182418800017408, .second, Si ix] [(.ref a0), (.ref a0)])) rfl rfl (hb hby d3_45)
  refine Go.on st12 ?_
  show Go _ _ _ _ _ _ _ _ (mkF m 48 #[Sr a0, Si i1, Sd 4607182418800017408, .second, Si ix] [(.ref wa), (.ref a0)])
  refine Go.on (fun _ k => XS.aloadN X12.here hx rfl (hb hby d3_48) rfl rfl k) ?_
  show Go _ _ _ _ _ _ _ _ (mkF m 49 #[Sr a0, Si i1, Sd 4607182418800017408, .second, Si ix] [(.ref a0), (.ref wa), (.ref a0)])
  obtain ⟨T13, X13, e13, st13⟩ := getF X12 hx hZ hown (host := "") (Or.inl (hw _ (List.mem_of_getElem? (i := 11) rfl))) Via.refl e12 F_members_a0 (g := (mkF m 49 #[Sr a0, Si i1, Sd 4607182418800017408, .second, Si ix] [(.ref a0), (.ref wa), (.ref a0)])) rfl rfl (hb hby d3_49)
  refine Go.on st13 ?_
  show Go _ _ _ _ _ _ _ _ (mkF m 52 #[Sr a0, Si i1, Sd 4607182418800017408, .second, Si ix] [(.ref mb), (.ref wa), (.ref a0)])
  obtain ⟨cl14, Ar14, -, S14, N14n, -, -⟩ := id V_mb
  refine Go.on (X13.arraylength hx (by rw [e13]; exact Ar14.1) (State.isArrayOf_alike hZ.alike Ar14.2.1) (g := (mkF m 52 #[Sr a0, Si i1, Sd 4607182418800017408, .second, Si ix] [(.ref mb), (.ref wa), (.ref a0)])) rfl rfl (hb hby d3_52)) ?_
  rw [len_of S14 N14n]
  show Go _ _ _ _ _ _ _ _ (mkF m 53 #[Sr a0, Si i1, Sd 4607182418800017408, .second, Si ix] [(.int 16), (.ref wa), (.ref a0)])
  obtain ⟨_, _, ⟨T15, L15, k15, n15⟩, -, X15, ⟨Lc15, hQ15, l15, y15, z15⟩, st15⟩ := Jvm.LawKit.callS X13 hx (y := (⟨"java/util/Arrays", "copyOf", "([DI)[D"⟩ : MethodName)) hown (mvT hZ (hw _ (List.mem_of_getElem? (i := 73) rfl))) (mvT hZ (hw _ (List.mem_of_getElem? (i := 74) rfl))) (mvT hZ (hw _ (List.mem_of_getElem? (i := 64) rfl))) (mvT hZ (hw _ (List.mem_of_getElem? (i := 75) rfl))) (by decide) (backOf (W := 1) (copy_double_8 l Z aw hw [] wa k_wa h11 n0 ZZ V_wa) hZ (hw _ (List.mem_of_getElem? (i := 75) rfl)) (hw _ (List.mem_of_getElem? (i := 64) rfl)) (by decide) (by decide)) (g := (mkF m 53 #[Sr a0, Si i1, Sd 4607182418800017408, .second, Si ix] [(.int 16), (.ref wa), (.ref a0)])) rfl (by rw [hml]; rfl) (argsL := [(.ref wa), (.int (16 : Int32))]) (rest := [(.ref a0)]) (lenOf pd_7 rfl) rfl (by show 2 * 0 + _ ≤ _; exact Nat.le_of_eq rfl) (hb hby d3_53) (fun _ _ => ⟨rfl, e13, (by decide : 1 + 1 ≤ _), (by decide : 16 + 16 ≤ _)⟩)
  dsimp only [Pt.U, Pt.locs, Pt.cells, Pt.slots] at X15 l15 y15 z15 st15 hQ15
  subst l15 y15 z15
  obtain ⟨h15, e15⟩ : ∃ q, T15.heap = q := ⟨_, rfl⟩
  rw [e15] at hQ15
  obtain ⟨wb, k_wb, rfl, N15q, K15q, szq15, V_wb⟩ := hQ15
  have N15 := Fr.app N11 N15q
  have g_wb : n0 ≤ wb := Nat.le_trans ZZ szq15
  have sz_wb : h0.size ≤ wb := Nat.le_trans KP.1 szq15
  have ne_a0_wb : a0 ≠ wb := Nat.ne_of_lt (Nat.lt_of_lt_of_le E_a0.lt szq15)
  have ne_am_wb : am ≠ wb := Nat.ne_of_lt (Nat.lt_of_lt_of_le V_am.lt szq15)
  have ne_wa_wb : wa ≠ wb := Nat.ne_of_lt (Nat.lt_of_lt_of_le V_wa.lt szq15)
  have ne_mb_wb : mb ≠ wb := Nat.ne_of_lt (Nat.lt_of_lt_of_le V_mb.lt szq15)
  replace E_a0 := E_a0.keep K15q
  replace F_members_a0 := F_members_a0.keep K15q nin0
  replace F_weights_a0 := F_weights_a0.keep K15q nin0
  replace F_exact_a0 := F_exact_a0.keep K15q nin0
  replace F_slots_a0 := F_slots_a0.keep K15q nin0
  replace F_length_a0 := F_length_a0.keep K15q nin0
  replace F_fingerprint_a0 := F_fingerprint_a0.keep K15q nin0
  replace F_history_a0 := F_history_a0.keep K15q nin0
  replace F_shift_a0 := F_shift_a0.keep K15q nin0
  replace V_am := V_am.keep K15q nin0
  replace V_wa := V_wa.keep K15q nin0
  replace V_mb := V_mb.keep K15q nin0
  replace ZZ := Nat.le_trans ZZ K15q.1
  replace KP := KP.trans K15q all0
  refine Go.on st15 ?_
  show Go _ _ _ _ _ _ _ _ (mkF m 56 #[Sr a0, Si i1, Sd 4607182418800017408, .second, Si ix] [(.ref wb), (.ref a0)])
  obtain ⟨T16, h16, X16, e16, W16, st16⟩ := putF X15 hx hZ hown (host := "") (Or.inl (hw _ (List.mem_of_getElem? (i := 14) rfl))) Via.refl e15 F_weights_a0 E_a0 (Or.inl (hw _ (List.mem_of_getElem? (i := 15) rfl))) (hw _ (List.mem_of_getElem? (i := 2) rfl)) (ty := (.array .double)) (by decide) rfl rfl (g := (mkF m 56 #[Sr a0, Si i1, Sd 4607182418800017408, .second, Si ix] [(.ref wb), (.ref a0)])) rfl rfl (hb hby d3_56)
  refine Go.on st16 ?_
  replace F_weights_a0 := F_weights_a0.same W16
  replace E_a0 := E_a0.wr W16
  replace F_members_a0 := F_members_a0.other W16 (Or.inr (slot_ne (Or.inl (hw _ (List.mem_of_getElem? (i := 12) rfl))) (Or.inl (hw _ (List.mem_of_getElem? (i := 15) rfl))) (by decide) (t := (.array .int)) (t' := (.array .double)) (by decide) (by decide)))
  replace F_exact_a0 := F_exact_a0.other W16 (Or.inr (slot_ne (Or.inl (hw _ (List.mem_of_getElem? (i := 17) rfl))) (Or.inl (hw _ (List.mem_of_getElem? (i := 15) rfl))) (by decide) (t := .boolean) (t' := (.array .double)) (by decide) (by decide)))
  replace F_slots_a0 := F_slots_a0.other W16 (Or.inr (slot_ne (Or.inl (hw _ (List.mem_of_getElem? (i := 29) rfl))) (Or.inl (hw _ (List.mem_of_getElem? (i := 15) rfl))) (by decide) (t := (.array .int)) (t' := (.array .double)) (by decide) (by decide)))
  replace F_length_a0 := F_length_a0.other W16 (Or.inr (slot_ne (Or.inl (hw _ (List.mem_of_getElem? (i := 31) rfl))) (Or.inl (hw _ (List.mem_of_getElem? (i := 15) rfl))) (by decide) (t := .int) (t' := (.array .double)) (by decide) (by decide)))
  replace F_fingerprint_a0 := F_fingerprint_a0.other W16 (Or.inr (slot_ne (Or.inl (hw _ (List.mem_of_getElem? (i := 33) rfl))) (Or.inl (hw _ (List.mem_of_getElem? (i := 15) rfl))) (by decide) (t := .long) (t' := (.array .double)) (by decide) (by decide)))
  replace F_history_a0 := F_history_a0.other W16 (Or.inr (slot_ne (Or.inl (hw _ (List.mem_of_getElem? (i := 52) rfl))) (Or.inl (hw _ (List.mem_of_getElem? (i := 15) rfl))) (by decide) (t := (.object "com/example/due_weight/dueweight/core/Pairs$History")) (t' := (.array .double)) (by decide) (by decide)))
  replace F_shift_a0 := F_shift_a0.other W16 (Or.inr (slot_ne (Or.inl (hw _ (List.mem_of_getElem? (i := 86) rfl))) (Or.inl (hw _ (List.mem_of_getElem? (i := 15) rfl))) (by decide) (t := .int) (t' := (.array .double)) (by decide) (by decide)))
  replace V_am := V_am.other W16 (Ne.symm ne_a0_am)
  replace V_wa := V_wa.other W16 (Ne.symm ne_a0_wa)
  replace V_mb := V_mb.other W16 (Ne.symm ne_a0_mb)
  replace V_wb := V_wb.other W16 (Ne.symm ne_a0_wb)
  have N16 := Fr.snoc X16 N15 g_a0
  replace ZZ := Nat.le_trans ZZ (Keep.of_wr W16).1
  replace KP := KP.wr W16 (Or.inl (List.mem_of_getElem? (i := 0) rfl))
  show Go _ _ _ _ _ _ _ _ (mkF m 59 #[Sr a0, Si i1, Sd 4607182418800017408, .second, Si ix] [])
  refine Go.on (fun _ k => XS.aloadN X16.here hx rfl (hb hby d3_59) rfl rfl k) ?_
  refine Go.on (fun _ k => XS.dup X16.here hx rfl (hb hby d3_60) rfl rfl k) ?_
  show Go _ _ _ _ _ _ _ _ (mkF m 61 #[Sr a0, Si i1, Sd 4607182418800017408, .second, Si ix] [(.ref a0), (.ref a0)])
  obtain ⟨T17, X17, e17, st17⟩ := getF X16 hx hZ hown (host := "") (Or.inl (hw _ (List.mem_of_getElem? (i := 30) rfl))) Via.refl e16 F_length_a0 (g := (mkF m 61 #[Sr a0, Si i1, Sd 4607182418800017408, .second, Si ix] [(.ref a0), (.ref a0)])) rfl rfl (hb hby d3_61)
  refine Go.on st17 ?_
  show Go _ _ _ _ _ _ _ _ (mkF m 64 #[Sr a0, Si i1, Sd 4607182418800017408, .second, Si ix] [(.int 8), (.ref a0)])
  refine Go.on (fun _ k => XS.dupX1 X17.here hx rfl (hb hby d3_64) rfl rfl rfl k) ?_
  show Go _ _ _ _ _ _ _ _ (mkF m 65 #[Sr a0, Si i1, Sd 4607182418800017408, .second, Si ix] [(.int 8), (.ref a0), (.int 8)])
  refine Go.on (fun _ k => XS.iconst X17.here hx rfl (hb hby d3_65) k) ?_
  refine Go.on (fun _ k => XS.iadd X17.here hx rfl (hb hby d3_66) rfl k) ?_
  show Go _ _ _ _ _ _ _ _ (mkF m 67 #[Sr a0, Si i1, Sd 4607182418800017408, .second, Si ix] [(.int 9), (.ref a0), (.int 8)])
  obtain ⟨T18, h18, X18, e18, W18, st18⟩ := putF X17 hx hZ hown (host := "") (Or.inl (hw _ (List.mem_of_getElem? (i := 30) rfl))) Via.refl e17 F_length_a0 E_a0 (Or.inl (hw _ (List.mem_of_getElem? (i := 31) rfl))) (hw _ (List.mem_of_getElem? (i := 2) rfl)) (ty := .int) (by decide) rfl rfl (g := (mkF m 67 #[Sr a0, Si i1, Sd 4607182418800017408, .second, Si ix] [(.int 9), (.ref a0), (.int 8)])) rfl rfl (hb hby d3_67)
  refine Go.on st18 ?_
  replace F_length_a0 := F_length_a0.same W18
  replace E_a0 := E_a0.wr W18
  replace F_members_a0 := F_members_a0.other W18 (Or.inr (slot_ne (Or.inl (hw _ (List.mem_of_getElem? (i := 12) rfl))) (Or.inl (hw _ (List.mem_of_getElem? (i := 31) rfl))) (by decide) (t := (.array .int)) (t' := .int) (by decide) (by decide)))
  replace F_weights_a0 := F_weights_a0.other W18 (Or.inr (slot_ne (Or.inl (hw _ (List.mem_of_getElem? (i := 15) rfl))) (Or.inl (hw _ (List.mem_of_getElem? (i := 31) rfl))) (by decide) (t := (.array .double)) (t' := .int) (by decide) (by decide)))
  replace F_exact_a0 := F_exact_a0.other W18 (Or.inr (slot_ne (Or.inl (hw _ (List.mem_of_getElem? (i := 17) rfl))) (Or.inl (hw _ (List.mem_of_getElem? (i := 31) rfl))) (by decide) (t := .boolean) (t' := .int) (by decide) (by decide)))
  replace F_slots_a0 := F_slots_a0.other W18 (Or.inr (slot_ne (Or.inl (hw _ (List.mem_of_getElem? (i := 29) rfl))) (Or.inl (hw _ (List.mem_of_getElem? (i := 31) rfl))) (by decide) (t := (.array .int)) (t' := .int) (by decide) (by decide)))
  replace F_fingerprint_a0 := F_fingerprint_a0.other W18 (Or.inr (slot_ne (Or.inl (hw _ (List.mem_of_getElem? (i := 33) rfl))) (Or.inl (hw _ (List.mem_of_getElem? (i := 31) rfl))) (by decide) (t := .long) (t' := .int) (by decide) (by decide)))
  replace F_history_a0 := F_history_a0.other W18 (Or.inr (slot_ne (Or.inl (hw _ (List.mem_of_getElem? (i := 52) rfl))) (Or.inl (hw _ (List.mem_of_getElem? (i := 31) rfl))) (by decide) (t := (.object "com/example/due_weight/dueweight/core/Pairs$History")) (t' := .int) (by decide) (by decide)))
  replace F_shift_a0 := F_shift_a0.other W18 (Or.inr (slot_ne (Or.inl (hw _ (List.mem_of_getElem? (i := 86) rfl))) (Or.inl (hw _ (List.mem_of_getElem? (i := 31) rfl))) (by decide) (t := .int) (t' := .int) (by decide) (by decide)))
  replace V_am := V_am.other W18 (Ne.symm ne_a0_am)
  replace V_wa := V_wa.other W18 (Ne.symm ne_a0_wa)
  replace V_mb := V_mb.other W18 (Ne.symm ne_a0_mb)
  replace V_wb := V_wb.other W18 (Ne.symm ne_a0_wb)
  have N18 := Fr.snoc X18 N16 g_a0
  replace ZZ := Nat.le_trans ZZ (Keep.of_wr W18).1
  replace KP := KP.wr W18 (Or.inl (List.mem_of_getElem? (i := 0) rfl))
  show Go _ _ _ _ _ _ _ _ (mkF m 70 #[Sr a0, Si i1, Sd 4607182418800017408, .second, Si ix] [(.int 8)])
  refine Go.on (fun _ k => XS.istore X18.here hx rfl (hb hby d3_70) rfl (l' := #[.val (.ref a0), .val (.int i1), .val (.double (4607182418800017408 : UInt64)), .second, .val (.int (8 : Int32))]) rfl k) ?_
  show Go _ _ _ _ _ _ _ _ (mkF m 72 #[Sr a0, Si i1, Sd 4607182418800017408, .second, Si 8] [])
  refine Go.on (fun _ k => XS.aloadN X18.here hx rfl (hb hby d3_72) rfl rfl k) ?_
  show Go _ _ _ _ _ _ _ _ (mkF m 73 #[Sr a0, Si i1, Sd 4607182418800017408, .second, Si 8] [(.ref a0)])
  obtain ⟨T19, X19, e19, st19⟩ := getF X18 hx hZ hown (host := "") (Or.inl (hw _ (List.mem_of_getElem? (i := 11) rfl))) Via.refl e18 F_members_a0 (g := (mkF m 73 #[Sr a0, Si i1, Sd 4607182418800017408, .second, Si 8] [(.ref a0)])) rfl rfl (hb hby d3_73)
  refine Go.on st19 ?_
  show Go _ _ _ _ _ _ _ _ (mkF m 76 #[Sr a0, Si i1, Sd 4607182418800017408, .second, Si 8] [(.ref mb)])
  refine Go.on (fun _ k => XS.iload X19.here hx rfl (hb hby d3_76) rfl k) ?_
  refine Go.on (fun _ k => XS.iloadN X19.here hx rfl (hb hby d3_78) rfl k) ?_
  show Go _ _ _ _ _ _ _ _ (mkF m 79 #[Sr a0, Si i1, Sd 4607182418800017408, .second, Si 8] [(.int i1), (.int 8), (.ref mb)])
  obtain ⟨cl20, Ar20, q20, S20, N20n, H20, G20⟩ := id V_mb
  have hin20 : ¬ ((8 : Int32) < 0 ∨ cl20.slots.size ≤ ((8 : Int32)).toNatClampNeg) := inb_of S20 ⟨by decide, by decide⟩
  obtain ⟨T20, h20, X20, e20, W20, st20⟩ := stI X19 hx hZ e19 Ar20 (j := (8 : Int32)) hin20 (g := (mkF m 79 #[Sr a0, Si i1, Sd 4607182418800017408, .second, Si 8] [(.int i1), (.int 8), (.ref mb)])) rfl rfl (hb hby d3_79)
  replace V_mb := Arv.set Ar20 q20 S20 N20n H20 G20 rfl W20 8 rfl (Nat.le_of_ble_eq_true rfl)
  replace E_a0 := E_a0.wr W20
  replace F_members_a0 := F_members_a0.other W20 (Or.inl ne_a0_mb)
  replace F_weights_a0 := F_weights_a0.other W20 (Or.inl ne_a0_mb)
  replace F_exact_a0 := F_exact_a0.other W20 (Or.inl ne_a0_mb)
  replace F_slots_a0 := F_slots_a0.other W20 (Or.inl ne_a0_mb)
  replace F_length_a0 := F_length_a0.other W20 (Or.inl ne_a0_mb)
  replace F_fingerprint_a0 := F_fingerprint_a0.other W20 (Or.inl ne_a0_mb)
  replace F_history_a0 := F_history_a0.other W20 (Or.inl ne_a0_mb)
  replace F_shift_a0 := F_shift_a0.other W20 (Or.inl ne_a0_mb)
  replace V_am := V_am.other W20 ne_am_mb
  replace V_wa := V_wa.other W20 ne_wa_mb
  replace V_wb := V_wb.other W20 (Ne.symm ne_mb_wb)
  refine Go.on st20 ?_
  have N20 := Fr.snoc X20 N18 g_mb
  replace ZZ := Nat.le_trans ZZ (Keep.of_wr W20).1
  replace KP := KP.wr W20 (Or.inr sz_mb)
  change Arv Z h20 mb k_mb .int (16 : Int32) [(.int m0), (.int m1), (.int m2), (.int m3), (.int m4), (.int m5), (.int m6), (.int m7), (.int i1), (.int (0 : Int32)), (.int (0 : Int32)), (.int (0 : Int32)), (.int (0 : Int32)), (.int (0 : Int32)), (.int (0 : Int32)), (.int (0 : Int32))] (.int (0 : Int32)) at V_mb
  show Go _ _ _ _ _ _ _ _ (mkF m 80 #[Sr a0, Si i1, Sd 4607182418800017408, .second, Si 8] [])
  refine Go.on (fun _ k => XS.aloadN X20.here hx rfl (hb hby d3_80) rfl rfl k) ?_
  show Go _ _ _ _ _ _ _ _ (mkF m 81 #[Sr a0, Si i1, Sd 4607182418800017408, .second, Si 8] [(.ref a0)])
  obtain ⟨T21, X21, e21, st21⟩ := getF X20 hx hZ hown (host := "") (Or.inl (hw _ (List.mem_of_getElem? (i := 14) rfl))) Via.refl e20 F_weights_a0 (g := (mkF m 81 #[Sr a0, Si i1, Sd 4607182418800017408, .second, Si 8] [(.ref a0)])) rfl rfl (hb hby d3_81)
  refine Go.on st21 ?_
  show Go _ _ _ _ _ _ _ _ (mkF m 84 #[Sr a0, Si i1, Sd 4607182418800017408, .second, Si 8] [(.ref wb)])
  refine Go.on (fun _ k => XS.iload X21.here hx rfl (hb hby d3_84) rfl k) ?_
  refine Go.on (fun _ k => XS.dloadN X21.here hx rfl (hb hby d3_86) rfl k) ?_
  show Go _ _ _ _ _ _ _ _ (mkF m 87 #[Sr a0, Si i1, Sd 4607182418800017408, .second, Si 8] [(.double 4607182418800017408), (.int 8), (.ref wb)])
  obtain ⟨cl22, Ar22, q22, S22, N22n, H22, G22⟩ := id V_wb
  have hin22 : ¬ ((8 : Int32) < 0 ∨ cl22.slots.size ≤ ((8 : Int32)).toNatClampNeg) := inb_of S22 ⟨by decide, by decide⟩
  obtain ⟨T22, h22, X22, e22, W22, st22⟩ := stD X21 hx hZ e21 Ar22 (j := (8 : Int32)) hin22 (g := (mkF m 87 #[Sr a0, Si i1, Sd 4607182418800017408, .second, Si 8] [(.double 4607182418800017408), (.int 8), (.ref wb)])) rfl rfl (hb hby d3_87)
  replace V_wb := Arv.set Ar22 q22 S22 N22n H22 G22 rfl W22 8 rfl (Nat.le_of_ble_eq_true rfl)
  replace E_a0 := E_a0.wr W22
  replace F_members_a0 := F_members_a0.other W22 (Or.inl ne_a0_wb)
  replace F_weights_a0 := F_weights_a0.other W22 (Or.inl ne_a0_wb)
  replace F_exact_a0 := F_exact_a0.other W22 (Or.inl ne_a0_wb)
  replace F_slots_a0 := F_slots_a0.other W22 (Or.inl ne_a0_wb)
  replace F_length_a0 := F_length_a0.other W22 (Or.inl ne_a0_wb)
  replace F_fingerprint_a0 := F_fingerprint_a0.other W22 (Or.inl ne_a0_wb)
  replace F_history_a0 := F_history_a0.other W22 (Or.inl ne_a0_wb)
  replace F_shift_a0 := F_shift_a0.other W22 (Or.inl ne_a0_wb)
  replace V_am := V_am.other W22 ne_am_wb
  replace V_wa := V_wa.other W22 ne_wa_wb
  replace V_mb := V_mb.other W22 ne_mb_wb
  refine Go.on st22 ?_
  have N22 := Fr.snoc X22 N20 g_wb
  replace ZZ := Nat.le_trans ZZ (Keep.of_wr W22).1
  replace KP := KP.wr W22 (Or.inr sz_wb)
  change Arv Z h22 wb k_wb .double (16 : Int32) [(.double (4607182418800017408 : UInt64)), (.double (4607182418800017408 : UInt64)), (.double (4607182418800017408 : UInt64)), (.double (4607182418800017408 : UInt64)), (.double (4607182418800017408 : UInt64)), (.double (4607182418800017408 : UInt64)), (.double (4607182418800017408 : UInt64)), (.double (4607182418800017408 : UInt64)), (.double (4607182418800017408 : UInt64)), (.double (0 : UInt64)), (.double (0 : UInt64)), (.double (0 : UInt64)), (.double (0 : UInt64)), (.double (0 : UInt64)), (.double (0 : UInt64)), (.double (0 : UInt64))] (.double (0 : UInt64)) at V_wb
  show Go _ _ _ _ _ _ _ _ (mkF m 88 #[Sr a0, Si i1, Sd 4607182418800017408, .second, Si 8] [])
  refine Go.on (fun _ k => XS.aloadN X22.here hx rfl (hb hby d3_88) rfl rfl k) ?_
  show Go _ _ _ _ _ _ _ _ (mkF m 89 #[Sr a0, Si i1, Sd 4607182418800017408, .second, Si 8] [(.ref a0)])
  obtain ⟨T23, X23, e23, st23⟩ := getF X22 hx hZ hown (host := "") (Or.inl (hw _ (List.mem_of_getElem? (i := 28) rfl))) Via.refl e22 F_slots_a0 (g := (mkF m 89 #[Sr a0, Si i1, Sd 4607182418800017408, .second, Si 8] [(.ref a0)])) rfl rfl (hb hby d3_89)
  refine Go.on st23 ?_
  show Go _ _ _ _ _ _ _ _ (mkF m 92 #[Sr a0, Si i1, Sd 4607182418800017408, .second, Si 8] [.null])
  refine Go.on (fun _ k => XS.ifnullYes X23.here hx rfl (pc0 := 92) (pc' := 118) rfl (hb hby d3_92) rfl (by decide) (by decide) k) ?_
  show Go _ _ _ _ _ _ _ _ (mkF m 118 #[Sr a0, Si i1, Sd 4607182418800017408, .second, Si 8] [])
  refine Go.on (fun _ k => XS.aloadN X23.here hx rfl (hb hby d3_118) rfl rfl k) ?_
  show Go _ _ _ _ _ _ _ _ (mkF m 119 #[Sr a0, Si i1, Sd 4607182418800017408, .second, Si 8] [(.ref a0)])
  obtain ⟨T24, X24, e24, st24⟩ := getF X23 hx hZ hown (host := "") (Or.inl (hw _ (List.mem_of_getElem? (i := 30) rfl))) Via.refl e23 F_length_a0 (g := (mkF m 119 #[Sr a0, Si i1, Sd 4607182418800017408, .second, Si 8] [(.ref a0)])) rfl rfl (hb hby d3_119)
  refine Go.on st24 ?_
  show Go _ _ _ _ _ _ _ _ (mkF m 122 #[Sr a0, Si i1, Sd 4607182418800017408, .second, Si 8] [(.int 9)])
  refine Go.on (fun _ k => XS.bipush X24.here hx rfl (hb hby d3_122) k) ?_
  show Go _ _ _ _ _ _ _ _ (mkF m 124 #[Sr a0, Si i1, Sd 4607182418800017408, .second, Si 8] [(.int 8), (.int 9)])
  have hc25 : (8 : Int32) < (9 : Int32) := by decide
  refine Go.on (fun _ k => XS.icmpNo X24.here hx rfl (hb hby d3_124) rfl (tlt hc25).2.2.2 k) ?_
  refine Go.on (fun _ k => XS.aloadN X24.here hx rfl (hb hby d3_127) rfl rfl k) ?_
  show Go _ _ _ _ _ _ _ _ (mkF m 128 #[Sr a0, Si i1, Sd 4607182418800017408, .second, Si 8] [(.ref a0)])
  obtain ⟨cq26, q26, q26'⟩ := E_a0.cell
  obtain ⟨_, _, ⟨T26, L26, k26, n26⟩, -, X26, ⟨Lc26, hQ26, l26, y26, z26⟩, st26⟩ := X24.privateBack hx (y := (⟨"com/example/due_weight/dueweight/core/Pairs", "index", "()V"⟩ : MethodName)) hown (mvT hZ (hw _ (List.mem_of_getElem? (i := 76) rfl))) (mvT hZ (hw _ (List.mem_of_getElem? (i := 77) rfl))) (own_selp (mvT hZ (hw _ (List.mem_of_getElem? (i := 2) rfl))) (mvP hZ (hw _ (List.mem_of_getElem? (i := 78) rfl))) (mvT hZ (hw _ (List.mem_of_getElem? (i := 77) rfl))) (by decide)) (Cond.privateMethod_at (mvP hZ (hw _ (List.mem_of_getElem? (i := 78) rfl)) (args := #[]))) (mvT hZ (hw _ (List.mem_of_getElem? (i := 79) rfl))) (by decide) (backOf (W := 0) (indexc l Z aw hw [] a0 [m0, m1, m2, m3, m4, m5, m6, m7, i1] [(.int (0 : Int32)), (.int (0 : Int32)), (.int (0 : Int32)), (.int (0 : Int32)), (.int (0 : Int32)), (.int (0 : Int32)), (.int (0 : Int32))] mb wb fp0 k_mb [(.int m0), (.int m1), (.int m2), (.int m3), (.int m4), (.int m5), (.int m6), (.int m7), (.int i1), (.int (0 : Int32)), (.int (0 : Int32)), (.int (0 : Int32)), (.int (0 : Int32)), (.int (0 : Int32)), (.int (0 : Int32)), (.int (0 : Int32))] h22 n0 ZZ E_a0 F_members_a0 F_weights_a0 F_exact_a0 F_slots_a0 F_length_a0 F_fingerprint_a0 F_history_a0 F_shift_a0 V_mb g_a0 ne_a0_mb rfl rfl) hZ (hw _ (List.mem_of_getElem? (i := 79) rfl)) (hw _ (List.mem_of_getElem? (i := 3) rfl)) (by decide) (by decide)) (g := (mkF m 128 #[Sr a0, Si i1, Sd 4607182418800017408, .second, Si 8] [(.ref a0)])) rfl (by rw [hml]; rfl) (Steps.refl _) (a := a0) (by rw [e24]; exact q26) q26' (argsL := []) (rest := []) (lenOf pd_9 rfl) rfl (by show 2 * 0 + _ ≤ _; exact Nat.le_of_eq rfl) (hb hby d3_128) (fun _ _ => ⟨rfl, e24, (by decide : 2 + 1 ≤ _), (by decide : 32 + 64 ≤ _)⟩)
  dsimp only [Pt.U, Pt.locs, Pt.cells, Pt.slots] at X26 l26 y26 z26 st26 hQ26
  subst l26 y26 z26
  obtain ⟨h26, e26⟩ : ∃ q, T26.heap = q := ⟨_, rfl⟩
  rw [e26] at hQ26
  obtain ⟨sl26, k_sl26, ts26, rfl, N26q, K26q, Eq26, F_membersq26, F_weightsq26, F_exactq26, F_slotsq26, F_lengthq26, F_fingerprintq26, F_historyq26, F_shiftq26, V_sl26, ht26, szq26⟩ := hQ26
  have N26 := Fr.app N22 N26q
  have ZZ26p := ZZ
  have lt_a0 := E_a0.lt
  have lt_am := V_am.lt
  have lt_wa := V_wa.lt
  have lt_mb := V_mb.lt
  have lt_wb := V_wb.lt
  replace E_a0 := E_a0.keep K26q
  replace V_am := V_am.keep K26q (ninS (Ne.symm ne_a0_am) nin0)
  replace V_wa := V_wa.keep K26q (ninS (Ne.symm ne_a0_wa) nin0)
  replace V_mb := V_mb.keep K26q (ninS (Ne.symm ne_a0_mb) nin0)
  replace V_wb := V_wb.keep K26q (ninS (Ne.symm ne_a0_wb) nin0)
  replace ZZ := Nat.le_trans ZZ K26q.1
  replace KP := KP.trans K26q (allS (Or.inl (List.mem_of_getElem? (i := 0) rfl)) all0)
  have F_members_a0 := F_membersq26
  have F_weights_a0 := F_weightsq26
  have F_exact_a0 := F_exactq26
  have F_slots_a0 := F_slotsq26
  have F_length_a0 := F_lengthq26
  have F_fingerprint_a0 := F_fingerprintq26
  have F_history_a0 := F_historyq26
  have F_shift_a0 := F_shiftq26
  replace E_a0 := Eq26
  have ne_a0_sl26 : a0 ≠ sl26 := Nat.ne_of_lt (Nat.lt_of_lt_of_le lt_a0 szq26)
  have ne_am_sl26 : am ≠ sl26 := Nat.ne_of_lt (Nat.lt_of_lt_of_le lt_am szq26)
  have ne_wa_sl26 : wa ≠ sl26 := Nat.ne_of_lt (Nat.lt_of_lt_of_le lt_wa szq26)
  have ne_mb_sl26 : mb ≠ sl26 := Nat.ne_of_lt (Nat.lt_of_lt_of_le lt_mb szq26)
  have ne_wb_sl26 : wb ≠ sl26 := Nat.ne_of_lt (Nat.lt_of_lt_of_le lt_wb szq26)
  refine Go.on (fun _ k => st26.trans k) ?_
  show Go _ _ _ _ _ _ _ _ (mkF m 131 #[Sr a0, Si i1, Sd 4607182418800017408, .second, Si 8] [])
  refine Go.on (fun _ k => XS.goto X26.here hx rfl (pc0 := 131) (pc' := 215) rfl (hb hby d3_131) (by decide) (by decide) k) ?_
  refine Go.on (fun _ k => XS.aloadN X26.here hx rfl (hb hby d3_215) rfl rfl k) ?_
  refine Go.on (fun _ k => XS.dup X26.here hx rfl (hb hby d3_216) rfl rfl k) ?_
  show Go _ _ _ _ _ _ _ _ (mkF m 217 #[Sr a0, Si i1, Sd 4607182418800017408, .second, Si 8] [(.ref a0), (.ref a0)])
  obtain ⟨T27, X27, e27, st27⟩ := getF X26 hx hZ hown (host := "") (Or.inl (hw _ (List.mem_of_getElem? (i := 32) rfl))) Via.refl e26 F_fingerprint_a0 (g := (mkF m 217 #[Sr a0, Si i1, Sd 4607182418800017408, .second, Si 8] [(.ref a0), (.ref a0)])) rfl rfl (hb hby d3_217)
  refine Go.on st27 ?_
  show Go _ _ _ _ _ _ _ _ (mkF m 220 #[Sr a0, Si i1, Sd 4607182418800017408, .second, Si 8] [(.long fp0), (.ref a0)])
  refine Go.on (fun _ k => XS.iloadN X27.here hx rfl (hb hby d3_220) rfl k) ?_
  refine Go.on (fun _ k => XS.aloadN X27.here hx rfl (hb hby d3_221) rfl rfl k) ?_
  show Go _ _ _ _ _ _ _ _ (mkF m 222 #[Sr a0, Si i1, Sd 4607182418800017408, .second, Si 8] [(.ref a0), (.int i1), (.long fp0), (.ref a0)])
  obtain ⟨T28, X28, e28, st28⟩ := getF X27 hx hZ hown (host := "") (Or.inl (hw _ (List.mem_of_getElem? (i := 14) rfl))) Via.refl e27 F_weights_a0 (g := (mkF m 222 #[Sr a0, Si i1, Sd 4607182418800017408, .second, Si 8] [(.ref a0), (.int i1), (.long fp0), (.ref a0)])) rfl rfl (hb hby d3_222)
  refine Go.on st28 ?_
  show Go _ _ _ _ _ _ _ _ (mkF m 225 #[Sr a0, Si i1, Sd 4607182418800017408, .second, Si 8] [(.ref wb), (.int i1), (.long fp0), (.ref a0)])
  refine Go.on (fun _ k => XS.iload X28.here hx rfl (hb hby d3_225) rfl k) ?_
  show Go _ _ _ _ _ _ _ _ (mkF m 227 #[Sr a0, Si i1, Sd 4607182418800017408, .second, Si 8] [(.int 8), (.ref wb), (.int i1), (.long fp0), (.ref a0)])
  obtain ⟨cl29, Ar29, -, S29, -, H29, -⟩ := id V_wb
  have hin29 : ¬ ((8 : Int32) < 0 ∨ cl29.slots.size ≤ ((8 : Int32)).toNatClampNeg) := inb_of S29 ⟨by decide, by decide⟩
  refine Go.on (X28.daload hx (j := (8 : Int32)) (v := (.double (4607182418800017408 : UInt64))) (by rw [e28]; exact Ar29.1) (State.isArrayOf_alike hZ.alike Ar29.2.1) Ar29.2.2 hin29 (H29.at hin29 (rfl)) (g := (mkF m 227 #[Sr a0, Si i1, Sd 4607182418800017408, .second, Si 8] [(.int 8), (.ref wb), (.int i1), (.long fp0), (.ref a0)])) rfl rfl (hb hby d3_227)) ?_
  show Go _ _ _ _ _ _ _ _ (mkF m 228 #[Sr a0, Si i1, Sd 4607182418800017408, .second, Si 8] [(.double 4607182418800017408), (.int i1), (.long fp0), (.ref a0)])
  obtain ⟨_, _, ⟨T30, L30, k30, n30⟩, -, X30, ⟨Lc30, hQ30, l30, y30, z30⟩, st30⟩ := Jvm.LawKit.callS X28 hx (y := (⟨"com/example/due_weight/dueweight/core/Pairs", "fingerprint", "(ID)J"⟩ : MethodName)) hown (mvT hZ (hw _ (List.mem_of_getElem? (i := 34) rfl))) (mvT hZ (hw _ (List.mem_of_getElem? (i := 35) rfl))) (mvT hZ (hw _ (List.mem_of_getElem? (i := 3) rfl))) (mvT hZ (hw _ (List.mem_of_getElem? (i := 36) rfl))) (by decide) (backOf (W := 3) (rm5 l Z aw hw [] i1 (4607182418800017408 : UInt64)  h26 n0 ZZ (by decide +kernel)) hZ (hw _ (List.mem_of_getElem? (i := 36) rfl)) (hw _ (List.mem_of_getElem? (i := 3) rfl)) (by decide) (by decide)) (g := (mkF m 228 #[Sr a0, Si i1, Sd 4607182418800017408, .second, Si 8] [(.double 4607182418800017408), (.int i1), (.long fp0), (.ref a0)])) rfl (by rw [hml]; rfl) (argsL := [(.int i1), (.double (4607182418800017408 : UInt64))]) (rest := [(.long fp0), (.ref a0)]) (lenOf pd_5 rfl) rfl (by show 2 * 0 + _ ≤ _; exact Nat.le_of_eq rfl) (hb hby d3_228) (fun _ _ => ⟨rfl, e28, (by decide : 3 + 0 ≤ _), (by decide : 96 + 0 ≤ _)⟩)
  dsimp only [Pt.U, Pt.locs, Pt.cells, Pt.slots] at X30 l30 y30 z30 st30 hQ30
  subst l30 y30 z30
  obtain ⟨rfl, N30q, e30⟩ := hQ30
  have N30 := Fr.app N26 N30q
  refine Go.on st30 ?_
  show Go _ _ _ _ _ _ _ _ (mkF m 231 #[Sr a0, Si i1, Sd 4607182418800017408, .second, Si 8] [(.long (mixV ((mixV ((4607182418800017408 : UInt64).toInt64)) + (i1.toInt64)))), (.long fp0), (.ref a0)])
  generalize hfv : (mixV ((mixV ((4607182418800017408 : UInt64).toInt64)) + (i1.toInt64))) = fv
  show Go _ _ _ _ _ _ _ _ (mkF m 231 #[Sr a0, Si i1, Sd 4607182418800017408, .second, Si 8] [(.long fv), (.long fp0), (.ref a0)])
  refine Go.on (fun _ k => XS.ladd X30.here hx rfl (hb hby d3_231) rfl k) ?_
  show Go _ _ _ _ _ _ _ _ (mkF m 232 #[Sr a0, Si i1, Sd 4607182418800017408, .second, Si 8] [(.long (fp0 + fv)), (.ref a0)])
  obtain ⟨T31, h31, X31, e31, W31, st31⟩ := putF X30 hx hZ hown (host := "") (Or.inl (hw _ (List.mem_of_getElem? (i := 32) rfl))) Via.refl e30 F_fingerprint_a0 E_a0 (Or.inl (hw _ (List.mem_of_getElem? (i := 33) rfl))) (hw _ (List.mem_of_getElem? (i := 2) rfl)) (ty := .long) (by decide) rfl rfl (g := (mkF m 232 #[Sr a0, Si i1, Sd 4607182418800017408, .second, Si 8] [(.long (fp0 + fv)), (.ref a0)])) rfl rfl (hb hby d3_232)
  refine Go.on st31 ?_
  replace F_fingerprint_a0 := F_fingerprint_a0.same W31
  replace E_a0 := E_a0.wr W31
  replace V_am := V_am.other W31 (Ne.symm ne_a0_am)
  replace V_wa := V_wa.other W31 (Ne.symm ne_a0_wa)
  replace V_mb := V_mb.other W31 (Ne.symm ne_a0_mb)
  replace V_wb := V_wb.other W31 (Ne.symm ne_a0_wb)
  replace F_members_a0 := F_members_a0.other W31 (Or.inr (slot_ne (Or.inl (hw _ (List.mem_of_getElem? (i := 12) rfl))) (Or.inl (hw _ (List.mem_of_getElem? (i := 33) rfl))) (by decide) (t := (.array .int)) (t' := .long) (by decide) (by decide)))
  replace F_weights_a0 := F_weights_a0.other W31 (Or.inr (slot_ne (Or.inl (hw _ (List.mem_of_getElem? (i := 15) rfl))) (Or.inl (hw _ (List.mem_of_getElem? (i := 33) rfl))) (by decide) (t := (.array .double)) (t' := .long) (by decide) (by decide)))
  replace F_exact_a0 := F_exact_a0.other W31 (Or.inr (slot_ne (Or.inl (hw _ (List.mem_of_getElem? (i := 17) rfl))) (Or.inl (hw _ (List.mem_of_getElem? (i := 33) rfl))) (by decide) (t := .boolean) (t' := .long) (by decide) (by decide)))
  replace F_slots_a0 := F_slots_a0.other W31 (Or.inr (slot_ne (Or.inl (hw _ (List.mem_of_getElem? (i := 29) rfl))) (Or.inl (hw _ (List.mem_of_getElem? (i := 33) rfl))) (by decide) (t := (.array .int)) (t' := .long) (by decide) (by decide)))
  replace F_length_a0 := F_length_a0.other W31 (Or.inr (slot_ne (Or.inl (hw _ (List.mem_of_getElem? (i := 31) rfl))) (Or.inl (hw _ (List.mem_of_getElem? (i := 33) rfl))) (by decide) (t := .int) (t' := .long) (by decide) (by decide)))
  replace F_history_a0 := F_history_a0.other W31 (Or.inr (slot_ne (Or.inl (hw _ (List.mem_of_getElem? (i := 52) rfl))) (Or.inl (hw _ (List.mem_of_getElem? (i := 33) rfl))) (by decide) (t := (.object "com/example/due_weight/dueweight/core/Pairs$History")) (t' := .long) (by decide) (by decide)))
  replace F_shift_a0 := F_shift_a0.other W31 (Or.inr (slot_ne (Or.inl (hw _ (List.mem_of_getElem? (i := 86) rfl))) (Or.inl (hw _ (List.mem_of_getElem? (i := 33) rfl))) (by decide) (t := .int) (t' := .long) (by decide) (by decide)))
  replace V_sl26 := V_sl26.other W31 (Ne.symm ne_a0_sl26)
  have N31 := Fr.snoc X31 N30 g_a0
  replace ZZ := Nat.le_trans ZZ (Keep.of_wr W31).1
  replace KP := KP.wr W31 (Or.inl (List.mem_of_getElem? (i := 0) rfl))
  show Go _ _ _ _ _ _ _ _ (mkF m 235 #[Sr a0, Si i1, Sd 4607182418800017408, .second, Si 8] [])
  refine Go.on (fun _ k => XS.aloadN X31.here hx rfl (hb hby d3_235) rfl rfl k) ?_
  show Go _ _ _ _ _ _ _ _ (mkF m 236 #[Sr a0, Si i1, Sd 4607182418800017408, .second, Si 8] [(.ref a0)])
  obtain ⟨T32, X32, e32, st32⟩ := getF X31 hx hZ hown (host := "") (Or.inl (hw _ (List.mem_of_getElem? (i := 51) rfl))) Via.refl e31 F_history_a0 (g := (mkF m 236 #[Sr a0, Si i1, Sd 4607182418800017408, .second, Si 8] [(.ref a0)])) rfl rfl (hb hby d3_236)
  refine Go.on st32 ?_
  show Go _ _ _ _ _ _ _ _ (mkF m 239 #[Sr a0, Si i1, Sd 4607182418800017408, .second, Si 8] [.null])
  refine Go.on (fun _ k => XS.ifnullYes X32.here hx rfl (pc0 := 239) (pc' := 255) rfl (hb hby d3_239) rfl (by decide) (by decide) k) ?_
  show Go _ _ _ _ _ _ _ _ (mkF m 255 #[Sr a0, Si i1, Sd 4607182418800017408, .second, Si 8] [])
  refine Go.on (fun _ k => XS.iload X32.here hx rfl (hb hby d3_255) rfl k) ?_
  show Go _ _ _ _ _ _ _ _ (mkF m 257 #[Sr a0, Si i1, Sd 4607182418800017408, .second, Si 8] [(.int 8)])
  refine Go.retV X32 hx Bd.returns rfl (Or.inl ⟨rfl, Or.inl rfl, _, rfl⟩) (hb hby d3_257) ?_ (by rw [hK1]; decide) (by rw [hK2]; decide)
  rw [e32, ← hQQ]
  exact ⟨mb, wb, k_mb, k_wb, _, sl26, k_sl26, ts26, rfl, N31, KP, E_a0, F_members_a0, F_weights_a0, F_exact_a0, F_slots_a0, F_length_a0, F_fingerprint_a0, F_history_a0, F_shift_a0, V_mb, V_wb, g_mb, g_wb, ne_a0_mb, ne_a0_wb, ne_mb_wb, V_sl26, ht26⟩
theorem d1_0 : decode prog_21_method_1_code 0 = .ok (.aload_n 0, 1) := by decide +kernel
theorem d1_1 : decode prog_21_method_1_code 1 = .ok (.invokespecial 1, 3) := by decide +kernel
theorem d1_4 : decode prog_21_method_1_code 4 = .ok (.aload_n 0, 1) := by decide +kernel
theorem d1_5 : decode prog_21_method_1_code 5 = .ok (.iconst 2, 1) := by decide +kernel
theorem d1_6 : decode prog_21_method_1_code 6 = .ok (.newarray .int, 2) := by decide +kernel
theorem d1_8 : decode prog_21_method_1_code 8 = .ok (.putfield 7, 3) := by decide +kernel
theorem d1_11 : decode prog_21_method_1_code 11 = .ok (.aload_n 0, 1) := by decide +kernel
theorem d1_12 : decode prog_21_method_1_code 12 = .ok (.iconst 2, 1) := by decide +kernel
theorem d1_13 : decode prog_21_method_1_code 13 = .ok (.newarray .double, 2) := by decide +kernel
theorem d1_15 : decode prog_21_method_1_code 15 = .ok (.putfield 13, 3) := by decide +kernel
theorem d1_18 : decode prog_21_method_1_code 18 = .ok (.aload_n 0, 1) := by decide +kernel
theorem d1_19 : decode prog_21_method_1_code 19 = .ok (.iconst 1, 1) := by decide +kernel
theorem d1_20 : decode prog_21_method_1_code 20 = .ok (.putfield 17, 3) := by decide +kernel
theorem d1_23 : decode prog_21_method_1_code 23 = .ok (.return_, 1) := by decide +kernel
theorem ef_initc (m : MethodId) (a0 : Addr) : entryFrame m #[(.ref a0)] 1 = mkF m 0 #[.val (.ref a0)] [] := by first | (simp [entryFrame, mkF, argsToLocals, Value.category]; done) | rfl
def Q_initc (Z : State) (a0 : Addr) (h0 : Heap) (n0 : Nat) (v : Option Value) (h : Heap) (L : List Loc) : Prop := ∃ (mb wb : Addr) (k_mb k_wb : ClassId), v = none ∧ Fr n0 L ∧ Keep h0 h [a0] ∧ Exa Z h a0 "com/example/due_weight/dueweight/core/Pairs" ∧ Fld Z h a0 "com/example/due_weight/dueweight/core/Pairs" "members" "[I" (.ref mb) ∧ Fld Z h a0 "com/example/due_weight/dueweight/core/Pairs" "weights" "[D" (.ref wb) ∧ Fld Z h a0 "com/example/due_weight/dueweight/core/Pairs" "exact" "Z" (.int (1 : Int32)) ∧ Fld Z h a0 "com/example/due_weight/dueweight/core/Pairs" "slots" "[I" .null ∧ Fld Z h a0 "com/example/due_weight/dueweight/core/Pairs" "length" "I" (.int (0 : Int32)) ∧ Fld Z h a0 "com/example/due_weight/dueweight/core/Pairs" "fingerprint" "J" (.long (0 : Int64)) ∧ Fld Z h a0 "com/example/due_weight/dueweight/core/Pairs" "history" "Lcom/example/due_weight/dueweight/core/Pairs$History;" .null ∧ Fld Z h a0 "com/example/due_weight/dueweight/core/Pairs" "shift" "I" (.int (0 : Int32)) ∧ Arv Z h mb k_mb .int (2 : Int32) [(.int (0 : Int32)), (.int (0 : Int32))] (.int (0 : Int32)) ∧ Arv Z h wb k_wb .double (2 : Int32) [(.double (0 : UInt64)), (.double (0 : UInt64))] (.double (0 : UInt64)) ∧ n0 ≤ mb ∧ n0 ≤ wb ∧ a0 ≠ mb ∧ a0 ≠ wb ∧ mb ≠ wb
set_option maxRecDepth 65536 in
set_option maxHeartbeats 40000000 in
theorem initc (l : Launch) (Z : State) (aw : Array Value) (hw : ∀ d ∈ tables_1, d.before aw Z = true) (ws : List Jvm.Cond) (a0 : Addr) (h0 : Heap) (n0 : Nat) (Z0 : n0 ≤ h0.size) (E_a0 : Exa Z h0 a0 "com/example/due_weight/dueweight/core/Pairs") (F_members_a0 : Fld Z h0 a0 "com/example/due_weight/dueweight/core/Pairs" "members" "[I" .null) (F_weights_a0 : Fld Z h0 a0 "com/example/due_weight/dueweight/core/Pairs" "weights" "[D" .null) (F_exact_a0 : Fld Z h0 a0 "com/example/due_weight/dueweight/core/Pairs" "exact" "Z" (.int (0 : Int32))) (F_slots_a0 : Fld Z h0 a0 "com/example/due_weight/dueweight/core/Pairs" "slots" "[I" .null) (F_length_a0 : Fld Z h0 a0 "com/example/due_weight/dueweight/core/Pairs" "length" "I" (.int (0 : Int32))) (F_fingerprint_a0 : Fld Z h0 a0 "com/example/due_weight/dueweight/core/Pairs" "fingerprint" "J" (.long (0 : Int64))) (F_history_a0 : Fld Z h0 a0 "com/example/due_weight/dueweight/core/Pairs" "history" "Lcom/example/due_weight/dueweight/core/Pairs$History;" .null) (F_shift_a0 : Fld Z h0 a0 "com/example/due_weight/dueweight/core/Pairs" "shift" "I" (.int (0 : Int32))) (g_a0 : n0 ≤ a0) :
    MetFree l (⟨"com/example/due_weight/dueweight/core/Pairs", "<init>", "()V"⟩ : MethodName) (head1 (Jvm.Cond.code (⟨"com/example/due_weight/dueweight/core/Pairs", "<init>", "()V"⟩ : MethodName) prog_21_method_1_code 1 none :: ws) ({ frames := 1, cells := 2, slots := 4, locals := 12 } : Room)) (fun a U => a = #[(.ref a0)] ∧ Z.Warmed39 U.vm ∧ U.heap = h0) (fun _ _ _ _ _ => True) (fun _ U o U' => ∃ v L, o = .returned v ∧ Q_initc Z a0 h0 n0 v U'.heap L ∧ FrameEnd U o U' L ({ frames := 1, cells := 2, slots := 4, locals := 12 } : Room).cells ({ frames := 1, cells := 2, slots := 4, locals := 12 } : Room).slots) := by
  refine MetFree.of_bodySF (plainFor_of_name pn_0) hisR ?_
  intro p e s m args below meth c s₁ Bd hml0 hP hK
  obtain ⟨rfl, hZ, hh⟩ := hP
  have hx := Bd.exec
  have hby := Bd.bytes
  have hml : c.maxLocals = 1 := hml0
  have hown : s.vm.findClass "com/example/due_weight/dueweight/core/Pairs" = some m.cls := findClass_of_methodNamed Bd.named
  have hnm := (name_of_methodNamed Bd.named Bd.method).1
  have hlk : meth.locks = false := BodyLoose.notSynchronized Bd
  have X0 : Stand p l e ({ frames := 1, cells := 2, slots := 4, locals := 12 } : Room) s m #[(.ref a0)] below meth c s₁ [] 0 0 := Stand.of_body Bd
  have e0 : s₁.heap = h0 := by rw [← hh, Bd.state]; rfl
  have N0 := Fr.nil n0
  have ZZ := Z0
  show Go p e below s ({ frames := 1, cells := 2, slots := 4, locals := 12 } : Room).cells ({ frames := 1, cells := 2, slots := 4, locals := 12 } : Room).slots (fun v h L => Q_initc Z a0 h0 n0 v h L) s₁ (entryFrame m #[(.ref a0)] 1)
  refine Go.cast (ef_initc m a0) ?_
  refine Go.gen ?_
  intro K1 K2 QQ hK1 hK2 hQQ
  have KP : Keep h0 h0 [a0] := Keep.refl _ _
  refine Go.on (fun _ k => XS.aloadN X0.here hx rfl (hb hby d1_0) rfl rfl k) ?_
  show Go _ _ _ _ _ _ _ _ (mkF m 1 #[Sr a0] [(.ref a0)])
  obtain ⟨T1, X1, e1, st1⟩ := initO X0 hx hZ hown (hw _ (List.mem_of_getElem? (i := 7) rfl)) (hw _ (List.mem_of_getElem? (i := 8) rfl)) (hw _ (List.mem_of_getElem? (i := 9) rfl)) e0 (g := (mkF m 1 #[Sr a0] [(.ref a0)])) rfl (by rw [hml]; rfl) rfl (hb hby d1_1) (by decide) (W := 0) (by show 2 * 0 + _ ≤ _; exact Nat.le_of_eq rfl) (by decide)
  refine Go.on st1 ?_
  show Go _ _ _ _ _ _ _ _ (mkF m 4 #[Sr a0] [])
  refine Go.on (fun _ k => XS.aloadN X1.here hx rfl (hb hby d1_4) rfl rfl k) ?_
  refine Go.on (fun _ k => XS.iconst X1.here hx rfl (hb hby d1_5) k) ?_
  show Go _ _ _ _ _ _ _ _ (mkF m 6 #[Sr a0] [(.int 2), (.ref a0)])
  obtain ⟨T2, h2, k_mb, X2, e2, E2, A2, st2⟩ := newP X1 hx hZ (hw _ (List.mem_of_getElem? (i := 10) rfl)) e1 (g := (mkF m 6 #[Sr a0] [(.int 2), (.ref a0)])) rfl (hb hby d1_6) rfl (by decide) (cap := 2) (by decide) (by decide) (by decide) (by decide)
  obtain ⟨mb, g2⟩ : ∃ z, z = h0.size := ⟨_, rfl⟩
  have ne_a0_mb : a0 ≠ mb := Nat.ne_of_lt (Nat.lt_of_lt_of_le E_a0.lt (Nat.le_of_eq g2.symm))
  have g_mb : n0 ≤ mb := Nat.le_trans ZZ (Nat.le_of_eq g2.symm)
  have sz_mb : h0.size ≤ mb := Nat.le_trans KP.1 (Nat.le_of_eq g2.symm)
  rw [← g2] at A2 st2
  replace E_a0 := E_a0.ext E2
  replace F_members_a0 := F_members_a0.ext E2
  replace F_weights_a0 := F_weights_a0.ext E2
  replace F_exact_a0 := F_exact_a0.ext E2
  replace F_slots_a0 := F_slots_a0.ext E2
  replace F_length_a0 := F_length_a0.ext E2
  replace F_fingerprint_a0 := F_fingerprint_a0.ext E2
  replace F_history_a0 := F_history_a0.ext E2
  replace F_shift_a0 := F_shift_a0.ext E2
  replace ZZ := Nat.le_trans ZZ E2.1
  replace KP := KP.ext E2
  have V_mb : Arv Z h2 mb k_mb .int (2 : Int32) [(.int (0 : Int32)), (.int (0 : Int32))] (.int (0 : Int32)) := (Arv.new A2 (by decide)).pad (pad_rep [] (.int (0 : Int32)) 2)
  refine Go.on st2 ?_
  show Go _ _ _ _ _ _ _ _ (mkF m 8 #[Sr a0] [(.ref mb), (.ref a0)])
  obtain ⟨T3, h3, X3, e3, W3, st3⟩ := putF X2 hx hZ hown (host := "") (Or.inl (hw _ (List.mem_of_getElem? (i := 11) rfl))) Via.refl e2 F_members_a0 E_a0 (Or.inl (hw _ (List.mem_of_getElem? (i := 12) rfl))) (hw _ (List.mem_of_getElem? (i := 2) rfl)) (ty := (.array .int)) (by decide) rfl rfl (g := (mkF m 8 #[Sr a0] [(.ref mb), (.ref a0)])) rfl rfl (hb hby d1_8)
  refine Go.on st3 ?_
  replace F_members_a0 := F_members_a0.same W3
  replace E_a0 := E_a0.wr W3
  replace F_weights_a0 := F_weights_a0.other W3 (Or.inr (slot_ne (Or.inl (hw _ (List.mem_of_getElem? (i := 15) rfl))) (Or.inl (hw _ (List.mem_of_getElem? (i := 12) rfl))) (by decide) (t := (.array .double)) (t' := (.array .int)) (by decide) (by decide)))
  replace F_exact_a0 := F_exact_a0.other W3 (Or.inr (slot_ne (Or.inl (hw _ (List.mem_of_getElem? (i := 17) rfl))) (Or.inl (hw _ (List.mem_of_getElem? (i := 12) rfl))) (by decide) (t := .boolean) (t' := (.array .int)) (by decide) (by decide)))
  replace F_slots_a0 := F_slots_a0.other W3 (Or.inr (slot_ne (Or.inl (hw _ (List.mem_of_getElem? (i := 29) rfl))) (Or.inl (hw _ (List.mem_of_getElem? (i := 12) rfl))) (by decide) (t := (.array .int)) (t' := (.array .int)) (by decide) (by decide)))
  replace F_length_a0 := F_length_a0.other W3 (Or.inr (slot_ne (Or.inl (hw _ (List.mem_of_getElem? (i := 31) rfl))) (Or.inl (hw _ (List.mem_of_getElem? (i := 12) rfl))) (by decide) (t := .int) (t' := (.array .int)) (by decide) (by decide)))
  replace F_fingerprint_a0 := F_fingerprint_a0.other W3 (Or.inr (slot_ne (Or.inl (hw _ (List.mem_of_getElem? (i := 33) rfl))) (Or.inl (hw _ (List.mem_of_getElem? (i := 12) rfl))) (by decide) (t := .long) (t' := (.array .int)) (by decide) (by decide)))
  replace F_history_a0 := F_history_a0.other W3 (Or.inr (slot_ne (Or.inl (hw _ (List.mem_of_getElem? (i := 52) rfl))) (Or.inl (hw _ (List.mem_of_getElem? (i := 12) rfl))) (by decide) (t := (.object "com/example/due_weight/dueweight/core/Pairs$History")) (t' := (.array .int)) (by decide) (by decide)))
  replace F_shift_a0 := F_shift_a0.other W3 (Or.inr (slot_ne (Or.inl (hw _ (List.mem_of_getElem? (i := 86) rfl))) (Or.inl (hw _ (List.mem_of_getElem? (i := 12) rfl))) (by decide) (t := .int) (t' := (.array .int)) (by decide) (by decide)))
  replace V_mb := V_mb.other W3 (Ne.symm ne_a0_mb)
  have N3 := Fr.snoc X3 N0 g_a0
  replace ZZ := Nat.le_trans ZZ (Keep.of_wr W3).1
  replace KP := KP.wr W3 (Or.inl (List.mem_of_getElem? (i := 0) rfl))
  show Go _ _ _ _ _ _ _ _ (mkF m 11 #[Sr a0] [])
  refine Go.on (fun _ k => XS.aloadN X3.here hx rfl (hb hby d1_11) rfl rfl k) ?_
  refine Go.on (fun _ k => XS.iconst X3.here hx rfl (hb hby d1_12) k) ?_
  show Go _ _ _ _ _ _ _ _ (mkF m 13 #[Sr a0] [(.int 2), (.ref a0)])
  obtain ⟨T4, h4, k_wb, X4, e4, E4, A4, st4⟩ := newP X3 hx hZ (hw _ (List.mem_of_getElem? (i := 13) rfl)) e3 (g := (mkF m 13 #[Sr a0] [(.int 2), (.ref a0)])) rfl (hb hby d1_13) rfl (by decide) (cap := 2) (by decide) (by decide) (by decide) (by decide)
  obtain ⟨wb, g4⟩ : ∃ z, z = h3.size := ⟨_, rfl⟩
  have ne_a0_wb : a0 ≠ wb := Nat.ne_of_lt (Nat.lt_of_lt_of_le E_a0.lt (Nat.le_of_eq g4.symm))
  have ne_mb_wb : mb ≠ wb := Nat.ne_of_lt (Nat.lt_of_lt_of_le V_mb.lt (Nat.le_of_eq g4.symm))
  have g_wb : n0 ≤ wb := Nat.le_trans ZZ (Nat.le_of_eq g4.symm)
  have sz_wb : h0.size ≤ wb := Nat.le_trans KP.1 (Nat.le_of_eq g4.symm)
  rw [← g4] at A4 st4
  replace E_a0 := E_a0.ext E4
  replace F_members_a0 := F_members_a0.ext E4
  replace F_weights_a0 := F_weights_a0.ext E4
  replace F_exact_a0 := F_exact_a0.ext E4
  replace F_slots_a0 := F_slots_a0.ext E4
  replace F_length_a0 := F_length_a0.ext E4
  replace F_fingerprint_a0 := F_fingerprint_a0.ext E4
  replace F_history_a0 := F_history_a0.ext E4
  replace F_shift_a0 := F_shift_a0.ext E4
  replace V_mb := V_mb.ext E4
  replace ZZ := Nat.le_trans ZZ E4.1
  replace KP := KP.ext E4
  have V_wb : Arv Z h4 wb k_wb .double (2 : Int32) [(.double (0 : UInt64)), (.double (0 : UInt64))] (.double (0 : UInt64)) := (Arv.new A4 (by decide)).pad (pad_rep [] (.double (0 : UInt64)) 2)
  refine Go.on st4 ?_
  show Go _ _ _ _ _ _ _ _ (mkF m 15 #[Sr a0] [(.ref wb), (.ref a0)])
  obtain ⟨T5, h5, X5, e5, W5, st5⟩ := putF X4 hx hZ hown (host := "") (Or.inl (hw _ (List.mem_of_getElem? (i := 14) rfl))) Via.refl e4 F_weights_a0 E_a0 (Or.inl (hw _ (List.mem_of_getElem? (i := 15) rfl))) (hw _ (List.mem_of_getElem? (i := 2) rfl)) (ty := (.array .double)) (by decide) rfl rfl (g := (mkF m 15 #[Sr a0] [(.ref wb), (.ref a0)])) rfl rfl (hb hby d1_15)
  refine Go.on st5 ?_
  replace F_weights_a0 := F_weights_a0.same W5
  replace E_a0 := E_a0.wr W5
  replace F_members_a0 := F_members_a0.other W5 (Or.inr (slot_ne (Or.inl (hw _ (List.mem_of_getElem? (i := 12) rfl))) (Or.inl (hw _ (List.mem_of_getElem? (i := 15) rfl))) (by decide) (t := (.array .int)) (t' := (.array .double)) (by decide) (by decide)))
  replace F_exact_a0 := F_exact_a0.other W5 (Or.inr (slot_ne (Or.inl (hw _ (List.mem_of_getElem? (i := 17) rfl))) (Or.inl (hw _ (List.mem_of_getElem? (i := 15) rfl))) (by decide) (t := .boolean) (t' := (.array .double)) (by decide) (by decide)))
  replace F_slots_a0 := F_slots_a0.other W5 (Or.inr (slot_ne (Or.inl (hw _ (List.mem_of_getElem? (i := 29) rfl))) (Or.inl (hw _ (List.mem_of_getElem? (i := 15) rfl))) (by decide) (t := (.array .int)) (t' := (.array .double)) (by decide) (by decide)))
  replace F_length_a0 := F_length_a0.other W5 (Or.inr (slot_ne (Or.inl (hw _ (List.mem_of_getElem? (i := 31) rfl))) (Or.inl (hw _ (List.mem_of_getElem? (i := 15) rfl))) (by decide) (t := .int) (t' := (.array .double)) (by decide) (by decide)))
  replace F_fingerprint_a0 := F_fingerprint_a0.other W5 (Or.inr (slot_ne (Or.inl (hw _ (List.mem_of_getElem? (i := 33) rfl))) (Or.inl (hw _ (List.mem_of_getElem? (i := 15) rfl))) (by decide) (t := .long) (t' := (.array .double)) (by decide) (by decide)))
  replace F_history_a0 := F_history_a0.other W5 (Or.inr (slot_ne (Or.inl (hw _ (List.mem_of_getElem? (i := 52) rfl))) (Or.inl (hw _ (List.mem_of_getElem? (i := 15) rfl))) (by decide) (t := (.object "com/example/due_weight/dueweight/core/Pairs$History")) (t' := (.array .double)) (by decide) (by decide)))
  replace F_shift_a0 := F_shift_a0.other W5 (Or.inr (slot_ne (Or.inl (hw _ (List.mem_of_getElem? (i := 86) rfl))) (Or.inl (hw _ (List.mem_of_getElem? (i := 15) rfl))) (by decide) (t := .int) (t' := (.array .double)) (by decide) (by decide)))
  replace V_mb := V_mb.other W5 (Ne.symm ne_a0_mb)
  replace V_wb := V_wb.other W5 (Ne.symm ne_a0_wb)
  have N5 := Fr.snoc X5 N3 g_a0
  replace ZZ := Nat.le_trans ZZ (Keep.of_wr W5).1
  replace KP := KP.wr W5 (Or.inl (List.mem_of_getElem? (i := 0) rfl))
  show Go _ _ _ _ _ _ _ _ (mkF m 18 #[Sr a0] [])
  refine Go.on (fun _ k => XS.aloadN X5.here hx rfl (hb hby d1_18) rfl rfl k) ?_
  refine Go.on (fun _ k => XS.iconst X5.here hx rfl (hb hby d1_19) k) ?_
  show Go _ _ _ _ _ _ _ _ (mkF m 20 #[Sr a0] [(.int 1), (.ref a0)])
  obtain ⟨T6, h6, X6, e6, W6, st6⟩ := putFN X5 hx hZ hown (hw _ (List.mem_of_getElem? (i := 16) rfl)) Via.refl e5 F_exact_a0 E_a0 (Or.inl (hw _ (List.mem_of_getElem? (i := 17) rfl))) (hw _ (List.mem_of_getElem? (i := 2) rfl)) (ty := .boolean) (v' := (.int (1 : Int32))) (by decide) rfl (by decide) (g := (mkF m 20 #[Sr a0] [(.int 1), (.ref a0)])) rfl rfl (hb hby d1_20)
  refine Go.on st6 ?_
  replace F_exact_a0 := F_exact_a0.same W6
  replace E_a0 := E_a0.wr W6
  replace F_members_a0 := F_members_a0.other W6 (Or.inr (slot_ne (Or.inl (hw _ (List.mem_of_getElem? (i := 12) rfl))) (Or.inl (hw _ (List.mem_of_getElem? (i := 17) rfl))) (by decide) (t := (.array .int)) (t' := .boolean) (by decide) (by decide)))
  replace F_weights_a0 := F_weights_a0.other W6 (Or.inr (slot_ne (Or.inl (hw _ (List.mem_of_getElem? (i := 15) rfl))) (Or.inl (hw _ (List.mem_of_getElem? (i := 17) rfl))) (by decide) (t := (.array .double)) (t' := .boolean) (by decide) (by decide)))
  replace F_slots_a0 := F_slots_a0.other W6 (Or.inr (slot_ne (Or.inl (hw _ (List.mem_of_getElem? (i := 29) rfl))) (Or.inl (hw _ (List.mem_of_getElem? (i := 17) rfl))) (by decide) (t := (.array .int)) (t' := .boolean) (by decide) (by decide)))
  replace F_length_a0 := F_length_a0.other W6 (Or.inr (slot_ne (Or.inl (hw _ (List.mem_of_getElem? (i := 31) rfl))) (Or.inl (hw _ (List.mem_of_getElem? (i := 17) rfl))) (by decide) (t := .int) (t' := .boolean) (by decide) (by decide)))
  replace F_fingerprint_a0 := F_fingerprint_a0.other W6 (Or.inr (slot_ne (Or.inl (hw _ (List.mem_of_getElem? (i := 33) rfl))) (Or.inl (hw _ (List.mem_of_getElem? (i := 17) rfl))) (by decide) (t := .long) (t' := .boolean) (by decide) (by decide)))
  replace F_history_a0 := F_history_a0.other W6 (Or.inr (slot_ne (Or.inl (hw _ (List.mem_of_getElem? (i := 52) rfl))) (Or.inl (hw _ (List.mem_of_getElem? (i := 17) rfl))) (by decide) (t := (.object "com/example/due_weight/dueweight/core/Pairs$History")) (t' := .boolean) (by decide) (by decide)))
  replace F_shift_a0 := F_shift_a0.other W6 (Or.inr (slot_ne (Or.inl (hw _ (List.mem_of_getElem? (i := 86) rfl))) (Or.inl (hw _ (List.mem_of_getElem? (i := 17) rfl))) (by decide) (t := .int) (t' := .boolean) (by decide) (by decide)))
  replace V_mb := V_mb.other W6 (Ne.symm ne_a0_mb)
  replace V_wb := V_wb.other W6 (Ne.symm ne_a0_wb)
  have N6 := Fr.snoc X6 N5 g_a0
  replace ZZ := Nat.le_trans ZZ (Keep.of_wr W6).1
  replace KP := KP.wr W6 (Or.inl (List.mem_of_getElem? (i := 0) rfl))
  show Go _ _ _ _ _ _ _ _ (mkF m 23 #[Sr a0] [])
  refine Go.ret0 X6 hx Bd.returns (hb hby d1_23) ?_ (by rw [hK1]; decide) (by rw [hK2]; decide)
  rw [e6, ← hQQ]
  exact ⟨mb, wb, k_mb, k_wb, rfl, N6, KP, E_a0, F_members_a0, F_weights_a0, F_exact_a0, F_slots_a0, F_length_a0, F_fingerprint_a0, F_history_a0, F_shift_a0, V_mb, V_wb, g_mb, g_wb, ne_a0_mb, ne_a0_wb, ne_mb_wb⟩
theorem d9_0 : decode method_3_code 0 = .ok (.iconst (-1), 1) := by decide +kernel
theorem d9_1 : decode method_3_code 1 = .ok (.istore 4, 2) := by decide +kernel
theorem d9_3 : decode method_3_code 3 = .ok (.iload_n 2, 1) := by decide +kernel
theorem d9_4 : decode method_3_code 4 = .ok (.ifCond .le 11, 3) := by decide +kernel
theorem d9_7 : decode method_3_code 7 = .ok (.iload_n 3, 1) := by decide +kernel
theorem d9_8 : decode method_3_code 8 = .ok (.iload_n 0, 1) := by decide +kernel
theorem d9_9 : decode method_3_code 9 = .ok (.if_icmp .ne 6, 3) := by decide +kernel
theorem d9_12 : decode method_3_code 12 = .ok (.iconst 0, 1) := by decide +kernel
theorem d9_13 : decode method_3_code 13 = .ok (.istore 4, 2) := by decide +kernel
theorem d9_15 : decode method_3_code 15 = .ok (.iload_n 2, 1) := by decide +kernel
theorem d9_16 : decode method_3_code 16 = .ok (.iconst 1, 1) := by decide +kernel
theorem d9_17 : decode method_3_code 17 = .ok (.if_icmp .le 13, 3) := by decide +kernel
theorem d9_20 : decode method_3_code 20 = .ok (.iload_n 3, 1) := by decide +kernel
theorem d9_21 : decode method_3_code 21 = .ok (.iload_n 0, 1) := by decide +kernel
theorem d9_22 : decode method_3_code 22 = .ok (.iload_n 1, 1) := by decide +kernel
theorem d9_23 : decode method_3_code 23 = .ok (.iadd, 1) := by decide +kernel
theorem d9_24 : decode method_3_code 24 = .ok (.if_icmp .ne 6, 3) := by decide +kernel
theorem d9_27 : decode method_3_code 27 = .ok (.iconst 1, 1) := by decide +kernel
theorem d9_28 : decode method_3_code 28 = .ok (.istore 4, 2) := by decide +kernel
theorem d9_30 : decode method_3_code 30 = .ok (.iload_n 2, 1) := by decide +kernel
theorem d9_31 : decode method_3_code 31 = .ok (.iconst 2, 1) := by decide +kernel
theorem d9_32 : decode method_3_code 32 = .ok (.if_icmp .le 15, 3) := by decide +kernel
theorem d9_35 : decode method_3_code 35 = .ok (.iload_n 3, 1) := by decide +kernel
theorem d9_36 : decode method_3_code 36 = .ok (.iload_n 0, 1) := by decide +kernel
theorem d9_37 : decode method_3_code 37 = .ok (.iconst 2, 1) := by decide +kernel
theorem d9_38 : decode method_3_code 38 = .ok (.iload_n 1, 1) := by decide +kernel
theorem d9_39 : decode method_3_code 39 = .ok (.imul, 1) := by decide +kernel
theorem d9_40 : decode method_3_code 40 = .ok (.iadd, 1) := by decide +kernel
theorem d9_41 : decode method_3_code 41 = .ok (.if_icmp .ne 6, 3) := by decide +kernel
theorem d9_44 : decode method_3_code 44 = .ok (.iconst 2, 1) := by decide +kernel
theorem d9_45 : decode method_3_code 45 = .ok (.istore 4, 2) := by decide +kernel
theorem d9_47 : decode method_3_code 47 = .ok (.iload_n 2, 1) := by decide +kernel
theorem d9_48 : decode method_3_code 48 = .ok (.iconst 3, 1) := by decide +kernel
theorem d9_49 : decode method_3_code 49 = .ok (.if_icmp .le 15, 3) := by decide +kernel
theorem d9_52 : decode method_3_code 52 = .ok (.iload_n 3, 1) := by decide +kernel
theorem d9_53 : decode method_3_code 53 = .ok (.iload_n 0, 1) := by decide +kernel
theorem d9_54 : decode method_3_code 54 = .ok (.iconst 3, 1) := by decide +kernel
theorem d9_55 : decode method_3_code 55 = .ok (.iload_n 1, 1) := by decide +kernel
theorem d9_56 : decode method_3_code 56 = .ok (.imul, 1) := by decide +kernel
theorem d9_57 : decode method_3_code 57 = .ok (.iadd, 1) := by decide +kernel
theorem d9_58 : decode method_3_code 58 = .ok (.if_icmp .ne 6, 3) := by decide +kernel
theorem d9_61 : decode method_3_code 61 = .ok (.iconst 3, 1) := by decide +kernel
theorem d9_62 : decode method_3_code 62 = .ok (.istore 4, 2) := by decide +kernel
theorem d9_64 : decode method_3_code 64 = .ok (.iload_n 2, 1) := by decide +kernel
theorem d9_65 : decode method_3_code 65 = .ok (.iconst 4, 1) := by decide +kernel
theorem d9_66 : decode method_3_code 66 = .ok (.if_icmp .le 15, 3) := by decide +kernel
theorem d9_69 : decode method_3_code 69 = .ok (.iload_n 3, 1) := by decide +kernel
theorem d9_70 : decode method_3_code 70 = .ok (.iload_n 0, 1) := by decide +kernel
theorem d9_71 : decode method_3_code 71 = .ok (.iconst 4, 1) := by decide +kernel
theorem d9_72 : decode method_3_code 72 = .ok (.iload_n 1, 1) := by decide +kernel
theorem d9_73 : decode method_3_code 73 = .ok (.imul, 1) := by decide +kernel
theorem d9_74 : decode method_3_code 74 = .ok (.iadd, 1) := by decide +kernel
theorem d9_75 : decode method_3_code 75 = .ok (.if_icmp .ne 6, 3) := by decide +kernel
theorem d9_78 : decode method_3_code 78 = .ok (.iconst 4, 1) := by decide +kernel
theorem d9_79 : decode method_3_code 79 = .ok (.istore 4, 2) := by decide +kernel
theorem d9_81 : decode method_3_code 81 = .ok (.iload_n 2, 1) := by decide +kernel
theorem d9_82 : decode method_3_code 82 = .ok (.iconst 5, 1) := by decide +kernel
theorem d9_83 : decode method_3_code 83 = .ok (.if_icmp .le 15, 3) := by decide +kernel
theorem d9_86 : decode method_3_code 86 = .ok (.iload_n 3, 1) := by decide +kernel
theorem d9_87 : decode method_3_code 87 = .ok (.iload_n 0, 1) := by decide +kernel
theorem d9_88 : decode method_3_code 88 = .ok (.iconst 5, 1) := by decide +kernel
theorem d9_89 : decode method_3_code 89 = .ok (.iload_n 1, 1) := by decide +kernel
theorem d9_90 : decode method_3_code 90 = .ok (.imul, 1) := by decide +kernel
theorem d9_91 : decode method_3_code 91 = .ok (.iadd, 1) := by decide +kernel
theorem d9_92 : decode method_3_code 92 = .ok (.if_icmp .ne 6, 3) := by decide +kernel
theorem d9_95 : decode method_3_code 95 = .ok (.iconst 5, 1) := by decide +kernel
theorem d9_96 : decode method_3_code 96 = .ok (.istore 4, 2) := by decide +kernel
theorem d9_98 : decode method_3_code 98 = .ok (.iload_n 2, 1) := by decide +kernel
theorem d9_99 : decode method_3_code 99 = .ok (.bipush 6, 2) := by decide +kernel
theorem d9_101 : decode method_3_code 101 = .ok (.if_icmp .le 17, 3) := by decide +kernel
theorem d9_104 : decode method_3_code 104 = .ok (.iload_n 3, 1) := by decide +kernel
theorem d9_105 : decode method_3_code 105 = .ok (.iload_n 0, 1) := by decide +kernel
theorem d9_106 : decode method_3_code 106 = .ok (.bipush 6, 2) := by decide +kernel
theorem d9_108 : decode method_3_code 108 = .ok (.iload_n 1, 1) := by decide +kernel
theorem d9_109 : decode method_3_code 109 = .ok (.imul, 1) := by decide +kernel
theorem d9_110 : decode method_3_code 110 = .ok (.iadd, 1) := by decide +kernel
theorem d9_111 : decode method_3_code 111 = .ok (.if_icmp .ne 7, 3) := by decide +kernel
theorem d9_114 : decode method_3_code 114 = .ok (.bipush 6, 2) := by decide +kernel
theorem d9_116 : decode method_3_code 116 = .ok (.istore 4, 2) := by decide +kernel
theorem d9_118 : decode method_3_code 118 = .ok (.iload_n 2, 1) := by decide +kernel
theorem d9_119 : decode method_3_code 119 = .ok (.bipush 7, 2) := by decide +kernel
theorem d9_121 : decode method_3_code 121 = .ok (.if_icmp .le 17, 3) := by decide +kernel
theorem d9_124 : decode method_3_code 124 = .ok (.iload_n 3, 1) := by decide +kernel
theorem d9_125 : decode method_3_code 125 = .ok (.iload_n 0, 1) := by decide +kernel
theorem d9_126 : decode method_3_code 126 = .ok (.bipush 7, 2) := by decide +kernel
theorem d9_128 : decode method_3_code 128 = .ok (.iload_n 1, 1) := by decide +kernel
theorem d9_129 : decode method_3_code 129 = .ok (.imul, 1) := by decide +kernel
theorem d9_130 : decode method_3_code 130 = .ok (.iadd, 1) := by decide +kernel
theorem d9_131 : decode method_3_code 131 = .ok (.if_icmp .ne 7, 3) := by decide +kernel
theorem d9_134 : decode method_3_code 134 = .ok (.bipush 7, 2) := by decide +kernel
theorem d9_136 : decode method_3_code 136 = .ok (.istore 4, 2) := by decide +kernel
theorem d9_138 : decode method_3_code 138 = .ok (.iload_n 2, 1) := by decide +kernel
theorem d9_139 : decode method_3_code 139 = .ok (.bipush 8, 2) := by decide +kernel
theorem d9_141 : decode method_3_code 141 = .ok (.if_icmp .le 17, 3) := by decide +kernel
theorem d9_144 : decode method_3_code 144 = .ok (.iload_n 3, 1) := by decide +kernel
theorem d9_145 : decode method_3_code 145 = .ok (.iload_n 0, 1) := by decide +kernel
theorem d9_146 : decode method_3_code 146 = .ok (.bipush 8, 2) := by decide +kernel
theorem d9_148 : decode method_3_code 148 = .ok (.iload_n 1, 1) := by decide +kernel
theorem d9_149 : decode method_3_code 149 = .ok (.imul, 1) := by decide +kernel
theorem d9_150 : decode method_3_code 150 = .ok (.iadd, 1) := by decide +kernel
theorem d9_151 : decode method_3_code 151 = .ok (.if_icmp .ne 7, 3) := by decide +kernel
theorem d9_154 : decode method_3_code 154 = .ok (.bipush 8, 2) := by decide +kernel
theorem d9_156 : decode method_3_code 156 = .ok (.istore 4, 2) := by decide +kernel
theorem d9_158 : decode method_3_code 158 = .ok (.iload 4, 2) := by decide +kernel
theorem d9_160 : decode method_3_code 160 = .ok (.ireturn, 1) := by decide +kernel
theorem pn_4 : plainName "com/example/due_weight/dueweight/core/PairsIndexOfPinLaw" = true := by first | (simp [plainName, overriddenIn]; done) | decide +kernel
theorem ef_rm9 (m : MethodId) (i0 : Int32) (i1 : Int32) (i2 : Int32) (i3 : Int32) : entryFrame m #[(.int i0), (.int i1), (.int i2), (.int i3)] 5 = mkF m 0 #[.val (.int i0), .val (.int i1), .val (.int i2), .val (.int i3), .unset] [] := by first | (simp [entryFrame, mkF, argsToLocals, Value.category]; done) | rfl
def Q_rm9 (Z : State) (i0 : Int32) (i1 : Int32) (i2 : Int32) (i3 : Int32) (h0 : Heap) (n0 : Nat) (v : Option Value) (h : Heap) (L : List Loc) : Prop := v = some (.int (expT i0 i1 i2 i3)) ∧ Fr n0 L ∧ h = h0
set_option maxRecDepth 65536 in
set_option maxHeartbeats 40000000 in
theorem rm9 (l : Launch) (Z : State) (aw : Array Value) (hw : ∀ d ∈ tables_1, d.before aw Z = true) (ws : List Jvm.Cond) (i0 : Int32) (i1 : Int32) (i2 : Int32) (i3 : Int32) (h0 : Heap) (n0 : Nat) (Z0 : n0 ≤ h0.size) :
    MetFree l (⟨"com/example/due_weight/dueweight/core/PairsIndexOfPinLaw", "expected", "(IIII)I"⟩ : MethodName) (head1 (Jvm.Cond.code (⟨"com/example/due_weight/dueweight/core/PairsIndexOfPinLaw", "expected", "(IIII)I"⟩ : MethodName) method_3_code 5 (some .int) :: ws) ({ frames := 0, cells := 0, slots := 0, locals := 0 } : Room)) (fun a U => a = #[(.int i0), (.int i1), (.int i2), (.int i3)] ∧ Z.Warmed39 U.vm ∧ U.heap = h0) (fun _ _ _ _ _ => True) (fun _ U o U' => ∃ v L, o = .returned v ∧ Q_rm9 Z i0 i1 i2 i3 h0 n0 v U'.heap L ∧ FrameEnd U o U' L ({ frames := 0, cells := 0, slots := 0, locals := 0 } : Room).cells ({ frames := 0, cells := 0, slots := 0, locals := 0 } : Room).slots) := by
  refine MetFree.of_bodySF (plainFor_of_name pn_4) hisR ?_
  intro p e s m args below meth c s₁ Bd hml0 hP hK
  obtain ⟨rfl, hZ, hh⟩ := hP
  have hx := Bd.exec
  have hby := Bd.bytes
  have hml : c.maxLocals = 5 := hml0
  have hown : s.vm.findClass "com/example/due_weight/dueweight/core/PairsIndexOfPinLaw" = some m.cls := findClass_of_methodNamed Bd.named
  have hnm := (name_of_methodNamed Bd.named Bd.method).1
  have hlk : meth.locks = false := BodyLoose.notSynchronized Bd
  have X0 : Stand p l e ({ frames := 0, cells := 0, slots := 0, locals := 0 } : Room) s m #[(.int i0), (.int i1), (.int i2), (.int i3)] below meth c s₁ [] 0 0 := Stand.of_body Bd
  have e0 : s₁.heap = h0 := by rw [← hh, Bd.state]; rfl
  have N0 := Fr.nil n0
  have ZZ := Z0
  show Go p e below s ({ frames := 0, cells := 0, slots := 0, locals := 0 } : Room).cells ({ frames := 0, cells := 0, slots := 0, locals := 0 } : Room).slots (fun v h L => Q_rm9 Z i0 i1 i2 i3 h0 n0 v h L) s₁ (entryFrame m #[(.int i0), (.int i1), (.int i2), (.int i3)] 5)
  refine Go.cast (ef_rm9 m i0 i1 i2 i3) ?_
  refine Go.gen ?_
  intro K1 K2 QQ hK1 hK2 hQQ
  refine Go.on (fun _ k => XS.iconst X0.here hx rfl (hb hby d9_0) k) ?_
  show Go _ _ _ _ _ _ _ _ (mkF m 1 #[Si i0, Si i1, Si i2, Si i3, .unset] [(.int (-1 : Int32))])
  refine Go.on (fun _ k => XS.istore X0.here hx rfl (hb hby d9_1) rfl (l' := #[.val (.int i0), .val (.int i1), .val (.int i2), .val (.int i3), .val (.int (-1 : Int32))]) rfl k) ?_
  show Go _ _ _ _ _ _ _ _ (mkF m 3 #[Si i0, Si i1, Si i2, Si i3, .val (.int (-1 : Int32))] [])
  refine Go.on (fun _ k => XS.iloadN X0.here hx rfl (hb hby d9_3) rfl k) ?_
  show Go _ _ _ _ _ _ _ _ (mkF m 4 #[Si i0, Si i1, Si i2, Si i3, .val (.int (-1 : Int32))] [(.int i2)])
  suffices hJ1 : ∀ (y0 : Int32), y0 = (if (0 : Int32) < i2 then (if i3 = i0 then (0 : Int32) else (-1 : Int32)) else (-1 : Int32)) → Go p e below s K1 K2 QQ s₁ (mkF m 15 #[Si i0, Si i1, Si i2, Si i3, Si y0] []) by
    by_cases hc2 : (0 : Int32) < i2
    · -- pc 4 yes
      refine Go.on (fun _ k => XS.ifNo X0.here hx rfl (hb hby d9_4) rfl ((if0 _ _).trans (tlt hc2).2.2.2) k) ?_
      show Go _ _ _ _ _ _ _ _ (mkF m 7 #[Si i0, Si i1, Si i2, Si i3, .val (.int (-1 : Int32))] [])
      refine Go.on (fun _ k => XS.iloadN X0.here hx rfl (hb hby d9_7) rfl k) ?_
      show Go _ _ _ _ _ _ _ _ (mkF m 8 #[Si i0, Si i1, Si i2, Si i3, .val (.int (-1 : Int32))] [(.int i3)])
      refine Go.on (fun _ k => XS.iloadN X0.here hx rfl (hb hby d9_8) rfl k) ?_
      show Go _ _ _ _ _ _ _ _ (mkF m 9 #[Si i0, Si i1, Si i2, Si i3, .val (.int (-1 : Int32))] [(.int i0), (.int i3)])
      by_cases hc3 : i3 = i0
      · -- pc 9 yes
        refine Go.on (fun _ k => XS.icmpNo X0.here hx rfl (hb hby d9_9) rfl (teq hc3).2 k) ?_
        show Go _ _ _ _ _ _ _ _ (mkF m 12 #[Si i0, Si i1, Si i2, Si i3, .val (.int (-1 : Int32))] [])
        refine Go.on (fun _ k => XS.iconst X0.here hx rfl (hb hby d9_12) k) ?_
        show Go _ _ _ _ _ _ _ _ (mkF m 13 #[Si i0, Si i1, Si i2, Si i3, .val (.int (-1 : Int32))] [(.int 0)])
        refine Go.on (fun _ k => XS.istore X0.here hx rfl (hb hby d9_13) rfl (l' := #[.val (.int i0), .val (.int i1), .val (.int i2), .val (.int i3), .val (.int (0 : Int32))]) rfl k) ?_
        show Go _ _ _ _ _ _ _ _ (mkF m 15 #[Si i0, Si i1, Si i2, Si i3, Si 0] [])
        exact hJ1 _ (by rw [if_pos hc2, if_pos hc3])
      · -- pc 9 no
        refine Go.on (fun _ k => XS.icmpYes X0.here hx rfl (pc0 := 9) (pc' := 15) rfl (hb hby d9_9) rfl (feq hc3).2 (by decide) (by decide) k) ?_
        show Go _ _ _ _ _ _ _ _ (mkF m 15 #[Si i0, Si i1, Si i2, Si i3, .val (.int (-1 : Int32))] [])
        exact hJ1 _ (by rw [if_pos hc2, if_neg hc3])
    · -- pc 4 no
      refine Go.on (fun _ k => XS.ifYes X0.here hx rfl (pc0 := 4) (pc' := 15) rfl (hb hby d9_4) rfl ((if0 _ _).trans (flt hc2).2.2.2) (by decide) (by decide) k) ?_
      show Go _ _ _ _ _ _ _ _ (mkF m 15 #[Si i0, Si i1, Si i2, Si i3, .val (.int (-1 : Int32))] [])
      exact hJ1 _ (by rw [if_neg hc2])
  intro y0 hy0
  refine Go.on (fun _ k => XS.iloadN X0.here hx rfl (hb hby d9_15) rfl k) ?_
  refine Go.on (fun _ k => XS.iconst X0.here hx rfl (hb hby d9_16) k) ?_
  show Go _ _ _ _ _ _ _ _ (mkF m 17 #[Si i0, Si i1, Si i2, Si i3, Si y0] [(.int 1), (.int i2)])
  suffices hJ4 : ∀ (y1 : Int32), y1 = (if (1 : Int32) < i2 then (if i3 = (i0 + i1) then (1 : Int32) else y0) else y0) → Go p e below s K1 K2 QQ s₁ (mkF m 30 #[Si i0, Si i1, Si i2, Si i3, Si y1] []) by
    by_cases hc5 : (1 : Int32) < i2
    · -- pc 17 yes
      refine Go.on (fun _ k => XS.icmpNo X0.here hx rfl (hb hby d9_17) rfl (tlt hc5).2.2.2 k) ?_
      show Go _ _ _ _ _ _ _ _ (mkF m 20 #[Si i0, Si i1, Si i2, Si i3, Si y0] [])
      refine Go.on (fun _ k => XS.iloadN X0.here hx rfl (hb hby d9_20) rfl k) ?_
      show Go _ _ _ _ _ _ _ _ (mkF m 21 #[Si i0, Si i1, Si i2, Si i3, Si y0] [(.int i3)])
      refine Go.on (fun _ k => XS.iloadN X0.here hx rfl (hb hby d9_21) rfl k) ?_
      show Go _ _ _ _ _ _ _ _ (mkF m 22 #[Si i0, Si i1, Si i2, Si i3, Si y0] [(.int i0), (.int i3)])
      refine Go.on (fun _ k => XS.iloadN X0.here hx rfl (hb hby d9_22) rfl k) ?_
      show Go _ _ _ _ _ _ _ _ (mkF m 23 #[Si i0, Si i1, Si i2, Si i3, Si y0] [(.int i1), (.int i0), (.int i3)])
      refine Go.on (fun _ k => XS.iadd X0.here hx rfl (hb hby d9_23) rfl k) ?_
      show Go _ _ _ _ _ _ _ _ (mkF m 24 #[Si i0, Si i1, Si i2, Si i3, Si y0] [(.int (i0 + i1)), (.int i3)])
      by_cases hc6 : i3 = (i0 + i1)
      · -- pc 24 yes
        refine Go.on (fun _ k => XS.icmpNo X0.here hx rfl (hb hby d9_24) rfl (teq hc6).2 k) ?_
        show Go _ _ _ _ _ _ _ _ (mkF m 27 #[Si i0, Si i1, Si i2, Si i3, Si y0] [])
        refine Go.on (fun _ k => XS.iconst X0.here hx rfl (hb hby d9_27) k) ?_
        show Go _ _ _ _ _ _ _ _ (mkF m 28 #[Si i0, Si i1, Si i2, Si i3, Si y0] [(.int 1)])
        refine Go.on (fun _ k => XS.istore X0.here hx rfl (hb hby d9_28) rfl (l' := #[.val (.int i0), .val (.int i1), .val (.int i2), .val (.int i3), .val (.int (1 : Int32))]) rfl k) ?_
        show Go _ _ _ _ _ _ _ _ (mkF m 30 #[Si i0, Si i1, Si i2, Si i3, Si 1] [])
        exact hJ4 _ (by rw [if_pos hc5, if_pos hc6])
      · -- pc 24 no
        refine Go.on (fun _ k => XS.icmpYes X0.here hx rfl (pc0 := 24) (pc' := 30) rfl (hb hby d9_24) rfl (feq hc6).2 (by decide) (by decide) k) ?_
        show Go _ _ _ _ _ _ _ _ (mkF m 30 #[Si i0, Si i1, Si i2, Si i3, Si y0] [])
        exact hJ4 _ (by rw [if_pos hc5, if_neg hc6])
    · -- pc 17 no
      refine Go.on (fun _ k => XS.icmpYes X0.here hx rfl (pc0 := 17) (pc' := 30) rfl (hb hby d9_17) rfl (flt hc5).2.2.2 (by decide) (by decide) k) ?_
      show Go _ _ _ _ _ _ _ _ (mkF m 30 #[Si i0, Si i1, Si i2, Si i3, Si y0] [])
      exact hJ4 _ (by rw [if_neg hc5])
  intro y1 hy1
  refine Go.on (fun _ k => XS.iloadN X0.here hx rfl (hb hby d9_30) rfl k) ?_
  refine Go.on (fun _ k => XS.iconst X0.here hx rfl (hb hby d9_31) k) ?_
  show Go _ _ _ _ _ _ _ _ (mkF m 32 #[Si i0, Si i1, Si i2, Si i3, Si y1] [(.int 2), (.int i2)])
  suffices hJ7 : ∀ (y2 : Int32), y2 = (if (2 : Int32) < i2 then (if i3 = (i0 + ((2 : Int32) * i1)) then (2 : Int32) else y1) else y1) → Go p e below s K1 K2 QQ s₁ (mkF m 47 #[Si i0, Si i1, Si i2, Si i3, Si y2] []) by
    by_cases hc8 : (2 : Int32) < i2
    · -- pc 32 yes
      refine Go.on (fun _ k => XS.icmpNo X0.here hx rfl (hb hby d9_32) rfl (tlt hc8).2.2.2 k) ?_
      show Go _ _ _ _ _ _ _ _ (mkF m 35 #[Si i0, Si i1, Si i2, Si i3, Si y1] [])
      refine Go.on (fun _ k => XS.iloadN X0.here hx rfl (hb hby d9_35) rfl k) ?_
      show Go _ _ _ _ _ _ _ _ (mkF m 36 #[Si i0, Si i1, Si i2, Si i3, Si y1] [(.int i3)])
      refine Go.on (fun _ k => XS.iloadN X0.here hx rfl (hb hby d9_36) rfl k) ?_
      show Go _ _ _ _ _ _ _ _ (mkF m 37 #[Si i0, Si i1, Si i2, Si i3, Si y1] [(.int i0), (.int i3)])
      refine Go.on (fun _ k => XS.iconst X0.here hx rfl (hb hby d9_37) k) ?_
      show Go _ _ _ _ _ _ _ _ (mkF m 38 #[Si i0, Si i1, Si i2, Si i3, Si y1] [(.int 2), (.int i0), (.int i3)])
      refine Go.on (fun _ k => XS.iloadN X0.here hx rfl (hb hby d9_38) rfl k) ?_
      show Go _ _ _ _ _ _ _ _ (mkF m 39 #[Si i0, Si i1, Si i2, Si i3, Si y1] [(.int i1), (.int 2), (.int i0), (.int i3)])
      refine Go.on (fun _ k => XS.imul X0.here hx rfl (hb hby d9_39) rfl k) ?_
      show Go _ _ _ _ _ _ _ _ (mkF m 40 #[Si i0, Si i1, Si i2, Si i3, Si y1] [(.int ((2 : Int32) * i1)), (.int i0), (.int i3)])
      refine Go.on (fun _ k => XS.iadd X0.here hx rfl (hb hby d9_40) rfl k) ?_
      show Go _ _ _ _ _ _ _ _ (mkF m 41 #[Si i0, Si i1, Si i2, Si i3, Si y1] [(.int (i0 + ((2 : Int32) * i1))), (.int i3)])
      by_cases hc9 : i3 = (i0 + ((2 : Int32) * i1))
      · -- pc 41 yes
        refine Go.on (fun _ k => XS.icmpNo X0.here hx rfl (hb hby d9_41) rfl (teq hc9).2 k) ?_
        show Go _ _ _ _ _ _ _ _ (mkF m 44 #[Si i0, Si i1, Si i2, Si i3, Si y1] [])
        refine Go.on (fun _ k => XS.iconst X0.here hx rfl (hb hby d9_44) k) ?_
        show Go _ _ _ _ _ _ _ _ (mkF m 45 #[Si i0, Si i1, Si i2, Si i3, Si y1] [(.int 2)])
        refine Go.on (fun _ k => XS.istore X0.here hx rfl (hb hby d9_45) rfl (l' := #[.val (.int i0), .val (.int i1), .val (.int i2), .val (.int i3), .val (.int (2 : Int32))]) rfl k) ?_
        show Go _ _ _ _ _ _ _ _ (mkF m 47 #[Si i0, Si i1, Si i2, Si i3, Si 2] [])
        exact hJ7 _ (by rw [if_pos hc8, if_pos hc9])
      · -- pc 41 no
        refine Go.on (fun _ k => XS.icmpYes X0.here hx rfl (pc0 := 41) (pc' := 47) rfl (hb hby d9_41) rfl (feq hc9).2 (by decide) (by decide) k) ?_
        show Go _ _ _ _ _ _ _ _ (mkF m 47 #[Si i0, Si i1, Si i2, Si i3, Si y1] [])
        exact hJ7 _ (by rw [if_pos hc8, if_neg hc9])
    · -- pc 32 no
      refine Go.on (fun _ k => XS.icmpYes X0.here hx rfl (pc0 := 32) (pc' := 47) rfl (hb hby d9_32) rfl (flt hc8).2.2.2 (by decide) (by decide) k) ?_
      show Go _ _ _ _ _ _ _ _ (mkF m 47 #[Si i0, Si i1, Si i2, Si i3, Si y1] [])
      exact hJ7 _ (by rw [if_neg hc8])
  intro y2 hy2
  refine Go.on (fun _ k => XS.iloadN X0.here hx rfl (hb hby d9_47) rfl k) ?_
  refine Go.on (fun _ k => XS.iconst X0.here hx rfl (hb hby d9_48) k) ?_
  show Go _ _ _ _ _ _ _ _ (mkF m 49 #[Si i0, Si i1, Si i2, Si i3, Si y2] [(.int 3), (.int i2)])
  suffices hJ10 : ∀ (y3 : Int32), y3 = (if (3 : Int32) < i2 then (if i3 = (i0 + ((3 : Int32) * i1)) then (3 : Int32) else y2) else y2) → Go p e below s K1 K2 QQ s₁ (mkF m 64 #[Si i0, Si i1, Si i2, Si i3, Si y3] []) by
    by_cases hc11 : (3 : Int32) < i2
    · -- pc 49 yes
      refine Go.on (fun _ k => XS.icmpNo X0.here hx rfl (hb hby d9_49) rfl (tlt hc11).2.2.2 k) ?_
      show Go _ _ _ _ _ _ _ _ (mkF m 52 #[Si i0, Si i1, Si i2, Si i3, Si y2] [])
      refine Go.on (fun _ k => XS.iloadN X0.here hx rfl (hb hby d9_52) rfl k) ?_
      show Go _ _ _ _ _ _ _ _ (mkF m 53 #[Si i0, Si i1, Si i2, Si i3, Si y2] [(.int i3)])
      refine Go.on (fun _ k => XS.iloadN X0.here hx rfl (hb hby d9_53) rfl k) ?_
      show Go _ _ _ _ _ _ _ _ (mkF m 54 #[Si i0, Si i1, Si i2, Si i3, Si y2] [(.int i0), (.int i3)])
      refine Go.on (fun _ k => XS.iconst X0.here hx rfl (hb hby d9_54) k) ?_
      show Go _ _ _ _ _ _ _ _ (mkF m 55 #[Si i0, Si i1, Si i2, Si i3, Si y2] [(.int 3), (.int i0), (.int i3)])
      refine Go.on (fun _ k => XS.iloadN X0.here hx rfl (hb hby d9_55) rfl k) ?_
      show Go _ _ _ _ _ _ _ _ (mkF m 56 #[Si i0, Si i1, Si i2, Si i3, Si y2] [(.int i1), (.int 3), (.int i0), (.int i3)])
      refine Go.on (fun _ k => XS.imul X0.here hx rfl (hb hby d9_56) rfl k) ?_
      show Go _ _ _ _ _ _ _ _ (mkF m 57 #[Si i0, Si i1, Si i2, Si i3, Si y2] [(.int ((3 : Int32) * i1)), (.int i0), (.int i3)])
      refine Go.on (fun _ k => XS.iadd X0.here hx rfl (hb hby d9_57) rfl k) ?_
      show Go _ _ _ _ _ _ _ _ (mkF m 58 #[Si i0, Si i1, Si i2, Si i3, Si y2] [(.int (i0 + ((3 : Int32) * i1))), (.int i3)])
      by_cases hc12 : i3 = (i0 + ((3 : Int32) * i1))
      · -- pc 58 yes
        refine Go.on (fun _ k => XS.icmpNo X0.here hx rfl (hb hby d9_58) rfl (teq hc12).2 k) ?_
        show Go _ _ _ _ _ _ _ _ (mkF m 61 #[Si i0, Si i1, Si i2, Si i3, Si y2] [])
        refine Go.on (fun _ k => XS.iconst X0.here hx rfl (hb hby d9_61) k) ?_
        show Go _ _ _ _ _ _ _ _ (mkF m 62 #[Si i0, Si i1, Si i2, Si i3, Si y2] [(.int 3)])
        refine Go.on (fun _ k => XS.istore X0.here hx rfl (hb hby d9_62) rfl (l' := #[.val (.int i0), .val (.int i1), .val (.int i2), .val (.int i3), .val (.int (3 : Int32))]) rfl k) ?_
        show Go _ _ _ _ _ _ _ _ (mkF m 64 #[Si i0, Si i1, Si i2, Si i3, Si 3] [])
        exact hJ10 _ (by rw [if_pos hc11, if_pos hc12])
      · -- pc 58 no
        refine Go.on (fun _ k => XS.icmpYes X0.here hx rfl (pc0 := 58) (pc' := 64) rfl (hb hby d9_58) rfl (feq hc12).2 (by decide) (by decide) k) ?_
        show Go _ _ _ _ _ _ _ _ (mkF m 64 #[Si i0, Si i1, Si i2, Si i3, Si y2] [])
        exact hJ10 _ (by rw [if_pos hc11, if_neg hc12])
    · -- pc 49 no
      refine Go.on (fun _ k => XS.icmpYes X0.here hx rfl (pc0 := 49) (pc' := 64) rfl (hb hby d9_49) rfl (flt hc11).2.2.2 (by decide) (by decide) k) ?_
      show Go _ _ _ _ _ _ _ _ (mkF m 64 #[Si i0, Si i1, Si i2, Si i3, Si y2] [])
      exact hJ10 _ (by rw [if_neg hc11])
  intro y3 hy3
  refine Go.on (fun _ k => XS.iloadN X0.here hx rfl (hb hby d9_64) rfl k) ?_
  refine Go.on (fun _ k => XS.iconst X0.here hx rfl (hb hby d9_65) k) ?_
  show Go _ _ _ _ _ _ _ _ (mkF m 66 #[Si i0, Si i1, Si i2, Si i3, Si y3] [(.int 4), (.int i2)])
  suffices hJ13 : ∀ (y4 : Int32), y4 = (if (4 : Int32) < i2 then (if i3 = (i0 + ((4 : Int32) * i1)) then (4 : Int32) else y3) else y3) → Go p e below s K1 K2 QQ s₁ (mkF m 81 #[Si i0, Si i1, Si i2, Si i3, Si y4] []) by
    by_cases hc14 : (4 : Int32) < i2
    · -- pc 66 yes
      refine Go.on (fun _ k => XS.icmpNo X0.here hx rfl (hb hby d9_66) rfl (tlt hc14).2.2.2 k) ?_
      show Go _ _ _ _ _ _ _ _ (mkF m 69 #[Si i0, Si i1, Si i2, Si i3, Si y3] [])
      refine Go.on (fun _ k => XS.iloadN X0.here hx rfl (hb hby d9_69) rfl k) ?_
      show Go _ _ _ _ _ _ _ _ (mkF m 70 #[Si i0, Si i1, Si i2, Si i3, Si y3] [(.int i3)])
      refine Go.on (fun _ k => XS.iloadN X0.here hx rfl (hb hby d9_70) rfl k) ?_
      show Go _ _ _ _ _ _ _ _ (mkF m 71 #[Si i0, Si i1, Si i2, Si i3, Si y3] [(.int i0), (.int i3)])
      refine Go.on (fun _ k => XS.iconst X0.here hx rfl (hb hby d9_71) k) ?_
      show Go _ _ _ _ _ _ _ _ (mkF m 72 #[Si i0, Si i1, Si i2, Si i3, Si y3] [(.int 4), (.int i0), (.int i3)])
      refine Go.on (fun _ k => XS.iloadN X0.here hx rfl (hb hby d9_72) rfl k) ?_
      show Go _ _ _ _ _ _ _ _ (mkF m 73 #[Si i0, Si i1, Si i2, Si i3, Si y3] [(.int i1), (.int 4), (.int i0), (.int i3)])
      refine Go.on (fun _ k => XS.imul X0.here hx rfl (hb hby d9_73) rfl k) ?_
      show Go _ _ _ _ _ _ _ _ (mkF m 74 #[Si i0, Si i1, Si i2, Si i3, Si y3] [(.int ((4 : Int32) * i1)), (.int i0), (.int i3)])
      refine Go.on (fun _ k => XS.iadd X0.here hx rfl (hb hby d9_74) rfl k) ?_
      show Go _ _ _ _ _ _ _ _ (mkF m 75 #[Si i0, Si i1, Si i2, Si i3, Si y3] [(.int (i0 + ((4 : Int32) * i1))), (.int i3)])
      by_cases hc15 : i3 = (i0 + ((4 : Int32) * i1))
      · -- pc 75 yes
        refine Go.on (fun _ k => XS.icmpNo X0.here hx rfl (hb hby d9_75) rfl (teq hc15).2 k) ?_
        show Go _ _ _ _ _ _ _ _ (mkF m 78 #[Si i0, Si i1, Si i2, Si i3, Si y3] [])
        refine Go.on (fun _ k => XS.iconst X0.here hx rfl (hb hby d9_78) k) ?_
        show Go _ _ _ _ _ _ _ _ (mkF m 79 #[Si i0, Si i1, Si i2, Si i3, Si y3] [(.int 4)])
        refine Go.on (fun _ k => XS.istore X0.here hx rfl (hb hby d9_79) rfl (l' := #[.val (.int i0), .val (.int i1), .val (.int i2), .val (.int i3), .val (.int (4 : Int32))]) rfl k) ?_
        show Go _ _ _ _ _ _ _ _ (mkF m 81 #[Si i0, Si i1, Si i2, Si i3, Si 4] [])
        exact hJ13 _ (by rw [if_pos hc14, if_pos hc15])
      · -- pc 75 no
        refine Go.on (fun _ k => XS.icmpYes X0.here hx rfl (pc0 := 75) (pc' := 81) rfl (hb hby d9_75) rfl (feq hc15).2 (by decide) (by decide) k) ?_
        show Go _ _ _ _ _ _ _ _ (mkF m 81 #[Si i0, Si i1, Si i2, Si i3, Si y3] [])
        exact hJ13 _ (by rw [if_pos hc14, if_neg hc15])
    · -- pc 66 no
      refine Go.on (fun _ k => XS.icmpYes X0.here hx rfl (pc0 := 66) (pc' := 81) rfl (hb hby d9_66) rfl (flt hc14).2.2.2 (by decide) (by decide) k) ?_
      show Go _ _ _ _ _ _ _ _ (mkF m 81 #[Si i0, Si i1, Si i2, Si i3, Si y3] [])
      exact hJ13 _ (by rw [if_neg hc14])
  intro y4 hy4
  refine Go.on (fun _ k => XS.iloadN X0.here hx rfl (hb hby d9_81) rfl k) ?_
  refine Go.on (fun _ k => XS.iconst X0.here hx rfl (hb hby d9_82) k) ?_
  show Go _ _ _ _ _ _ _ _ (mkF m 83 #[Si i0, Si i1, Si i2, Si i3, Si y4] [(.int 5), (.int i2)])
  suffices hJ16 : ∀ (y5 : Int32), y5 = (if (5 : Int32) < i2 then (if i3 = (i0 + ((5 : Int32) * i1)) then (5 : Int32) else y4) else y4) → Go p e below s K1 K2 QQ s₁ (mkF m 98 #[Si i0, Si i1, Si i2, Si i3, Si y5] []) by
    by_cases hc17 : (5 : Int32) < i2
    · -- pc 83 yes
      refine Go.on (fun _ k => XS.icmpNo X0.here hx rfl (hb hby d9_83) rfl (tlt hc17).2.2.2 k) ?_
      show Go _ _ _ _ _ _ _ _ (mkF m 86 #[Si i0, Si i1, Si i2, Si i3, Si y4] [])
      refine Go.on (fun _ k => XS.iloadN X0.here hx rfl (hb hby d9_86) rfl k) ?_
      show Go _ _ _ _ _ _ _ _ (mkF m 87 #[Si i0, Si i1, Si i2, Si i3, Si y4] [(.int i3)])
      refine Go.on (fun _ k => XS.iloadN X0.here hx rfl (hb hby d9_87) rfl k) ?_
      show Go _ _ _ _ _ _ _ _ (mkF m 88 #[Si i0, Si i1, Si i2, Si i3, Si y4] [(.int i0), (.int i3)])
      refine Go.on (fun _ k => XS.iconst X0.here hx rfl (hb hby d9_88) k) ?_
      show Go _ _ _ _ _ _ _ _ (mkF m 89 #[Si i0, Si i1, Si i2, Si i3, Si y4] [(.int 5), (.int i0), (.int i3)])
      refine Go.on (fun _ k => XS.iloadN X0.here hx rfl (hb hby d9_89) rfl k) ?_
      show Go _ _ _ _ _ _ _ _ (mkF m 90 #[Si i0, Si i1, Si i2, Si i3, Si y4] [(.int i1), (.int 5), (.int i0), (.int i3)])
      refine Go.on (fun _ k => XS.imul X0.here hx rfl (hb hby d9_90) rfl k) ?_
      show Go _ _ _ _ _ _ _ _ (mkF m 91 #[Si i0, Si i1, Si i2, Si i3, Si y4] [(.int ((5 : Int32) * i1)), (.int i0), (.int i3)])
      refine Go.on (fun _ k => XS.iadd X0.here hx rfl (hb hby d9_91) rfl k) ?_
      show Go _ _ _ _ _ _ _ _ (mkF m 92 #[Si i0, Si i1, Si i2, Si i3, Si y4] [(.int (i0 + ((5 : Int32) * i1))), (.int i3)])
      by_cases hc18 : i3 = (i0 + ((5 : Int32) * i1))
      · -- pc 92 yes
        refine Go.on (fun _ k => XS.icmpNo X0.here hx rfl (hb hby d9_92) rfl (teq hc18).2 k) ?_
        show Go _ _ _ _ _ _ _ _ (mkF m 95 #[Si i0, Si i1, Si i2, Si i3, Si y4] [])
        refine Go.on (fun _ k => XS.iconst X0.here hx rfl (hb hby d9_95) k) ?_
        show Go _ _ _ _ _ _ _ _ (mkF m 96 #[Si i0, Si i1, Si i2, Si i3, Si y4] [(.int 5)])
        refine Go.on (fun _ k => XS.istore X0.here hx rfl (hb hby d9_96) rfl (l' := #[.val (.int i0), .val (.int i1), .val (.int i2), .val (.int i3), .val (.int (5 : Int32))]) rfl k) ?_
        show Go _ _ _ _ _ _ _ _ (mkF m 98 #[Si i0, Si i1, Si i2, Si i3, Si 5] [])
        exact hJ16 _ (by rw [if_pos hc17, if_pos hc18])
      · -- pc 92 no
        refine Go.on (fun _ k => XS.icmpYes X0.here hx rfl (pc0 := 92) (pc' := 98) rfl (hb hby d9_92) rfl (feq hc18).2 (by decide) (by decide) k) ?_
        show Go _ _ _ _ _ _ _ _ (mkF m 98 #[Si i0, Si i1, Si i2, Si i3, Si y4] [])
        exact hJ16 _ (by rw [if_pos hc17, if_neg hc18])
    · -- pc 83 no
      refine Go.on (fun _ k => XS.icmpYes X0.here hx rfl (pc0 := 83) (pc' := 98) rfl (hb hby d9_83) rfl (flt hc17).2.2.2 (by decide) (by decide) k) ?_
      show Go _ _ _ _ _ _ _ _ (mkF m 98 #[Si i0, Si i1, Si i2, Si i3, Si y4] [])
      exact hJ16 _ (by rw [if_neg hc17])
  intro y5 hy5
  refine Go.on (fun _ k => XS.iloadN X0.here hx rfl (hb hby d9_98) rfl k) ?_
  refine Go.on (fun _ k => XS.bipush X0.here hx rfl (hb hby d9_99) k) ?_
  show Go _ _ _ _ _ _ _ _ (mkF m 101 #[Si i0, Si i1, Si i2, Si i3, Si y5] [(.int 6), (.int i2)])
  suffices hJ19 : ∀ (y6 : Int32), y6 = (if (6 : Int32) < i2 then (if i3 = (i0 + ((6 : Int32) * i1)) then (6 : Int32) else y5) else y5) → Go p e below s K1 K2 QQ s₁ (mkF m 118 #[Si i0, Si i1, Si i2, Si i3, Si y6] []) by
    by_cases hc20 : (6 : Int32) < i2
    · -- pc 101 yes
      refine Go.on (fun _ k => XS.icmpNo X0.here hx rfl (hb hby d9_101) rfl (tlt hc20).2.2.2 k) ?_
      show Go _ _ _ _ _ _ _ _ (mkF m 104 #[Si i0, Si i1, Si i2, Si i3, Si y5] [])
      refine Go.on (fun _ k => XS.iloadN X0.here hx rfl (hb hby d9_104) rfl k) ?_
      show Go _ _ _ _ _ _ _ _ (mkF m 105 #[Si i0, Si i1, Si i2, Si i3, Si y5] [(.int i3)])
      refine Go.on (fun _ k => XS.iloadN X0.here hx rfl (hb hby d9_105) rfl k) ?_
      show Go _ _ _ _ _ _ _ _ (mkF m 106 #[Si i0, Si i1, Si i2, Si i3, Si y5] [(.int i0), (.int i3)])
      refine Go.on (fun _ k => XS.bipush X0.here hx rfl (hb hby d9_106) k) ?_
      show Go _ _ _ _ _ _ _ _ (mkF m 108 #[Si i0, Si i1, Si i2, Si i3, Si y5] [(.int 6), (.int i0), (.int i3)])
      refine Go.on (fun _ k => XS.iloadN X0.here hx rfl (hb hby d9_108) rfl k) ?_
      show Go _ _ _ _ _ _ _ _ (mkF m 109 #[Si i0, Si i1, Si i2, Si i3, Si y5] [(.int i1), (.int 6), (.int i0), (.int i3)])
      refine Go.on (fun _ k => XS.imul X0.here hx rfl (hb hby d9_109) rfl k) ?_
      show Go _ _ _ _ _ _ _ _ (mkF m 110 #[Si i0, Si i1, Si i2, Si i3, Si y5] [(.int ((6 : Int32) * i1)), (.int i0), (.int i3)])
      refine Go.on (fun _ k => XS.iadd X0.here hx rfl (hb hby d9_110) rfl k) ?_
      show Go _ _ _ _ _ _ _ _ (mkF m 111 #[Si i0, Si i1, Si i2, Si i3, Si y5] [(.int (i0 + ((6 : Int32) * i1))), (.int i3)])
      by_cases hc21 : i3 = (i0 + ((6 : Int32) * i1))
      · -- pc 111 yes
        refine Go.on (fun _ k => XS.icmpNo X0.here hx rfl (hb hby d9_111) rfl (teq hc21).2 k) ?_
        show Go _ _ _ _ _ _ _ _ (mkF m 114 #[Si i0, Si i1, Si i2, Si i3, Si y5] [])
        refine Go.on (fun _ k => XS.bipush X0.here hx rfl (hb hby d9_114) k) ?_
        show Go _ _ _ _ _ _ _ _ (mkF m 116 #[Si i0, Si i1, Si i2, Si i3, Si y5] [(.int 6)])
        refine Go.on (fun _ k => XS.istore X0.here hx rfl (hb hby d9_116) rfl (l' := #[.val (.int i0), .val (.int i1), .val (.int i2), .val (.int i3), .val (.int (6 : Int32))]) rfl k) ?_
        show Go _ _ _ _ _ _ _ _ (mkF m 118 #[Si i0, Si i1, Si i2, Si i3, Si 6] [])
        exact hJ19 _ (by rw [if_pos hc20, if_pos hc21])
      · -- pc 111 no
        refine Go.on (fun _ k => XS.icmpYes X0.here hx rfl (pc0 := 111) (pc' := 118) rfl (hb hby d9_111) rfl (feq hc21).2 (by decide) (by decide) k) ?_
        show Go _ _ _ _ _ _ _ _ (mkF m 118 #[Si i0, Si i1, Si i2, Si i3, Si y5] [])
        exact hJ19 _ (by rw [if_pos hc20, if_neg hc21])
    · -- pc 101 no
      refine Go.on (fun _ k => XS.icmpYes X0.here hx rfl (pc0 := 101) (pc' := 118) rfl (hb hby d9_101) rfl (flt hc20).2.2.2 (by decide) (by decide) k) ?_
      show Go _ _ _ _ _ _ _ _ (mkF m 118 #[Si i0, Si i1, Si i2, Si i3, Si y5] [])
      exact hJ19 _ (by rw [if_neg hc20])
  intro y6 hy6
  refine Go.on (fun _ k => XS.iloadN X0.here hx rfl (hb hby d9_118) rfl k) ?_
  refine Go.on (fun _ k => XS.bipush X0.here hx rfl (hb hby d9_119) k) ?_
  show Go _ _ _ _ _ _ _ _ (mkF m 121 #[Si i0, Si i1, Si i2, Si i3, Si y6] [(.int 7), (.int i2)])
  suffices hJ22 : ∀ (y7 : Int32), y7 = (if (7 : Int32) < i2 then (if i3 = (i0 + ((7 : Int32) * i1)) then (7 : Int32) else y6) else y6) → Go p e below s K1 K2 QQ s₁ (mkF m 138 #[Si i0, Si i1, Si i2, Si i3, Si y7] []) by
    by_cases hc23 : (7 : Int32) < i2
    · -- pc 121 yes
      refine Go.on (fun _ k => XS.icmpNo X0.here hx rfl (hb hby d9_121) rfl (tlt hc23).2.2.2 k) ?_
      show Go _ _ _ _ _ _ _ _ (mkF m 124 #[Si i0, Si i1, Si i2, Si i3, Si y6] [])
      refine Go.on (fun _ k => XS.iloadN X0.here hx rfl (hb hby d9_124) rfl k) ?_
      show Go _ _ _ _ _ _ _ _ (mkF m 125 #[Si i0, Si i1, Si i2, Si i3, Si y6] [(.int i3)])
      refine Go.on (fun _ k => XS.iloadN X0.here hx rfl (hb hby d9_125) rfl k) ?_
      show Go _ _ _ _ _ _ _ _ (mkF m 126 #[Si i0, Si i1, Si i2, Si i3, Si y6] [(.int i0), (.int i3)])
      refine Go.on (fun _ k => XS.bipush X0.here hx rfl (hb hby d9_126) k) ?_
      show Go _ _ _ _ _ _ _ _ (mkF m 128 #[Si i0, Si i1, Si i2, Si i3, Si y6] [(.int 7), (.int i0), (.int i3)])
      refine Go.on (fun _ k => XS.iloadN X0.here hx rfl (hb hby d9_128) rfl k) ?_
      show Go _ _ _ _ _ _ _ _ (mkF m 129 #[Si i0, Si i1, Si i2, Si i3, Si y6] [(.int i1), (.int 7), (.int i0), (.int i3)])
      refine Go.on (fun _ k => XS.imul X0.here hx rfl (hb hby d9_129) rfl k) ?_
      show Go _ _ _ _ _ _ _ _ (mkF m 130 #[Si i0, Si i1, Si i2, Si i3, Si y6] [(.int ((7 : Int32) * i1)), (.int i0), (.int i3)])
      refine Go.on (fun _ k => XS.iadd X0.here hx rfl (hb hby d9_130) rfl k) ?_
      show Go _ _ _ _ _ _ _ _ (mkF m 131 #[Si i0, Si i1, Si i2, Si i3, Si y6] [(.int (i0 + ((7 : Int32) * i1))), (.int i3)])
      by_cases hc24 : i3 = (i0 + ((7 : Int32) * i1))
      · -- pc 131 yes
        refine Go.on (fun _ k => XS.icmpNo X0.here hx rfl (hb hby d9_131) rfl (teq hc24).2 k) ?_
        show Go _ _ _ _ _ _ _ _ (mkF m 134 #[Si i0, Si i1, Si i2, Si i3, Si y6] [])
        refine Go.on (fun _ k => XS.bipush X0.here hx rfl (hb hby d9_134) k) ?_
        show Go _ _ _ _ _ _ _ _ (mkF m 136 #[Si i0, Si i1, Si i2, Si i3, Si y6] [(.int 7)])
        refine Go.on (fun _ k => XS.istore X0.here hx rfl (hb hby d9_136) rfl (l' := #[.val (.int i0), .val (.int i1), .val (.int i2), .val (.int i3), .val (.int (7 : Int32))]) rfl k) ?_
        show Go _ _ _ _ _ _ _ _ (mkF m 138 #[Si i0, Si i1, Si i2, Si i3, Si 7] [])
        exact hJ22 _ (by rw [if_pos hc23, if_pos hc24])
      · -- pc 131 no
        refine Go.on (fun _ k => XS.icmpYes X0.here hx rfl (pc0 := 131) (pc' := 138) rfl (hb hby d9_131) rfl (feq hc24).2 (by decide) (by decide) k) ?_
        show Go _ _ _ _ _ _ _ _ (mkF m 138 #[Si i0, Si i1, Si i2, Si i3, Si y6] [])
        exact hJ22 _ (by rw [if_pos hc23, if_neg hc24])
    · -- pc 121 no
      refine Go.on (fun _ k => XS.icmpYes X0.here hx rfl (pc0 := 121) (pc' := 138) rfl (hb hby d9_121) rfl (flt hc23).2.2.2 (by decide) (by decide) k) ?_
      show Go _ _ _ _ _ _ _ _ (mkF m 138 #[Si i0, Si i1, Si i2, Si i3, Si y6] [])
      exact hJ22 _ (by rw [if_neg hc23])
  intro y7 hy7
  refine Go.on (fun _ k => XS.iloadN X0.here hx rfl (hb hby d9_138) rfl k) ?_
  refine Go.on (fun _ k => XS.bipush X0.here hx rfl (hb hby d9_139) k) ?_
  show Go _ _ _ _ _ _ _ _ (mkF m 141 #[Si i0, Si i1, Si i2, Si i3, Si y7] [(.int 8), (.int i2)])
  suffices hJ25 : ∀ (y8 : Int32), y8 = (if (8 : Int32) < i2 then (if i3 = (i0 + ((8 : Int32) * i1)) then (8 : Int32) else y7) else y7) → Go p e below s K1 K2 QQ s₁ (mkF m 158 #[Si i0, Si i1, Si i2, Si i3, Si y8] []) by
    by_cases hc26 : (8 : Int32) < i2
    · -- pc 141 yes
      refine Go.on (fun _ k => XS.icmpNo X0.here hx rfl (hb hby d9_141) rfl (tlt hc26).2.2.2 k) ?_
      show Go _ _ _ _ _ _ _ _ (mkF m 144 #[Si i0, Si i1, Si i2, Si i3, Si y7] [])
      refine Go.on (fun _ k => XS.iloadN X0.here hx rfl (hb hby d9_144) rfl k) ?_
      show Go _ _ _ _ _ _ _ _ (mkF m 145 #[Si i0, Si i1, Si i2, Si i3, Si y7] [(.int i3)])
      refine Go.on (fun _ k => XS.iloadN X0.here hx rfl (hb hby d9_145) rfl k) ?_
      show Go _ _ _ _ _ _ _ _ (mkF m 146 #[Si i0, Si i1, Si i2, Si i3, Si y7] [(.int i0), (.int i3)])
      refine Go.on (fun _ k => XS.bipush X0.here hx rfl (hb hby d9_146) k) ?_
      show Go _ _ _ _ _ _ _ _ (mkF m 148 #[Si i0, Si i1, Si i2, Si i3, Si y7] [(.int 8), (.int i0), (.int i3)])
      refine Go.on (fun _ k => XS.iloadN X0.here hx rfl (hb hby d9_148) rfl k) ?_
      show Go _ _ _ _ _ _ _ _ (mkF m 149 #[Si i0, Si i1, Si i2, Si i3, Si y7] [(.int i1), (.int 8), (.int i0), (.int i3)])
      refine Go.on (fun _ k => XS.imul X0.here hx rfl (hb hby d9_149) rfl k) ?_
      show Go _ _ _ _ _ _ _ _ (mkF m 150 #[Si i0, Si i1, Si i2, Si i3, Si y7] [(.int ((8 : Int32) * i1)), (.int i0), (.int i3)])
      refine Go.on (fun _ k => XS.iadd X0.here hx rfl (hb hby d9_150) rfl k) ?_
      show Go _ _ _ _ _ _ _ _ (mkF m 151 #[Si i0, Si i1, Si i2, Si i3, Si y7] [(.int (i0 + ((8 : Int32) * i1))), (.int i3)])
      by_cases hc27 : i3 = (i0 + ((8 : Int32) * i1))
      · -- pc 151 yes
        refine Go.on (fun _ k => XS.icmpNo X0.here hx rfl (hb hby d9_151) rfl (teq hc27).2 k) ?_
        show Go _ _ _ _ _ _ _ _ (mkF m 154 #[Si i0, Si i1, Si i2, Si i3, Si y7] [])
        refine Go.on (fun _ k => XS.bipush X0.here hx rfl (hb hby d9_154) k) ?_
        show Go _ _ _ _ _ _ _ _ (mkF m 156 #[Si i0, Si i1, Si i2, Si i3, Si y7] [(.int 8)])
        refine Go.on (fun _ k => XS.istore X0.here hx rfl (hb hby d9_156) rfl (l' := #[.val (.int i0), .val (.int i1), .val (.int i2), .val (.int i3), .val (.int (8 : Int32))]) rfl k) ?_
        show Go _ _ _ _ _ _ _ _ (mkF m 158 #[Si i0, Si i1, Si i2, Si i3, Si 8] [])
        exact hJ25 _ (by rw [if_pos hc26, if_pos hc27])
      · -- pc 151 no
        refine Go.on (fun _ k => XS.icmpYes X0.here hx rfl (pc0 := 151) (pc' := 158) rfl (hb hby d9_151) rfl (feq hc27).2 (by decide) (by decide) k) ?_
        show Go _ _ _ _ _ _ _ _ (mkF m 158 #[Si i0, Si i1, Si i2, Si i3, Si y7] [])
        exact hJ25 _ (by rw [if_pos hc26, if_neg hc27])
    · -- pc 141 no
      refine Go.on (fun _ k => XS.icmpYes X0.here hx rfl (pc0 := 141) (pc' := 158) rfl (hb hby d9_141) rfl (flt hc26).2.2.2 (by decide) (by decide) k) ?_
      show Go _ _ _ _ _ _ _ _ (mkF m 158 #[Si i0, Si i1, Si i2, Si i3, Si y7] [])
      exact hJ25 _ (by rw [if_neg hc26])
  intro y8 hy8
  refine Go.on (fun _ k => XS.iload X0.here hx rfl (hb hby d9_158) rfl k) ?_
  show Go _ _ _ _ _ _ _ _ (mkF m 160 #[Si i0, Si i1, Si i2, Si i3, Si y8] [(.int y8)])
  refine Go.retV X0 hx Bd.returns rfl (Or.inl ⟨rfl, Or.inl rfl, _, rfl⟩) (hb hby d9_160) ?_ (by rw [hK1]; decide) (by rw [hK2]; decide)
  rw [e0, ← hQQ]
  subst hy0 hy1 hy2 hy3 hy4 hy5 hy6 hy7 hy8
  exact ⟨rfl, N0, rfl⟩
-- part E
theorem pd_10 : parseMethodDescriptor "(ID)I" = some ⟨[.int, .double], some .int⟩ := by decide +kernel
theorem pd_11 : parseMethodDescriptor "(IIII)I" = some ⟨[.int, .int, .int, .int], some .int⟩ := by decide +kernel
theorem ef_rm0 (m : MethodId) (i0 : Int32) (i1 : Int32) (i2 : Int32) (i3 : Int32) (i4 : Int32) : entryFrame m #[(.int i0), (.int i1), (.int i2), (.int i3), (.int i4)] maxLocals = mkF m 0 #[.val (.int i0), .val (.int i1), .val (.int i2), .val (.int i3), .val (.int i4), .unset, .unset, .unset, .unset, .unset] [] := by first | (simp [entryFrame, mkF, argsToLocals, Value.category, maxLocals]; done) | rfl
def Q_rm0 (Z : State) (i0 : Int32) (i1 : Int32) (i2 : Int32) (i3 : Int32) (i4 : Int32) (h0 : Heap) (n0 : Nat) (v : Option Value) (h : Heap) (L : List Loc) : Prop := v = some (.int 1) ∧ Fr n0 L
set_option maxRecDepth 65536 in
set_option maxHeartbeats 40000000 in
theorem rm0 (l : Launch) (Z : State) (aw : Array Value) (hw : ∀ d ∈ tables_1, d.before aw Z = true) (ws : List Jvm.Cond) (i0 : Int32) (i1 : Int32) (i2 : Int32) (i3 : Int32) (i4 : Int32) (h0 : Heap) (n0 : Nat) (Z0 : n0 ≤ h0.size) :
    MetFree l x (head1 (Jvm.Cond.code x code maxLocals ret :: ws) room_1) (fun a U => a = #[(.int i0), (.int i1), (.int i2), (.int i3), (.int i4)] ∧ Z.Warmed39 U.vm ∧ U.heap = h0) (fun _ _ _ _ _ => True) (fun _ U o U' => ∃ v L, o = .returned v ∧ Q_rm0 Z i0 i1 i2 i3 i4 h0 n0 v U'.heap L ∧ FrameEnd U o U' L 10 132) := by
  refine MetFree.of_bodySF (plainFor_of_name pn_4) hisR ?_
  intro p e s m args below meth c s₁ Bd hml0 hP hK
  obtain ⟨rfl, hZ, hh⟩ := hP
  have hx := Bd.exec
  have hby := Bd.bytes
  have hml : c.maxLocals = 10 := hml0
  have hown : s.vm.findClass "com/example/due_weight/dueweight/core/PairsIndexOfPinLaw" = some m.cls := findClass_of_methodNamed Bd.named
  have hnm := (name_of_methodNamed Bd.named Bd.method).1
  have hlk : meth.locks = false := BodyLoose.notSynchronized Bd
  have X0 : Stand p l e room_1 s m #[(.int i0), (.int i1), (.int i2), (.int i3), (.int i4)] below meth c s₁ [] 0 0 := Stand.of_body Bd
  have e0 : s₁.heap = h0 := by rw [← hh, Bd.state]; rfl
  have N0 := Fr.nil n0
  have ZZ := Z0
  show Go p e below s 10 132 (fun v h L => Q_rm0 Z i0 i1 i2 i3 i4 h0 n0 v h L) s₁ (entryFrame m #[(.int i0), (.int i1), (.int i2), (.int i3), (.int i4)] maxLocals)
  refine Go.cast (ef_rm0 m i0 i1 i2 i3 i4) ?_
  refine Go.gen ?_
  intro K1 K2 QQ hK1 hK2 hQQ
  refine Go.on (fun _ k => XS.iloadN X0.here hx rfl (hb hby at_0) rfl k) ?_
  refine Go.on (fun _ k => XS.iconst X0.here hx rfl (hb hby at_1) k) ?_
  show Go _ _ _ _ _ _ _ _ (mkF m 2 #[Si i0, Si i1, Si i2, Si i3, Si i4, .unset, .unset, .unset, .unset, .unset] [(.int 1), (.int i1)])
  refine Go.on (fun _ k => XS.ior X0.here hx rfl (hb hby at_2) rfl k) ?_
  show Go _ _ _ _ _ _ _ _ (mkF m 3 #[Si i0, Si i1, Si i2, Si i3, Si i4, .unset, .unset, .unset, .unset, .unset] [(.int (i1 ||| (1 : Int32)))])
  refine Go.on (fun _ k => XS.istore X0.here hx rfl (hb hby at_3) rfl (l' := #[.val (.int i0), .val (.int i1), .val (.int i2), .val (.int i3), .val (.int i4), .val (.int (i1 ||| (1 : Int32))), .unset, .unset, .unset, .unset]) rfl k) ?_
  show Go _ _ _ _ _ _ _ _ (mkF m 5 #[Si i0, Si i1, Si i2, Si i3, Si i4, .val (.int (i1 ||| (1 : Int32))), .unset, .unset, .unset, .unset] [])
  generalize hdd : (i1 ||| (1 : Int32)) = dd
  show Go _ _ _ _ _ _ _ _ (mkF m 5 #[Si i0, Si i1, Si i2, Si i3, Si i4, Si dd, .unset, .unset, .unset, .unset] [])
  refine Go.on (fun _ k => XS.iload X0.here hx rfl (hb hby at_5) rfl k) ?_
  refine Go.on (fun _ k => XS.iconst X0.here hx rfl (hb hby at_7) k) ?_
  refine Go.on (fun _ k => XS.iand X0.here hx rfl (hb hby at_8) rfl k) ?_
  show Go _ _ _ _ _ _ _ _ (mkF m 9 #[Si i0, Si i1, Si i2, Si i3, Si i4, Si dd, .unset, .unset, .unset, .unset] [(.int (i4 &&& (2 : Int32)))])
  suffices hJ1 : ∀ (cn : Int32), cn = (if (i4 &&& (2 : Int32)) = (0 : Int32) then ((i2 &&& (65535 : Int32)) % (10 : Int32)) else (9 : Int32)) → Go p e below s K1 K2 QQ s₁ (mkF m 24 #[Si i0, Si i1, Si i2, Si i3, Si i4, Si dd, .unset, .unset, .unset, .unset] [(.int cn)]) by
    by_cases hc2 : (i4 &&& (2 : Int32)) = (0 : Int32)
    · -- pc 9 yes
      refine Go.on (fun _ k => XS.ifYes X0.here hx rfl (pc0 := 9) (pc' := 17) rfl (hb hby at_9) rfl ((if0 _ _).trans (teq hc2).1) (by decide) (by decide) k) ?_
      show Go _ _ _ _ _ _ _ _ (mkF m 17 #[Si i0, Si i1, Si i2, Si i3, Si i4, Si dd, .unset, .unset, .unset, .unset] [])
      refine Go.on (fun _ k => XS.iloadN X0.here hx rfl (hb hby at_17) rfl k) ?_
      show Go _ _ _ _ _ _ _ _ (mkF m 18 #[Si i0, Si i1, Si i2, Si i3, Si i4, Si dd, .unset, .unset, .unset, .unset] [(.int i2)])
      refine Go.on (fun _ k => X0.ldcI hx hown (mvT hZ (hw _ (List.mem_of_getElem? (i := 0) rfl))) rfl (hb hby at_18) k) ?_
      show Go _ _ _ _ _ _ _ _ (mkF m 20 #[Si i0, Si i1, Si i2, Si i3, Si i4, Si dd, .unset, .unset, .unset, .unset] [(.int 65535), (.int i2)])
      refine Go.on (fun _ k => XS.iand X0.here hx rfl (hb hby at_20) rfl k) ?_
      show Go _ _ _ _ _ _ _ _ (mkF m 21 #[Si i0, Si i1, Si i2, Si i3, Si i4, Si dd, .unset, .unset, .unset, .unset] [(.int (i2 &&& (65535 : Int32)))])
      refine Go.on (fun _ k => XS.bipush X0.here hx rfl (hb hby at_21) k) ?_
      show Go _ _ _ _ _ _ _ _ (mkF m 23 #[Si i0, Si i1, Si i2, Si i3, Si i4, Si dd, .unset, .unset, .unset, .unset] [(.int 10), (.int (i2 &&& (65535 : Int32)))])
      refine Go.on (fun _ k => iremM X0 hx rfl (hb hby at_23) rfl (by decide) k) ?_
      show Go _ _ _ _ _ _ _ _ (mkF m 24 #[Si i0, Si i1, Si i2, Si i3, Si i4, Si dd, .unset, .unset, .unset, .unset] [(.int ((i2 &&& (65535 : Int32)) % (10 : Int32)))])
      exact hJ1 _ (by rw [if_pos hc2])
    · -- pc 9 no
      refine Go.on (fun _ k => XS.ifNo X0.here hx rfl (hb hby at_9) rfl ((if0 _ _).trans (feq hc2).1) k) ?_
      show Go _ _ _ _ _ _ _ _ (mkF m 12 #[Si i0, Si i1, Si i2, Si i3, Si i4, Si dd, .unset, .unset, .unset, .unset] [])
      refine Go.on (fun _ k => XS.bipush X0.here hx rfl (hb hby at_12) k) ?_
      show Go _ _ _ _ _ _ _ _ (mkF m 14 #[Si i0, Si i1, Si i2, Si i3, Si i4, Si dd, .unset, .unset, .unset, .unset] [(.int 9)])
      refine Go.on (fun _ k => XS.goto X0.here hx rfl (pc0 := 14) (pc' := 24) rfl (hb hby at_14) (by decide) (by decide) k) ?_
      show Go _ _ _ _ _ _ _ _ (mkF m 24 #[Si i0, Si i1, Si i2, Si i3, Si i4, Si dd, .unset, .unset, .unset, .unset] [(.int 9)])
      exact hJ1 _ (by rw [if_neg hc2])
  intro cn hcn
  refine Go.on (fun _ k => XS.istore X0.here hx rfl (hb hby at_24) rfl (l' := #[.val (.int i0), .val (.int i1), .val (.int i2), .val (.int i3), .val (.int i4), .val (.int dd), .val (.int cn), .unset, .unset, .unset]) rfl k) ?_
  show Go _ _ _ _ _ _ _ _ (mkF m 26 #[Si i0, Si i1, Si i2, Si i3, Si i4, Si dd, Si cn, .unset, .unset, .unset] [])
  refine Go.on (fun _ k => XS.iloadN X0.here hx rfl (hb hby at_26) rfl k) ?_
  refine Go.on (fun _ k => XS.bipush X0.here hx rfl (hb hby at_27) k) ?_
  refine Go.on (fun _ k => XS.iushr X0.here hx rfl (hb hby at_29) rfl k) ?_
  refine Go.on (fun _ k => XS.bipush X0.here hx rfl (hb hby at_30) k) ?_
  show Go _ _ _ _ _ _ _ _ (mkF m 32 #[Si i0, Si i1, Si i2, Si i3, Si i4, Si dd, Si cn, .unset, .unset, .unset] [(.int 10), (.int ((i2.toUInt32 >>> ((16 : Int32) &&& 31).toUInt32).toInt32))])
  refine Go.on (fun _ k => iremM X0 hx rfl (hb hby at_32) rfl (by decide) k) ?_
  show Go _ _ _ _ _ _ _ _ (mkF m 33 #[Si i0, Si i1, Si i2, Si i3, Si i4, Si dd, Si cn, .unset, .unset, .unset] [(.int (((i2.toUInt32 >>> ((16 : Int32) &&& 31).toUInt32).toInt32) % (10 : Int32)))])
  refine Go.on (fun _ k => XS.istore X0.here hx rfl (hb hby at_33) rfl (l' := #[.val (.int i0), .val (.int i1), .val (.int i2), .val (.int i3), .val (.int i4), .val (.int dd), .val (.int cn), .val (.int (((i2.toUInt32 >>> ((16 : Int32) &&& 31).toUInt32).toInt32) % (10 : Int32))), .unset, .unset]) rfl k) ?_
  show Go _ _ _ _ _ _ _ _ (mkF m 35 #[Si i0, Si i1, Si i2, Si i3, Si i4, Si dd, Si cn, .val (.int (((i2.toUInt32 >>> ((16 : Int32) &&& 31).toUInt32).toInt32) % (10 : Int32))), .unset, .unset] [])
  generalize hpk : (((i2.toUInt32 >>> ((16 : Int32) &&& 31).toUInt32).toInt32) % (10 : Int32)) = pk
  show Go _ _ _ _ _ _ _ _ (mkF m 35 #[Si i0, Si i1, Si i2, Si i3, Si i4, Si dd, Si cn, Si pk, .unset, .unset] [])
  refine Go.on (fun _ k => XS.iload X0.here hx rfl (hb hby at_35) rfl k) ?_
  refine Go.on (fun _ k => XS.iconst X0.here hx rfl (hb hby at_37) k) ?_
  refine Go.on (fun _ k => XS.iand X0.here hx rfl (hb hby at_38) rfl k) ?_
  show Go _ _ _ _ _ _ _ _ (mkF m 39 #[Si i0, Si i1, Si i2, Si i3, Si i4, Si dd, Si cn, Si pk, .unset, .unset] [(.int (i4 &&& (1 : Int32)))])
  suffices hJ3 : ∀ (qq : Int32), qq = (if (i4 &&& (1 : Int32)) = (0 : Int32) then i3 else (i0 + (pk * dd))) → Go p e below s K1 K2 QQ s₁ (mkF m 53 #[Si i0, Si i1, Si i2, Si i3, Si i4, Si dd, Si cn, Si pk, .unset, .unset] [(.int qq)]) by
    by_cases hc4 : (i4 &&& (1 : Int32)) = (0 : Int32)
    · -- pc 39 yes
      refine Go.on (fun _ k => XS.ifYes X0.here hx rfl (pc0 := 39) (pc' := 52) rfl (hb hby at_39) rfl ((if0 _ _).trans (teq hc4).1) (by decide) (by decide) k) ?_
      show Go _ _ _ _ _ _ _ _ (mkF m 52 #[Si i0, Si i1, Si i2, Si i3, Si i4, Si dd, Si cn, Si pk, .unset, .unset] [])
      refine Go.on (fun _ k => XS.iloadN X0.here hx rfl (hb hby at_52) rfl k) ?_
      show Go _ _ _ _ _ _ _ _ (mkF m 53 #[Si i0, Si i1, Si i2, Si i3, Si i4, Si dd, Si cn, Si pk, .unset, .unset] [(.int i3)])
      exact hJ3 _ (by rw [if_pos hc4])
    · -- pc 39 no
      refine Go.on (fun _ k => XS.ifNo X0.here hx rfl (hb hby at_39) rfl ((if0 _ _).trans (feq hc4).1) k) ?_
      show Go _ _ _ _ _ _ _ _ (mkF m 42 #[Si i0, Si i1, Si i2, Si i3, Si i4, Si dd, Si cn, Si pk, .unset, .unset] [])
      refine Go.on (fun _ k => XS.iloadN X0.here hx rfl (hb hby at_42) rfl k) ?_
      show Go _ _ _ _ _ _ _ _ (mkF m 43 #[Si i0, Si i1, Si i2, Si i3, Si i4, Si dd, Si cn, Si pk, .unset, .unset] [(.int i0)])
      refine Go.on (fun _ k => XS.iload X0.here hx rfl (hb hby at_43) rfl k) ?_
      show Go _ _ _ _ _ _ _ _ (mkF m 45 #[Si i0, Si i1, Si i2, Si i3, Si i4, Si dd, Si cn, Si pk, .unset, .unset] [(.int pk), (.int i0)])
      refine Go.on (fun _ k => XS.iload X0.here hx rfl (hb hby at_45) rfl k) ?_
      show Go _ _ _ _ _ _ _ _ (mkF m 47 #[Si i0, Si i1, Si i2, Si i3, Si i4, Si dd, Si cn, Si pk, .unset, .unset] [(.int dd), (.int pk), (.int i0)])
      refine Go.on (fun _ k => XS.imul X0.here hx rfl (hb hby at_47) rfl k) ?_
      show Go _ _ _ _ _ _ _ _ (mkF m 48 #[Si i0, Si i1, Si i2, Si i3, Si i4, Si dd, Si cn, Si pk, .unset, .unset] [(.int (pk * dd)), (.int i0)])
      refine Go.on (fun _ k => XS.iadd X0.here hx rfl (hb hby at_48) rfl k) ?_
      show Go _ _ _ _ _ _ _ _ (mkF m 49 #[Si i0, Si i1, Si i2, Si i3, Si i4, Si dd, Si cn, Si pk, .unset, .unset] [(.int (i0 + (pk * dd)))])
      refine Go.on (fun _ k => XS.goto X0.here hx rfl (pc0 := 49) (pc' := 53) rfl (hb hby at_49) (by decide) (by decide) k) ?_
      show Go _ _ _ _ _ _ _ _ (mkF m 53 #[Si i0, Si i1, Si i2, Si i3, Si i4, Si dd, Si cn, Si pk, .unset, .unset] [(.int (i0 + (pk * dd)))])
      exact hJ3 _ (by rw [if_neg hc4])
  intro qq hqq
  refine Go.on (fun _ k => XS.istore X0.here hx rfl (hb hby at_53) rfl (l' := #[.val (.int i0), .val (.int i1), .val (.int i2), .val (.int i3), .val (.int i4), .val (.int dd), .val (.int cn), .val (.int pk), .val (.int qq), .unset]) rfl k) ?_
  show Go _ _ _ _ _ _ _ _ (mkF m 55 #[Si i0, Si i1, Si i2, Si i3, Si i4, Si dd, Si cn, Si pk, Si qq, .unset] [])
  have hod := own_odd hdd
  obtain ⟨T5, h5, X5, e5, E5, A5, D5, -, st5⟩ := newO X0 hx hZ hown (hw _ (List.mem_of_getElem? (i := 1) rfl)) (hw _ (List.mem_of_getElem? (i := 2) rfl)) (hw _ (List.mem_of_getElem? (i := 3) rfl)) e0 (g := (mkF m 55 #[Si i0, Si i1, Si i2, Si i3, Si i4, Si dd, Si cn, Si pk, Si qq, .unset] [])) rfl (hb hby at_55) (by decide) (by decide)
  obtain ⟨pa, g5⟩ : ∃ z, z = h0.size := ⟨_, rfl⟩
  have g_pa : n0 ≤ pa := Nat.le_trans ZZ (Nat.le_of_eq g5.symm)
  rw [← g5] at A5 D5 st5
  replace ZZ := Nat.le_trans ZZ E5.1
  have E_pa := A5
  have F_members_pa : Fld Z h5 pa "com/example/due_weight/dueweight/core/Pairs" "members" "[I" .null := D5 (Or.inl (hw _ (List.mem_of_getElem? (i := 12) rfl))) (ty := (.array .int)) (by decide)
  have F_weights_pa : Fld Z h5 pa "com/example/due_weight/dueweight/core/Pairs" "weights" "[D" .null := D5 (Or.inl (hw _ (List.mem_of_getElem? (i := 15) rfl))) (ty := (.array .double)) (by decide)
  have F_exact_pa : Fld Z h5 pa "com/example/due_weight/dueweight/core/Pairs" "exact" "Z" (.int (0 : Int32)) := D5 (Or.inl (hw _ (List.mem_of_getElem? (i := 17) rfl))) (ty := .boolean) (by decide)
  have F_slots_pa : Fld Z h5 pa "com/example/due_weight/dueweight/core/Pairs" "slots" "[I" .null := D5 (Or.inl (hw _ (List.mem_of_getElem? (i := 29) rfl))) (ty := (.array .int)) (by decide)
  have F_length_pa : Fld Z h5 pa "com/example/due_weight/dueweight/core/Pairs" "length" "I" (.int (0 : Int32)) := D5 (Or.inl (hw _ (List.mem_of_getElem? (i := 31) rfl))) (ty := .int) (by decide)
  have F_fingerprint_pa : Fld Z h5 pa "com/example/due_weight/dueweight/core/Pairs" "fingerprint" "J" (.long (0 : Int64)) := D5 (Or.inl (hw _ (List.mem_of_getElem? (i := 33) rfl))) (ty := .long) (by decide)
  have F_history_pa : Fld Z h5 pa "com/example/due_weight/dueweight/core/Pairs" "history" "Lcom/example/due_weight/dueweight/core/Pairs$History;" .null := D5 (Or.inl (hw _ (List.mem_of_getElem? (i := 52) rfl))) (ty := (.object "com/example/due_weight/dueweight/core/Pairs$History")) (by decide)
  have F_shift_pa : Fld Z h5 pa "com/example/due_weight/dueweight/core/Pairs" "shift" "I" (.int (0 : Int32)) := D5 (Or.inl (hw _ (List.mem_of_getElem? (i := 86) rfl))) (ty := .int) (by decide)
  refine Go.on st5 ?_
  show Go _ _ _ _ _ _ _ _ (mkF m 58 #[Si i0, Si i1, Si i2, Si i3, Si i4, Si dd, Si cn, Si pk, Si qq, .unset] [(.ref pa)])
  refine Go.on (fun _ k => XS.dup X5.here hx rfl (hb hby at_58) rfl rfl k) ?_
  show Go _ _ _ _ _ _ _ _ (mkF m 59 #[Si i0, Si i1, Si i2, Si i3, Si i4, Si dd, Si cn, Si pk, Si qq, .unset] [(.ref pa), (.ref pa)])
  obtain ⟨_, _, ⟨T6, L6, k6, n6⟩, -, X6, ⟨Lc6, hQ6, l6, y6, z6⟩, st6⟩ := X5.specialBack hx (y := (⟨"com/example/due_weight/dueweight/core/Pairs", "<init>", "()V"⟩ : MethodName)) rfl hown (mvT hZ (hw _ (List.mem_of_getElem? (i := 4) rfl))) (mvT hZ (hw _ (List.mem_of_getElem? (i := 5) rfl))) (mvT hZ (hw _ (List.mem_of_getElem? (i := 6) rfl))) (by decide) (backOf (W := 1) (initc l Z aw hw [] pa  h5 n0 ZZ E_pa F_members_pa F_weights_pa F_exact_pa F_slots_pa F_length_pa F_fingerprint_pa F_history_pa F_shift_pa g_pa) hZ (hw _ (List.mem_of_getElem? (i := 6) rfl)) (hw _ (List.mem_of_getElem? (i := 3) rfl)) (by decide) (by decide)) (g := (mkF m 59 #[Si i0, Si i1, Si i2, Si i3, Si i4, Si dd, Si cn, Si pk, Si qq, .unset] [(.ref pa), (.ref pa)])) rfl (by rw [hml]; rfl) (Steps.refl _) (a := pa) (argsL := []) (rest := [(.ref pa)]) (lenOf pd_9 rfl) rfl (by show 2 * 0 + _ ≤ _; exact Nat.le_of_eq rfl) (hb hby at_59) (fun _ _ => ⟨rfl, e5, (by decide : 1 + 2 ≤ _), (by decide : 8 + 4 ≤ _)⟩)
  dsimp only [Pt.U, Pt.locs, Pt.cells, Pt.slots] at X6 l6 y6 z6 st6 hQ6
  subst l6 y6 z6
  obtain ⟨h6, e6⟩ : ∃ q, T6.heap = q := ⟨_, rfl⟩
  rw [e6] at hQ6
  obtain ⟨mb6, wb6, k_mb6, k_wb6, rfl, N6q, K6q, Eq6, F_membersq6, F_weightsq6, F_exactq6, F_slotsq6, F_lengthq6, F_fingerprintq6, F_historyq6, F_shiftq6, V_mb6, V_wb6, gm6, gw6, n1_6, n2_6, n3_6⟩ := hQ6
  have N6 := Fr.app N0 N6q
  have ZZ6p := ZZ
  have lt_pa := E_pa.lt
  replace E_pa := E_pa.keep K6q
  replace ZZ := Nat.le_trans ZZ K6q.1
  have F_members_pa := F_membersq6
  have F_weights_pa := F_weightsq6
  have F_exact_pa := F_exactq6
  have F_slots_pa := F_slotsq6
  have F_length_pa := F_lengthq6
  have F_fingerprint_pa := F_fingerprintq6
  have F_history_pa := F_historyq6
  have F_shift_pa := F_shiftq6
  replace E_pa := Eq6
  have g_mb6 := gm6
  have g_wb6 := gw6
  have ne_pa_mb6 := n1_6
  have ne_pa_wb6 := n2_6
  have ne_mb6_wb6 := n3_6
  refine Go.on (fun _ k => st6.trans k) ?_
  show Go _ _ _ _ _ _ _ _ (mkF m 62 #[Si i0, Si i1, Si i2, Si i3, Si i4, Si dd, Si cn, Si pk, Si qq, .unset] [(.ref pa)])
  refine Go.on (fun _ k => XS.astore X6.here hx rfl (hb hby at_62) rfl rfl (l' := #[.val (.int i0), .val (.int i1), .val (.int i2), .val (.int i3), .val (.int i4), .val (.int dd), .val (.int cn), .val (.int pk), .val (.int qq), .val (.ref pa)]) rfl k) ?_
  show Go _ _ _ _ _ _ _ _ (mkF m 64 #[Si i0, Si i1, Si i2, Si i3, Si i4, Si dd, Si cn, Si pk, Si qq, Sr pa] [])
  refine Go.on (fun _ k => XS.iload X6.here hx rfl (hb hby at_64) rfl k) ?_
  show Go _ _ _ _ _ _ _ _ (mkF m 66 #[Si i0, Si i1, Si i2, Si i3, Si i4, Si dd, Si cn, Si pk, Si qq, Sr pa] [(.int cn)])
  by_cases hc7 : (0 : Int32) < cn
  · -- pc 66 yes
    refine Go.on (fun _ k => XS.ifNo X6.here hx rfl (hb hby at_66) rfl ((if0 _ _).trans (tlt hc7).2.2.2) k) ?_
    show Go _ _ _ _ _ _ _ _ (mkF m 69 #[Si i0, Si i1, Si i2, Si i3, Si i4, Si dd, Si cn, Si pk, Si qq, Sr pa] [])
    refine Go.on (fun _ k => XS.aload X6.here hx rfl (hb hby at_69) rfl rfl k) ?_
    refine Go.on (fun _ k => XS.iloadN X6.here hx rfl (hb hby at_71) rfl k) ?_
    refine Go.on (fun _ k => XS.dconst1 X6.here hx rfl (v := (4607182418800017408 : UInt64)) (hb hby at_72) rfl k) ?_
    show Go _ _ _ _ _ _ _ _ (mkF m 73 #[Si i0, Si i1, Si i2, Si i3, Si i4, Si dd, Si cn, Si pk, Si qq, Sr pa] [(.double 4607182418800017408), (.int i0), (.ref pa)])
    obtain ⟨cq8, kq8, q8a, q8b, q8c⟩ := isOf hZ e6 E_pa
    obtain ⟨_, _, ⟨T8, L8, k8, n8⟩, -, X8, ⟨Lc8, hQ8, l8, y8, z8⟩, st8⟩ := X6.virtualBack hx (y := (⟨"com/example/due_weight/dueweight/core/Pairs", "add", "(ID)I"⟩ : MethodName)) (z := (⟨"com/example/due_weight/dueweight/core/Pairs", "add", "(ID)I"⟩ : MethodName)) hown (mvT hZ (hw _ (List.mem_of_getElem? (i := 18) rfl))) (mvT hZ (hw _ (List.mem_of_getElem? (i := 19) rfl))) (notFace_of_selects (args := #[]) (mvT hZ (hw _ (List.mem_of_getElem? (i := 21) rfl)))) (mvT hZ (hw _ (List.mem_of_getElem? (i := 21) rfl))) (mvT hZ (hw _ (List.mem_of_getElem? (i := 20) rfl))) (by decide) (backOf (W := 0) (add_0 l Z aw hw [] pa i0 mb6 wb6 (0 : Int64) k_mb6 k_wb6 h6 n0 ZZ E_pa F_members_pa F_weights_pa F_exact_pa F_slots_pa F_length_pa F_fingerprint_pa F_history_pa F_shift_pa V_mb6 V_wb6 g_pa g_mb6 g_wb6 ne_pa_mb6 ne_pa_wb6 ne_mb6_wb6) hZ (hw _ (List.mem_of_getElem? (i := 22) rfl)) (hw _ (List.mem_of_getElem? (i := 3) rfl)) (by decide) (by decide)) q8a q8c (g := (mkF m 73 #[Si i0, Si i1, Si i2, Si i3, Si i4, Si dd, Si cn, Si pk, Si qq, Sr pa] [(.double 4607182418800017408), (.int i0), (.ref pa)])) rfl (by rw [hml]; rfl) (Steps.refl _) (argsL := [(.int i0), (.double (4607182418800017408 : UInt64))]) (rest := []) (lenOf pd_10 rfl) rfl (by show 2 * 0 + _ ≤ _; exact Nat.le_of_eq rfl) (hb hby at_73) (fun _ _ => ⟨rfl, e6, (by decide : 3 + 0 ≤ _), (by decide : 12 + 0 ≤ _)⟩)
    dsimp only [Pt.U, Pt.locs, Pt.cells, Pt.slots] at X8 l8 y8 z8 st8 hQ8
    subst l8 y8 z8
    obtain ⟨h8, e8⟩ : ∃ q, T8.heap = q := ⟨_, rfl⟩
    rw [e8] at hQ8
    obtain ⟨mb8, wb8, k_mb8, k_wb8, fq8, rfl, N8q, K8q, Eq8, F_membersq8, F_weightsq8, F_exactq8, F_slotsq8, F_lengthq8, F_fingerprintq8, F_historyq8, F_shiftq8, V_mb8, V_wb8, gm8, gw8, n1_8, n2_8, n3_8⟩ := hQ8
    have N8 := Fr.app N6 N8q
    have ZZ8p := ZZ
    have lt_pa := E_pa.lt
    have lt_mb6 := V_mb6.lt
    have lt_wb6 := V_wb6.lt
    replace E_pa := E_pa.keep K8q
    replace ZZ := Nat.le_trans ZZ K8q.1
    have F_members_pa := F_membersq8
    have F_weights_pa := F_weightsq8
    have F_exact_pa := F_exactq8
    have F_slots_pa := F_slotsq8
    have F_length_pa := F_lengthq8
    have F_fingerprint_pa := F_fingerprintq8
    have F_history_pa := F_historyq8
    have F_shift_pa := F_shiftq8
    replace E_pa := Eq8
    have g_mb8 := gm8
    have g_wb8 := gw8
    have ne_pa_mb8 := n1_8
    have ne_pa_wb8 := n2_8
    have ne_mb8_wb8 := n3_8
    refine Go.on (fun _ k => st8.trans k) ?_
    show Go _ _ _ _ _ _ _ _ (mkF m 76 #[Si i0, Si i1, Si i2, Si i3, Si i4, Si dd, Si cn, Si pk, Si qq, Sr pa] [(.int 0)])
    refine Go.on (fun _ k => XS.pop X8.here hx rfl (hb hby at_76) rfl rfl k) ?_
    show Go _ _ _ _ _ _ _ _ (mkF m 77 #[Si i0, Si i1, Si i2, Si i3, Si i4, Si dd, Si cn, Si pk, Si qq, Sr pa] [])
    refine Go.on (fun _ k => XS.iload X8.here hx rfl (hb hby at_77) rfl k) ?_
    refine Go.on (fun _ k => XS.iconst X8.here hx rfl (hb hby at_79) k) ?_
    show Go _ _ _ _ _ _ _ _ (mkF m 80 #[Si i0, Si i1, Si i2, Si i3, Si i4, Si dd, Si cn, Si pk, Si qq, Sr pa] [(.int 1), (.int cn)])
    by_cases hc9 : (1 : Int32) < cn
    · -- pc 80 yes
      refine Go.on (fun _ k => XS.icmpNo X8.here hx rfl (hb hby at_80) rfl (tlt hc9).2.2.2 k) ?_
      show Go _ _ _ _ _ _ _ _ (mkF m 83 #[Si i0, Si i1, Si i2, Si i3, Si i4, Si dd, Si cn, Si pk, Si qq, Sr pa] [])
      refine Go.on (fun _ k => XS.aload X8.here hx rfl (hb hby at_83) rfl rfl k) ?_
      refine Go.on (fun _ k => XS.iloadN X8.here hx rfl (hb hby at_85) rfl k) ?_
      refine Go.on (fun _ k => XS.iload X8.here hx rfl (hb hby at_86) rfl k) ?_
      refine Go.on (fun _ k => XS.iadd X8.here hx rfl (hb hby at_88) rfl k) ?_
      refine Go.on (fun _ k => XS.dconst1 X8.here hx rfl (v := (4607182418800017408 : UInt64)) (hb hby at_89) rfl k) ?_
      show Go _ _ _ _ _ _ _ _ (mkF m 90 #[Si i0, Si i1, Si i2, Si i3, Si i4, Si dd, Si cn, Si pk, Si qq, Sr pa] [(.double 4607182418800017408), (.int (i0 + dd)), (.ref pa)])
      obtain ⟨cq10, kq10, q10a, q10b, q10c⟩ := isOf hZ e8 E_pa
      obtain ⟨_, _, ⟨T10, L10, k10, n10⟩, -, X10, ⟨Lc10, hQ10, l10, y10, z10⟩, st10⟩ := X8.virtualBack hx (y := (⟨"com/example/due_weight/dueweight/core/Pairs", "add", "(ID)I"⟩ : MethodName)) (z := (⟨"com/example/due_weight/dueweight/core/Pairs", "add", "(ID)I"⟩ : MethodName)) hown (mvT hZ (hw _ (List.mem_of_getElem? (i := 18) rfl))) (mvT hZ (hw _ (List.mem_of_getElem? (i := 19) rfl))) (notFace_of_selects (args := #[]) (mvT hZ (hw _ (List.mem_of_getElem? (i := 21) rfl)))) (mvT hZ (hw _ (List.mem_of_getElem? (i := 21) rfl))) (mvT hZ (hw _ (List.mem_of_getElem? (i := 20) rfl))) (by decide) (backOf (W := 0) (add_1 l Z aw hw [] pa (i0 + dd) mb8 wb8 fq8 k_mb8 i0 k_wb8 h8 n0 ZZ E_pa F_members_pa F_weights_pa F_exact_pa F_slots_pa F_length_pa F_fingerprint_pa F_history_pa F_shift_pa V_mb8 V_wb8 g_pa g_mb8 g_wb8 ne_pa_mb8 ne_pa_wb8 ne_mb8_wb8 (own_mlt (a := i0) (d := dd) (j := 0) (k := 1) hod (by decide) (by decide))) hZ (hw _ (List.mem_of_getElem? (i := 22) rfl)) (hw _ (List.mem_of_getElem? (i := 3) rfl)) (by decide) (by decide)) q10a q10c (g := (mkF m 90 #[Si i0, Si i1, Si i2, Si i3, Si i4, Si dd, Si cn, Si pk, Si qq, Sr pa] [(.double 4607182418800017408), (.int (i0 + dd)), (.ref pa)])) rfl (by rw [hml]; rfl) (Steps.refl _) (argsL := [(.int (i0 + dd)), (.double (4607182418800017408 : UInt64))]) (rest := []) (lenOf pd_10 rfl) rfl (by show 2 * 0 + _ ≤ _; exact Nat.le_of_eq rfl) (hb hby at_90) (fun _ _ => ⟨rfl, e8, (by decide : 3 + 0 ≤ _), (by decide : 12 + 0 ≤ _)⟩)
      dsimp only [Pt.U, Pt.locs, Pt.cells, Pt.slots] at X10 l10 y10 z10 st10 hQ10
      subst l10 y10 z10
      obtain ⟨h10, e10⟩ : ∃ q, T10.heap = q := ⟨_, rfl⟩
      rw [e10] at hQ10
      obtain ⟨mb10, wb10, k_mb10, k_wb10, fq10, rfl, N10q, K10q, Eq10, F_membersq10, F_weightsq10, F_exactq10, F_slotsq10, F_lengthq10, F_fingerprintq10, F_historyq10, F_shiftq10, V_mb10, V_wb10, gm10, gw10, n1_10, n2_10, n3_10⟩ := hQ10
      have N10 := Fr.app N8 N10q
      have ZZ10p := ZZ
      have lt_pa := E_pa.lt
      have lt_mb8 := V_mb8.lt
      have lt_wb8 := V_wb8.lt
      replace E_pa := E_pa.keep K10q
      replace ZZ := Nat.le_trans ZZ K10q.1
      have F_members_pa := F_membersq10
      have F_weights_pa := F_weightsq10
      have F_exact_pa := F_exactq10
      have F_slots_pa := F_slotsq10
      have F_length_pa := F_lengthq10
      have F_fingerprint_pa := F_fingerprintq10
      have F_history_pa := F_historyq10
      have F_shift_pa := F_shiftq10
      replace E_pa := Eq10
      have g_mb10 := gm10
      have g_wb10 := gw10
      have ne_pa_mb10 := n1_10
      have ne_pa_wb10 := n2_10
      have ne_mb10_wb10 := n3_10
      refine Go.on (fun _ k => st10.trans k) ?_
      show Go _ _ _ _ _ _ _ _ (mkF m 93 #[Si i0, Si i1, Si i2, Si i3, Si i4, Si dd, Si cn, Si pk, Si qq, Sr pa] [(.int 1)])
      refine Go.on (fun _ k => XS.pop X10.here hx rfl (hb hby at_93) rfl rfl k) ?_
      show Go _ _ _ _ _ _ _ _ (mkF m 94 #[Si i0, Si i1, Si i2, Si i3, Si i4, Si dd, Si cn, Si pk, Si qq, Sr pa] [])
      refine Go.on (fun _ k => XS.iload X10.here hx rfl (hb hby at_94) rfl k) ?_
      refine Go.on (fun _ k => XS.iconst X10.here hx rfl (hb hby at_96) k) ?_
      show Go _ _ _ _ _ _ _ _ (mkF m 97 #[Si i0, Si i1, Si i2, Si i3, Si i4, Si dd, Si cn, Si pk, Si qq, Sr pa] [(.int 2), (.int cn)])
      by_cases hc11 : (2 : Int32) < cn
      · -- pc 97 yes
        refine Go.on (fun _ k => XS.icmpNo X10.here hx rfl (hb hby at_97) rfl (tlt hc11).2.2.2 k) ?_
        show Go _ _ _ _ _ _ _ _ (mkF m 100 #[Si i0, Si i1, Si i2, Si i3, Si i4, Si dd, Si cn, Si pk, Si qq, Sr pa] [])
        refine Go.on (fun _ k => XS.aload X10.here hx rfl (hb hby at_100) rfl rfl k) ?_
        refine Go.on (fun _ k => XS.iloadN X10.here hx rfl (hb hby at_102) rfl k) ?_
        refine Go.on (fun _ k => XS.iconst X10.here hx rfl (hb hby at_103) k) ?_
        refine Go.on (fun _ k => XS.iload X10.here hx rfl (hb hby at_104) rfl k) ?_
        refine Go.on (fun _ k => XS.imul X10.here hx rfl (hb hby at_106) rfl k) ?_
        refine Go.on (fun _ k => XS.iadd X10.here hx rfl (hb hby at_107) rfl k) ?_
        refine Go.on (fun _ k => XS.dconst1 X10.here hx rfl (v := (4607182418800017408 : UInt64)) (hb hby at_108) rfl k) ?_
        show Go _ _ _ _ _ _ _ _ (mkF m 109 #[Si i0, Si i1, Si i2, Si i3, Si i4, Si dd, Si cn, Si pk, Si qq, Sr pa] [(.double 4607182418800017408), (.int (i0 + ((2 : Int32) * dd))), (.ref pa)])
        obtain ⟨cq12, kq12, q12a, q12b, q12c⟩ := isOf hZ e10 E_pa
        obtain ⟨_, _, ⟨T12, L12, k12, n12⟩, -, X12, ⟨Lc12, hQ12, l12, y12, z12⟩, st12⟩ := X10.virtualBack hx (y := (⟨"com/example/due_weight/dueweight/core/Pairs", "add", "(ID)I"⟩ : MethodName)) (z := (⟨"com/example/due_weight/dueweight/core/Pairs", "add", "(ID)I"⟩ : MethodName)) hown (mvT hZ (hw _ (List.mem_of_getElem? (i := 18) rfl))) (mvT hZ (hw _ (List.mem_of_getElem? (i := 19) rfl))) (notFace_of_selects (args := #[]) (mvT hZ (hw _ (List.mem_of_getElem? (i := 21) rfl)))) (mvT hZ (hw _ (List.mem_of_getElem? (i := 21) rfl))) (mvT hZ (hw _ (List.mem_of_getElem? (i := 20) rfl))) (by decide) (backOf (W := 0) (add_2 l Z aw hw [] pa (i0 + ((2 : Int32) * dd)) mb10 wb10 fq10 k_mb10 i0 (i0 + dd) k_wb10 h10 n0 ZZ E_pa F_members_pa F_weights_pa F_exact_pa F_slots_pa F_length_pa F_fingerprint_pa F_history_pa F_shift_pa V_mb10 V_wb10 g_pa g_mb10 g_wb10 ne_pa_mb10 ne_pa_wb10 ne_mb10_wb10 (own_mlt (a := i0) (d := dd) (j := 0) (k := 2) hod (by decide) (by decide)) (own_mlt (a := i0) (d := dd) (j := 1) (k := 2) hod (by decide) (by decide))) hZ (hw _ (List.mem_of_getElem? (i := 22) rfl)) (hw _ (List.mem_of_getElem? (i := 3) rfl)) (by decide) (by decide)) q12a q12c (g := (mkF m 109 #[Si i0, Si i1, Si i2, Si i3, Si i4, Si dd, Si cn, Si pk, Si qq, Sr pa] [(.double 4607182418800017408), (.int (i0 + ((2 : Int32) * dd))), (.ref pa)])) rfl (by rw [hml]; rfl) (Steps.refl _) (argsL := [(.int (i0 + ((2 : Int32) * dd))), (.double (4607182418800017408 : UInt64))]) (rest := []) (lenOf pd_10 rfl) rfl (by show 2 * 0 + _ ≤ _; exact Nat.le_of_eq rfl) (hb hby at_109) (fun _ _ => ⟨rfl, e10, (by decide : 3 + 2 ≤ _), (by decide : 12 + 8 ≤ _)⟩)
        dsimp only [Pt.U, Pt.locs, Pt.cells, Pt.slots] at X12 l12 y12 z12 st12 hQ12
        subst l12 y12 z12
        obtain ⟨h12, e12⟩ : ∃ q, T12.heap = q := ⟨_, rfl⟩
        rw [e12] at hQ12
        obtain ⟨mb12, wb12, k_mb12, k_wb12, fq12, rfl, N12q, K12q, Eq12, F_membersq12, F_weightsq12, F_exactq12, F_slotsq12, F_lengthq12, F_fingerprintq12, F_historyq12, F_shiftq12, V_mb12, V_wb12, gm12, gw12, n1_12, n2_12, n3_12⟩ := hQ12
        have N12 := Fr.app N10 N12q
        have ZZ12p := ZZ
        have lt_pa := E_pa.lt
        have lt_mb10 := V_mb10.lt
        have lt_wb10 := V_wb10.lt
        replace E_pa := E_pa.keep K12q
        replace ZZ := Nat.le_trans ZZ K12q.1
        have F_members_pa := F_membersq12
        have F_weights_pa := F_weightsq12
        have F_exact_pa := F_exactq12
        have F_slots_pa := F_slotsq12
        have F_length_pa := F_lengthq12
        have F_fingerprint_pa := F_fingerprintq12
        have F_history_pa := F_historyq12
        have F_shift_pa := F_shiftq12
        replace E_pa := Eq12
        have g_mb12 := gm12
        have g_wb12 := gw12
        have ne_pa_mb12 := n1_12
        have ne_pa_wb12 := n2_12
        have ne_mb12_wb12 := n3_12
        refine Go.on (fun _ k => st12.trans k) ?_
        show Go _ _ _ _ _ _ _ _ (mkF m 112 #[Si i0, Si i1, Si i2, Si i3, Si i4, Si dd, Si cn, Si pk, Si qq, Sr pa] [(.int 2)])
        refine Go.on (fun _ k => XS.pop X12.here hx rfl (hb hby at_112) rfl rfl k) ?_
        show Go _ _ _ _ _ _ _ _ (mkF m 113 #[Si i0, Si i1, Si i2, Si i3, Si i4, Si dd, Si cn, Si pk, Si qq, Sr pa] [])
        refine Go.on (fun _ k => XS.iload X12.here hx rfl (hb hby at_113) rfl k) ?_
        refine Go.on (fun _ k => XS.iconst X12.here hx rfl (hb hby at_115) k) ?_
        show Go _ _ _ _ _ _ _ _ (mkF m 116 #[Si i0, Si i1, Si i2, Si i3, Si i4, Si dd, Si cn, Si pk, Si qq, Sr pa] [(.int 3), (.int cn)])
        by_cases hc13 : (3 : Int32) < cn
        · -- pc 116 yes
          refine Go.on (fun _ k => XS.icmpNo X12.here hx rfl (hb hby at_116) rfl (tlt hc13).2.2.2 k) ?_
          show Go _ _ _ _ _ _ _ _ (mkF m 119 #[Si i0, Si i1, Si i2, Si i3, Si i4, Si dd, Si cn, Si pk, Si qq, Sr pa] [])
          refine Go.on (fun _ k => XS.aload X12.here hx rfl (hb hby at_119) rfl rfl k) ?_
          refine Go.on (fun _ k => XS.iloadN X12.here hx rfl (hb hby at_121) rfl k) ?_
          refine Go.on (fun _ k => XS.iconst X12.here hx rfl (hb hby at_122) k) ?_
          refine Go.on (fun _ k => XS.iload X12.here hx rfl (hb hby at_123) rfl k) ?_
          refine Go.on (fun _ k => XS.imul X12.here hx rfl (hb hby at_125) rfl k) ?_
          refine Go.on (fun _ k => XS.iadd X12.here hx rfl (hb hby at_126) rfl k) ?_
          refine Go.on (fun _ k => XS.dconst1 X12.here hx rfl (v := (4607182418800017408 : UInt64)) (hb hby at_127) rfl k) ?_
          show Go _ _ _ _ _ _ _ _ (mkF m 128 #[Si i0, Si i1, Si i2, Si i3, Si i4, Si dd, Si cn, Si pk, Si qq, Sr pa] [(.double 4607182418800017408), (.int (i0 + ((3 : Int32) * dd))), (.ref pa)])
          obtain ⟨cq14, kq14, q14a, q14b, q14c⟩ := isOf hZ e12 E_pa
          obtain ⟨_, _, ⟨T14, L14, k14, n14⟩, -, X14, ⟨Lc14, hQ14, l14, y14, z14⟩, st14⟩ := X12.virtualBack hx (y := (⟨"com/example/due_weight/dueweight/core/Pairs", "add", "(ID)I"⟩ : MethodName)) (z := (⟨"com/example/due_weight/dueweight/core/Pairs", "add", "(ID)I"⟩ : MethodName)) hown (mvT hZ (hw _ (List.mem_of_getElem? (i := 18) rfl))) (mvT hZ (hw _ (List.mem_of_getElem? (i := 19) rfl))) (notFace_of_selects (args := #[]) (mvT hZ (hw _ (List.mem_of_getElem? (i := 21) rfl)))) (mvT hZ (hw _ (List.mem_of_getElem? (i := 21) rfl))) (mvT hZ (hw _ (List.mem_of_getElem? (i := 20) rfl))) (by decide) (backOf (W := 0) (add_3 l Z aw hw [] pa (i0 + ((3 : Int32) * dd)) mb12 wb12 fq12 k_mb12 i0 (i0 + dd) (i0 + ((2 : Int32) * dd)) k_wb12 h12 n0 ZZ E_pa F_members_pa F_weights_pa F_exact_pa F_slots_pa F_length_pa F_fingerprint_pa F_history_pa F_shift_pa V_mb12 V_wb12 g_pa g_mb12 g_wb12 ne_pa_mb12 ne_pa_wb12 ne_mb12_wb12 (own_mlt (a := i0) (d := dd) (j := 0) (k := 3) hod (by decide) (by decide)) (own_mlt (a := i0) (d := dd) (j := 1) (k := 3) hod (by decide) (by decide)) (own_mlt (a := i0) (d := dd) (j := 2) (k := 3) hod (by decide) (by decide))) hZ (hw _ (List.mem_of_getElem? (i := 22) rfl)) (hw _ (List.mem_of_getElem? (i := 3) rfl)) (by decide) (by decide)) q14a q14c (g := (mkF m 128 #[Si i0, Si i1, Si i2, Si i3, Si i4, Si dd, Si cn, Si pk, Si qq, Sr pa] [(.double 4607182418800017408), (.int (i0 + ((3 : Int32) * dd))), (.ref pa)])) rfl (by rw [hml]; rfl) (Steps.refl _) (argsL := [(.int (i0 + ((3 : Int32) * dd))), (.double (4607182418800017408 : UInt64))]) (rest := []) (lenOf pd_10 rfl) rfl (by show 2 * 0 + _ ≤ _; exact Nat.le_of_eq rfl) (hb hby at_128) (fun _ _ => ⟨rfl, e12, (by decide : 5 + 0 ≤ _), (by decide : 20 + 0 ≤ _)⟩)
          dsimp only [Pt.U, Pt.locs, Pt.cells, Pt.slots] at X14 l14 y14 z14 st14 hQ14
          subst l14 y14 z14
          obtain ⟨h14, e14⟩ : ∃ q, T14.heap = q := ⟨_, rfl⟩
          rw [e14] at hQ14
          obtain ⟨mb14, wb14, k_mb14, k_wb14, fq14, rfl, N14q, K14q, Eq14, F_membersq14, F_weightsq14, F_exactq14, F_slotsq14, F_lengthq14, F_fingerprintq14, F_historyq14, F_shiftq14, V_mb14, V_wb14, gm14, gw14, n1_14, n2_14, n3_14⟩ := hQ14
          have N14 := Fr.app N12 N14q
          have ZZ14p := ZZ
          have lt_pa := E_pa.lt
          have lt_mb12 := V_mb12.lt
          have lt_wb12 := V_wb12.lt
          replace E_pa := E_pa.keep K14q
          replace ZZ := Nat.le_trans ZZ K14q.1
          have F_members_pa := F_membersq14
          have F_weights_pa := F_weightsq14
          have F_exact_pa := F_exactq14
          have F_slots_pa := F_slotsq14
          have F_length_pa := F_lengthq14
          have F_fingerprint_pa := F_fingerprintq14
          have F_history_pa := F_historyq14
          have F_shift_pa := F_shiftq14
          replace E_pa := Eq14
          have g_mb14 := gm14
          have g_wb14 := gw14
          have ne_pa_mb14 := n1_14
          have ne_pa_wb14 := n2_14
          have ne_mb14_wb14 := n3_14
          refine Go.on (fun _ k => st14.trans k) ?_
          show Go _ _ _ _ _ _ _ _ (mkF m 131 #[Si i0, Si i1, Si i2, Si i3, Si i4, Si dd, Si cn, Si pk, Si qq, Sr pa] [(.int 3)])
          refine Go.on (fun _ k => XS.pop X14.here hx rfl (hb hby at_131) rfl rfl k) ?_
          show Go _ _ _ _ _ _ _ _ (mkF m 132 #[Si i0, Si i1, Si i2, Si i3, Si i4, Si dd, Si cn, Si pk, Si qq, Sr pa] [])
          refine Go.on (fun _ k => XS.iload X14.here hx rfl (hb hby at_132) rfl k) ?_
          refine Go.on (fun _ k => XS.iconst X14.here hx rfl (hb hby at_134) k) ?_
          show Go _ _ _ _ _ _ _ _ (mkF m 135 #[Si i0, Si i1, Si i2, Si i3, Si i4, Si dd, Si cn, Si pk, Si qq, Sr pa] [(.int 4), (.int cn)])
          by_cases hc15 : (4 : Int32) < cn
          · -- pc 135 yes
            refine Go.on (fun _ k => XS.icmpNo X14.here hx rfl (hb hby at_135) rfl (tlt hc15).2.2.2 k) ?_
            show Go _ _ _ _ _ _ _ _ (mkF m 138 #[Si i0, Si i1, Si i2, Si i3, Si i4, Si dd, Si cn, Si pk, Si qq, Sr pa] [])
            refine Go.on (fun _ k => XS.aload X14.here hx rfl (hb hby at_138) rfl rfl k) ?_
            refine Go.on (fun _ k => XS.iloadN X14.here hx rfl (hb hby at_140) rfl k) ?_
            refine Go.on (fun _ k => XS.iconst X14.here hx rfl (hb hby at_141) k) ?_
            refine Go.on (fun _ k => XS.iload X14.here hx rfl (hb hby at_142) rfl k) ?_
            refine Go.on (fun _ k => XS.imul X14.here hx rfl (hb hby at_144) rfl k) ?_
            refine Go.on (fun _ k => XS.iadd X14.here hx rfl (hb hby at_145) rfl k) ?_
            refine Go.on (fun _ k => XS.dconst1 X14.here hx rfl (v := (4607182418800017408 : UInt64)) (hb hby at_146) rfl k) ?_
            show Go _ _ _ _ _ _ _ _ (mkF m 147 #[Si i0, Si i1, Si i2, Si i3, Si i4, Si dd, Si cn, Si pk, Si qq, Sr pa] [(.double 4607182418800017408), (.int (i0 + ((4 : Int32) * dd))), (.ref pa)])
            obtain ⟨cq16, kq16, q16a, q16b, q16c⟩ := isOf hZ e14 E_pa
            obtain ⟨_, _, ⟨T16, L16, k16, n16⟩, -, X16, ⟨Lc16, hQ16, l16, y16, z16⟩, st16⟩ := X14.virtualBack hx (y := (⟨"com/example/due_weight/dueweight/core/Pairs", "add", "(ID)I"⟩ : MethodName)) (z := (⟨"com/example/due_weight/dueweight/core/Pairs", "add", "(ID)I"⟩ : MethodName)) hown (mvT hZ (hw _ (List.mem_of_getElem? (i := 18) rfl))) (mvT hZ (hw _ (List.mem_of_getElem? (i := 19) rfl))) (notFace_of_selects (args := #[]) (mvT hZ (hw _ (List.mem_of_getElem? (i := 21) rfl)))) (mvT hZ (hw _ (List.mem_of_getElem? (i := 21) rfl))) (mvT hZ (hw _ (List.mem_of_getElem? (i := 20) rfl))) (by decide) (backOf (W := 0) (add_4 l Z aw hw [] pa (i0 + ((4 : Int32) * dd)) mb14 wb14 fq14 k_mb14 i0 (i0 + dd) (i0 + ((2 : Int32) * dd)) (i0 + ((3 : Int32) * dd)) k_wb14 h14 n0 ZZ E_pa F_members_pa F_weights_pa F_exact_pa F_slots_pa F_length_pa F_fingerprint_pa F_history_pa F_shift_pa V_mb14 V_wb14 g_pa g_mb14 g_wb14 ne_pa_mb14 ne_pa_wb14 ne_mb14_wb14 (own_mlt (a := i0) (d := dd) (j := 0) (k := 4) hod (by decide) (by decide)) (own_mlt (a := i0) (d := dd) (j := 1) (k := 4) hod (by decide) (by decide)) (own_mlt (a := i0) (d := dd) (j := 2) (k := 4) hod (by decide) (by decide)) (own_mlt (a := i0) (d := dd) (j := 3) (k := 4) hod (by decide) (by decide))) hZ (hw _ (List.mem_of_getElem? (i := 22) rfl)) (hw _ (List.mem_of_getElem? (i := 3) rfl)) (by decide) (by decide)) q16a q16c (g := (mkF m 147 #[Si i0, Si i1, Si i2, Si i3, Si i4, Si dd, Si cn, Si pk, Si qq, Sr pa] [(.double 4607182418800017408), (.int (i0 + ((4 : Int32) * dd))), (.ref pa)])) rfl (by rw [hml]; rfl) (Steps.refl _) (argsL := [(.int (i0 + ((4 : Int32) * dd))), (.double (4607182418800017408 : UInt64))]) (rest := []) (lenOf pd_10 rfl) rfl (by show 2 * 0 + _ ≤ _; exact Nat.le_of_eq rfl) (hb hby at_147) (fun _ _ => ⟨rfl, e14, (by decide : 5 + 2 ≤ _), (by decide : 20 + 16 ≤ _)⟩)
            dsimp only [Pt.U, Pt.locs, Pt.cells, Pt.slots] at X16 l16 y16 z16 st16 hQ16
            subst l16 y16 z16
            obtain ⟨h16, e16⟩ : ∃ q, T16.heap = q := ⟨_, rfl⟩
            rw [e16] at hQ16
            obtain ⟨mb16, wb16, k_mb16, k_wb16, fq16, rfl, N16q, K16q, Eq16, F_membersq16, F_weightsq16, F_exactq16, F_slotsq16, F_lengthq16, F_fingerprintq16, F_historyq16, F_shiftq16, V_mb16, V_wb16, gm16, gw16, n1_16, n2_16, n3_16⟩ := hQ16
            have N16 := Fr.app N14 N16q
            have ZZ16p := ZZ
            have lt_pa := E_pa.lt
            have lt_mb14 := V_mb14.lt
            have lt_wb14 := V_wb14.lt
            replace E_pa := E_pa.keep K16q
            replace ZZ := Nat.le_trans ZZ K16q.1
            have F_members_pa := F_membersq16
            have F_weights_pa := F_weightsq16
            have F_exact_pa := F_exactq16
            have F_slots_pa := F_slotsq16
            have F_length_pa := F_lengthq16
            have F_fingerprint_pa := F_fingerprintq16
            have F_history_pa := F_historyq16
            have F_shift_pa := F_shiftq16
            replace E_pa := Eq16
            have g_mb16 := gm16
            have g_wb16 := gw16
            have ne_pa_mb16 := n1_16
            have ne_pa_wb16 := n2_16
            have ne_mb16_wb16 := n3_16
            refine Go.on (fun _ k => st16.trans k) ?_
            show Go _ _ _ _ _ _ _ _ (mkF m 150 #[Si i0, Si i1, Si i2, Si i3, Si i4, Si dd, Si cn, Si pk, Si qq, Sr pa] [(.int 4)])
            refine Go.on (fun _ k => XS.pop X16.here hx rfl (hb hby at_150) rfl rfl k) ?_
            show Go _ _ _ _ _ _ _ _ (mkF m 151 #[Si i0, Si i1, Si i2, Si i3, Si i4, Si dd, Si cn, Si pk, Si qq, Sr pa] [])
            refine Go.on (fun _ k => XS.iload X16.here hx rfl (hb hby at_151) rfl k) ?_
            refine Go.on (fun _ k => XS.iconst X16.here hx rfl (hb hby at_153) k) ?_
            show Go _ _ _ _ _ _ _ _ (mkF m 154 #[Si i0, Si i1, Si i2, Si i3, Si i4, Si dd, Si cn, Si pk, Si qq, Sr pa] [(.int 5), (.int cn)])
            by_cases hc17 : (5 : Int32) < cn
            · -- pc 154 yes
              refine Go.on (fun _ k => XS.icmpNo X16.here hx rfl (hb hby at_154) rfl (tlt hc17).2.2.2 k) ?_
              show Go _ _ _ _ _ _ _ _ (mkF m 157 #[Si i0, Si i1, Si i2, Si i3, Si i4, Si dd, Si cn, Si pk, Si qq, Sr pa] [])
              refine Go.on (fun _ k => XS.aload X16.here hx rfl (hb hby at_157) rfl rfl k) ?_
              refine Go.on (fun _ k => XS.iloadN X16.here hx rfl (hb hby at_159) rfl k) ?_
              refine Go.on (fun _ k => XS.iconst X16.here hx rfl (hb hby at_160) k) ?_
              refine Go.on (fun _ k => XS.iload X16.here hx rfl (hb hby at_161) rfl k) ?_
              refine Go.on (fun _ k => XS.imul X16.here hx rfl (hb hby at_163) rfl k) ?_
              refine Go.on (fun _ k => XS.iadd X16.here hx rfl (hb hby at_164) rfl k) ?_
              refine Go.on (fun _ k => XS.dconst1 X16.here hx rfl (v := (4607182418800017408 : UInt64)) (hb hby at_165) rfl k) ?_
              show Go _ _ _ _ _ _ _ _ (mkF m 166 #[Si i0, Si i1, Si i2, Si i3, Si i4, Si dd, Si cn, Si pk, Si qq, Sr pa] [(.double 4607182418800017408), (.int (i0 + ((5 : Int32) * dd))), (.ref pa)])
              obtain ⟨cq18, kq18, q18a, q18b, q18c⟩ := isOf hZ e16 E_pa
              obtain ⟨_, _, ⟨T18, L18, k18, n18⟩, -, X18, ⟨Lc18, hQ18, l18, y18, z18⟩, st18⟩ := X16.virtualBack hx (y := (⟨"com/example/due_weight/dueweight/core/Pairs", "add", "(ID)I"⟩ : MethodName)) (z := (⟨"com/example/due_weight/dueweight/core/Pairs", "add", "(ID)I"⟩ : MethodName)) hown (mvT hZ (hw _ (List.mem_of_getElem? (i := 18) rfl))) (mvT hZ (hw _ (List.mem_of_getElem? (i := 19) rfl))) (notFace_of_selects (args := #[]) (mvT hZ (hw _ (List.mem_of_getElem? (i := 21) rfl)))) (mvT hZ (hw _ (List.mem_of_getElem? (i := 21) rfl))) (mvT hZ (hw _ (List.mem_of_getElem? (i := 20) rfl))) (by decide) (backOf (W := 0) (add_5 l Z aw hw [] pa (i0 + ((5 : Int32) * dd)) mb16 wb16 fq16 k_mb16 i0 (i0 + dd) (i0 + ((2 : Int32) * dd)) (i0 + ((3 : Int32) * dd)) (i0 + ((4 : Int32) * dd)) k_wb16 h16 n0 ZZ E_pa F_members_pa F_weights_pa F_exact_pa F_slots_pa F_length_pa F_fingerprint_pa F_history_pa F_shift_pa V_mb16 V_wb16 g_pa g_mb16 g_wb16 ne_pa_mb16 ne_pa_wb16 ne_mb16_wb16 (own_mlt (a := i0) (d := dd) (j := 0) (k := 5) hod (by decide) (by decide)) (own_mlt (a := i0) (d := dd) (j := 1) (k := 5) hod (by decide) (by decide)) (own_mlt (a := i0) (d := dd) (j := 2) (k := 5) hod (by decide) (by decide)) (own_mlt (a := i0) (d := dd) (j := 3) (k := 5) hod (by decide) (by decide)) (own_mlt (a := i0) (d := dd) (j := 4) (k := 5) hod (by decide) (by decide))) hZ (hw _ (List.mem_of_getElem? (i := 22) rfl)) (hw _ (List.mem_of_getElem? (i := 3) rfl)) (by decide) (by decide)) q18a q18c (g := (mkF m 166 #[Si i0, Si i1, Si i2, Si i3, Si i4, Si dd, Si cn, Si pk, Si qq, Sr pa] [(.double 4607182418800017408), (.int (i0 + ((5 : Int32) * dd))), (.ref pa)])) rfl (by rw [hml]; rfl) (Steps.refl _) (argsL := [(.int (i0 + ((5 : Int32) * dd))), (.double (4607182418800017408 : UInt64))]) (rest := []) (lenOf pd_10 rfl) rfl (by show 2 * 0 + _ ≤ _; exact Nat.le_of_eq rfl) (hb hby at_166) (fun _ _ => ⟨rfl, e16, (by decide : 7 + 0 ≤ _), (by decide : 36 + 0 ≤ _)⟩)
              dsimp only [Pt.U, Pt.locs, Pt.cells, Pt.slots] at X18 l18 y18 z18 st18 hQ18
              subst l18 y18 z18
              obtain ⟨h18, e18⟩ : ∃ q, T18.heap = q := ⟨_, rfl⟩
              rw [e18] at hQ18
              obtain ⟨mb18, wb18, k_mb18, k_wb18, fq18, rfl, N18q, K18q, Eq18, F_membersq18, F_weightsq18, F_exactq18, F_slotsq18, F_lengthq18, F_fingerprintq18, F_historyq18, F_shiftq18, V_mb18, V_wb18, gm18, gw18, n1_18, n2_18, n3_18⟩ := hQ18
              have N18 := Fr.app N16 N18q
              have ZZ18p := ZZ
              have lt_pa := E_pa.lt
              have lt_mb16 := V_mb16.lt
              have lt_wb16 := V_wb16.lt
              replace E_pa := E_pa.keep K18q
              replace ZZ := Nat.le_trans ZZ K18q.1
              have F_members_pa := F_membersq18
              have F_weights_pa := F_weightsq18
              have F_exact_pa := F_exactq18
              have F_slots_pa := F_slotsq18
              have F_length_pa := F_lengthq18
              have F_fingerprint_pa := F_fingerprintq18
              have F_history_pa := F_historyq18
              have F_shift_pa := F_shiftq18
              replace E_pa := Eq18
              have g_mb18 := gm18
              have g_wb18 := gw18
              have ne_pa_mb18 := n1_18
              have ne_pa_wb18 := n2_18
              have ne_mb18_wb18 := n3_18
              refine Go.on (fun _ k => st18.trans k) ?_
              show Go _ _ _ _ _ _ _ _ (mkF m 169 #[Si i0, Si i1, Si i2, Si i3, Si i4, Si dd, Si cn, Si pk, Si qq, Sr pa] [(.int 5)])
              refine Go.on (fun _ k => XS.pop X18.here hx rfl (hb hby at_169) rfl rfl k) ?_
              show Go _ _ _ _ _ _ _ _ (mkF m 170 #[Si i0, Si i1, Si i2, Si i3, Si i4, Si dd, Si cn, Si pk, Si qq, Sr pa] [])
              refine Go.on (fun _ k => XS.iload X18.here hx rfl (hb hby at_170) rfl k) ?_
              refine Go.on (fun _ k => XS.bipush X18.here hx rfl (hb hby at_172) k) ?_
              show Go _ _ _ _ _ _ _ _ (mkF m 174 #[Si i0, Si i1, Si i2, Si i3, Si i4, Si dd, Si cn, Si pk, Si qq, Sr pa] [(.int 6), (.int cn)])
              by_cases hc19 : (6 : Int32) < cn
              · -- pc 174 yes
                refine Go.on (fun _ k => XS.icmpNo X18.here hx rfl (hb hby at_174) rfl (tlt hc19).2.2.2 k) ?_
                show Go _ _ _ _ _ _ _ _ (mkF m 177 #[Si i0, Si i1, Si i2, Si i3, Si i4, Si dd, Si cn, Si pk, Si qq, Sr pa] [])
                refine Go.on (fun _ k => XS.aload X18.here hx rfl (hb hby at_177) rfl rfl k) ?_
                refine Go.on (fun _ k => XS.iloadN X18.here hx rfl (hb hby at_179) rfl k) ?_
                refine Go.on (fun _ k => XS.bipush X18.here hx rfl (hb hby at_180) k) ?_
                refine Go.on (fun _ k => XS.iload X18.here hx rfl (hb hby at_182) rfl k) ?_
                refine Go.on (fun _ k => XS.imul X18.here hx rfl (hb hby at_184) rfl k) ?_
                refine Go.on (fun _ k => XS.iadd X18.here hx rfl (hb hby at_185) rfl k) ?_
                refine Go.on (fun _ k => XS.dconst1 X18.here hx rfl (v := (4607182418800017408 : UInt64)) (hb hby at_186) rfl k) ?_
                show Go _ _ _ _ _ _ _ _ (mkF m 187 #[Si i0, Si i1, Si i2, Si i3, Si i4, Si dd, Si cn, Si pk, Si qq, Sr pa] [(.double 4607182418800017408), (.int (i0 + ((6 : Int32) * dd))), (.ref pa)])
                obtain ⟨cq20, kq20, q20a, q20b, q20c⟩ := isOf hZ e18 E_pa
                obtain ⟨_, _, ⟨T20, L20, k20, n20⟩, -, X20, ⟨Lc20, hQ20, l20, y20, z20⟩, st20⟩ := X18.virtualBack hx (y := (⟨"com/example/due_weight/dueweight/core/Pairs", "add", "(ID)I"⟩ : MethodName)) (z := (⟨"com/example/due_weight/dueweight/core/Pairs", "add", "(ID)I"⟩ : MethodName)) hown (mvT hZ (hw _ (List.mem_of_getElem? (i := 18) rfl))) (mvT hZ (hw _ (List.mem_of_getElem? (i := 19) rfl))) (notFace_of_selects (args := #[]) (mvT hZ (hw _ (List.mem_of_getElem? (i := 21) rfl)))) (mvT hZ (hw _ (List.mem_of_getElem? (i := 21) rfl))) (mvT hZ (hw _ (List.mem_of_getElem? (i := 20) rfl))) (by decide) (backOf (W := 0) (add_6 l Z aw hw [] pa (i0 + ((6 : Int32) * dd)) mb18 wb18 fq18 k_mb18 i0 (i0 + dd) (i0 + ((2 : Int32) * dd)) (i0 + ((3 : Int32) * dd)) (i0 + ((4 : Int32) * dd)) (i0 + ((5 : Int32) * dd)) k_wb18 h18 n0 ZZ E_pa F_members_pa F_weights_pa F_exact_pa F_slots_pa F_length_pa F_fingerprint_pa F_history_pa F_shift_pa V_mb18 V_wb18 g_pa g_mb18 g_wb18 ne_pa_mb18 ne_pa_wb18 ne_mb18_wb18 (own_mlt (a := i0) (d := dd) (j := 0) (k := 6) hod (by decide) (by decide)) (own_mlt (a := i0) (d := dd) (j := 1) (k := 6) hod (by decide) (by decide)) (own_mlt (a := i0) (d := dd) (j := 2) (k := 6) hod (by decide) (by decide)) (own_mlt (a := i0) (d := dd) (j := 3) (k := 6) hod (by decide) (by decide)) (own_mlt (a := i0) (d := dd) (j := 4) (k := 6) hod (by decide) (by decide)) (own_mlt (a := i0) (d := dd) (j := 5) (k := 6) hod (by decide) (by decide))) hZ (hw _ (List.mem_of_getElem? (i := 22) rfl)) (hw _ (List.mem_of_getElem? (i := 3) rfl)) (by decide) (by decide)) q20a q20c (g := (mkF m 187 #[Si i0, Si i1, Si i2, Si i3, Si i4, Si dd, Si cn, Si pk, Si qq, Sr pa] [(.double 4607182418800017408), (.int (i0 + ((6 : Int32) * dd))), (.ref pa)])) rfl (by rw [hml]; rfl) (Steps.refl _) (argsL := [(.int (i0 + ((6 : Int32) * dd))), (.double (4607182418800017408 : UInt64))]) (rest := []) (lenOf pd_10 rfl) rfl (by show 2 * 0 + _ ≤ _; exact Nat.le_of_eq rfl) (hb hby at_187) (fun _ _ => ⟨rfl, e18, (by decide : 7 + 0 ≤ _), (by decide : 36 + 0 ≤ _)⟩)
                dsimp only [Pt.U, Pt.locs, Pt.cells, Pt.slots] at X20 l20 y20 z20 st20 hQ20
                subst l20 y20 z20
                obtain ⟨h20, e20⟩ : ∃ q, T20.heap = q := ⟨_, rfl⟩
                rw [e20] at hQ20
                obtain ⟨mb20, wb20, k_mb20, k_wb20, fq20, rfl, N20q, K20q, Eq20, F_membersq20, F_weightsq20, F_exactq20, F_slotsq20, F_lengthq20, F_fingerprintq20, F_historyq20, F_shiftq20, V_mb20, V_wb20, gm20, gw20, n1_20, n2_20, n3_20⟩ := hQ20
                have N20 := Fr.app N18 N20q
                have ZZ20p := ZZ
                have lt_pa := E_pa.lt
                have lt_mb18 := V_mb18.lt
                have lt_wb18 := V_wb18.lt
                replace E_pa := E_pa.keep K20q
                replace ZZ := Nat.le_trans ZZ K20q.1
                have F_members_pa := F_membersq20
                have F_weights_pa := F_weightsq20
                have F_exact_pa := F_exactq20
                have F_slots_pa := F_slotsq20
                have F_length_pa := F_lengthq20
                have F_fingerprint_pa := F_fingerprintq20
                have F_history_pa := F_historyq20
                have F_shift_pa := F_shiftq20
                replace E_pa := Eq20
                have g_mb20 := gm20
                have g_wb20 := gw20
                have ne_pa_mb20 := n1_20
                have ne_pa_wb20 := n2_20
                have ne_mb20_wb20 := n3_20
                refine Go.on (fun _ k => st20.trans k) ?_
                show Go _ _ _ _ _ _ _ _ (mkF m 190 #[Si i0, Si i1, Si i2, Si i3, Si i4, Si dd, Si cn, Si pk, Si qq, Sr pa] [(.int 6)])
                refine Go.on (fun _ k => XS.pop X20.here hx rfl (hb hby at_190) rfl rfl k) ?_
                show Go _ _ _ _ _ _ _ _ (mkF m 191 #[Si i0, Si i1, Si i2, Si i3, Si i4, Si dd, Si cn, Si pk, Si qq, Sr pa] [])
                refine Go.on (fun _ k => XS.iload X20.here hx rfl (hb hby at_191) rfl k) ?_
                refine Go.on (fun _ k => XS.bipush X20.here hx rfl (hb hby at_193) k) ?_
                show Go _ _ _ _ _ _ _ _ (mkF m 195 #[Si i0, Si i1, Si i2, Si i3, Si i4, Si dd, Si cn, Si pk, Si qq, Sr pa] [(.int 7), (.int cn)])
                by_cases hc21 : (7 : Int32) < cn
                · -- pc 195 yes
                  refine Go.on (fun _ k => XS.icmpNo X20.here hx rfl (hb hby at_195) rfl (tlt hc21).2.2.2 k) ?_
                  show Go _ _ _ _ _ _ _ _ (mkF m 198 #[Si i0, Si i1, Si i2, Si i3, Si i4, Si dd, Si cn, Si pk, Si qq, Sr pa] [])
                  refine Go.on (fun _ k => XS.aload X20.here hx rfl (hb hby at_198) rfl rfl k) ?_
                  refine Go.on (fun _ k => XS.iloadN X20.here hx rfl (hb hby at_200) rfl k) ?_
                  refine Go.on (fun _ k => XS.bipush X20.here hx rfl (hb hby at_201) k) ?_
                  refine Go.on (fun _ k => XS.iload X20.here hx rfl (hb hby at_203) rfl k) ?_
                  refine Go.on (fun _ k => XS.imul X20.here hx rfl (hb hby at_205) rfl k) ?_
                  refine Go.on (fun _ k => XS.iadd X20.here hx rfl (hb hby at_206) rfl k) ?_
                  refine Go.on (fun _ k => XS.dconst1 X20.here hx rfl (v := (4607182418800017408 : UInt64)) (hb hby at_207) rfl k) ?_
                  show Go _ _ _ _ _ _ _ _ (mkF m 208 #[Si i0, Si i1, Si i2, Si i3, Si i4, Si dd, Si cn, Si pk, Si qq, Sr pa] [(.double 4607182418800017408), (.int (i0 + ((7 : Int32) * dd))), (.ref pa)])
                  obtain ⟨cq22, kq22, q22a, q22b, q22c⟩ := isOf hZ e20 E_pa
                  obtain ⟨_, _, ⟨T22, L22, k22, n22⟩, -, X22, ⟨Lc22, hQ22, l22, y22, z22⟩, st22⟩ := X20.virtualBack hx (y := (⟨"com/example/due_weight/dueweight/core/Pairs", "add", "(ID)I"⟩ : MethodName)) (z := (⟨"com/example/due_weight/dueweight/core/Pairs", "add", "(ID)I"⟩ : MethodName)) hown (mvT hZ (hw _ (List.mem_of_getElem? (i := 18) rfl))) (mvT hZ (hw _ (List.mem_of_getElem? (i := 19) rfl))) (notFace_of_selects (args := #[]) (mvT hZ (hw _ (List.mem_of_getElem? (i := 21) rfl)))) (mvT hZ (hw _ (List.mem_of_getElem? (i := 21) rfl))) (mvT hZ (hw _ (List.mem_of_getElem? (i := 20) rfl))) (by decide) (backOf (W := 0) (add_7 l Z aw hw [] pa (i0 + ((7 : Int32) * dd)) mb20 wb20 fq20 k_mb20 i0 (i0 + dd) (i0 + ((2 : Int32) * dd)) (i0 + ((3 : Int32) * dd)) (i0 + ((4 : Int32) * dd)) (i0 + ((5 : Int32) * dd)) (i0 + ((6 : Int32) * dd)) k_wb20 h20 n0 ZZ E_pa F_members_pa F_weights_pa F_exact_pa F_slots_pa F_length_pa F_fingerprint_pa F_history_pa F_shift_pa V_mb20 V_wb20 g_pa g_mb20 g_wb20 ne_pa_mb20 ne_pa_wb20 ne_mb20_wb20 (own_mlt (a := i0) (d := dd) (j := 0) (k := 7) hod (by decide) (by decide)) (own_mlt (a := i0) (d := dd) (j := 1) (k := 7) hod (by decide) (by decide)) (own_mlt (a := i0) (d := dd) (j := 2) (k := 7) hod (by decide) (by decide)) (own_mlt (a := i0) (d := dd) (j := 3) (k := 7) hod (by decide) (by decide)) (own_mlt (a := i0) (d := dd) (j := 4) (k := 7) hod (by decide) (by decide)) (own_mlt (a := i0) (d := dd) (j := 5) (k := 7) hod (by decide) (by decide)) (own_mlt (a := i0) (d := dd) (j := 6) (k := 7) hod (by decide) (by decide))) hZ (hw _ (List.mem_of_getElem? (i := 22) rfl)) (hw _ (List.mem_of_getElem? (i := 3) rfl)) (by decide) (by decide)) q22a q22c (g := (mkF m 208 #[Si i0, Si i1, Si i2, Si i3, Si i4, Si dd, Si cn, Si pk, Si qq, Sr pa] [(.double 4607182418800017408), (.int (i0 + ((7 : Int32) * dd))), (.ref pa)])) rfl (by rw [hml]; rfl) (Steps.refl _) (argsL := [(.int (i0 + ((7 : Int32) * dd))), (.double (4607182418800017408 : UInt64))]) (rest := []) (lenOf pd_10 rfl) rfl (by show 2 * 0 + _ ≤ _; exact Nat.le_of_eq rfl) (hb hby at_208) (fun _ _ => ⟨rfl, e20, (by decide : 7 + 0 ≤ _), (by decide : 36 + 0 ≤ _)⟩)
                  dsimp only [Pt.U, Pt.locs, Pt.cells, Pt.slots] at X22 l22 y22 z22 st22 hQ22
                  subst l22 y22 z22
                  obtain ⟨h22, e22⟩ : ∃ q, T22.heap = q := ⟨_, rfl⟩
                  rw [e22] at hQ22
                  obtain ⟨mb22, wb22, k_mb22, k_wb22, fq22, rfl, N22q, K22q, Eq22, F_membersq22, F_weightsq22, F_exactq22, F_slotsq22, F_lengthq22, F_fingerprintq22, F_historyq22, F_shiftq22, V_mb22, V_wb22, gm22, gw22, n1_22, n2_22, n3_22⟩ := hQ22
                  have N22 := Fr.app N20 N22q
                  have ZZ22p := ZZ
                  have lt_pa := E_pa.lt
                  have lt_mb20 := V_mb20.lt
                  have lt_wb20 := V_wb20.lt
                  replace E_pa := E_pa.keep K22q
                  replace ZZ := Nat.le_trans ZZ K22q.1
                  have F_members_pa := F_membersq22
                  have F_weights_pa := F_weightsq22
                  have F_exact_pa := F_exactq22
                  have F_slots_pa := F_slotsq22
                  have F_length_pa := F_lengthq22
                  have F_fingerprint_pa := F_fingerprintq22
                  have F_history_pa := F_historyq22
                  have F_shift_pa := F_shiftq22
                  replace E_pa := Eq22
                  have g_mb22 := gm22
                  have g_wb22 := gw22
                  have ne_pa_mb22 := n1_22
                  have ne_pa_wb22 := n2_22
                  have ne_mb22_wb22 := n3_22
                  refine Go.on (fun _ k => st22.trans k) ?_
                  show Go _ _ _ _ _ _ _ _ (mkF m 211 #[Si i0, Si i1, Si i2, Si i3, Si i4, Si dd, Si cn, Si pk, Si qq, Sr pa] [(.int 7)])
                  refine Go.on (fun _ k => XS.pop X22.here hx rfl (hb hby at_211) rfl rfl k) ?_
                  show Go _ _ _ _ _ _ _ _ (mkF m 212 #[Si i0, Si i1, Si i2, Si i3, Si i4, Si dd, Si cn, Si pk, Si qq, Sr pa] [])
                  refine Go.on (fun _ k => XS.iload X22.here hx rfl (hb hby at_212) rfl k) ?_
                  refine Go.on (fun _ k => XS.bipush X22.here hx rfl (hb hby at_214) k) ?_
                  show Go _ _ _ _ _ _ _ _ (mkF m 216 #[Si i0, Si i1, Si i2, Si i3, Si i4, Si dd, Si cn, Si pk, Si qq, Sr pa] [(.int 8), (.int cn)])
                  by_cases hc23 : (8 : Int32) < cn
                  · -- pc 216 yes
                    refine Go.on (fun _ k => XS.icmpNo X22.here hx rfl (hb hby at_216) rfl (tlt hc23).2.2.2 k) ?_
                    show Go _ _ _ _ _ _ _ _ (mkF m 219 #[Si i0, Si i1, Si i2, Si i3, Si i4, Si dd, Si cn, Si pk, Si qq, Sr pa] [])
                    refine Go.on (fun _ k => XS.aload X22.here hx rfl (hb hby at_219) rfl rfl k) ?_
                    refine Go.on (fun _ k => XS.iloadN X22.here hx rfl (hb hby at_221) rfl k) ?_
                    refine Go.on (fun _ k => XS.bipush X22.here hx rfl (hb hby at_222) k) ?_
                    refine Go.on (fun _ k => XS.iload X22.here hx rfl (hb hby at_224) rfl k) ?_
                    refine Go.on (fun _ k => XS.imul X22.here hx rfl (hb hby at_226) rfl k) ?_
                    refine Go.on (fun _ k => XS.iadd X22.here hx rfl (hb hby at_227) rfl k) ?_
                    refine Go.on (fun _ k => XS.dconst1 X22.here hx rfl (v := (4607182418800017408 : UInt64)) (hb hby at_228) rfl k) ?_
                    show Go _ _ _ _ _ _ _ _ (mkF m 229 #[Si i0, Si i1, Si i2, Si i3, Si i4, Si dd, Si cn, Si pk, Si qq, Sr pa] [(.double 4607182418800017408), (.int (i0 + ((8 : Int32) * dd))), (.ref pa)])
                    obtain ⟨cq24, kq24, q24a, q24b, q24c⟩ := isOf hZ e22 E_pa
                    obtain ⟨_, _, ⟨T24, L24, k24, n24⟩, -, X24, ⟨Lc24, hQ24, l24, y24, z24⟩, st24⟩ := X22.virtualBack hx (y := (⟨"com/example/due_weight/dueweight/core/Pairs", "add", "(ID)I"⟩ : MethodName)) (z := (⟨"com/example/due_weight/dueweight/core/Pairs", "add", "(ID)I"⟩ : MethodName)) hown (mvT hZ (hw _ (List.mem_of_getElem? (i := 18) rfl))) (mvT hZ (hw _ (List.mem_of_getElem? (i := 19) rfl))) (notFace_of_selects (args := #[]) (mvT hZ (hw _ (List.mem_of_getElem? (i := 21) rfl)))) (mvT hZ (hw _ (List.mem_of_getElem? (i := 21) rfl))) (mvT hZ (hw _ (List.mem_of_getElem? (i := 20) rfl))) (by decide) (backOf (W := 0) (add_8 l Z aw hw [] pa (i0 + ((8 : Int32) * dd)) mb22 wb22 fq22 k_mb22 i0 (i0 + dd) (i0 + ((2 : Int32) * dd)) (i0 + ((3 : Int32) * dd)) (i0 + ((4 : Int32) * dd)) (i0 + ((5 : Int32) * dd)) (i0 + ((6 : Int32) * dd)) (i0 + ((7 : Int32) * dd)) k_wb22 h22 n0 ZZ E_pa F_members_pa F_weights_pa F_exact_pa F_slots_pa F_length_pa F_fingerprint_pa F_history_pa F_shift_pa V_mb22 V_wb22 g_pa g_mb22 g_wb22 ne_pa_mb22 ne_pa_wb22 ne_mb22_wb22 (own_mlt (a := i0) (d := dd) (j := 0) (k := 8) hod (by decide) (by decide)) (own_mlt (a := i0) (d := dd) (j := 1) (k := 8) hod (by decide) (by decide)) (own_mlt (a := i0) (d := dd) (j := 2) (k := 8) hod (by decide) (by decide)) (own_mlt (a := i0) (d := dd) (j := 3) (k := 8) hod (by decide) (by decide)) (own_mlt (a := i0) (d := dd) (j := 4) (k := 8) hod (by decide) (by decide)) (own_mlt (a := i0) (d := dd) (j := 5) (k := 8) hod (by decide) (by decide)) (own_mlt (a := i0) (d := dd) (j := 6) (k := 8) hod (by decide) (by decide)) (own_mlt (a := i0) (d := dd) (j := 7) (k := 8) hod (by decide) (by decide))) hZ (hw _ (List.mem_of_getElem? (i := 22) rfl)) (hw _ (List.mem_of_getElem? (i := 3) rfl)) (by decide) (by decide)) q24a q24c (g := (mkF m 229 #[Si i0, Si i1, Si i2, Si i3, Si i4, Si dd, Si cn, Si pk, Si qq, Sr pa] [(.double 4607182418800017408), (.int (i0 + ((8 : Int32) * dd))), (.ref pa)])) rfl (by rw [hml]; rfl) (Steps.refl _) (argsL := [(.int (i0 + ((8 : Int32) * dd))), (.double (4607182418800017408 : UInt64))]) (rest := []) (lenOf pd_10 rfl) rfl (by show 2 * 0 + _ ≤ _; exact Nat.le_of_eq rfl) (hb hby at_229) (fun _ _ => ⟨rfl, e22, (by decide : 7 + 3 ≤ _), (by decide : 36 + 96 ≤ _)⟩)
                    dsimp only [Pt.U, Pt.locs, Pt.cells, Pt.slots] at X24 l24 y24 z24 st24 hQ24
                    subst l24 y24 z24
                    obtain ⟨h24, e24⟩ : ∃ q, T24.heap = q := ⟨_, rfl⟩
                    rw [e24] at hQ24
                    obtain ⟨mb24, wb24, k_mb24, k_wb24, fq24, sl24, k_sl24, ts24, rfl, N24q, K24q, Eq24, F_membersq24, F_weightsq24, F_exactq24, F_slotsq24, F_lengthq24, F_fingerprintq24, F_historyq24, F_shiftq24, V_mb24, V_wb24, gm24, gw24, n1_24, n2_24, n3_24, V_sl24, ht24⟩ := hQ24
                    have N24 := Fr.app N22 N24q
                    have ZZ24p := ZZ
                    have lt_pa := E_pa.lt
                    have lt_mb22 := V_mb22.lt
                    have lt_wb22 := V_wb22.lt
                    replace E_pa := E_pa.keep K24q
                    replace ZZ := Nat.le_trans ZZ K24q.1
                    have F_members_pa := F_membersq24
                    have F_weights_pa := F_weightsq24
                    have F_exact_pa := F_exactq24
                    have F_slots_pa := F_slotsq24
                    have F_length_pa := F_lengthq24
                    have F_fingerprint_pa := F_fingerprintq24
                    have F_history_pa := F_historyq24
                    have F_shift_pa := F_shiftq24
                    replace E_pa := Eq24
                    have g_mb24 := gm24
                    have g_wb24 := gw24
                    have ne_pa_mb24 := n1_24
                    have ne_pa_wb24 := n2_24
                    have ne_mb24_wb24 := n3_24
                    refine Go.on (fun _ k => st24.trans k) ?_
                    show Go _ _ _ _ _ _ _ _ (mkF m 232 #[Si i0, Si i1, Si i2, Si i3, Si i4, Si dd, Si cn, Si pk, Si qq, Sr pa] [(.int 8)])
                    refine Go.on (fun _ k => XS.pop X24.here hx rfl (hb hby at_232) rfl rfl k) ?_
                    show Go _ _ _ _ _ _ _ _ (mkF m 233 #[Si i0, Si i1, Si i2, Si i3, Si i4, Si dd, Si cn, Si pk, Si qq, Sr pa] [])
                    refine Go.on (fun _ k => XS.aload X24.here hx rfl (hb hby at_233) rfl rfl k) ?_
                    refine Go.on (fun _ k => XS.iload X24.here hx rfl (hb hby at_235) rfl k) ?_
                    show Go _ _ _ _ _ _ _ _ (mkF m 237 #[Si i0, Si i1, Si i2, Si i3, Si i4, Si dd, Si cn, Si pk, Si qq, Sr pa] [(.int qq), (.ref pa)])
                    obtain ⟨cq25, kq25, q25a, q25b, q25c⟩ := isOf hZ e24 E_pa
                    obtain ⟨_, _, ⟨T25, L25, k25, n25⟩, -, X25, ⟨Lc25, hQ25, l25, y25, z25⟩, st25⟩ := X24.virtualBack hx (y := (⟨"com/example/due_weight/dueweight/core/Pairs", "indexOf", "(I)I"⟩ : MethodName)) (z := (⟨"com/example/due_weight/dueweight/core/Pairs", "indexOf", "(I)I"⟩ : MethodName)) hown (mvT hZ (hw _ (List.mem_of_getElem? (i := 53) rfl))) (mvT hZ (hw _ (List.mem_of_getElem? (i := 24) rfl))) (notFace_of_selects (args := #[]) (mvT hZ (hw _ (List.mem_of_getElem? (i := 26) rfl)))) (mvT hZ (hw _ (List.mem_of_getElem? (i := 26) rfl))) (mvT hZ (hw _ (List.mem_of_getElem? (i := 25) rfl))) (by decide) (backOf (W := 0) (ixh l Z aw hw [] pa qq ts24 [i0, (i0 + dd), (i0 + ((2 : Int32) * dd)), (i0 + ((3 : Int32) * dd)), (i0 + ((4 : Int32) * dd)), (i0 + ((5 : Int32) * dd)), (i0 + ((6 : Int32) * dd)), (i0 + ((7 : Int32) * dd)), (i0 + ((8 : Int32) * dd))] [(.int (0 : Int32)), (.int (0 : Int32)), (.int (0 : Int32)), (.int (0 : Int32)), (.int (0 : Int32)), (.int (0 : Int32)), (.int (0 : Int32))] sl24 mb24 k_mb24 [(.int i0), (.int (i0 + dd)), (.int (i0 + ((2 : Int32) * dd))), (.int (i0 + ((3 : Int32) * dd))), (.int (i0 + ((4 : Int32) * dd))), (.int (i0 + ((5 : Int32) * dd))), (.int (i0 + ((6 : Int32) * dd))), (.int (i0 + ((7 : Int32) * dd))), (.int (i0 + ((8 : Int32) * dd))), (.int (0 : Int32)), (.int (0 : Int32)), (.int (0 : Int32)), (.int (0 : Int32)), (.int (0 : Int32)), (.int (0 : Int32)), (.int (0 : Int32))] k_sl24 h24 n0 ZZ F_slots_pa F_shift_pa F_members_pa V_mb24 V_sl24 ht24 rfl rfl (own_nd hod)) hZ (hw _ (List.mem_of_getElem? (i := 27) rfl)) (hw _ (List.mem_of_getElem? (i := 3) rfl)) (by decide) (by decide)) q25a q25c (g := (mkF m 237 #[Si i0, Si i1, Si i2, Si i3, Si i4, Si dd, Si cn, Si pk, Si qq, Sr pa] [(.int qq), (.ref pa)])) rfl (by rw [hml]; rfl) (Steps.refl _) (argsL := [(.int qq)]) (rest := []) (lenOf pd_4 rfl) rfl (by show 2 * 0 + _ ≤ _; exact Nat.le_of_eq rfl) (hb hby at_237) (fun _ _ => ⟨rfl, e24, (by decide : 10 + 0 ≤ _), (by decide : 132 + 0 ≤ _)⟩)
                    dsimp only [Pt.U, Pt.locs, Pt.cells, Pt.slots] at X25 l25 y25 z25 st25 hQ25
                    subst l25 y25 z25
                    obtain ⟨rfl, N25q, e25⟩ := hQ25
                    have N25 := Fr.app N24 N25q
                    refine Go.on (fun _ k => st25.trans k) ?_
                    show Go _ _ _ _ _ _ _ _ (mkF m 240 #[Si i0, Si i1, Si i2, Si i3, Si i4, Si dd, Si cn, Si pk, Si qq, Sr pa] [(.int (findL [i0, (i0 + dd), (i0 + ((2 : Int32) * dd)), (i0 + ((3 : Int32) * dd)), (i0 + ((4 : Int32) * dd)), (i0 + ((5 : Int32) * dd)), (i0 + ((6 : Int32) * dd)), (i0 + ((7 : Int32) * dd)), (i0 + ((8 : Int32) * dd))] qq 0))])
                    refine Go.on (fun _ k => XS.iloadN X25.here hx rfl (hb hby at_240) rfl k) ?_
                    refine Go.on (fun _ k => XS.iload X25.here hx rfl (hb hby at_241) rfl k) ?_
                    refine Go.on (fun _ k => XS.iload X25.here hx rfl (hb hby at_243) rfl k) ?_
                    refine Go.on (fun _ k => XS.iload X25.here hx rfl (hb hby at_245) rfl k) ?_
                    show Go _ _ _ _ _ _ _ _ (mkF m 247 #[Si i0, Si i1, Si i2, Si i3, Si i4, Si dd, Si cn, Si pk, Si qq, Sr pa] [(.int qq), (.int cn), (.int dd), (.int i0), (.int (findL [i0, (i0 + dd), (i0 + ((2 : Int32) * dd)), (i0 + ((3 : Int32) * dd)), (i0 + ((4 : Int32) * dd)), (i0 + ((5 : Int32) * dd)), (i0 + ((6 : Int32) * dd)), (i0 + ((7 : Int32) * dd)), (i0 + ((8 : Int32) * dd))] qq 0))])
                    obtain ⟨_, _, ⟨T26, L26, k26, n26⟩, -, X26, ⟨Lc26, hQ26, l26, y26, z26⟩, st26⟩ := Jvm.LawKit.callS X25 hx (y := (⟨"com/example/due_weight/dueweight/core/PairsIndexOfPinLaw", "expected", "(IIII)I"⟩ : MethodName)) hown (mvT hZ (hw _ (List.mem_of_getElem? (i := 54) rfl))) (mvT hZ (hw _ (List.mem_of_getElem? (i := 55) rfl))) (mvT hZ (hw _ (List.mem_of_getElem? (i := 56) rfl))) (mvT hZ (hw _ (List.mem_of_getElem? (i := 57) rfl))) (by decide) (backOf (W := 1) (rm9 l Z aw hw [] i0 dd cn qq  h24 n0 ZZ ) hZ (hw _ (List.mem_of_getElem? (i := 57) rfl)) (hw _ (List.mem_of_getElem? (i := 56) rfl)) (by decide) (by decide)) (g := (mkF m 247 #[Si i0, Si i1, Si i2, Si i3, Si i4, Si dd, Si cn, Si pk, Si qq, Sr pa] [(.int qq), (.int cn), (.int dd), (.int i0), (.int (findL [i0, (i0 + dd), (i0 + ((2 : Int32) * dd)), (i0 + ((3 : Int32) * dd)), (i0 + ((4 : Int32) * dd)), (i0 + ((5 : Int32) * dd)), (i0 + ((6 : Int32) * dd)), (i0 + ((7 : Int32) * dd)), (i0 + ((8 : Int32) * dd))] qq 0))])) rfl (by rw [hml]; rfl) (argsL := [(.int i0), (.int dd), (.int cn), (.int qq)]) (rest := [(.int (findL [i0, (i0 + dd), (i0 + ((2 : Int32) * dd)), (i0 + ((3 : Int32) * dd)), (i0 + ((4 : Int32) * dd)), (i0 + ((5 : Int32) * dd)), (i0 + ((6 : Int32) * dd)), (i0 + ((7 : Int32) * dd)), (i0 + ((8 : Int32) * dd))] qq 0))]) (lenOf pd_11 rfl) rfl (by show 2 * 0 + _ ≤ _; exact Nat.le_of_eq rfl) (hb hby at_247) (fun _ _ => ⟨rfl, e25, (by decide : 10 + 0 ≤ _), (by decide : 132 + 0 ≤ _)⟩)
                    dsimp only [Pt.U, Pt.locs, Pt.cells, Pt.slots] at X26 l26 y26 z26 st26 hQ26
                    subst l26 y26 z26
                    obtain ⟨rfl, N26q, e26⟩ := hQ26
                    have N26 := Fr.app N25 N26q
                    refine Go.on st26 ?_
                    show Go _ _ _ _ _ _ _ _ (mkF m 250 #[Si i0, Si i1, Si i2, Si i3, Si i4, Si dd, Si cn, Si pk, Si qq, Sr pa] [(.int (expT i0 dd cn qq)), (.int (findL [i0, (i0 + dd), (i0 + ((2 : Int32) * dd)), (i0 + ((3 : Int32) * dd)), (i0 + ((4 : Int32) * dd)), (i0 + ((5 : Int32) * dd)), (i0 + ((6 : Int32) * dd)), (i0 + ((7 : Int32) * dd)), (i0 + ((8 : Int32) * dd))] qq 0))])
                    have hc27 : (findL [i0, (i0 + dd), (i0 + ((2 : Int32) * dd)), (i0 + ((3 : Int32) * dd)), (i0 + ((4 : Int32) * dd)), (i0 + ((5 : Int32) * dd)), (i0 + ((6 : Int32) * dd)), (i0 + ((7 : Int32) * dd)), (i0 + ((8 : Int32) * dd))] qq 0) = (expT i0 dd cn qq) := own_e9 hod hc23
                    refine Go.on (fun _ k => XS.icmpNo X26.here hx rfl (hb hby at_250) rfl (teq hc27).2 k) ?_
                    refine Go.on (fun _ k => XS.iconst X26.here hx rfl (hb hby at_253) k) ?_
                    refine Go.on (fun _ k => XS.goto X26.here hx rfl (pc0 := 254) (pc' := 258) rfl (hb hby at_254) (by decide) (by decide) k) ?_
                    show Go _ _ _ _ _ _ _ _ (mkF m 258 #[Si i0, Si i1, Si i2, Si i3, Si i4, Si dd, Si cn, Si pk, Si qq, Sr pa] [(.int 1)])
                    refine Go.retN X26 hx (t := .boolean) Bd.returns (by simp) (hb hby at_258) ?_ (by rw [hK1]; decide) (by rw [hK2]; decide)
                    rw [e26, ← hQQ]
                    exact ⟨rfl, N26⟩
                  · -- pc 216 no
                    refine Go.on (fun _ k => XS.icmpYes X22.here hx rfl (pc0 := 216) (pc' := 233) rfl (hb hby at_216) rfl (flt hc23).2.2.2 (by decide) (by decide) k) ?_
                    show Go _ _ _ _ _ _ _ _ (mkF m 233 #[Si i0, Si i1, Si i2, Si i3, Si i4, Si dd, Si cn, Si pk, Si qq, Sr pa] [])
                    refine Go.on (fun _ k => XS.aload X22.here hx rfl (hb hby at_233) rfl rfl k) ?_
                    refine Go.on (fun _ k => XS.iload X22.here hx rfl (hb hby at_235) rfl k) ?_
                    show Go _ _ _ _ _ _ _ _ (mkF m 237 #[Si i0, Si i1, Si i2, Si i3, Si i4, Si dd, Si cn, Si pk, Si qq, Sr pa] [(.int qq), (.ref pa)])
                    obtain ⟨cq28, kq28, q28a, q28b, q28c⟩ := isOf hZ e22 E_pa
                    obtain ⟨_, _, ⟨T28, L28, k28, n28⟩, -, X28, ⟨Lc28, hQ28, l28, y28, z28⟩, st28⟩ := X22.virtualBack hx (y := (⟨"com/example/due_weight/dueweight/core/Pairs", "indexOf", "(I)I"⟩ : MethodName)) (z := (⟨"com/example/due_weight/dueweight/core/Pairs", "indexOf", "(I)I"⟩ : MethodName)) hown (mvT hZ (hw _ (List.mem_of_getElem? (i := 53) rfl))) (mvT hZ (hw _ (List.mem_of_getElem? (i := 24) rfl))) (notFace_of_selects (args := #[]) (mvT hZ (hw _ (List.mem_of_getElem? (i := 26) rfl)))) (mvT hZ (hw _ (List.mem_of_getElem? (i := 26) rfl))) (mvT hZ (hw _ (List.mem_of_getElem? (i := 25) rfl))) (by decide) (backOf (W := 0) (ixl l Z aw hw [] pa qq [i0, (i0 + dd), (i0 + ((2 : Int32) * dd)), (i0 + ((3 : Int32) * dd)), (i0 + ((4 : Int32) * dd)), (i0 + ((5 : Int32) * dd)), (i0 + ((6 : Int32) * dd)), (i0 + ((7 : Int32) * dd))] [] (8 : Int32) mb22 k_mb22 (8 : Int32) [(.int i0), (.int (i0 + dd)), (.int (i0 + ((2 : Int32) * dd))), (.int (i0 + ((3 : Int32) * dd))), (.int (i0 + ((4 : Int32) * dd))), (.int (i0 + ((5 : Int32) * dd))), (.int (i0 + ((6 : Int32) * dd))), (.int (i0 + ((7 : Int32) * dd)))] h22 n0 ZZ F_slots_pa F_length_pa F_members_pa V_mb22 rfl (by decide) rfl) hZ (hw _ (List.mem_of_getElem? (i := 27) rfl)) (hw _ (List.mem_of_getElem? (i := 3) rfl)) (by decide) (by decide)) q28a q28c (g := (mkF m 237 #[Si i0, Si i1, Si i2, Si i3, Si i4, Si dd, Si cn, Si pk, Si qq, Sr pa] [(.int qq), (.ref pa)])) rfl (by rw [hml]; rfl) (Steps.refl _) (argsL := [(.int qq)]) (rest := []) (lenOf pd_4 rfl) rfl (by show 2 * 0 + _ ≤ _; exact Nat.le_of_eq rfl) (hb hby at_237) (fun _ _ => ⟨rfl, e22, (by decide : 7 + 0 ≤ _), (by decide : 36 + 0 ≤ _)⟩)
                    dsimp only [Pt.U, Pt.locs, Pt.cells, Pt.slots] at X28 l28 y28 z28 st28 hQ28
                    subst l28 y28 z28
                    obtain ⟨rfl, N28q, e28⟩ := hQ28
                    have N28 := Fr.app N22 N28q
                    refine Go.on (fun _ k => st28.trans k) ?_
                    show Go _ _ _ _ _ _ _ _ (mkF m 240 #[Si i0, Si i1, Si i2, Si i3, Si i4, Si dd, Si cn, Si pk, Si qq, Sr pa] [(.int (findL [i0, (i0 + dd), (i0 + ((2 : Int32) * dd)), (i0 + ((3 : Int32) * dd)), (i0 + ((4 : Int32) * dd)), (i0 + ((5 : Int32) * dd)), (i0 + ((6 : Int32) * dd)), (i0 + ((7 : Int32) * dd))] qq 0))])
                    refine Go.on (fun _ k => XS.iloadN X28.here hx rfl (hb hby at_240) rfl k) ?_
                    refine Go.on (fun _ k => XS.iload X28.here hx rfl (hb hby at_241) rfl k) ?_
                    refine Go.on (fun _ k => XS.iload X28.here hx rfl (hb hby at_243) rfl k) ?_
                    refine Go.on (fun _ k => XS.iload X28.here hx rfl (hb hby at_245) rfl k) ?_
                    show Go _ _ _ _ _ _ _ _ (mkF m 247 #[Si i0, Si i1, Si i2, Si i3, Si i4, Si dd, Si cn, Si pk, Si qq, Sr pa] [(.int qq), (.int cn), (.int dd), (.int i0), (.int (findL [i0, (i0 + dd), (i0 + ((2 : Int32) * dd)), (i0 + ((3 : Int32) * dd)), (i0 + ((4 : Int32) * dd)), (i0 + ((5 : Int32) * dd)), (i0 + ((6 : Int32) * dd)), (i0 + ((7 : Int32) * dd))] qq 0))])
                    obtain ⟨_, _, ⟨T29, L29, k29, n29⟩, -, X29, ⟨Lc29, hQ29, l29, y29, z29⟩, st29⟩ := Jvm.LawKit.callS X28 hx (y := (⟨"com/example/due_weight/dueweight/core/PairsIndexOfPinLaw", "expected", "(IIII)I"⟩ : MethodName)) hown (mvT hZ (hw _ (List.mem_of_getElem? (i := 54) rfl))) (mvT hZ (hw _ (List.mem_of_getElem? (i := 55) rfl))) (mvT hZ (hw _ (List.mem_of_getElem? (i := 56) rfl))) (mvT hZ (hw _ (List.mem_of_getElem? (i := 57) rfl))) (by decide) (backOf (W := 1) (rm9 l Z aw hw [] i0 dd cn qq  h22 n0 ZZ ) hZ (hw _ (List.mem_of_getElem? (i := 57) rfl)) (hw _ (List.mem_of_getElem? (i := 56) rfl)) (by decide) (by decide)) (g := (mkF m 247 #[Si i0, Si i1, Si i2, Si i3, Si i4, Si dd, Si cn, Si pk, Si qq, Sr pa] [(.int qq), (.int cn), (.int dd), (.int i0), (.int (findL [i0, (i0 + dd), (i0 + ((2 : Int32) * dd)), (i0 + ((3 : Int32) * dd)), (i0 + ((4 : Int32) * dd)), (i0 + ((5 : Int32) * dd)), (i0 + ((6 : Int32) * dd)), (i0 + ((7 : Int32) * dd))] qq 0))])) rfl (by rw [hml]; rfl) (argsL := [(.int i0), (.int dd), (.int cn), (.int qq)]) (rest := [(.int (findL [i0, (i0 + dd), (i0 + ((2 : Int32) * dd)), (i0 + ((3 : Int32) * dd)), (i0 + ((4 : Int32) * dd)), (i0 + ((5 : Int32) * dd)), (i0 + ((6 : Int32) * dd)), (i0 + ((7 : Int32) * dd))] qq 0))]) (lenOf pd_11 rfl) rfl (by show 2 * 0 + _ ≤ _; exact Nat.le_of_eq rfl) (hb hby at_247) (fun _ _ => ⟨rfl, e28, (by decide : 7 + 0 ≤ _), (by decide : 36 + 0 ≤ _)⟩)
                    dsimp only [Pt.U, Pt.locs, Pt.cells, Pt.slots] at X29 l29 y29 z29 st29 hQ29
                    subst l29 y29 z29
                    obtain ⟨rfl, N29q, e29⟩ := hQ29
                    have N29 := Fr.app N28 N29q
                    refine Go.on st29 ?_
                    show Go _ _ _ _ _ _ _ _ (mkF m 250 #[Si i0, Si i1, Si i2, Si i3, Si i4, Si dd, Si cn, Si pk, Si qq, Sr pa] [(.int (expT i0 dd cn qq)), (.int (findL [i0, (i0 + dd), (i0 + ((2 : Int32) * dd)), (i0 + ((3 : Int32) * dd)), (i0 + ((4 : Int32) * dd)), (i0 + ((5 : Int32) * dd)), (i0 + ((6 : Int32) * dd)), (i0 + ((7 : Int32) * dd))] qq 0))])
                    have hc30 : (findL [i0, (i0 + dd), (i0 + ((2 : Int32) * dd)), (i0 + ((3 : Int32) * dd)), (i0 + ((4 : Int32) * dd)), (i0 + ((5 : Int32) * dd)), (i0 + ((6 : Int32) * dd)), (i0 + ((7 : Int32) * dd))] qq 0) = (expT i0 dd cn qq) := own_ei (i := 7) hod (by decide) hc21 hc23
                    refine Go.on (fun _ k => XS.icmpNo X29.here hx rfl (hb hby at_250) rfl (teq hc30).2 k) ?_
                    refine Go.on (fun _ k => XS.iconst X29.here hx rfl (hb hby at_253) k) ?_
                    refine Go.on (fun _ k => XS.goto X29.here hx rfl (pc0 := 254) (pc' := 258) rfl (hb hby at_254) (by decide) (by decide) k) ?_
                    show Go _ _ _ _ _ _ _ _ (mkF m 258 #[Si i0, Si i1, Si i2, Si i3, Si i4, Si dd, Si cn, Si pk, Si qq, Sr pa] [(.int 1)])
                    refine Go.retN X29 hx (t := .boolean) Bd.returns (by simp) (hb hby at_258) ?_ (by rw [hK1]; decide) (by rw [hK2]; decide)
                    rw [e29, ← hQQ]
                    exact ⟨rfl, N29⟩
                · -- pc 195 no
                  refine Go.on (fun _ k => XS.icmpYes X20.here hx rfl (pc0 := 195) (pc' := 212) rfl (hb hby at_195) rfl (flt hc21).2.2.2 (by decide) (by decide) k) ?_
                  show Go _ _ _ _ _ _ _ _ (mkF m 212 #[Si i0, Si i1, Si i2, Si i3, Si i4, Si dd, Si cn, Si pk, Si qq, Sr pa] [])
                  refine Go.on (fun _ k => XS.iload X20.here hx rfl (hb hby at_212) rfl k) ?_
                  refine Go.on (fun _ k => XS.bipush X20.here hx rfl (hb hby at_214) k) ?_
                  show Go _ _ _ _ _ _ _ _ (mkF m 216 #[Si i0, Si i1, Si i2, Si i3, Si i4, Si dd, Si cn, Si pk, Si qq, Sr pa] [(.int 8), (.int cn)])
                  have hc31 : ¬ ((8 : Int32) < cn) := own_later (j := 7) (k := 8) hc21 (by decide) (by decide)
                  refine Go.on (fun _ k => XS.icmpYes X20.here hx rfl (pc0 := 216) (pc' := 233) rfl (hb hby at_216) rfl (flt hc31).2.2.2 (by decide) (by decide) k) ?_
                  refine Go.on (fun _ k => XS.aload X20.here hx rfl (hb hby at_233) rfl rfl k) ?_
                  refine Go.on (fun _ k => XS.iload X20.here hx rfl (hb hby at_235) rfl k) ?_
                  show Go _ _ _ _ _ _ _ _ (mkF m 237 #[Si i0, Si i1, Si i2, Si i3, Si i4, Si dd, Si cn, Si pk, Si qq, Sr pa] [(.int qq), (.ref pa)])
                  obtain ⟨cq32, kq32, q32a, q32b, q32c⟩ := isOf hZ e20 E_pa
                  obtain ⟨_, _, ⟨T32, L32, k32, n32⟩, -, X32, ⟨Lc32, hQ32, l32, y32, z32⟩, st32⟩ := X20.virtualBack hx (y := (⟨"com/example/due_weight/dueweight/core/Pairs", "indexOf", "(I)I"⟩ : MethodName)) (z := (⟨"com/example/due_weight/dueweight/core/Pairs", "indexOf", "(I)I"⟩ : MethodName)) hown (mvT hZ (hw _ (List.mem_of_getElem? (i := 53) rfl))) (mvT hZ (hw _ (List.mem_of_getElem? (i := 24) rfl))) (notFace_of_selects (args := #[]) (mvT hZ (hw _ (List.mem_of_getElem? (i := 26) rfl)))) (mvT hZ (hw _ (List.mem_of_getElem? (i := 26) rfl))) (mvT hZ (hw _ (List.mem_of_getElem? (i := 25) rfl))) (by decide) (backOf (W := 0) (ixl l Z aw hw [] pa qq [i0, (i0 + dd), (i0 + ((2 : Int32) * dd)), (i0 + ((3 : Int32) * dd)), (i0 + ((4 : Int32) * dd)), (i0 + ((5 : Int32) * dd)), (i0 + ((6 : Int32) * dd))] [(.int (0 : Int32))] (7 : Int32) mb20 k_mb20 (8 : Int32) [(.int i0), (.int (i0 + dd)), (.int (i0 + ((2 : Int32) * dd))), (.int (i0 + ((3 : Int32) * dd))), (.int (i0 + ((4 : Int32) * dd))), (.int (i0 + ((5 : Int32) * dd))), (.int (i0 + ((6 : Int32) * dd))), (.int (0 : Int32))] h20 n0 ZZ F_slots_pa F_length_pa F_members_pa V_mb20 rfl (by decide) rfl) hZ (hw _ (List.mem_of_getElem? (i := 27) rfl)) (hw _ (List.mem_of_getElem? (i := 3) rfl)) (by decide) (by decide)) q32a q32c (g := (mkF m 237 #[Si i0, Si i1, Si i2, Si i3, Si i4, Si dd, Si cn, Si pk, Si qq, Sr pa] [(.int qq), (.ref pa)])) rfl (by rw [hml]; rfl) (Steps.refl _) (argsL := [(.int qq)]) (rest := []) (lenOf pd_4 rfl) rfl (by show 2 * 0 + _ ≤ _; exact Nat.le_of_eq rfl) (hb hby at_237) (fun _ _ => ⟨rfl, e20, (by decide : 7 + 0 ≤ _), (by decide : 36 + 0 ≤ _)⟩)
                  dsimp only [Pt.U, Pt.locs, Pt.cells, Pt.slots] at X32 l32 y32 z32 st32 hQ32
                  subst l32 y32 z32
                  obtain ⟨rfl, N32q, e32⟩ := hQ32
                  have N32 := Fr.app N20 N32q
                  refine Go.on (fun _ k => st32.trans k) ?_
                  show Go _ _ _ _ _ _ _ _ (mkF m 240 #[Si i0, Si i1, Si i2, Si i3, Si i4, Si dd, Si cn, Si pk, Si qq, Sr pa] [(.int (findL [i0, (i0 + dd), (i0 + ((2 : Int32) * dd)), (i0 + ((3 : Int32) * dd)), (i0 + ((4 : Int32) * dd)), (i0 + ((5 : Int32) * dd)), (i0 + ((6 : Int32) * dd))] qq 0))])
                  refine Go.on (fun _ k => XS.iloadN X32.here hx rfl (hb hby at_240) rfl k) ?_
                  refine Go.on (fun _ k => XS.iload X32.here hx rfl (hb hby at_241) rfl k) ?_
                  refine Go.on (fun _ k => XS.iload X32.here hx rfl (hb hby at_243) rfl k) ?_
                  refine Go.on (fun _ k => XS.iload X32.here hx rfl (hb hby at_245) rfl k) ?_
                  show Go _ _ _ _ _ _ _ _ (mkF m 247 #[Si i0, Si i1, Si i2, Si i3, Si i4, Si dd, Si cn, Si pk, Si qq, Sr pa] [(.int qq), (.int cn), (.int dd), (.int i0), (.int (findL [i0, (i0 + dd), (i0 + ((2 : Int32) * dd)), (i0 + ((3 : Int32) * dd)), (i0 + ((4 : Int32) * dd)), (i0 + ((5 : Int32) * dd)), (i0 + ((6 : Int32) * dd))] qq 0))])
                  obtain ⟨_, _, ⟨T33, L33, k33, n33⟩, -, X33, ⟨Lc33, hQ33, l33, y33, z33⟩, st33⟩ := Jvm.LawKit.callS X32 hx (y := (⟨"com/example/due_weight/dueweight/core/PairsIndexOfPinLaw", "expected", "(IIII)I"⟩ : MethodName)) hown (mvT hZ (hw _ (List.mem_of_getElem? (i := 54) rfl))) (mvT hZ (hw _ (List.mem_of_getElem? (i := 55) rfl))) (mvT hZ (hw _ (List.mem_of_getElem? (i := 56) rfl))) (mvT hZ (hw _ (List.mem_of_getElem? (i := 57) rfl))) (by decide) (backOf (W := 1) (rm9 l Z aw hw [] i0 dd cn qq  h20 n0 ZZ ) hZ (hw _ (List.mem_of_getElem? (i := 57) rfl)) (hw _ (List.mem_of_getElem? (i := 56) rfl)) (by decide) (by decide)) (g := (mkF m 247 #[Si i0, Si i1, Si i2, Si i3, Si i4, Si dd, Si cn, Si pk, Si qq, Sr pa] [(.int qq), (.int cn), (.int dd), (.int i0), (.int (findL [i0, (i0 + dd), (i0 + ((2 : Int32) * dd)), (i0 + ((3 : Int32) * dd)), (i0 + ((4 : Int32) * dd)), (i0 + ((5 : Int32) * dd)), (i0 + ((6 : Int32) * dd))] qq 0))])) rfl (by rw [hml]; rfl) (argsL := [(.int i0), (.int dd), (.int cn), (.int qq)]) (rest := [(.int (findL [i0, (i0 + dd), (i0 + ((2 : Int32) * dd)), (i0 + ((3 : Int32) * dd)), (i0 + ((4 : Int32) * dd)), (i0 + ((5 : Int32) * dd)), (i0 + ((6 : Int32) * dd))] qq 0))]) (lenOf pd_11 rfl) rfl (by show 2 * 0 + _ ≤ _; exact Nat.le_of_eq rfl) (hb hby at_247) (fun _ _ => ⟨rfl, e32, (by decide : 7 + 0 ≤ _), (by decide : 36 + 0 ≤ _)⟩)
                  dsimp only [Pt.U, Pt.locs, Pt.cells, Pt.slots] at X33 l33 y33 z33 st33 hQ33
                  subst l33 y33 z33
                  obtain ⟨rfl, N33q, e33⟩ := hQ33
                  have N33 := Fr.app N32 N33q
                  refine Go.on st33 ?_
                  show Go _ _ _ _ _ _ _ _ (mkF m 250 #[Si i0, Si i1, Si i2, Si i3, Si i4, Si dd, Si cn, Si pk, Si qq, Sr pa] [(.int (expT i0 dd cn qq)), (.int (findL [i0, (i0 + dd), (i0 + ((2 : Int32) * dd)), (i0 + ((3 : Int32) * dd)), (i0 + ((4 : Int32) * dd)), (i0 + ((5 : Int32) * dd)), (i0 + ((6 : Int32) * dd))] qq 0))])
                  have hc34 : (findL [i0, (i0 + dd), (i0 + ((2 : Int32) * dd)), (i0 + ((3 : Int32) * dd)), (i0 + ((4 : Int32) * dd)), (i0 + ((5 : Int32) * dd)), (i0 + ((6 : Int32) * dd))] qq 0) = (expT i0 dd cn qq) := own_ei (i := 6) hod (by decide) hc19 hc21
                  refine Go.on (fun _ k => XS.icmpNo X33.here hx rfl (hb hby at_250) rfl (teq hc34).2 k) ?_
                  refine Go.on (fun _ k => XS.iconst X33.here hx rfl (hb hby at_253) k) ?_
                  refine Go.on (fun _ k => XS.goto X33.here hx rfl (pc0 := 254) (pc' := 258) rfl (hb hby at_254) (by decide) (by decide) k) ?_
                  show Go _ _ _ _ _ _ _ _ (mkF m 258 #[Si i0, Si i1, Si i2, Si i3, Si i4, Si dd, Si cn, Si pk, Si qq, Sr pa] [(.int 1)])
                  refine Go.retN X33 hx (t := .boolean) Bd.returns (by simp) (hb hby at_258) ?_ (by rw [hK1]; decide) (by rw [hK2]; decide)
                  rw [e33, ← hQQ]
                  exact ⟨rfl, N33⟩
              · -- pc 174 no
                refine Go.on (fun _ k => XS.icmpYes X18.here hx rfl (pc0 := 174) (pc' := 191) rfl (hb hby at_174) rfl (flt hc19).2.2.2 (by decide) (by decide) k) ?_
                show Go _ _ _ _ _ _ _ _ (mkF m 191 #[Si i0, Si i1, Si i2, Si i3, Si i4, Si dd, Si cn, Si pk, Si qq, Sr pa] [])
                refine Go.on (fun _ k => XS.iload X18.here hx rfl (hb hby at_191) rfl k) ?_
                refine Go.on (fun _ k => XS.bipush X18.here hx rfl (hb hby at_193) k) ?_
                show Go _ _ _ _ _ _ _ _ (mkF m 195 #[Si i0, Si i1, Si i2, Si i3, Si i4, Si dd, Si cn, Si pk, Si qq, Sr pa] [(.int 7), (.int cn)])
                have hc35 : ¬ ((7 : Int32) < cn) := own_later (j := 6) (k := 7) hc19 (by decide) (by decide)
                refine Go.on (fun _ k => XS.icmpYes X18.here hx rfl (pc0 := 195) (pc' := 212) rfl (hb hby at_195) rfl (flt hc35).2.2.2 (by decide) (by decide) k) ?_
                refine Go.on (fun _ k => XS.iload X18.here hx rfl (hb hby at_212) rfl k) ?_
                refine Go.on (fun _ k => XS.bipush X18.here hx rfl (hb hby at_214) k) ?_
                show Go _ _ _ _ _ _ _ _ (mkF m 216 #[Si i0, Si i1, Si i2, Si i3, Si i4, Si dd, Si cn, Si pk, Si qq, Sr pa] [(.int 8), (.int cn)])
                have hc36 : ¬ ((8 : Int32) < cn) := own_later (j := 6) (k := 8) hc19 (by decide) (by decide)
                refine Go.on (fun _ k => XS.icmpYes X18.here hx rfl (pc0 := 216) (pc' := 233) rfl (hb hby at_216) rfl (flt hc36).2.2.2 (by decide) (by decide) k) ?_
                refine Go.on (fun _ k => XS.aload X18.here hx rfl (hb hby at_233) rfl rfl k) ?_
                refine Go.on (fun _ k => XS.iload X18.here hx rfl (hb hby at_235) rfl k) ?_
                show Go _ _ _ _ _ _ _ _ (mkF m 237 #[Si i0, Si i1, Si i2, Si i3, Si i4, Si dd, Si cn, Si pk, Si qq, Sr pa] [(.int qq), (.ref pa)])
                obtain ⟨cq37, kq37, q37a, q37b, q37c⟩ := isOf hZ e18 E_pa
                obtain ⟨_, _, ⟨T37, L37, k37, n37⟩, -, X37, ⟨Lc37, hQ37, l37, y37, z37⟩, st37⟩ := X18.virtualBack hx (y := (⟨"com/example/due_weight/dueweight/core/Pairs", "indexOf", "(I)I"⟩ : MethodName)) (z := (⟨"com/example/due_weight/dueweight/core/Pairs", "indexOf", "(I)I"⟩ : MethodName)) hown (mvT hZ (hw _ (List.mem_of_getElem? (i := 53) rfl))) (mvT hZ (hw _ (List.mem_of_getElem? (i := 24) rfl))) (notFace_of_selects (args := #[]) (mvT hZ (hw _ (List.mem_of_getElem? (i := 26) rfl)))) (mvT hZ (hw _ (List.mem_of_getElem? (i := 26) rfl))) (mvT hZ (hw _ (List.mem_of_getElem? (i := 25) rfl))) (by decide) (backOf (W := 0) (ixl l Z aw hw [] pa qq [i0, (i0 + dd), (i0 + ((2 : Int32) * dd)), (i0 + ((3 : Int32) * dd)), (i0 + ((4 : Int32) * dd)), (i0 + ((5 : Int32) * dd))] [(.int (0 : Int32)), (.int (0 : Int32))] (6 : Int32) mb18 k_mb18 (8 : Int32) [(.int i0), (.int (i0 + dd)), (.int (i0 + ((2 : Int32) * dd))), (.int (i0 + ((3 : Int32) * dd))), (.int (i0 + ((4 : Int32) * dd))), (.int (i0 + ((5 : Int32) * dd))), (.int (0 : Int32)), (.int (0 : Int32))] h18 n0 ZZ F_slots_pa F_length_pa F_members_pa V_mb18 rfl (by decide) rfl) hZ (hw _ (List.mem_of_getElem? (i := 27) rfl)) (hw _ (List.mem_of_getElem? (i := 3) rfl)) (by decide) (by decide)) q37a q37c (g := (mkF m 237 #[Si i0, Si i1, Si i2, Si i3, Si i4, Si dd, Si cn, Si pk, Si qq, Sr pa] [(.int qq), (.ref pa)])) rfl (by rw [hml]; rfl) (Steps.refl _) (argsL := [(.int qq)]) (rest := []) (lenOf pd_4 rfl) rfl (by show 2 * 0 + _ ≤ _; exact Nat.le_of_eq rfl) (hb hby at_237) (fun _ _ => ⟨rfl, e18, (by decide : 7 + 0 ≤ _), (by decide : 36 + 0 ≤ _)⟩)
                dsimp only [Pt.U, Pt.locs, Pt.cells, Pt.slots] at X37 l37 y37 z37 st37 hQ37
                subst l37 y37 z37
                obtain ⟨rfl, N37q, e37⟩ := hQ37
                have N37 := Fr.app N18 N37q
                refine Go.on (fun _ k => st37.trans k) ?_
                show Go _ _ _ _ _ _ _ _ (mkF m 240 #[Si i0, Si i1, Si i2, Si i3, Si i4, Si dd, Si cn, Si pk, Si qq, Sr pa] [(.int (findL [i0, (i0 + dd), (i0 + ((2 : Int32) * dd)), (i0 + ((3 : Int32) * dd)), (i0 + ((4 : Int32) * dd)), (i0 + ((5 : Int32) * dd))] qq 0))])
                refine Go.on (fun _ k => XS.iloadN X37.here hx rfl (hb hby at_240) rfl k) ?_
                refine Go.on (fun _ k => XS.iload X37.here hx rfl (hb hby at_241) rfl k) ?_
                refine Go.on (fun _ k => XS.iload X37.here hx rfl (hb hby at_243) rfl k) ?_
                refine Go.on (fun _ k => XS.iload X37.here hx rfl (hb hby at_245) rfl k) ?_
                show Go _ _ _ _ _ _ _ _ (mkF m 247 #[Si i0, Si i1, Si i2, Si i3, Si i4, Si dd, Si cn, Si pk, Si qq, Sr pa] [(.int qq), (.int cn), (.int dd), (.int i0), (.int (findL [i0, (i0 + dd), (i0 + ((2 : Int32) * dd)), (i0 + ((3 : Int32) * dd)), (i0 + ((4 : Int32) * dd)), (i0 + ((5 : Int32) * dd))] qq 0))])
                obtain ⟨_, _, ⟨T38, L38, k38, n38⟩, -, X38, ⟨Lc38, hQ38, l38, y38, z38⟩, st38⟩ := Jvm.LawKit.callS X37 hx (y := (⟨"com/example/due_weight/dueweight/core/PairsIndexOfPinLaw", "expected", "(IIII)I"⟩ : MethodName)) hown (mvT hZ (hw _ (List.mem_of_getElem? (i := 54) rfl))) (mvT hZ (hw _ (List.mem_of_getElem? (i := 55) rfl))) (mvT hZ (hw _ (List.mem_of_getElem? (i := 56) rfl))) (mvT hZ (hw _ (List.mem_of_getElem? (i := 57) rfl))) (by decide) (backOf (W := 1) (rm9 l Z aw hw [] i0 dd cn qq  h18 n0 ZZ ) hZ (hw _ (List.mem_of_getElem? (i := 57) rfl)) (hw _ (List.mem_of_getElem? (i := 56) rfl)) (by decide) (by decide)) (g := (mkF m 247 #[Si i0, Si i1, Si i2, Si i3, Si i4, Si dd, Si cn, Si pk, Si qq, Sr pa] [(.int qq), (.int cn), (.int dd), (.int i0), (.int (findL [i0, (i0 + dd), (i0 + ((2 : Int32) * dd)), (i0 + ((3 : Int32) * dd)), (i0 + ((4 : Int32) * dd)), (i0 + ((5 : Int32) * dd))] qq 0))])) rfl (by rw [hml]; rfl) (argsL := [(.int i0), (.int dd), (.int cn), (.int qq)]) (rest := [(.int (findL [i0, (i0 + dd), (i0 + ((2 : Int32) * dd)), (i0 + ((3 : Int32) * dd)), (i0 + ((4 : Int32) * dd)), (i0 + ((5 : Int32) * dd))] qq 0))]) (lenOf pd_11 rfl) rfl (by show 2 * 0 + _ ≤ _; exact Nat.le_of_eq rfl) (hb hby at_247) (fun _ _ => ⟨rfl, e37, (by decide : 7 + 0 ≤ _), (by decide : 36 + 0 ≤ _)⟩)
                dsimp only [Pt.U, Pt.locs, Pt.cells, Pt.slots] at X38 l38 y38 z38 st38 hQ38
                subst l38 y38 z38
                obtain ⟨rfl, N38q, e38⟩ := hQ38
                have N38 := Fr.app N37 N38q
                refine Go.on st38 ?_
                show Go _ _ _ _ _ _ _ _ (mkF m 250 #[Si i0, Si i1, Si i2, Si i3, Si i4, Si dd, Si cn, Si pk, Si qq, Sr pa] [(.int (expT i0 dd cn qq)), (.int (findL [i0, (i0 + dd), (i0 + ((2 : Int32) * dd)), (i0 + ((3 : Int32) * dd)), (i0 + ((4 : Int32) * dd)), (i0 + ((5 : Int32) * dd))] qq 0))])
                have hc39 : (findL [i0, (i0 + dd), (i0 + ((2 : Int32) * dd)), (i0 + ((3 : Int32) * dd)), (i0 + ((4 : Int32) * dd)), (i0 + ((5 : Int32) * dd))] qq 0) = (expT i0 dd cn qq) := own_ei (i := 5) hod (by decide) hc17 hc19
                refine Go.on (fun _ k => XS.icmpNo X38.here hx rfl (hb hby at_250) rfl (teq hc39).2 k) ?_
                refine Go.on (fun _ k => XS.iconst X38.here hx rfl (hb hby at_253) k) ?_
                refine Go.on (fun _ k => XS.goto X38.here hx rfl (pc0 := 254) (pc' := 258) rfl (hb hby at_254) (by decide) (by decide) k) ?_
                show Go _ _ _ _ _ _ _ _ (mkF m 258 #[Si i0, Si i1, Si i2, Si i3, Si i4, Si dd, Si cn, Si pk, Si qq, Sr pa] [(.int 1)])
                refine Go.retN X38 hx (t := .boolean) Bd.returns (by simp) (hb hby at_258) ?_ (by rw [hK1]; decide) (by rw [hK2]; decide)
                rw [e38, ← hQQ]
                exact ⟨rfl, N38⟩
            · -- pc 154 no
              refine Go.on (fun _ k => XS.icmpYes X16.here hx rfl (pc0 := 154) (pc' := 170) rfl (hb hby at_154) rfl (flt hc17).2.2.2 (by decide) (by decide) k) ?_
              show Go _ _ _ _ _ _ _ _ (mkF m 170 #[Si i0, Si i1, Si i2, Si i3, Si i4, Si dd, Si cn, Si pk, Si qq, Sr pa] [])
              refine Go.on (fun _ k => XS.iload X16.here hx rfl (hb hby at_170) rfl k) ?_
              refine Go.on (fun _ k => XS.bipush X16.here hx rfl (hb hby at_172) k) ?_
              show Go _ _ _ _ _ _ _ _ (mkF m 174 #[Si i0, Si i1, Si i2, Si i3, Si i4, Si dd, Si cn, Si pk, Si qq, Sr pa] [(.int 6), (.int cn)])
              have hc40 : ¬ ((6 : Int32) < cn) := own_later (j := 5) (k := 6) hc17 (by decide) (by decide)
              refine Go.on (fun _ k => XS.icmpYes X16.here hx rfl (pc0 := 174) (pc' := 191) rfl (hb hby at_174) rfl (flt hc40).2.2.2 (by decide) (by decide) k) ?_
              refine Go.on (fun _ k => XS.iload X16.here hx rfl (hb hby at_191) rfl k) ?_
              refine Go.on (fun _ k => XS.bipush X16.here hx rfl (hb hby at_193) k) ?_
              show Go _ _ _ _ _ _ _ _ (mkF m 195 #[Si i0, Si i1, Si i2, Si i3, Si i4, Si dd, Si cn, Si pk, Si qq, Sr pa] [(.int 7), (.int cn)])
              have hc41 : ¬ ((7 : Int32) < cn) := own_later (j := 5) (k := 7) hc17 (by decide) (by decide)
              refine Go.on (fun _ k => XS.icmpYes X16.here hx rfl (pc0 := 195) (pc' := 212) rfl (hb hby at_195) rfl (flt hc41).2.2.2 (by decide) (by decide) k) ?_
              refine Go.on (fun _ k => XS.iload X16.here hx rfl (hb hby at_212) rfl k) ?_
              refine Go.on (fun _ k => XS.bipush X16.here hx rfl (hb hby at_214) k) ?_
              show Go _ _ _ _ _ _ _ _ (mkF m 216 #[Si i0, Si i1, Si i2, Si i3, Si i4, Si dd, Si cn, Si pk, Si qq, Sr pa] [(.int 8), (.int cn)])
              have hc42 : ¬ ((8 : Int32) < cn) := own_later (j := 5) (k := 8) hc17 (by decide) (by decide)
              refine Go.on (fun _ k => XS.icmpYes X16.here hx rfl (pc0 := 216) (pc' := 233) rfl (hb hby at_216) rfl (flt hc42).2.2.2 (by decide) (by decide) k) ?_
              refine Go.on (fun _ k => XS.aload X16.here hx rfl (hb hby at_233) rfl rfl k) ?_
              refine Go.on (fun _ k => XS.iload X16.here hx rfl (hb hby at_235) rfl k) ?_
              show Go _ _ _ _ _ _ _ _ (mkF m 237 #[Si i0, Si i1, Si i2, Si i3, Si i4, Si dd, Si cn, Si pk, Si qq, Sr pa] [(.int qq), (.ref pa)])
              obtain ⟨cq43, kq43, q43a, q43b, q43c⟩ := isOf hZ e16 E_pa
              obtain ⟨_, _, ⟨T43, L43, k43, n43⟩, -, X43, ⟨Lc43, hQ43, l43, y43, z43⟩, st43⟩ := X16.virtualBack hx (y := (⟨"com/example/due_weight/dueweight/core/Pairs", "indexOf", "(I)I"⟩ : MethodName)) (z := (⟨"com/example/due_weight/dueweight/core/Pairs", "indexOf", "(I)I"⟩ : MethodName)) hown (mvT hZ (hw _ (List.mem_of_getElem? (i := 53) rfl))) (mvT hZ (hw _ (List.mem_of_getElem? (i := 24) rfl))) (notFace_of_selects (args := #[]) (mvT hZ (hw _ (List.mem_of_getElem? (i := 26) rfl)))) (mvT hZ (hw _ (List.mem_of_getElem? (i := 26) rfl))) (mvT hZ (hw _ (List.mem_of_getElem? (i := 25) rfl))) (by decide) (backOf (W := 0) (ixl l Z aw hw [] pa qq [i0, (i0 + dd), (i0 + ((2 : Int32) * dd)), (i0 + ((3 : Int32) * dd)), (i0 + ((4 : Int32) * dd))] [(.int (0 : Int32)), (.int (0 : Int32)), (.int (0 : Int32))] (5 : Int32) mb16 k_mb16 (8 : Int32) [(.int i0), (.int (i0 + dd)), (.int (i0 + ((2 : Int32) * dd))), (.int (i0 + ((3 : Int32) * dd))), (.int (i0 + ((4 : Int32) * dd))), (.int (0 : Int32)), (.int (0 : Int32)), (.int (0 : Int32))] h16 n0 ZZ F_slots_pa F_length_pa F_members_pa V_mb16 rfl (by decide) rfl) hZ (hw _ (List.mem_of_getElem? (i := 27) rfl)) (hw _ (List.mem_of_getElem? (i := 3) rfl)) (by decide) (by decide)) q43a q43c (g := (mkF m 237 #[Si i0, Si i1, Si i2, Si i3, Si i4, Si dd, Si cn, Si pk, Si qq, Sr pa] [(.int qq), (.ref pa)])) rfl (by rw [hml]; rfl) (Steps.refl _) (argsL := [(.int qq)]) (rest := []) (lenOf pd_4 rfl) rfl (by show 2 * 0 + _ ≤ _; exact Nat.le_of_eq rfl) (hb hby at_237) (fun _ _ => ⟨rfl, e16, (by decide : 7 + 0 ≤ _), (by decide : 36 + 0 ≤ _)⟩)
              dsimp only [Pt.U, Pt.locs, Pt.cells, Pt.slots] at X43 l43 y43 z43 st43 hQ43
              subst l43 y43 z43
              obtain ⟨rfl, N43q, e43⟩ := hQ43
              have N43 := Fr.app N16 N43q
              refine Go.on (fun _ k => st43.trans k) ?_
              show Go _ _ _ _ _ _ _ _ (mkF m 240 #[Si i0, Si i1, Si i2, Si i3, Si i4, Si dd, Si cn, Si pk, Si qq, Sr pa] [(.int (findL [i0, (i0 + dd), (i0 + ((2 : Int32) * dd)), (i0 + ((3 : Int32) * dd)), (i0 + ((4 : Int32) * dd))] qq 0))])
              refine Go.on (fun _ k => XS.iloadN X43.here hx rfl (hb hby at_240) rfl k) ?_
              refine Go.on (fun _ k => XS.iload X43.here hx rfl (hb hby at_241) rfl k) ?_
              refine Go.on (fun _ k => XS.iload X43.here hx rfl (hb hby at_243) rfl k) ?_
              refine Go.on (fun _ k => XS.iload X43.here hx rfl (hb hby at_245) rfl k) ?_
              show Go _ _ _ _ _ _ _ _ (mkF m 247 #[Si i0, Si i1, Si i2, Si i3, Si i4, Si dd, Si cn, Si pk, Si qq, Sr pa] [(.int qq), (.int cn), (.int dd), (.int i0), (.int (findL [i0, (i0 + dd), (i0 + ((2 : Int32) * dd)), (i0 + ((3 : Int32) * dd)), (i0 + ((4 : Int32) * dd))] qq 0))])
              obtain ⟨_, _, ⟨T44, L44, k44, n44⟩, -, X44, ⟨Lc44, hQ44, l44, y44, z44⟩, st44⟩ := Jvm.LawKit.callS X43 hx (y := (⟨"com/example/due_weight/dueweight/core/PairsIndexOfPinLaw", "expected", "(IIII)I"⟩ : MethodName)) hown (mvT hZ (hw _ (List.mem_of_getElem? (i := 54) rfl))) (mvT hZ (hw _ (List.mem_of_getElem? (i := 55) rfl))) (mvT hZ (hw _ (List.mem_of_getElem? (i := 56) rfl))) (mvT hZ (hw _ (List.mem_of_getElem? (i := 57) rfl))) (by decide) (backOf (W := 1) (rm9 l Z aw hw [] i0 dd cn qq  h16 n0 ZZ ) hZ (hw _ (List.mem_of_getElem? (i := 57) rfl)) (hw _ (List.mem_of_getElem? (i := 56) rfl)) (by decide) (by decide)) (g := (mkF m 247 #[Si i0, Si i1, Si i2, Si i3, Si i4, Si dd, Si cn, Si pk, Si qq, Sr pa] [(.int qq), (.int cn), (.int dd), (.int i0), (.int (findL [i0, (i0 + dd), (i0 + ((2 : Int32) * dd)), (i0 + ((3 : Int32) * dd)), (i0 + ((4 : Int32) * dd))] qq 0))])) rfl (by rw [hml]; rfl) (argsL := [(.int i0), (.int dd), (.int cn), (.int qq)]) (rest := [(.int (findL [i0, (i0 + dd), (i0 + ((2 : Int32) * dd)), (i0 + ((3 : Int32) * dd)), (i0 + ((4 : Int32) * dd))] qq 0))]) (lenOf pd_11 rfl) rfl (by show 2 * 0 + _ ≤ _; exact Nat.le_of_eq rfl) (hb hby at_247) (fun _ _ => ⟨rfl, e43, (by decide : 7 + 0 ≤ _), (by decide : 36 + 0 ≤ _)⟩)
              dsimp only [Pt.U, Pt.locs, Pt.cells, Pt.slots] at X44 l44 y44 z44 st44 hQ44
              subst l44 y44 z44
              obtain ⟨rfl, N44q, e44⟩ := hQ44
              have N44 := Fr.app N43 N44q
              refine Go.on st44 ?_
              show Go _ _ _ _ _ _ _ _ (mkF m 250 #[Si i0, Si i1, Si i2, Si i3, Si i4, Si dd, Si cn, Si pk, Si qq, Sr pa] [(.int (expT i0 dd cn qq)), (.int (findL [i0, (i0 + dd), (i0 + ((2 : Int32) * dd)), (i0 + ((3 : Int32) * dd)), (i0 + ((4 : Int32) * dd))] qq 0))])
              have hc45 : (findL [i0, (i0 + dd), (i0 + ((2 : Int32) * dd)), (i0 + ((3 : Int32) * dd)), (i0 + ((4 : Int32) * dd))] qq 0) = (expT i0 dd cn qq) := own_ei (i := 4) hod (by decide) hc15 hc17
              refine Go.on (fun _ k => XS.icmpNo X44.here hx rfl (hb hby at_250) rfl (teq hc45).2 k) ?_
              refine Go.on (fun _ k => XS.iconst X44.here hx rfl (hb hby at_253) k) ?_
              refine Go.on (fun _ k => XS.goto X44.here hx rfl (pc0 := 254) (pc' := 258) rfl (hb hby at_254) (by decide) (by decide) k) ?_
              show Go _ _ _ _ _ _ _ _ (mkF m 258 #[Si i0, Si i1, Si i2, Si i3, Si i4, Si dd, Si cn, Si pk, Si qq, Sr pa] [(.int 1)])
              refine Go.retN X44 hx (t := .boolean) Bd.returns (by simp) (hb hby at_258) ?_ (by rw [hK1]; decide) (by rw [hK2]; decide)
              rw [e44, ← hQQ]
              exact ⟨rfl, N44⟩
          · -- pc 135 no
            refine Go.on (fun _ k => XS.icmpYes X14.here hx rfl (pc0 := 135) (pc' := 151) rfl (hb hby at_135) rfl (flt hc15).2.2.2 (by decide) (by decide) k) ?_
            show Go _ _ _ _ _ _ _ _ (mkF m 151 #[Si i0, Si i1, Si i2, Si i3, Si i4, Si dd, Si cn, Si pk, Si qq, Sr pa] [])
            refine Go.on (fun _ k => XS.iload X14.here hx rfl (hb hby at_151) rfl k) ?_
            refine Go.on (fun _ k => XS.iconst X14.here hx rfl (hb hby at_153) k) ?_
            show Go _ _ _ _ _ _ _ _ (mkF m 154 #[Si i0, Si i1, Si i2, Si i3, Si i4, Si dd, Si cn, Si pk, Si qq, Sr pa] [(.int 5), (.int cn)])
            have hc46 : ¬ ((5 : Int32) < cn) := own_later (j := 4) (k := 5) hc15 (by decide) (by decide)
            refine Go.on (fun _ k => XS.icmpYes X14.here hx rfl (pc0 := 154) (pc' := 170) rfl (hb hby at_154) rfl (flt hc46).2.2.2 (by decide) (by decide) k) ?_
            refine Go.on (fun _ k => XS.iload X14.here hx rfl (hb hby at_170) rfl k) ?_
            refine Go.on (fun _ k => XS.bipush X14.here hx rfl (hb hby at_172) k) ?_
            show Go _ _ _ _ _ _ _ _ (mkF m 174 #[Si i0, Si i1, Si i2, Si i3, Si i4, Si dd, Si cn, Si pk, Si qq, Sr pa] [(.int 6), (.int cn)])
            have hc47 : ¬ ((6 : Int32) < cn) := own_later (j := 4) (k := 6) hc15 (by decide) (by decide)
            refine Go.on (fun _ k => XS.icmpYes X14.here hx rfl (pc0 := 174) (pc' := 191) rfl (hb hby at_174) rfl (flt hc47).2.2.2 (by decide) (by decide) k) ?_
            refine Go.on (fun _ k => XS.iload X14.here hx rfl (hb hby at_191) rfl k) ?_
            refine Go.on (fun _ k => XS.bipush X14.here hx rfl (hb hby at_193) k) ?_
            show Go _ _ _ _ _ _ _ _ (mkF m 195 #[Si i0, Si i1, Si i2, Si i3, Si i4, Si dd, Si cn, Si pk, Si qq, Sr pa] [(.int 7), (.int cn)])
            have hc48 : ¬ ((7 : Int32) < cn) := own_later (j := 4) (k := 7) hc15 (by decide) (by decide)
            refine Go.on (fun _ k => XS.icmpYes X14.here hx rfl (pc0 := 195) (pc' := 212) rfl (hb hby at_195) rfl (flt hc48).2.2.2 (by decide) (by decide) k) ?_
            refine Go.on (fun _ k => XS.iload X14.here hx rfl (hb hby at_212) rfl k) ?_
            refine Go.on (fun _ k => XS.bipush X14.here hx rfl (hb hby at_214) k) ?_
            show Go _ _ _ _ _ _ _ _ (mkF m 216 #[Si i0, Si i1, Si i2, Si i3, Si i4, Si dd, Si cn, Si pk, Si qq, Sr pa] [(.int 8), (.int cn)])
            have hc49 : ¬ ((8 : Int32) < cn) := own_later (j := 4) (k := 8) hc15 (by decide) (by decide)
            refine Go.on (fun _ k => XS.icmpYes X14.here hx rfl (pc0 := 216) (pc' := 233) rfl (hb hby at_216) rfl (flt hc49).2.2.2 (by decide) (by decide) k) ?_
            refine Go.on (fun _ k => XS.aload X14.here hx rfl (hb hby at_233) rfl rfl k) ?_
            refine Go.on (fun _ k => XS.iload X14.here hx rfl (hb hby at_235) rfl k) ?_
            show Go _ _ _ _ _ _ _ _ (mkF m 237 #[Si i0, Si i1, Si i2, Si i3, Si i4, Si dd, Si cn, Si pk, Si qq, Sr pa] [(.int qq), (.ref pa)])
            obtain ⟨cq50, kq50, q50a, q50b, q50c⟩ := isOf hZ e14 E_pa
            obtain ⟨_, _, ⟨T50, L50, k50, n50⟩, -, X50, ⟨Lc50, hQ50, l50, y50, z50⟩, st50⟩ := X14.virtualBack hx (y := (⟨"com/example/due_weight/dueweight/core/Pairs", "indexOf", "(I)I"⟩ : MethodName)) (z := (⟨"com/example/due_weight/dueweight/core/Pairs", "indexOf", "(I)I"⟩ : MethodName)) hown (mvT hZ (hw _ (List.mem_of_getElem? (i := 53) rfl))) (mvT hZ (hw _ (List.mem_of_getElem? (i := 24) rfl))) (notFace_of_selects (args := #[]) (mvT hZ (hw _ (List.mem_of_getElem? (i := 26) rfl)))) (mvT hZ (hw _ (List.mem_of_getElem? (i := 26) rfl))) (mvT hZ (hw _ (List.mem_of_getElem? (i := 25) rfl))) (by decide) (backOf (W := 0) (ixl l Z aw hw [] pa qq [i0, (i0 + dd), (i0 + ((2 : Int32) * dd)), (i0 + ((3 : Int32) * dd))] [] (4 : Int32) mb14 k_mb14 (4 : Int32) [(.int i0), (.int (i0 + dd)), (.int (i0 + ((2 : Int32) * dd))), (.int (i0 + ((3 : Int32) * dd)))] h14 n0 ZZ F_slots_pa F_length_pa F_members_pa V_mb14 rfl (by decide) rfl) hZ (hw _ (List.mem_of_getElem? (i := 27) rfl)) (hw _ (List.mem_of_getElem? (i := 3) rfl)) (by decide) (by decide)) q50a q50c (g := (mkF m 237 #[Si i0, Si i1, Si i2, Si i3, Si i4, Si dd, Si cn, Si pk, Si qq, Sr pa] [(.int qq), (.ref pa)])) rfl (by rw [hml]; rfl) (Steps.refl _) (argsL := [(.int qq)]) (rest := []) (lenOf pd_4 rfl) rfl (by show 2 * 0 + _ ≤ _; exact Nat.le_of_eq rfl) (hb hby at_237) (fun _ _ => ⟨rfl, e14, (by decide : 5 + 0 ≤ _), (by decide : 20 + 0 ≤ _)⟩)
            dsimp only [Pt.U, Pt.locs, Pt.cells, Pt.slots] at X50 l50 y50 z50 st50 hQ50
            subst l50 y50 z50
            obtain ⟨rfl, N50q, e50⟩ := hQ50
            have N50 := Fr.app N14 N50q
            refine Go.on (fun _ k => st50.trans k) ?_
            show Go _ _ _ _ _ _ _ _ (mkF m 240 #[Si i0, Si i1, Si i2, Si i3, Si i4, Si dd, Si cn, Si pk, Si qq, Sr pa] [(.int (findL [i0, (i0 + dd), (i0 + ((2 : Int32) * dd)), (i0 + ((3 : Int32) * dd))] qq 0))])
            refine Go.on (fun _ k => XS.iloadN X50.here hx rfl (hb hby at_240) rfl k) ?_
            refine Go.on (fun _ k => XS.iload X50.here hx rfl (hb hby at_241) rfl k) ?_
            refine Go.on (fun _ k => XS.iload X50.here hx rfl (hb hby at_243) rfl k) ?_
            refine Go.on (fun _ k => XS.iload X50.here hx rfl (hb hby at_245) rfl k) ?_
            show Go _ _ _ _ _ _ _ _ (mkF m 247 #[Si i0, Si i1, Si i2, Si i3, Si i4, Si dd, Si cn, Si pk, Si qq, Sr pa] [(.int qq), (.int cn), (.int dd), (.int i0), (.int (findL [i0, (i0 + dd), (i0 + ((2 : Int32) * dd)), (i0 + ((3 : Int32) * dd))] qq 0))])
            obtain ⟨_, _, ⟨T51, L51, k51, n51⟩, -, X51, ⟨Lc51, hQ51, l51, y51, z51⟩, st51⟩ := Jvm.LawKit.callS X50 hx (y := (⟨"com/example/due_weight/dueweight/core/PairsIndexOfPinLaw", "expected", "(IIII)I"⟩ : MethodName)) hown (mvT hZ (hw _ (List.mem_of_getElem? (i := 54) rfl))) (mvT hZ (hw _ (List.mem_of_getElem? (i := 55) rfl))) (mvT hZ (hw _ (List.mem_of_getElem? (i := 56) rfl))) (mvT hZ (hw _ (List.mem_of_getElem? (i := 57) rfl))) (by decide) (backOf (W := 1) (rm9 l Z aw hw [] i0 dd cn qq  h14 n0 ZZ ) hZ (hw _ (List.mem_of_getElem? (i := 57) rfl)) (hw _ (List.mem_of_getElem? (i := 56) rfl)) (by decide) (by decide)) (g := (mkF m 247 #[Si i0, Si i1, Si i2, Si i3, Si i4, Si dd, Si cn, Si pk, Si qq, Sr pa] [(.int qq), (.int cn), (.int dd), (.int i0), (.int (findL [i0, (i0 + dd), (i0 + ((2 : Int32) * dd)), (i0 + ((3 : Int32) * dd))] qq 0))])) rfl (by rw [hml]; rfl) (argsL := [(.int i0), (.int dd), (.int cn), (.int qq)]) (rest := [(.int (findL [i0, (i0 + dd), (i0 + ((2 : Int32) * dd)), (i0 + ((3 : Int32) * dd))] qq 0))]) (lenOf pd_11 rfl) rfl (by show 2 * 0 + _ ≤ _; exact Nat.le_of_eq rfl) (hb hby at_247) (fun _ _ => ⟨rfl, e50, (by decide : 5 + 0 ≤ _), (by decide : 20 + 0 ≤ _)⟩)
            dsimp only [Pt.U, Pt.locs, Pt.cells, Pt.slots] at X51 l51 y51 z51 st51 hQ51
            subst l51 y51 z51
            obtain ⟨rfl, N51q, e51⟩ := hQ51
            have N51 := Fr.app N50 N51q
            refine Go.on st51 ?_
            show Go _ _ _ _ _ _ _ _ (mkF m 250 #[Si i0, Si i1, Si i2, Si i3, Si i4, Si dd, Si cn, Si pk, Si qq, Sr pa] [(.int (expT i0 dd cn qq)), (.int (findL [i0, (i0 + dd), (i0 + ((2 : Int32) * dd)), (i0 + ((3 : Int32) * dd))] qq 0))])
            have hc52 : (findL [i0, (i0 + dd), (i0 + ((2 : Int32) * dd)), (i0 + ((3 : Int32) * dd))] qq 0) = (expT i0 dd cn qq) := own_ei (i := 3) hod (by decide) hc13 hc15
            refine Go.on (fun _ k => XS.icmpNo X51.here hx rfl (hb hby at_250) rfl (teq hc52).2 k) ?_
            refine Go.on (fun _ k => XS.iconst X51.here hx rfl (hb hby at_253) k) ?_
            refine Go.on (fun _ k => XS.goto X51.here hx rfl (pc0 := 254) (pc' := 258) rfl (hb hby at_254) (by decide) (by decide) k) ?_
            show Go _ _ _ _ _ _ _ _ (mkF m 258 #[Si i0, Si i1, Si i2, Si i3, Si i4, Si dd, Si cn, Si pk, Si qq, Sr pa] [(.int 1)])
            refine Go.retN X51 hx (t := .boolean) Bd.returns (by simp) (hb hby at_258) ?_ (by rw [hK1]; decide) (by rw [hK2]; decide)
            rw [e51, ← hQQ]
            exact ⟨rfl, N51⟩
        · -- pc 116 no
          refine Go.on (fun _ k => XS.icmpYes X12.here hx rfl (pc0 := 116) (pc' := 132) rfl (hb hby at_116) rfl (flt hc13).2.2.2 (by decide) (by decide) k) ?_
          show Go _ _ _ _ _ _ _ _ (mkF m 132 #[Si i0, Si i1, Si i2, Si i3, Si i4, Si dd, Si cn, Si pk, Si qq, Sr pa] [])
          refine Go.on (fun _ k => XS.iload X12.here hx rfl (hb hby at_132) rfl k) ?_
          refine Go.on (fun _ k => XS.iconst X12.here hx rfl (hb hby at_134) k) ?_
          show Go _ _ _ _ _ _ _ _ (mkF m 135 #[Si i0, Si i1, Si i2, Si i3, Si i4, Si dd, Si cn, Si pk, Si qq, Sr pa] [(.int 4), (.int cn)])
          have hc53 : ¬ ((4 : Int32) < cn) := own_later (j := 3) (k := 4) hc13 (by decide) (by decide)
          refine Go.on (fun _ k => XS.icmpYes X12.here hx rfl (pc0 := 135) (pc' := 151) rfl (hb hby at_135) rfl (flt hc53).2.2.2 (by decide) (by decide) k) ?_
          refine Go.on (fun _ k => XS.iload X12.here hx rfl (hb hby at_151) rfl k) ?_
          refine Go.on (fun _ k => XS.iconst X12.here hx rfl (hb hby at_153) k) ?_
          show Go _ _ _ _ _ _ _ _ (mkF m 154 #[Si i0, Si i1, Si i2, Si i3, Si i4, Si dd, Si cn, Si pk, Si qq, Sr pa] [(.int 5), (.int cn)])
          have hc54 : ¬ ((5 : Int32) < cn) := own_later (j := 3) (k := 5) hc13 (by decide) (by decide)
          refine Go.on (fun _ k => XS.icmpYes X12.here hx rfl (pc0 := 154) (pc' := 170) rfl (hb hby at_154) rfl (flt hc54).2.2.2 (by decide) (by decide) k) ?_
          refine Go.on (fun _ k => XS.iload X12.here hx rfl (hb hby at_170) rfl k) ?_
          refine Go.on (fun _ k => XS.bipush X12.here hx rfl (hb hby at_172) k) ?_
          show Go _ _ _ _ _ _ _ _ (mkF m 174 #[Si i0, Si i1, Si i2, Si i3, Si i4, Si dd, Si cn, Si pk, Si qq, Sr pa] [(.int 6), (.int cn)])
          have hc55 : ¬ ((6 : Int32) < cn) := own_later (j := 3) (k := 6) hc13 (by decide) (by decide)
          refine Go.on (fun _ k => XS.icmpYes X12.here hx rfl (pc0 := 174) (pc' := 191) rfl (hb hby at_174) rfl (flt hc55).2.2.2 (by decide) (by decide) k) ?_
          refine Go.on (fun _ k => XS.iload X12.here hx rfl (hb hby at_191) rfl k) ?_
          refine Go.on (fun _ k => XS.bipush X12.here hx rfl (hb hby at_193) k) ?_
          show Go _ _ _ _ _ _ _ _ (mkF m 195 #[Si i0, Si i1, Si i2, Si i3, Si i4, Si dd, Si cn, Si pk, Si qq, Sr pa] [(.int 7), (.int cn)])
          have hc56 : ¬ ((7 : Int32) < cn) := own_later (j := 3) (k := 7) hc13 (by decide) (by decide)
          refine Go.on (fun _ k => XS.icmpYes X12.here hx rfl (pc0 := 195) (pc' := 212) rfl (hb hby at_195) rfl (flt hc56).2.2.2 (by decide) (by decide) k) ?_
          refine Go.on (fun _ k => XS.iload X12.here hx rfl (hb hby at_212) rfl k) ?_
          refine Go.on (fun _ k => XS.bipush X12.here hx rfl (hb hby at_214) k) ?_
          show Go _ _ _ _ _ _ _ _ (mkF m 216 #[Si i0, Si i1, Si i2, Si i3, Si i4, Si dd, Si cn, Si pk, Si qq, Sr pa] [(.int 8), (.int cn)])
          have hc57 : ¬ ((8 : Int32) < cn) := own_later (j := 3) (k := 8) hc13 (by decide) (by decide)
          refine Go.on (fun _ k => XS.icmpYes X12.here hx rfl (pc0 := 216) (pc' := 233) rfl (hb hby at_216) rfl (flt hc57).2.2.2 (by decide) (by decide) k) ?_
          refine Go.on (fun _ k => XS.aload X12.here hx rfl (hb hby at_233) rfl rfl k) ?_
          refine Go.on (fun _ k => XS.iload X12.here hx rfl (hb hby at_235) rfl k) ?_
          show Go _ _ _ _ _ _ _ _ (mkF m 237 #[Si i0, Si i1, Si i2, Si i3, Si i4, Si dd, Si cn, Si pk, Si qq, Sr pa] [(.int qq), (.ref pa)])
          obtain ⟨cq58, kq58, q58a, q58b, q58c⟩ := isOf hZ e12 E_pa
          obtain ⟨_, _, ⟨T58, L58, k58, n58⟩, -, X58, ⟨Lc58, hQ58, l58, y58, z58⟩, st58⟩ := X12.virtualBack hx (y := (⟨"com/example/due_weight/dueweight/core/Pairs", "indexOf", "(I)I"⟩ : MethodName)) (z := (⟨"com/example/due_weight/dueweight/core/Pairs", "indexOf", "(I)I"⟩ : MethodName)) hown (mvT hZ (hw _ (List.mem_of_getElem? (i := 53) rfl))) (mvT hZ (hw _ (List.mem_of_getElem? (i := 24) rfl))) (notFace_of_selects (args := #[]) (mvT hZ (hw _ (List.mem_of_getElem? (i := 26) rfl)))) (mvT hZ (hw _ (List.mem_of_getElem? (i := 26) rfl))) (mvT hZ (hw _ (List.mem_of_getElem? (i := 25) rfl))) (by decide) (backOf (W := 0) (ixl l Z aw hw [] pa qq [i0, (i0 + dd), (i0 + ((2 : Int32) * dd))] [(.int (0 : Int32))] (3 : Int32) mb12 k_mb12 (4 : Int32) [(.int i0), (.int (i0 + dd)), (.int (i0 + ((2 : Int32) * dd))), (.int (0 : Int32))] h12 n0 ZZ F_slots_pa F_length_pa F_members_pa V_mb12 rfl (by decide) rfl) hZ (hw _ (List.mem_of_getElem? (i := 27) rfl)) (hw _ (List.mem_of_getElem? (i := 3) rfl)) (by decide) (by decide)) q58a q58c (g := (mkF m 237 #[Si i0, Si i1, Si i2, Si i3, Si i4, Si dd, Si cn, Si pk, Si qq, Sr pa] [(.int qq), (.ref pa)])) rfl (by rw [hml]; rfl) (Steps.refl _) (argsL := [(.int qq)]) (rest := []) (lenOf pd_4 rfl) rfl (by show 2 * 0 + _ ≤ _; exact Nat.le_of_eq rfl) (hb hby at_237) (fun _ _ => ⟨rfl, e12, (by decide : 5 + 0 ≤ _), (by decide : 20 + 0 ≤ _)⟩)
          dsimp only [Pt.U, Pt.locs, Pt.cells, Pt.slots] at X58 l58 y58 z58 st58 hQ58
          subst l58 y58 z58
          obtain ⟨rfl, N58q, e58⟩ := hQ58
          have N58 := Fr.app N12 N58q
          refine Go.on (fun _ k => st58.trans k) ?_
          show Go _ _ _ _ _ _ _ _ (mkF m 240 #[Si i0, Si i1, Si i2, Si i3, Si i4, Si dd, Si cn, Si pk, Si qq, Sr pa] [(.int (findL [i0, (i0 + dd), (i0 + ((2 : Int32) * dd))] qq 0))])
          refine Go.on (fun _ k => XS.iloadN X58.here hx rfl (hb hby at_240) rfl k) ?_
          refine Go.on (fun _ k => XS.iload X58.here hx rfl (hb hby at_241) rfl k) ?_
          refine Go.on (fun _ k => XS.iload X58.here hx rfl (hb hby at_243) rfl k) ?_
          refine Go.on (fun _ k => XS.iload X58.here hx rfl (hb hby at_245) rfl k) ?_
          show Go _ _ _ _ _ _ _ _ (mkF m 247 #[Si i0, Si i1, Si i2, Si i3, Si i4, Si dd, Si cn, Si pk, Si qq, Sr pa] [(.int qq), (.int cn), (.int dd), (.int i0), (.int (findL [i0, (i0 + dd), (i0 + ((2 : Int32) * dd))] qq 0))])
          obtain ⟨_, _, ⟨T59, L59, k59, n59⟩, -, X59, ⟨Lc59, hQ59, l59, y59, z59⟩, st59⟩ := Jvm.LawKit.callS X58 hx (y := (⟨"com/example/due_weight/dueweight/core/PairsIndexOfPinLaw", "expected", "(IIII)I"⟩ : MethodName)) hown (mvT hZ (hw _ (List.mem_of_getElem? (i := 54) rfl))) (mvT hZ (hw _ (List.mem_of_getElem? (i := 55) rfl))) (mvT hZ (hw _ (List.mem_of_getElem? (i := 56) rfl))) (mvT hZ (hw _ (List.mem_of_getElem? (i := 57) rfl))) (by decide) (backOf (W := 1) (rm9 l Z aw hw [] i0 dd cn qq  h12 n0 ZZ ) hZ (hw _ (List.mem_of_getElem? (i := 57) rfl)) (hw _ (List.mem_of_getElem? (i := 56) rfl)) (by decide) (by decide)) (g := (mkF m 247 #[Si i0, Si i1, Si i2, Si i3, Si i4, Si dd, Si cn, Si pk, Si qq, Sr pa] [(.int qq), (.int cn), (.int dd), (.int i0), (.int (findL [i0, (i0 + dd), (i0 + ((2 : Int32) * dd))] qq 0))])) rfl (by rw [hml]; rfl) (argsL := [(.int i0), (.int dd), (.int cn), (.int qq)]) (rest := [(.int (findL [i0, (i0 + dd), (i0 + ((2 : Int32) * dd))] qq 0))]) (lenOf pd_11 rfl) rfl (by show 2 * 0 + _ ≤ _; exact Nat.le_of_eq rfl) (hb hby at_247) (fun _ _ => ⟨rfl, e58, (by decide : 5 + 0 ≤ _), (by decide : 20 + 0 ≤ _)⟩)
          dsimp only [Pt.U, Pt.locs, Pt.cells, Pt.slots] at X59 l59 y59 z59 st59 hQ59
          subst l59 y59 z59
          obtain ⟨rfl, N59q, e59⟩ := hQ59
          have N59 := Fr.app N58 N59q
          refine Go.on st59 ?_
          show Go _ _ _ _ _ _ _ _ (mkF m 250 #[Si i0, Si i1, Si i2, Si i3, Si i4, Si dd, Si cn, Si pk, Si qq, Sr pa] [(.int (expT i0 dd cn qq)), (.int (findL [i0, (i0 + dd), (i0 + ((2 : Int32) * dd))] qq 0))])
          have hc60 : (findL [i0, (i0 + dd), (i0 + ((2 : Int32) * dd))] qq 0) = (expT i0 dd cn qq) := own_ei (i := 2) hod (by decide) hc11 hc13
          refine Go.on (fun _ k => XS.icmpNo X59.here hx rfl (hb hby at_250) rfl (teq hc60).2 k) ?_
          refine Go.on (fun _ k => XS.iconst X59.here hx rfl (hb hby at_253) k) ?_
          refine Go.on (fun _ k => XS.goto X59.here hx rfl (pc0 := 254) (pc' := 258) rfl (hb hby at_254) (by decide) (by decide) k) ?_
          show Go _ _ _ _ _ _ _ _ (mkF m 258 #[Si i0, Si i1, Si i2, Si i3, Si i4, Si dd, Si cn, Si pk, Si qq, Sr pa] [(.int 1)])
          refine Go.retN X59 hx (t := .boolean) Bd.returns (by simp) (hb hby at_258) ?_ (by rw [hK1]; decide) (by rw [hK2]; decide)
          rw [e59, ← hQQ]
          exact ⟨rfl, N59⟩
      · -- pc 97 no
        refine Go.on (fun _ k => XS.icmpYes X10.here hx rfl (pc0 := 97) (pc' := 113) rfl (hb hby at_97) rfl (flt hc11).2.2.2 (by decide) (by decide) k) ?_
        show Go _ _ _ _ _ _ _ _ (mkF m 113 #[Si i0, Si i1, Si i2, Si i3, Si i4, Si dd, Si cn, Si pk, Si qq, Sr pa] [])
        refine Go.on (fun _ k => XS.iload X10.here hx rfl (hb hby at_113) rfl k) ?_
        refine Go.on (fun _ k => XS.iconst X10.here hx rfl (hb hby at_115) k) ?_
        show Go _ _ _ _ _ _ _ _ (mkF m 116 #[Si i0, Si i1, Si i2, Si i3, Si i4, Si dd, Si cn, Si pk, Si qq, Sr pa] [(.int 3), (.int cn)])
        have hc61 : ¬ ((3 : Int32) < cn) := own_later (j := 2) (k := 3) hc11 (by decide) (by decide)
        refine Go.on (fun _ k => XS.icmpYes X10.here hx rfl (pc0 := 116) (pc' := 132) rfl (hb hby at_116) rfl (flt hc61).2.2.2 (by decide) (by decide) k) ?_
        refine Go.on (fun _ k => XS.iload X10.here hx rfl (hb hby at_132) rfl k) ?_
        refine Go.on (fun _ k => XS.iconst X10.here hx rfl (hb hby at_134) k) ?_
        show Go _ _ _ _ _ _ _ _ (mkF m 135 #[Si i0, Si i1, Si i2, Si i3, Si i4, Si dd, Si cn, Si pk, Si qq, Sr pa] [(.int 4), (.int cn)])
        have hc62 : ¬ ((4 : Int32) < cn) := own_later (j := 2) (k := 4) hc11 (by decide) (by decide)
        refine Go.on (fun _ k => XS.icmpYes X10.here hx rfl (pc0 := 135) (pc' := 151) rfl (hb hby at_135) rfl (flt hc62).2.2.2 (by decide) (by decide) k) ?_
        refine Go.on (fun _ k => XS.iload X10.here hx rfl (hb hby at_151) rfl k) ?_
        refine Go.on (fun _ k => XS.iconst X10.here hx rfl (hb hby at_153) k) ?_
        show Go _ _ _ _ _ _ _ _ (mkF m 154 #[Si i0, Si i1, Si i2, Si i3, Si i4, Si dd, Si cn, Si pk, Si qq, Sr pa] [(.int 5), (.int cn)])
        have hc63 : ¬ ((5 : Int32) < cn) := own_later (j := 2) (k := 5) hc11 (by decide) (by decide)
        refine Go.on (fun _ k => XS.icmpYes X10.here hx rfl (pc0 := 154) (pc' := 170) rfl (hb hby at_154) rfl (flt hc63).2.2.2 (by decide) (by decide) k) ?_
        refine Go.on (fun _ k => XS.iload X10.here hx rfl (hb hby at_170) rfl k) ?_
        refine Go.on (fun _ k => XS.bipush X10.here hx rfl (hb hby at_172) k) ?_
        show Go _ _ _ _ _ _ _ _ (mkF m 174 #[Si i0, Si i1, Si i2, Si i3, Si i4, Si dd, Si cn, Si pk, Si qq, Sr pa] [(.int 6), (.int cn)])
        have hc64 : ¬ ((6 : Int32) < cn) := own_later (j := 2) (k := 6) hc11 (by decide) (by decide)
        refine Go.on (fun _ k => XS.icmpYes X10.here hx rfl (pc0 := 174) (pc' := 191) rfl (hb hby at_174) rfl (flt hc64).2.2.2 (by decide) (by decide) k) ?_
        refine Go.on (fun _ k => XS.iload X10.here hx rfl (hb hby at_191) rfl k) ?_
        refine Go.on (fun _ k => XS.bipush X10.here hx rfl (hb hby at_193) k) ?_
        show Go _ _ _ _ _ _ _ _ (mkF m 195 #[Si i0, Si i1, Si i2, Si i3, Si i4, Si dd, Si cn, Si pk, Si qq, Sr pa] [(.int 7), (.int cn)])
        have hc65 : ¬ ((7 : Int32) < cn) := own_later (j := 2) (k := 7) hc11 (by decide) (by decide)
        refine Go.on (fun _ k => XS.icmpYes X10.here hx rfl (pc0 := 195) (pc' := 212) rfl (hb hby at_195) rfl (flt hc65).2.2.2 (by decide) (by decide) k) ?_
        refine Go.on (fun _ k => XS.iload X10.here hx rfl (hb hby at_212) rfl k) ?_
        refine Go.on (fun _ k => XS.bipush X10.here hx rfl (hb hby at_214) k) ?_
        show Go _ _ _ _ _ _ _ _ (mkF m 216 #[Si i0, Si i1, Si i2, Si i3, Si i4, Si dd, Si cn, Si pk, Si qq, Sr pa] [(.int 8), (.int cn)])
        have hc66 : ¬ ((8 : Int32) < cn) := own_later (j := 2) (k := 8) hc11 (by decide) (by decide)
        refine Go.on (fun _ k => XS.icmpYes X10.here hx rfl (pc0 := 216) (pc' := 233) rfl (hb hby at_216) rfl (flt hc66).2.2.2 (by decide) (by decide) k) ?_
        refine Go.on (fun _ k => XS.aload X10.here hx rfl (hb hby at_233) rfl rfl k) ?_
        refine Go.on (fun _ k => XS.iload X10.here hx rfl (hb hby at_235) rfl k) ?_
        show Go _ _ _ _ _ _ _ _ (mkF m 237 #[Si i0, Si i1, Si i2, Si i3, Si i4, Si dd, Si cn, Si pk, Si qq, Sr pa] [(.int qq), (.ref pa)])
        obtain ⟨cq67, kq67, q67a, q67b, q67c⟩ := isOf hZ e10 E_pa
        obtain ⟨_, _, ⟨T67, L67, k67, n67⟩, -, X67, ⟨Lc67, hQ67, l67, y67, z67⟩, st67⟩ := X10.virtualBack hx (y := (⟨"com/example/due_weight/dueweight/core/Pairs", "indexOf", "(I)I"⟩ : MethodName)) (z := (⟨"com/example/due_weight/dueweight/core/Pairs", "indexOf", "(I)I"⟩ : MethodName)) hown (mvT hZ (hw _ (List.mem_of_getElem? (i := 53) rfl))) (mvT hZ (hw _ (List.mem_of_getElem? (i := 24) rfl))) (notFace_of_selects (args := #[]) (mvT hZ (hw _ (List.mem_of_getElem? (i := 26) rfl)))) (mvT hZ (hw _ (List.mem_of_getElem? (i := 26) rfl))) (mvT hZ (hw _ (List.mem_of_getElem? (i := 25) rfl))) (by decide) (backOf (W := 0) (ixl l Z aw hw [] pa qq [i0, (i0 + dd)] [] (2 : Int32) mb10 k_mb10 (2 : Int32) [(.int i0), (.int (i0 + dd))] h10 n0 ZZ F_slots_pa F_length_pa F_members_pa V_mb10 rfl (by decide) rfl) hZ (hw _ (List.mem_of_getElem? (i := 27) rfl)) (hw _ (List.mem_of_getElem? (i := 3) rfl)) (by decide) (by decide)) q67a q67c (g := (mkF m 237 #[Si i0, Si i1, Si i2, Si i3, Si i4, Si dd, Si cn, Si pk, Si qq, Sr pa] [(.int qq), (.ref pa)])) rfl (by rw [hml]; rfl) (Steps.refl _) (argsL := [(.int qq)]) (rest := []) (lenOf pd_4 rfl) rfl (by show 2 * 0 + _ ≤ _; exact Nat.le_of_eq rfl) (hb hby at_237) (fun _ _ => ⟨rfl, e10, (by decide : 3 + 0 ≤ _), (by decide : 12 + 0 ≤ _)⟩)
        dsimp only [Pt.U, Pt.locs, Pt.cells, Pt.slots] at X67 l67 y67 z67 st67 hQ67
        subst l67 y67 z67
        obtain ⟨rfl, N67q, e67⟩ := hQ67
        have N67 := Fr.app N10 N67q
        refine Go.on (fun _ k => st67.trans k) ?_
        show Go _ _ _ _ _ _ _ _ (mkF m 240 #[Si i0, Si i1, Si i2, Si i3, Si i4, Si dd, Si cn, Si pk, Si qq, Sr pa] [(.int (findL [i0, (i0 + dd)] qq 0))])
        refine Go.on (fun _ k => XS.iloadN X67.here hx rfl (hb hby at_240) rfl k) ?_
        refine Go.on (fun _ k => XS.iload X67.here hx rfl (hb hby at_241) rfl k) ?_
        refine Go.on (fun _ k => XS.iload X67.here hx rfl (hb hby at_243) rfl k) ?_
        refine Go.on (fun _ k => XS.iload X67.here hx rfl (hb hby at_245) rfl k) ?_
        show Go _ _ _ _ _ _ _ _ (mkF m 247 #[Si i0, Si i1, Si i2, Si i3, Si i4, Si dd, Si cn, Si pk, Si qq, Sr pa] [(.int qq), (.int cn), (.int dd), (.int i0), (.int (findL [i0, (i0 + dd)] qq 0))])
        obtain ⟨_, _, ⟨T68, L68, k68, n68⟩, -, X68, ⟨Lc68, hQ68, l68, y68, z68⟩, st68⟩ := Jvm.LawKit.callS X67 hx (y := (⟨"com/example/due_weight/dueweight/core/PairsIndexOfPinLaw", "expected", "(IIII)I"⟩ : MethodName)) hown (mvT hZ (hw _ (List.mem_of_getElem? (i := 54) rfl))) (mvT hZ (hw _ (List.mem_of_getElem? (i := 55) rfl))) (mvT hZ (hw _ (List.mem_of_getElem? (i := 56) rfl))) (mvT hZ (hw _ (List.mem_of_getElem? (i := 57) rfl))) (by decide) (backOf (W := 1) (rm9 l Z aw hw [] i0 dd cn qq  h10 n0 ZZ ) hZ (hw _ (List.mem_of_getElem? (i := 57) rfl)) (hw _ (List.mem_of_getElem? (i := 56) rfl)) (by decide) (by decide)) (g := (mkF m 247 #[Si i0, Si i1, Si i2, Si i3, Si i4, Si dd, Si cn, Si pk, Si qq, Sr pa] [(.int qq), (.int cn), (.int dd), (.int i0), (.int (findL [i0, (i0 + dd)] qq 0))])) rfl (by rw [hml]; rfl) (argsL := [(.int i0), (.int dd), (.int cn), (.int qq)]) (rest := [(.int (findL [i0, (i0 + dd)] qq 0))]) (lenOf pd_11 rfl) rfl (by show 2 * 0 + _ ≤ _; exact Nat.le_of_eq rfl) (hb hby at_247) (fun _ _ => ⟨rfl, e67, (by decide : 3 + 0 ≤ _), (by decide : 12 + 0 ≤ _)⟩)
        dsimp only [Pt.U, Pt.locs, Pt.cells, Pt.slots] at X68 l68 y68 z68 st68 hQ68
        subst l68 y68 z68
        obtain ⟨rfl, N68q, e68⟩ := hQ68
        have N68 := Fr.app N67 N68q
        refine Go.on st68 ?_
        show Go _ _ _ _ _ _ _ _ (mkF m 250 #[Si i0, Si i1, Si i2, Si i3, Si i4, Si dd, Si cn, Si pk, Si qq, Sr pa] [(.int (expT i0 dd cn qq)), (.int (findL [i0, (i0 + dd)] qq 0))])
        have hc69 : (findL [i0, (i0 + dd)] qq 0) = (expT i0 dd cn qq) := own_ei (i := 1) hod (by decide) hc9 hc11
        refine Go.on (fun _ k => XS.icmpNo X68.here hx rfl (hb hby at_250) rfl (teq hc69).2 k) ?_
        refine Go.on (fun _ k => XS.iconst X68.here hx rfl (hb hby at_253) k) ?_
        refine Go.on (fun _ k => XS.goto X68.here hx rfl (pc0 := 254) (pc' := 258) rfl (hb hby at_254) (by decide) (by decide) k) ?_
        show Go _ _ _ _ _ _ _ _ (mkF m 258 #[Si i0, Si i1, Si i2, Si i3, Si i4, Si dd, Si cn, Si pk, Si qq, Sr pa] [(.int 1)])
        refine Go.retN X68 hx (t := .boolean) Bd.returns (by simp) (hb hby at_258) ?_ (by rw [hK1]; decide) (by rw [hK2]; decide)
        rw [e68, ← hQQ]
        exact ⟨rfl, N68⟩
    · -- pc 80 no
      refine Go.on (fun _ k => XS.icmpYes X8.here hx rfl (pc0 := 80) (pc' := 94) rfl (hb hby at_80) rfl (flt hc9).2.2.2 (by decide) (by decide) k) ?_
      show Go _ _ _ _ _ _ _ _ (mkF m 94 #[Si i0, Si i1, Si i2, Si i3, Si i4, Si dd, Si cn, Si pk, Si qq, Sr pa] [])
      refine Go.on (fun _ k => XS.iload X8.here hx rfl (hb hby at_94) rfl k) ?_
      refine Go.on (fun _ k => XS.iconst X8.here hx rfl (hb hby at_96) k) ?_
      show Go _ _ _ _ _ _ _ _ (mkF m 97 #[Si i0, Si i1, Si i2, Si i3, Si i4, Si dd, Si cn, Si pk, Si qq, Sr pa] [(.int 2), (.int cn)])
      have hc70 : ¬ ((2 : Int32) < cn) := own_later (j := 1) (k := 2) hc9 (by decide) (by decide)
      refine Go.on (fun _ k => XS.icmpYes X8.here hx rfl (pc0 := 97) (pc' := 113) rfl (hb hby at_97) rfl (flt hc70).2.2.2 (by decide) (by decide) k) ?_
      refine Go.on (fun _ k => XS.iload X8.here hx rfl (hb hby at_113) rfl k) ?_
      refine Go.on (fun _ k => XS.iconst X8.here hx rfl (hb hby at_115) k) ?_
      show Go _ _ _ _ _ _ _ _ (mkF m 116 #[Si i0, Si i1, Si i2, Si i3, Si i4, Si dd, Si cn, Si pk, Si qq, Sr pa] [(.int 3), (.int cn)])
      have hc71 : ¬ ((3 : Int32) < cn) := own_later (j := 1) (k := 3) hc9 (by decide) (by decide)
      refine Go.on (fun _ k => XS.icmpYes X8.here hx rfl (pc0 := 116) (pc' := 132) rfl (hb hby at_116) rfl (flt hc71).2.2.2 (by decide) (by decide) k) ?_
      refine Go.on (fun _ k => XS.iload X8.here hx rfl (hb hby at_132) rfl k) ?_
      refine Go.on (fun _ k => XS.iconst X8.here hx rfl (hb hby at_134) k) ?_
      show Go _ _ _ _ _ _ _ _ (mkF m 135 #[Si i0, Si i1, Si i2, Si i3, Si i4, Si dd, Si cn, Si pk, Si qq, Sr pa] [(.int 4), (.int cn)])
      have hc72 : ¬ ((4 : Int32) < cn) := own_later (j := 1) (k := 4) hc9 (by decide) (by decide)
      refine Go.on (fun _ k => XS.icmpYes X8.here hx rfl (pc0 := 135) (pc' := 151) rfl (hb hby at_135) rfl (flt hc72).2.2.2 (by decide) (by decide) k) ?_
      refine Go.on (fun _ k => XS.iload X8.here hx rfl (hb hby at_151) rfl k) ?_
      refine Go.on (fun _ k => XS.iconst X8.here hx rfl (hb hby at_153) k) ?_
      show Go _ _ _ _ _ _ _ _ (mkF m 154 #[Si i0, Si i1, Si i2, Si i3, Si i4, Si dd, Si cn, Si pk, Si qq, Sr pa] [(.int 5), (.int cn)])
      have hc73 : ¬ ((5 : Int32) < cn) := own_later (j := 1) (k := 5) hc9 (by decide) (by decide)
      refine Go.on (fun _ k => XS.icmpYes X8.here hx rfl (pc0 := 154) (pc' := 170) rfl (hb hby at_154) rfl (flt hc73).2.2.2 (by decide) (by decide) k) ?_
      refine Go.on (fun _ k => XS.iload X8.here hx rfl (hb hby at_170) rfl k) ?_
      refine Go.on (fun _ k => XS.bipush X8.here hx rfl (hb hby at_172) k) ?_
      show Go _ _ _ _ _ _ _ _ (mkF m 174 #[Si i0, Si i1, Si i2, Si i3, Si i4, Si dd, Si cn, Si pk, Si qq, Sr pa] [(.int 6), (.int cn)])
      have hc74 : ¬ ((6 : Int32) < cn) := own_later (j := 1) (k := 6) hc9 (by decide) (by decide)
      refine Go.on (fun _ k => XS.icmpYes X8.here hx rfl (pc0 := 174) (pc' := 191) rfl (hb hby at_174) rfl (flt hc74).2.2.2 (by decide) (by decide) k) ?_
      refine Go.on (fun _ k => XS.iload X8.here hx rfl (hb hby at_191) rfl k) ?_
      refine Go.on (fun _ k => XS.bipush X8.here hx rfl (hb hby at_193) k) ?_
      show Go _ _ _ _ _ _ _ _ (mkF m 195 #[Si i0, Si i1, Si i2, Si i3, Si i4, Si dd, Si cn, Si pk, Si qq, Sr pa] [(.int 7), (.int cn)])
      have hc75 : ¬ ((7 : Int32) < cn) := own_later (j := 1) (k := 7) hc9 (by decide) (by decide)
      refine Go.on (fun _ k => XS.icmpYes X8.here hx rfl (pc0 := 195) (pc' := 212) rfl (hb hby at_195) rfl (flt hc75).2.2.2 (by decide) (by decide) k) ?_
      refine Go.on (fun _ k => XS.iload X8.here hx rfl (hb hby at_212) rfl k) ?_
      refine Go.on (fun _ k => XS.bipush X8.here hx rfl (hb hby at_214) k) ?_
      show Go _ _ _ _ _ _ _ _ (mkF m 216 #[Si i0, Si i1, Si i2, Si i3, Si i4, Si dd, Si cn, Si pk, Si qq, Sr pa] [(.int 8), (.int cn)])
      have hc76 : ¬ ((8 : Int32) < cn) := own_later (j := 1) (k := 8) hc9 (by decide) (by decide)
      refine Go.on (fun _ k => XS.icmpYes X8.here hx rfl (pc0 := 216) (pc' := 233) rfl (hb hby at_216) rfl (flt hc76).2.2.2 (by decide) (by decide) k) ?_
      refine Go.on (fun _ k => XS.aload X8.here hx rfl (hb hby at_233) rfl rfl k) ?_
      refine Go.on (fun _ k => XS.iload X8.here hx rfl (hb hby at_235) rfl k) ?_
      show Go _ _ _ _ _ _ _ _ (mkF m 237 #[Si i0, Si i1, Si i2, Si i3, Si i4, Si dd, Si cn, Si pk, Si qq, Sr pa] [(.int qq), (.ref pa)])
      obtain ⟨cq77, kq77, q77a, q77b, q77c⟩ := isOf hZ e8 E_pa
      obtain ⟨_, _, ⟨T77, L77, k77, n77⟩, -, X77, ⟨Lc77, hQ77, l77, y77, z77⟩, st77⟩ := X8.virtualBack hx (y := (⟨"com/example/due_weight/dueweight/core/Pairs", "indexOf", "(I)I"⟩ : MethodName)) (z := (⟨"com/example/due_weight/dueweight/core/Pairs", "indexOf", "(I)I"⟩ : MethodName)) hown (mvT hZ (hw _ (List.mem_of_getElem? (i := 53) rfl))) (mvT hZ (hw _ (List.mem_of_getElem? (i := 24) rfl))) (notFace_of_selects (args := #[]) (mvT hZ (hw _ (List.mem_of_getElem? (i := 26) rfl)))) (mvT hZ (hw _ (List.mem_of_getElem? (i := 26) rfl))) (mvT hZ (hw _ (List.mem_of_getElem? (i := 25) rfl))) (by decide) (backOf (W := 0) (ixl l Z aw hw [] pa qq [i0] [(.int (0 : Int32))] (1 : Int32) mb8 k_mb8 (2 : Int32) [(.int i0), (.int (0 : Int32))] h8 n0 ZZ F_slots_pa F_length_pa F_members_pa V_mb8 rfl (by decide) rfl) hZ (hw _ (List.mem_of_getElem? (i := 27) rfl)) (hw _ (List.mem_of_getElem? (i := 3) rfl)) (by decide) (by decide)) q77a q77c (g := (mkF m 237 #[Si i0, Si i1, Si i2, Si i3, Si i4, Si dd, Si cn, Si pk, Si qq, Sr pa] [(.int qq), (.ref pa)])) rfl (by rw [hml]; rfl) (Steps.refl _) (argsL := [(.int qq)]) (rest := []) (lenOf pd_4 rfl) rfl (by show 2 * 0 + _ ≤ _; exact Nat.le_of_eq rfl) (hb hby at_237) (fun _ _ => ⟨rfl, e8, (by decide : 3 + 0 ≤ _), (by decide : 12 + 0 ≤ _)⟩)
      dsimp only [Pt.U, Pt.locs, Pt.cells, Pt.slots] at X77 l77 y77 z77 st77 hQ77
      subst l77 y77 z77
      obtain ⟨rfl, N77q, e77⟩ := hQ77
      have N77 := Fr.app N8 N77q
      refine Go.on (fun _ k => st77.trans k) ?_
      show Go _ _ _ _ _ _ _ _ (mkF m 240 #[Si i0, Si i1, Si i2, Si i3, Si i4, Si dd, Si cn, Si pk, Si qq, Sr pa] [(.int (findL [i0] qq 0))])
      refine Go.on (fun _ k => XS.iloadN X77.here hx rfl (hb hby at_240) rfl k) ?_
      refine Go.on (fun _ k => XS.iload X77.here hx rfl (hb hby at_241) rfl k) ?_
      refine Go.on (fun _ k => XS.iload X77.here hx rfl (hb hby at_243) rfl k) ?_
      refine Go.on (fun _ k => XS.iload X77.here hx rfl (hb hby at_245) rfl k) ?_
      show Go _ _ _ _ _ _ _ _ (mkF m 247 #[Si i0, Si i1, Si i2, Si i3, Si i4, Si dd, Si cn, Si pk, Si qq, Sr pa] [(.int qq), (.int cn), (.int dd), (.int i0), (.int (findL [i0] qq 0))])
      obtain ⟨_, _, ⟨T78, L78, k78, n78⟩, -, X78, ⟨Lc78, hQ78, l78, y78, z78⟩, st78⟩ := Jvm.LawKit.callS X77 hx (y := (⟨"com/example/due_weight/dueweight/core/PairsIndexOfPinLaw", "expected", "(IIII)I"⟩ : MethodName)) hown (mvT hZ (hw _ (List.mem_of_getElem? (i := 54) rfl))) (mvT hZ (hw _ (List.mem_of_getElem? (i := 55) rfl))) (mvT hZ (hw _ (List.mem_of_getElem? (i := 56) rfl))) (mvT hZ (hw _ (List.mem_of_getElem? (i := 57) rfl))) (by decide) (backOf (W := 1) (rm9 l Z aw hw [] i0 dd cn qq  h8 n0 ZZ ) hZ (hw _ (List.mem_of_getElem? (i := 57) rfl)) (hw _ (List.mem_of_getElem? (i := 56) rfl)) (by decide) (by decide)) (g := (mkF m 247 #[Si i0, Si i1, Si i2, Si i3, Si i4, Si dd, Si cn, Si pk, Si qq, Sr pa] [(.int qq), (.int cn), (.int dd), (.int i0), (.int (findL [i0] qq 0))])) rfl (by rw [hml]; rfl) (argsL := [(.int i0), (.int dd), (.int cn), (.int qq)]) (rest := [(.int (findL [i0] qq 0))]) (lenOf pd_11 rfl) rfl (by show 2 * 0 + _ ≤ _; exact Nat.le_of_eq rfl) (hb hby at_247) (fun _ _ => ⟨rfl, e77, (by decide : 3 + 0 ≤ _), (by decide : 12 + 0 ≤ _)⟩)
      dsimp only [Pt.U, Pt.locs, Pt.cells, Pt.slots] at X78 l78 y78 z78 st78 hQ78
      subst l78 y78 z78
      obtain ⟨rfl, N78q, e78⟩ := hQ78
      have N78 := Fr.app N77 N78q
      refine Go.on st78 ?_
      show Go _ _ _ _ _ _ _ _ (mkF m 250 #[Si i0, Si i1, Si i2, Si i3, Si i4, Si dd, Si cn, Si pk, Si qq, Sr pa] [(.int (expT i0 dd cn qq)), (.int (findL [i0] qq 0))])
      have hc79 : (findL [i0] qq 0) = (expT i0 dd cn qq) := own_ei (i := 0) hod (by decide) hc7 hc9
      refine Go.on (fun _ k => XS.icmpNo X78.here hx rfl (hb hby at_250) rfl (teq hc79).2 k) ?_
      refine Go.on (fun _ k => XS.iconst X78.here hx rfl (hb hby at_253) k) ?_
      refine Go.on (fun _ k => XS.goto X78.here hx rfl (pc0 := 254) (pc' := 258) rfl (hb hby at_254) (by decide) (by decide) k) ?_
      show Go _ _ _ _ _ _ _ _ (mkF m 258 #[Si i0, Si i1, Si i2, Si i3, Si i4, Si dd, Si cn, Si pk, Si qq, Sr pa] [(.int 1)])
      refine Go.retN X78 hx (t := .boolean) Bd.returns (by simp) (hb hby at_258) ?_ (by rw [hK1]; decide) (by rw [hK2]; decide)
      rw [e78, ← hQQ]
      exact ⟨rfl, N78⟩
  · -- pc 66 no
    refine Go.on (fun _ k => XS.ifYes X6.here hx rfl (pc0 := 66) (pc' := 77) rfl (hb hby at_66) rfl ((if0 _ _).trans (flt hc7).2.2.2) (by decide) (by decide) k) ?_
    show Go _ _ _ _ _ _ _ _ (mkF m 77 #[Si i0, Si i1, Si i2, Si i3, Si i4, Si dd, Si cn, Si pk, Si qq, Sr pa] [])
    refine Go.on (fun _ k => XS.iload X6.here hx rfl (hb hby at_77) rfl k) ?_
    refine Go.on (fun _ k => XS.iconst X6.here hx rfl (hb hby at_79) k) ?_
    show Go _ _ _ _ _ _ _ _ (mkF m 80 #[Si i0, Si i1, Si i2, Si i3, Si i4, Si dd, Si cn, Si pk, Si qq, Sr pa] [(.int 1), (.int cn)])
    have hc80 : ¬ ((1 : Int32) < cn) := own_later (j := 0) (k := 1) hc7 (by decide) (by decide)
    refine Go.on (fun _ k => XS.icmpYes X6.here hx rfl (pc0 := 80) (pc' := 94) rfl (hb hby at_80) rfl (flt hc80).2.2.2 (by decide) (by decide) k) ?_
    refine Go.on (fun _ k => XS.iload X6.here hx rfl (hb hby at_94) rfl k) ?_
    refine Go.on (fun _ k => XS.iconst X6.here hx rfl (hb hby at_96) k) ?_
    show Go _ _ _ _ _ _ _ _ (mkF m 97 #[Si i0, Si i1, Si i2, Si i3, Si i4, Si dd, Si cn, Si pk, Si qq, Sr pa] [(.int 2), (.int cn)])
    have hc81 : ¬ ((2 : Int32) < cn) := own_later (j := 0) (k := 2) hc7 (by decide) (by decide)
    refine Go.on (fun _ k => XS.icmpYes X6.here hx rfl (pc0 := 97) (pc' := 113) rfl (hb hby at_97) rfl (flt hc81).2.2.2 (by decide) (by decide) k) ?_
    refine Go.on (fun _ k => XS.iload X6.here hx rfl (hb hby at_113) rfl k) ?_
    refine Go.on (fun _ k => XS.iconst X6.here hx rfl (hb hby at_115) k) ?_
    show Go _ _ _ _ _ _ _ _ (mkF m 116 #[Si i0, Si i1, Si i2, Si i3, Si i4, Si dd, Si cn, Si pk, Si qq, Sr pa] [(.int 3), (.int cn)])
    have hc82 : ¬ ((3 : Int32) < cn) := own_later (j := 0) (k := 3) hc7 (by decide) (by decide)
    refine Go.on (fun _ k => XS.icmpYes X6.here hx rfl (pc0 := 116) (pc' := 132) rfl (hb hby at_116) rfl (flt hc82).2.2.2 (by decide) (by decide) k) ?_
    refine Go.on (fun _ k => XS.iload X6.here hx rfl (hb hby at_132) rfl k) ?_
    refine Go.on (fun _ k => XS.iconst X6.here hx rfl (hb hby at_134) k) ?_
    show Go _ _ _ _ _ _ _ _ (mkF m 135 #[Si i0, Si i1, Si i2, Si i3, Si i4, Si dd, Si cn, Si pk, Si qq, Sr pa] [(.int 4), (.int cn)])
    have hc83 : ¬ ((4 : Int32) < cn) := own_later (j := 0) (k := 4) hc7 (by decide) (by decide)
    refine Go.on (fun _ k => XS.icmpYes X6.here hx rfl (pc0 := 135) (pc' := 151) rfl (hb hby at_135) rfl (flt hc83).2.2.2 (by decide) (by decide) k) ?_
    refine Go.on (fun _ k => XS.iload X6.here hx rfl (hb hby at_151) rfl k) ?_
    refine Go.on (fun _ k => XS.iconst X6.here hx rfl (hb hby at_153) k) ?_
    show Go _ _ _ _ _ _ _ _ (mkF m 154 #[Si i0, Si i1, Si i2, Si i3, Si i4, Si dd, Si cn, Si pk, Si qq, Sr pa] [(.int 5), (.int cn)])
    have hc84 : ¬ ((5 : Int32) < cn) := own_later (j := 0) (k := 5) hc7 (by decide) (by decide)
    refine Go.on (fun _ k => XS.icmpYes X6.here hx rfl (pc0 := 154) (pc' := 170) rfl (hb hby at_154) rfl (flt hc84).2.2.2 (by decide) (by decide) k) ?_
    refine Go.on (fun _ k => XS.iload X6.here hx rfl (hb hby at_170) rfl k) ?_
    refine Go.on (fun _ k => XS.bipush X6.here hx rfl (hb hby at_172) k) ?_
    show Go _ _ _ _ _ _ _ _ (mkF m 174 #[Si i0, Si i1, Si i2, Si i3, Si i4, Si dd, Si cn, Si pk, Si qq, Sr pa] [(.int 6), (.int cn)])
    have hc85 : ¬ ((6 : Int32) < cn) := own_later (j := 0) (k := 6) hc7 (by decide) (by decide)
    refine Go.on (fun _ k => XS.icmpYes X6.here hx rfl (pc0 := 174) (pc' := 191) rfl (hb hby at_174) rfl (flt hc85).2.2.2 (by decide) (by decide) k) ?_
    refine Go.on (fun _ k => XS.iload X6.here hx rfl (hb hby at_191) rfl k) ?_
    refine Go.on (fun _ k => XS.bipush X6.here hx rfl (hb hby at_193) k) ?_
    show Go _ _ _ _ _ _ _ _ (mkF m 195 #[Si i0, Si i1, Si i2, Si i3, Si i4, Si dd, Si cn, Si pk, Si qq, Sr pa] [(.int 7), (.int cn)])
    have hc86 : ¬ ((7 : Int32) < cn) := own_later (j := 0) (k := 7) hc7 (by decide) (by decide)
    refine Go.on (fun _ k => XS.icmpYes X6.here hx rfl (pc0 := 195) (pc' := 212) rfl (hb hby at_195) rfl (flt hc86).2.2.2 (by decide) (by decide) k) ?_
    refine Go.on (fun _ k => XS.iload X6.here hx rfl (hb hby at_212) rfl k) ?_
    refine Go.on (fun _ k => XS.bipush X6.here hx rfl (hb hby at_214) k) ?_
    show Go _ _ _ _ _ _ _ _ (mkF m 216 #[Si i0, Si i1, Si i2, Si i3, Si i4, Si dd, Si cn, Si pk, Si qq, Sr pa] [(.int 8), (.int cn)])
    have hc87 : ¬ ((8 : Int32) < cn) := own_later (j := 0) (k := 8) hc7 (by decide) (by decide)
    refine Go.on (fun _ k => XS.icmpYes X6.here hx rfl (pc0 := 216) (pc' := 233) rfl (hb hby at_216) rfl (flt hc87).2.2.2 (by decide) (by decide) k) ?_
    refine Go.on (fun _ k => XS.aload X6.here hx rfl (hb hby at_233) rfl rfl k) ?_
    refine Go.on (fun _ k => XS.iload X6.here hx rfl (hb hby at_235) rfl k) ?_
    show Go _ _ _ _ _ _ _ _ (mkF m 237 #[Si i0, Si i1, Si i2, Si i3, Si i4, Si dd, Si cn, Si pk, Si qq, Sr pa] [(.int qq), (.ref pa)])
    obtain ⟨cq88, kq88, q88a, q88b, q88c⟩ := isOf hZ e6 E_pa
    obtain ⟨_, _, ⟨T88, L88, k88, n88⟩, -, X88, ⟨Lc88, hQ88, l88, y88, z88⟩, st88⟩ := X6.virtualBack hx (y := (⟨"com/example/due_weight/dueweight/core/Pairs", "indexOf", "(I)I"⟩ : MethodName)) (z := (⟨"com/example/due_weight/dueweight/core/Pairs", "indexOf", "(I)I"⟩ : MethodName)) hown (mvT hZ (hw _ (List.mem_of_getElem? (i := 53) rfl))) (mvT hZ (hw _ (List.mem_of_getElem? (i := 24) rfl))) (notFace_of_selects (args := #[]) (mvT hZ (hw _ (List.mem_of_getElem? (i := 26) rfl)))) (mvT hZ (hw _ (List.mem_of_getElem? (i := 26) rfl))) (mvT hZ (hw _ (List.mem_of_getElem? (i := 25) rfl))) (by decide) (backOf (W := 0) (ixl l Z aw hw [] pa qq ([] : List Int32) [(.int (0 : Int32)), (.int (0 : Int32))] (0 : Int32) mb6 k_mb6 (2 : Int32) [(.int (0 : Int32)), (.int (0 : Int32))] h6 n0 ZZ F_slots_pa F_length_pa F_members_pa V_mb6 rfl (by decide) rfl) hZ (hw _ (List.mem_of_getElem? (i := 27) rfl)) (hw _ (List.mem_of_getElem? (i := 3) rfl)) (by decide) (by decide)) q88a q88c (g := (mkF m 237 #[Si i0, Si i1, Si i2, Si i3, Si i4, Si dd, Si cn, Si pk, Si qq, Sr pa] [(.int qq), (.ref pa)])) rfl (by rw [hml]; rfl) (Steps.refl _) (argsL := [(.int qq)]) (rest := []) (lenOf pd_4 rfl) rfl (by show 2 * 0 + _ ≤ _; exact Nat.le_of_eq rfl) (hb hby at_237) (fun _ _ => ⟨rfl, e6, (by decide : 3 + 0 ≤ _), (by decide : 12 + 0 ≤ _)⟩)
    dsimp only [Pt.U, Pt.locs, Pt.cells, Pt.slots] at X88 l88 y88 z88 st88 hQ88
    subst l88 y88 z88
    obtain ⟨rfl, N88q, e88⟩ := hQ88
    have N88 := Fr.app N6 N88q
    refine Go.on (fun _ k => st88.trans k) ?_
    show Go _ _ _ _ _ _ _ _ (mkF m 240 #[Si i0, Si i1, Si i2, Si i3, Si i4, Si dd, Si cn, Si pk, Si qq, Sr pa] [(.int (findL ([] : List Int32) qq 0))])
    refine Go.on (fun _ k => XS.iloadN X88.here hx rfl (hb hby at_240) rfl k) ?_
    refine Go.on (fun _ k => XS.iload X88.here hx rfl (hb hby at_241) rfl k) ?_
    refine Go.on (fun _ k => XS.iload X88.here hx rfl (hb hby at_243) rfl k) ?_
    refine Go.on (fun _ k => XS.iload X88.here hx rfl (hb hby at_245) rfl k) ?_
    show Go _ _ _ _ _ _ _ _ (mkF m 247 #[Si i0, Si i1, Si i2, Si i3, Si i4, Si dd, Si cn, Si pk, Si qq, Sr pa] [(.int qq), (.int cn), (.int dd), (.int i0), (.int (findL ([] : List Int32) qq 0))])
    obtain ⟨_, _, ⟨T89, L89, k89, n89⟩, -, X89, ⟨Lc89, hQ89, l89, y89, z89⟩, st89⟩ := Jvm.LawKit.callS X88 hx (y := (⟨"com/example/due_weight/dueweight/core/PairsIndexOfPinLaw", "expected", "(IIII)I"⟩ : MethodName)) hown (mvT hZ (hw _ (List.mem_of_getElem? (i := 54) rfl))) (mvT hZ (hw _ (List.mem_of_getElem? (i := 55) rfl))) (mvT hZ (hw _ (List.mem_of_getElem? (i := 56) rfl))) (mvT hZ (hw _ (List.mem_of_getElem? (i := 57) rfl))) (by decide) (backOf (W := 1) (rm9 l Z aw hw [] i0 dd cn qq  h6 n0 ZZ ) hZ (hw _ (List.mem_of_getElem? (i := 57) rfl)) (hw _ (List.mem_of_getElem? (i := 56) rfl)) (by decide) (by decide)) (g := (mkF m 247 #[Si i0, Si i1, Si i2, Si i3, Si i4, Si dd, Si cn, Si pk, Si qq, Sr pa] [(.int qq), (.int cn), (.int dd), (.int i0), (.int (findL ([] : List Int32) qq 0))])) rfl (by rw [hml]; rfl) (argsL := [(.int i0), (.int dd), (.int cn), (.int qq)]) (rest := [(.int (findL ([] : List Int32) qq 0))]) (lenOf pd_11 rfl) rfl (by show 2 * 0 + _ ≤ _; exact Nat.le_of_eq rfl) (hb hby at_247) (fun _ _ => ⟨rfl, e88, (by decide : 3 + 0 ≤ _), (by decide : 12 + 0 ≤ _)⟩)
    dsimp only [Pt.U, Pt.locs, Pt.cells, Pt.slots] at X89 l89 y89 z89 st89 hQ89
    subst l89 y89 z89
    obtain ⟨rfl, N89q, e89⟩ := hQ89
    have N89 := Fr.app N88 N89q
    refine Go.on st89 ?_
    show Go _ _ _ _ _ _ _ _ (mkF m 250 #[Si i0, Si i1, Si i2, Si i3, Si i4, Si dd, Si cn, Si pk, Si qq, Sr pa] [(.int (expT i0 dd cn qq)), (.int (findL ([] : List Int32) qq 0))])
    have hc90 : (findL ([] : List Int32) qq 0) = (expT i0 dd cn qq) := own_e0 hod hc7
    refine Go.on (fun _ k => XS.icmpNo X89.here hx rfl (hb hby at_250) rfl (teq hc90).2 k) ?_
    refine Go.on (fun _ k => XS.iconst X89.here hx rfl (hb hby at_253) k) ?_
    refine Go.on (fun _ k => XS.goto X89.here hx rfl (pc0 := 254) (pc' := 258) rfl (hb hby at_254) (by decide) (by decide) k) ?_
    show Go _ _ _ _ _ _ _ _ (mkF m 258 #[Si i0, Si i1, Si i2, Si i3, Si i4, Si dd, Si cn, Si pk, Si qq, Sr pa] [(.int 1)])
    refine Go.retN X89 hx (t := .boolean) Bd.returns (by simp) (hb hby at_258) ?_ (by rw [hK1]; decide) (by rw [hK2]; decide)
    rw [e89, ← hQQ]
    exact ⟨rfl, N89⟩
set_option maxRecDepth 65536 in
set_option maxHeartbeats 40000000 in
theorem comes_1 {Post : Tables → Env → Array Value → State → Outcome → State → Prop} (hpost : ∀ tb e args s v u, (limb_1_1.after args s (.returned v) u = true ∧ limb_1_2.after args s (.returned v) u = true ∧ True) → FrameEnd s (.returned v) u (Jvm.fieldLocs frame_1_writes args s ++ Jvm.arrayLocs frame_1_arrays args s ++ Jvm.staticLocs frame_1_statics s) 32 384 → Post tb e args s (.returned v) u) :
    ArmFor flags0 classFile x code maxLocals ret World_1 tables_1 room_1 Calls_1 rest_1 Pre_1 Post := by
  intro l hfl _ _ p e ha hc hk s m args below hf hA hF happ hP
  obtain ⟨hcalls, hrest, hpre⟩ := hP
  obtain ⟨-, -, -, hnamed, -, -, -, hat⟩ := (Spec.applies_iff hf).mp happ
  obtain ⟨hg, hn⟩ := and_e (Cond.before_iff.mp (show (Jvm.Cond.and given_1 narrow_1).before args s = true from hpre))
  obtain ⟨g0, r0⟩ := and_e hg
  obtain ⟨g1, r1⟩ := and_e r0
  obtain ⟨g2, r2⟩ := and_e r1
  obtain ⟨g3, r3⟩ := and_e r2
  obtain ⟨g4, g5⟩ := and_e r3
  obtain ⟨w0, w1, w2, w3, w4, rfl⟩ : ∃ w0 w1 w2 w3 w4 : Value, args = #[w0, w1, w2, w3, w4] := by
    have hs : args.size = 5 := by simpa [Cond.value, given_1] using g0
    obtain ⟨L⟩ := args
    match L, hs with
    | [w0, w1, w2, w3, w4], _ => exact ⟨w0, w1, w2, w3, w4, rfl⟩
  have hw := fun d (hd : d ∈ tables_1) => atoms_spec (ws := Jvm.Cond.code x code maxLocals ret :: tables_1) hat d (List.mem_cons_of_mem _ hd)
  have hfit : Fit s := fun {y c} hc i hi => by
    obtain ⟨ha, rfl⟩ := Array.getElem?_eq_some_iff.mp hc
    have q := List.all_eq_true.mp ((Array.all_eq_true_iff_forall_mem.mp hF) _ (Array.getElem_mem ha)) i (List.mem_range.mpr hi)
    simpa [Array.getElem?_eq_getElem hi] using q
  obtain ⟨i0, ei0⟩ := is_v g1
  obtain rfl : w0 = (.int i0) := Option.some.inj ei0
  obtain ⟨i1, ei1⟩ := is_v g2
  obtain rfl : w1 = (.int i1) := Option.some.inj ei1
  obtain ⟨i2, ei2⟩ := is_v g3
  obtain rfl : w2 = (.int i2) := Option.some.inj ei2
  obtain ⟨i3, ei3⟩ := is_v g4
  obtain rfl : w3 = (.int i3) := Option.some.inj ei3
  obtain ⟨i4, ei4⟩ := is_v g5
  obtain rfl : w4 = (.int i4) := Option.some.inj ei4
  obtain ⟨n, o, h1, h2, h3, _, L, rfl, ⟨rfl, N⟩, hq⟩ := rm0 l s _ hw tables_1 i0 i1 i2 i3 i4 s.heap s.heap.size (Nat.le_refl _) p e ha hc hk s m _ below hf ((Spec.applies_iff_loose hf).mp happ).1 ⟨rfl, State.Warmed39.refl s, rfl⟩ trivial
  refine ⟨n, _, h1, h2, h3, hpost _ _ _ _ _ _ ⟨Cond.after_iff.mpr rfl, Cond.after_iff.mpr (eq_i res_at (Term.int_eval (1)) rfl), trivial⟩ ⟨hq.1, hq.2.1, (hq.2.2.sift fun y hy => Or.inr (N y hy)).mono (by decide) (by decide)⟩⟩
theorem main_1_1 : Claimed_1_1 := comes_1 fun _ _ _ _ _ _ h hF => ⟨h.1, hF⟩
theorem main_1_2 : Claimed_1_2 := comes_1 fun _ _ _ _ _ _ h hF => ⟨h.2.1, hF⟩
end Jvm.Pilot.@@N@@
namespace Jvm.Pilot.@@N@@
open Jvm Jvm.ClassFile Sem Op Lib Jvm.Free Jvm.Stand Jvm.Pilot.@@N@@.Jvm.D
/-! MADE BY PROGRAM (witnessworld.py) out of the Statement's table words and the real class files: 20 classes; the members and pool entries that the words name. The judged class is class 1, her method 1. -/
namespace start1
open Jvm.ClassFile
def u (s : String) : CpInfo := .utf8 (stringToUtf16 s)
/-- a pool by its gaps: so many unusable entries, then the entry; so many at the end -/
def gap : Nat → List CpInfo → List CpInfo
  | 0, r => r
  | n + 1, r => .unusable :: gap n r
def poolList (es : List (Nat × CpInfo)) (last : Nat) : List CpInfo := es.foldr (fun e r => gap e.1 (e.2 :: r)) (gap last [])
def pool (es : List (Nat × CpInfo)) (last : Nat) : Array CpInfo := ⟨poolList es last⟩
def fileOf (pool : Array CpInfo) (this : Nat) (attrs : Array Attribute := #[]) (ms : Array MethodInfo := #[]) (fl : Nat := 33) (sup : Nat := 0) (ifs : Array Nat := #[]) (fds : Array FieldInfo := #[]) : ClassFile where
  minorVersion := 0
  majorVersion := 65
  constantPool := pool
  accessFlags := fl
  thisClass := this
  superClass := sup
  interfaces := ifs
  fields := fds
  methods := ms
  attributes := attrs
def plain (name : String) (sup : Option ClassId) : Class where
  name := name
  kind := .ordinary
  loader := none
  accessFlags := 33
  super := sup
  interfaces := #[]
  cf := none
  fields := #[]
  methods := #[]
  instanceTypes := #[]
  staticTypes := #[]
  resolved := #[]
  callSites := []
  init := .initialized
  statics := none
  mirror := none

def pool0 : Array CpInfo := pool [(5, u "<init>"), (0, u "()V"), (1, .class_ 10), (1, u "java/lang/Object")] 113

def k0c0 : Code := { maxStack := 0, maxLocals := 1, code := object_method_1_code, exceptionTable := #[], attributes := #[] }
def k0m0 : Method := { name := "<init>", desc := "()V", sig := { parameters := [], returnType := none }, accessFlags := 1, code := some k0c0 }
/-- java/lang/Object -/
def k0 : Class := { plain "java/lang/Object" none with
  accessFlags := 33
  interfaces := #[]
  cf := some (fileOf pool0 8 #[] #[{ accessFlags := 1, nameIndex := 5, descriptorIndex := 6, attributes := #[] }] 33 0 #[] #[])
  fields := #[]
  methods := #[k0m0]
  instanceTypes := #[]
  staticTypes := #[]
  resolved := Array.replicate 124 none
  statics := none }

def pool1 : Array CpInfo := pool [(2, .class_ 4), (0, .nameAndType 5 6), (0, u "java/lang/Object"), (0, u "<init>"), (0, u "()V"), (0, .integer 65535), (0, .class_ 9), (0, u "com/example/due_weight/dueweight/core/Pairs"), (0, .methodref 8 3), (0, .methodref 8 12), (0, .nameAndType 13 14), (0, u "add"), (0, u "(ID)I"), (0, .methodref 8 16), (0, .nameAndType 17 18), (0, u "indexOf"), (0, u "(I)I"), (0, .methodref 20 21), (0, .class_ 22), (0, .nameAndType 23 24), (0, u "com/example/due_weight/dueweight/core/PairsIndexOfPinLaw"), (0, u "expected"), (0, u "(IIII)I"), (2, u "law"), (0, u "(IIIII)Z")] 3

def k1m0 : Method := { name := "<init>", desc := "()V", sig := { parameters := [], returnType := none }, accessFlags := 1, code := none }
def k1c1 : Code := { maxStack := 5, maxLocals := 10, code := code, exceptionTable := #[], attributes := #[] }
def k1m1 : Method := { name := "law", desc := "(IIIII)Z", sig := { parameters := [.int, .int, .int, .int, .int], returnType := some .boolean }, accessFlags := 9, code := some k1c1 }
def k1c2 : Code := { maxStack := 4, maxLocals := 5, code := method_3_code, exceptionTable := #[], attributes := #[] }
def k1m2 : Method := { name := "expected", desc := "(IIII)I", sig := { parameters := [.int, .int, .int, .int], returnType := some .int }, accessFlags := 10, code := some k1c2 }
/-- com/example/due_weight/dueweight/core/PairsIndexOfPinLaw -/
def k1 : Class := { plain "com/example/due_weight/dueweight/core/PairsIndexOfPinLaw" (some 0) with
  accessFlags := 49
  interfaces := #[]
  cf := some (fileOf pool1 20 #[] #[{ accessFlags := 1, nameIndex := 5, descriptorIndex := 6, attributes := #[] }, { accessFlags := 9, nameIndex := 27, descriptorIndex := 28, attributes := #[] }, { accessFlags := 10, nameIndex := 23, descriptorIndex := 24, attributes := #[] }] 49 2 #[] #[])
  fields := #[]
  methods := #[k1m0, k1m1, k1m2]
  instanceTypes := #[]
  staticTypes := #[]
  resolved := Array.replicate 32 none
  statics := none }

def pool2 : Array CpInfo := pool [(1, .methodref 2 3), (0, .class_ 4), (0, .nameAndType 5 6), (0, u "java/lang/Object"), (0, u "<init>"), (0, u "()V"), (0, .fieldref 8 9), (0, .class_ 10), (0, .nameAndType 11 12), (0, u "com/example/due_weight/dueweight/core/Pairs"), (0, u "members"), (0, u "[I"), (0, .fieldref 8 14), (0, .nameAndType 15 16), (0, u "weights"), (0, u "[D"), (0, .fieldref 8 18), (0, .nameAndType 19 20), (0, u "exact"), (0, u "Z"), (0, .fieldref 8 22), (0, .nameAndType 23 24), (0, u "length"), (0, u "I"), (0, .fieldref 8 26), (0, .nameAndType 27 12), (0, u "slots"), (0, .integer 2654435769), (0, .fieldref 8 30), (0, .nameAndType 31 24), (0, u "shift"), (0, .methodref 8 33), (0, .nameAndType 34 35), (0, u "indexOf"), (0, u "(I)I"), (0, .methodref 37 38), (0, .class_ 39), (0, .nameAndType 40 41), (0, u "java/lang/Math"), (0, u "multiplyExact"), (0, u "(II)I"), (0, .methodref 43 44), (0, .class_ 45), (0, .nameAndType 46 47), (0, u "java/util/Arrays"), (0, u "copyOf"), (0, u "([II)[I"), (0, .methodref 43 49), (0, .nameAndType 46 50), (0, u "([DI)[D"), (0, .methodref 8 52), (0, .nameAndType 53 54), (0, u "fill"), (0, u "(I)V"), (0, .methodref 8 56), (0, .nameAndType 57 6), (0, u "index"), (4, .double 4845873199050653696), (1, .fieldref 8 65), (0, .nameAndType 66 67), (0, u "fingerprint"), (0, u "J"), (0, .methodref 8 69), (0, .nameAndType 66 70), (0, u "(ID)J"), (0, .fieldref 8 72), (0, .nameAndType 73 74), (0, u "history"), (0, u "Lcom/example/due_weight/dueweight/core/Pairs$History;"), (1, .class_ 78), (1, u "com/example/due_weight/dueweight/core/Pairs$History"), (2, .methodref 82 83), (0, .class_ 84), (0, .nameAndType 85 35), (0, u "java/lang/Integer"), (0, u "numberOfLeadingZeros"), (5, .class_ 93), (1, u "com/example/due_weight/dueweight/core/Pairs$Told"), (68, .methodref 163 164), (0, .class_ 165), (0, .nameAndType 166 167), (0, u "java/lang/Double"), (0, u "doubleToLongBits"), (0, u "(D)J"), (0, .methodref 8 169), (0, .nameAndType 170 171), (0, u "mix"), (0, u "(J)J"), (0, .long 11400714819323198485), (5, u "SCANNED"), (2, u "HASH_FACTOR"), (0, u "FINGERPRINT_FACTOR"), (0, u "LARGEST_EXACT"), (0, u "D"), (10, u "add"), (0, u "(ID)I")] 7

def k2c0 : Code := { maxStack := 2, maxLocals := 1, code := prog_21_method_1_code, exceptionTable := #[], attributes := #[] }
def k2m0 : Method := { name := "<init>", desc := "()V", sig := { parameters := [], returnType := none }, accessFlags := 0, code := some k2c0 }
def k2c1 : Code := { maxStack := 3, maxLocals := 4, code := prog_21_method_6_code, exceptionTable := #[], attributes := #[] }
def k2m1 : Method := { name := "indexOf", desc := "(I)I", sig := { parameters := [.int], returnType := some .int }, accessFlags := 0, code := some k2c1 }
def k2c2 : Code := { maxStack := 8, maxLocals := 5, code := prog_21_method_7_code, exceptionTable := #[], attributes := #[] }
def k2m2 : Method := { name := "add", desc := "(ID)I", sig := { parameters := [.int, .double], returnType := some .int }, accessFlags := 0, code := some k2c2 }
def k2c3 : Code := { maxStack := 3, maxLocals := 3, code := prog_21_method_8_code, exceptionTable := #[], attributes := #[] }
def k2m3 : Method := { name := "index", desc := "()V", sig := { parameters := [], returnType := none }, accessFlags := 2, code := some k2c3 }
def k2c4 : Code := { maxStack := 4, maxLocals := 3, code := prog_21_method_9_code, exceptionTable := #[], attributes := #[] }
def k2m4 : Method := { name := "fill", desc := "(I)V", sig := { parameters := [.int], returnType := none }, accessFlags := 2, code := some k2c4 }
def k2c5 : Code := { maxStack := 4, maxLocals := 3, code := prog_21_method_21_code, exceptionTable := #[], attributes := #[] }
def k2m5 : Method := { name := "fingerprint", desc := "(ID)J", sig := { parameters := [.int, .double], returnType := some .long }, accessFlags := 10, code := some k2c5 }
def k2c6 : Code := { maxStack := 5, maxLocals := 4, code := prog_21_method_22_code, exceptionTable := #[], attributes := #[] }
def k2m6 : Method := { name := "mix", desc := "(J)J", sig := { parameters := [.long], returnType := some .long }, accessFlags := 10, code := some k2c6 }
/-- com/example/due_weight/dueweight/core/Pairs -/
def k2 : Class := { plain "com/example/due_weight/dueweight/core/Pairs" (some 0) with
  accessFlags := 48
  interfaces := #[]
  cf := some (fileOf pool2 8 #[.nestMembers #[76, 91]] #[{ accessFlags := 0, nameIndex := 5, descriptorIndex := 6, attributes := #[] }, { accessFlags := 0, nameIndex := 34, descriptorIndex := 35, attributes := #[] }, { accessFlags := 0, nameIndex := 195, descriptorIndex := 196, attributes := #[] }, { accessFlags := 2, nameIndex := 57, descriptorIndex := 6, attributes := #[] }, { accessFlags := 2, nameIndex := 53, descriptorIndex := 54, attributes := #[] }, { accessFlags := 10, nameIndex := 66, descriptorIndex := 70, attributes := #[] }, { accessFlags := 10, nameIndex := 170, descriptorIndex := 171, attributes := #[] }] 48 2 #[] #[{ accessFlags := 26, nameIndex := 178, descriptorIndex := 24, attributes := #[] }, { accessFlags := 26, nameIndex := 181, descriptorIndex := 24, attributes := #[] }, { accessFlags := 26, nameIndex := 182, descriptorIndex := 67, attributes := #[] }, { accessFlags := 26, nameIndex := 183, descriptorIndex := 184, attributes := #[] }, { accessFlags := 2, nameIndex := 11, descriptorIndex := 12, attributes := #[] }, { accessFlags := 2, nameIndex := 15, descriptorIndex := 16, attributes := #[] }, { accessFlags := 2, nameIndex := 23, descriptorIndex := 24, attributes := #[] }, { accessFlags := 2, nameIndex := 19, descriptorIndex := 20, attributes := #[] }, { accessFlags := 2, nameIndex := 27, descriptorIndex := 12, attributes := #[] }, { accessFlags := 2, nameIndex := 31, descriptorIndex := 24, attributes := #[] }, { accessFlags := 2, nameIndex := 66, descriptorIndex := 67, attributes := #[] }, { accessFlags := 2, nameIndex := 73, descriptorIndex := 74, attributes := #[] }])
  fields := #[{ name := "SCANNED", type := .int, accessFlags := 26, slot := 0, constantValue := 0 }, { name := "HASH_FACTOR", type := .int, accessFlags := 26, slot := 1, constantValue := 0 }, { name := "FINGERPRINT_FACTOR", type := .long, accessFlags := 26, slot := 2, constantValue := 0 }, { name := "LARGEST_EXACT", type := .double, accessFlags := 26, slot := 3, constantValue := 0 }, { name := "members", type := (.array .int), accessFlags := 2, slot := 0, constantValue := 0 }, { name := "weights", type := (.array .double), accessFlags := 2, slot := 1, constantValue := 0 }, { name := "length", type := .int, accessFlags := 2, slot := 2, constantValue := 0 }, { name := "exact", type := .boolean, accessFlags := 2, slot := 3, constantValue := 0 }, { name := "slots", type := (.array .int), accessFlags := 2, slot := 4, constantValue := 0 }, { name := "shift", type := .int, accessFlags := 2, slot := 5, constantValue := 0 }, { name := "fingerprint", type := .long, accessFlags := 2, slot := 6, constantValue := 0 }, { name := "history", type := (.object "com/example/due_weight/dueweight/core/Pairs$History"), accessFlags := 2, slot := 7, constantValue := 0 }]
  methods := #[k2m0, k2m1, k2m2, k2m3, k2m4, k2m5, k2m6]
  instanceTypes := #[(.array .int), (.array .double), .int, .boolean, (.array .int), .int, .long, (.object "com/example/due_weight/dueweight/core/Pairs$History")]
  staticTypes := #[.int, .int, .long, .double]
  resolved := Array.replicate 204 none
  statics := none }

def pool3 : Array CpInfo := pool [(1, .class_ 2), (0, u "java/io/Serializable"), (0, .class_ 4), (0, u "java/lang/Object")] 2

/-- java/io/Serializable -/
def k3 : Class := { plain "java/io/Serializable" (some 0) with
  accessFlags := 1537
  interfaces := #[]
  cf := some (fileOf pool3 1 #[] #[] 1537 3 #[] #[])
  fields := #[]
  methods := #[]
  instanceTypes := #[]
  staticTypes := #[]
  resolved := Array.replicate 7 none
  statics := none }

def pool4 : Array CpInfo := pool [(2, .class_ 4), (1, u "java/lang/Object"), (0, u "<init>"), (0, u "()V"), (1, .class_ 10), (1, u "java/lang/Number"), (2, .class_ 14), (0, u "java/io/Serializable"), (0, u "serialVersionUID"), (0, u "J")] 20

def k4m0 : Method := { name := "<init>", desc := "()V", sig := { parameters := [], returnType := none }, accessFlags := 1, code := none }
/-- java/lang/Number -/
def k4 : Class := { plain "java/lang/Number" (some 0) with
  accessFlags := 1057
  interfaces := #[3]
  cf := some (fileOf pool4 8 #[] #[{ accessFlags := 1, nameIndex := 5, descriptorIndex := 6, attributes := #[] }] 1057 2 #[13] #[{ accessFlags := 26, nameIndex := 15, descriptorIndex := 16, attributes := #[] }])
  fields := #[{ name := "serialVersionUID", type := .long, accessFlags := 26, slot := 0, constantValue := 0 }]
  methods := #[k4m0]
  instanceTypes := #[]
  staticTypes := #[.long]
  resolved := Array.replicate 37 none
  statics := none }

def pool5 : Array CpInfo := pool [(1, .class_ 2), (0, u "java/lang/Comparable"), (0, .class_ 4), (0, u "java/lang/Object")] 7

/-- java/lang/Comparable -/
def k5 : Class := { plain "java/lang/Comparable" (some 0) with
  accessFlags := 1537
  interfaces := #[]
  cf := some (fileOf pool5 1 #[] #[] 1537 3 #[] #[])
  fields := #[]
  methods := #[]
  instanceTypes := #[]
  staticTypes := #[]
  resolved := Array.replicate 12 none
  statics := none }

def pool6 : Array CpInfo := pool [(1, .class_ 2), (0, u "java/lang/constant/Constable"), (0, .class_ 4), (0, u "java/lang/Object")] 6

/-- java/lang/constant/Constable -/
def k6 : Class := { plain "java/lang/constant/Constable" (some 0) with
  accessFlags := 1537
  interfaces := #[]
  cf := some (fileOf pool6 1 #[] #[] 1537 3 #[] #[])
  fields := #[]
  methods := #[]
  instanceTypes := #[]
  staticTypes := #[]
  resolved := Array.replicate 11 none
  statics := none }

def pool7 : Array CpInfo := pool [(1, .class_ 2), (0, u "java/lang/constant/ConstantDesc"), (0, .class_ 4), (0, u "java/lang/Object")] 32

/-- java/lang/constant/ConstantDesc -/
def k7 : Class := { plain "java/lang/constant/ConstantDesc" (some 0) with
  accessFlags := 1537
  interfaces := #[]
  cf := some (fileOf pool7 1 #[] #[] 1537 3 #[] #[])
  fields := #[]
  methods := #[]
  instanceTypes := #[]
  staticTypes := #[]
  resolved := Array.replicate 37 none
  statics := none }

def pool8 : Array CpInfo := pool [(1, .class_ 2), (0, u "java/lang/Double"), (11, u "(D)Z"), (33, u "doubleToLongBits"), (0, u "(D)J"), (64, .class_ 116), (1, u "java/lang/Number"), (3, u "value"), (0, u "D"), (0, .methodref 1 123), (0, .nameAndType 124 14), (0, u "isNaN"), (9, .methodref 1 135), (0, .nameAndType 136 49), (0, u "doubleToRawLongBits"), (36, u "TYPE"), (0, u "Ljava/lang/Class;"), (0, .class_ 176), (0, u "java/lang/Comparable"), (0, .class_ 178), (0, u "java/lang/constant/Constable"), (0, .class_ 180), (0, u "java/lang/constant/ConstantDesc"), (0, u "POSITIVE_INFINITY"), (3, u "NEGATIVE_INFINITY"), (2, u "NaN"), (2, u "MAX_VALUE"), (0, u "MIN_NORMAL"), (0, u "MIN_VALUE"), (2, u "SIZE"), (0, u "I"), (1, u "PRECISION"), (1, u "MAX_EXPONENT"), (1, u "MIN_EXPONENT"), (1, u "BYTES"), (3, u "serialVersionUID"), (0, u "J")] 79

def k8c0 : Code := { maxStack := 4, maxLocals := 2, code := jdk_117_method_6_code, exceptionTable := #[], attributes := #[] }
def k8m0 : Method := { name := "isNaN", desc := "(D)Z", sig := { parameters := [.double], returnType := some .boolean }, accessFlags := 9, code := some k8c0 }
def k8c1 : Code := { maxStack := 2, maxLocals := 2, code := jdk_117_method_23_code, exceptionTable := #[], attributes := #[] }
def k8m1 : Method := { name := "doubleToLongBits", desc := "(D)J", sig := { parameters := [.double], returnType := some .long }, accessFlags := 9, code := some k8c1 }
def k8m2 : Method := { name := "doubleToRawLongBits", desc := "(D)J", sig := { parameters := [.double], returnType := some .long }, accessFlags := 265, code := none }
/-- java/lang/Double -/
def k8 : Class := { plain "java/lang/Double" (some 4) with
  accessFlags := 49
  interfaces := #[5, 6, 7]
  cf := some (fileOf pool8 1 #[] #[{ accessFlags := 9, nameIndex := 124, descriptorIndex := 14, attributes := #[] }, { accessFlags := 9, nameIndex := 48, descriptorIndex := 49, attributes := #[] }, { accessFlags := 265, nameIndex := 136, descriptorIndex := 49, attributes := #[] }] 49 114 #[175, 177, 179] #[{ accessFlags := 25, nameIndex := 181, descriptorIndex := 121, attributes := #[] }, { accessFlags := 25, nameIndex := 185, descriptorIndex := 121, attributes := #[] }, { accessFlags := 25, nameIndex := 188, descriptorIndex := 121, attributes := #[] }, { accessFlags := 25, nameIndex := 191, descriptorIndex := 121, attributes := #[] }, { accessFlags := 25, nameIndex := 192, descriptorIndex := 121, attributes := #[] }, { accessFlags := 25, nameIndex := 193, descriptorIndex := 121, attributes := #[] }, { accessFlags := 25, nameIndex := 196, descriptorIndex := 197, attributes := #[] }, { accessFlags := 25, nameIndex := 199, descriptorIndex := 197, attributes := #[] }, { accessFlags := 25, nameIndex := 201, descriptorIndex := 197, attributes := #[] }, { accessFlags := 25, nameIndex := 203, descriptorIndex := 197, attributes := #[] }, { accessFlags := 25, nameIndex := 205, descriptorIndex := 197, attributes := #[] }, { accessFlags := 25, nameIndex := 173, descriptorIndex := 174, attributes := #[] }, { accessFlags := 18, nameIndex := 120, descriptorIndex := 121, attributes := #[] }, { accessFlags := 26, nameIndex := 209, descriptorIndex := 210, attributes := #[] }])
  fields := #[{ name := "POSITIVE_INFINITY", type := .double, accessFlags := 25, slot := 0, constantValue := 0 }, { name := "NEGATIVE_INFINITY", type := .double, accessFlags := 25, slot := 1, constantValue := 0 }, { name := "NaN", type := .double, accessFlags := 25, slot := 2, constantValue := 0 }, { name := "MAX_VALUE", type := .double, accessFlags := 25, slot := 3, constantValue := 0 }, { name := "MIN_NORMAL", type := .double, accessFlags := 25, slot := 4, constantValue := 0 }, { name := "MIN_VALUE", type := .double, accessFlags := 25, slot := 5, constantValue := 0 }, { name := "SIZE", type := .int, accessFlags := 25, slot := 6, constantValue := 0 }, { name := "PRECISION", type := .int, accessFlags := 25, slot := 7, constantValue := 0 }, { name := "MAX_EXPONENT", type := .int, accessFlags := 25, slot := 8, constantValue := 0 }, { name := "MIN_EXPONENT", type := .int, accessFlags := 25, slot := 9, constantValue := 0 }, { name := "BYTES", type := .int, accessFlags := 25, slot := 10, constantValue := 0 }, { name := "TYPE", type := (.object "java/lang/Class"), accessFlags := 25, slot := 11, constantValue := 0 }, { name := "value", type := .double, accessFlags := 18, slot := 0, constantValue := 0 }, { name := "serialVersionUID", type := .long, accessFlags := 26, slot := 12, constantValue := 0 }]
  methods := #[k8m0, k8m1, k8m2]
  instanceTypes := #[.double]
  staticTypes := #[.double, .double, .double, .double, .double, .double, .int, .int, .int, .int, .int, (.object "java/lang/Class"), .long]
  resolved := Array.replicate 290 none
  statics := none }

def pool9 : Array CpInfo := pool [(1, .class_ 2), (0, u "java/lang/Math"), (1, .class_ 6), (1, u "java/lang/Object"), (0, u "<init>"), (0, u "()V"), (89, .class_ 100), (1, u "java/lang/Math$RandomNumberGeneratorHolder"), (19, u "multiplyExact"), (51, u "negativeZeroFloatBits"), (0, u "J"), (2, u "negativeZeroDoubleBits"), (24, u "min"), (43, u "$assertionsDisabled"), (0, u "Z"), (88, u "(II)I"), (2, u "twoToTheDoubleScaleDown"), (0, u "D"), (4, u "twoToTheDoubleScaleUp"), (9, u "E"), (3, u "PI"), (2, u "TAU"), (2, u "DEGREES_TO_RADIANS"), (0, u "RADIANS_TO_DEGREES")] 94

def k9m0 : Method := { name := "<init>", desc := "()V", sig := { parameters := [], returnType := none }, accessFlags := 2, code := none }
def k9c1 : Code := { maxStack := 4, maxLocals := 4, code := jdk_29_method_28_code, exceptionTable := #[], attributes := #[] }
def k9m1 : Method := { name := "multiplyExact", desc := "(II)I", sig := { parameters := [.int, .int], returnType := some .int }, accessFlags := 9, code := some k9c1 }
def k9c2 : Code := { maxStack := 2, maxLocals := 2, code := jdk_29_method_69_code, exceptionTable := #[], attributes := #[] }
def k9m2 : Method := { name := "min", desc := "(II)I", sig := { parameters := [.int, .int], returnType := some .int }, accessFlags := 9, code := some k9c2 }
/-- java/lang/Math -/
def k9 : Class := { plain "java/lang/Math" (some 0) with
  accessFlags := 49
  interfaces := #[]
  cf := some (fileOf pool9 1 #[.nestMembers #[98]] #[{ accessFlags := 2, nameIndex := 7, descriptorIndex := 8, attributes := #[] }, { accessFlags := 9, nameIndex := 120, descriptorIndex := 335, attributes := #[] }, { accessFlags := 9, nameIndex := 201, descriptorIndex := 335, attributes := #[] }] 49 4 #[] #[{ accessFlags := 25, nameIndex := 354, descriptorIndex := 339, attributes := #[] }, { accessFlags := 25, nameIndex := 358, descriptorIndex := 339, attributes := #[] }, { accessFlags := 25, nameIndex := 361, descriptorIndex := 339, attributes := #[] }, { accessFlags := 26, nameIndex := 364, descriptorIndex := 339, attributes := #[] }, { accessFlags := 26, nameIndex := 365, descriptorIndex := 339, attributes := #[] }, { accessFlags := 26, nameIndex := 172, descriptorIndex := 173, attributes := #[] }, { accessFlags := 26, nameIndex := 176, descriptorIndex := 173, attributes := #[] }, { accessFlags := 8, nameIndex := 344, descriptorIndex := 339, attributes := #[] }, { accessFlags := 8, nameIndex := 338, descriptorIndex := 339, attributes := #[] }, { accessFlags := 4120, nameIndex := 245, descriptorIndex := 246, attributes := #[] }])
  fields := #[{ name := "E", type := .double, accessFlags := 25, slot := 0, constantValue := 0 }, { name := "PI", type := .double, accessFlags := 25, slot := 1, constantValue := 0 }, { name := "TAU", type := .double, accessFlags := 25, slot := 2, constantValue := 0 }, { name := "DEGREES_TO_RADIANS", type := .double, accessFlags := 26, slot := 3, constantValue := 0 }, { name := "RADIANS_TO_DEGREES", type := .double, accessFlags := 26, slot := 4, constantValue := 0 }, { name := "negativeZeroFloatBits", type := .long, accessFlags := 26, slot := 5, constantValue := 0 }, { name := "negativeZeroDoubleBits", type := .long, accessFlags := 26, slot := 6, constantValue := 0 }, { name := "twoToTheDoubleScaleUp", type := .double, accessFlags := 8, slot := 7, constantValue := 0 }, { name := "twoToTheDoubleScaleDown", type := .double, accessFlags := 8, slot := 8, constantValue := 0 }, { name := "$assertionsDisabled", type := .boolean, accessFlags := 4120, slot := 9, constantValue := 0 }]
  methods := #[k9m0, k9m1, k9m2]
  instanceTypes := #[]
  staticTypes := #[.double, .double, .double, .double, .double, .long, .long, .double, .double, .boolean]
  resolved := Array.replicate 460 none
  statics := none }

def pool10 : Array CpInfo := pool [(2, .class_ 4), (1, u "java/lang/Object"), (0, u "<init>"), (0, u "()V"), (7, .class_ 16), (1, u "java/util/Arrays"), (57, .class_ 76), (1, u "java/util/Arrays$NaturalOrder"), (36, .class_ 115), (1, u "java/util/Arrays$LegacyMergeSort"), (1, u "Z"), (32, .methodref 151 152), (0, .class_ 153), (0, .nameAndType 154 155), (0, u "java/lang/System"), (0, u "arraycopy"), (0, u "(Ljava/lang/Object;ILjava/lang/Object;II)V"), (146, u "copyOf"), (1, .methodref 305 306), (0, .class_ 307), (0, .nameAndType 308 309), (0, u "java/lang/Math"), (0, u "min"), (0, u "(II)I"), (65, .class_ 376), (0, u "java/util/Arrays$ArrayList"), (68, u "$assertionsDisabled"), (269, u "MIN_ARRAY_SORT_GRAN"), (0, u "I"), (2, u "INSERTIONSORT_THRESHOLD"), (151, u "([II)[I"), (3, u "([DI)[D"), (99, .class_ 976), (0, u "java/util/Arrays$ArrayItr")] 52

def k10m0 : Method := { name := "<init>", desc := "()V", sig := { parameters := [], returnType := none }, accessFlags := 2, code := none }
def k10c1 : Code := { maxStack := 6, maxLocals := 3, code := jdk_65_method_123_code, exceptionTable := #[], attributes := #[] }
def k10m1 : Method := { name := "copyOf", desc := "([II)[I", sig := { parameters := [(.array .int), .int], returnType := some (.array .int) }, accessFlags := 9, code := some k10c1 }
def k10c2 : Code := { maxStack := 6, maxLocals := 3, code := jdk_65_method_127_code, exceptionTable := #[], attributes := #[] }
def k10m2 : Method := { name := "copyOf", desc := "([DI)[D", sig := { parameters := [(.array .double), .int], returnType := some (.array .double) }, accessFlags := 9, code := some k10c2 }
/-- java/util/Arrays -/
def k10 : Class := { plain "java/util/Arrays" (some 0) with
  accessFlags := 49
  interfaces := #[]
  cf := some (fileOf pool10 14 #[.nestMembers #[975, 375, 113, 74]] #[{ accessFlags := 2, nameIndex := 5, descriptorIndex := 6, attributes := #[] }, { accessFlags := 9, nameIndex := 302, descriptorIndex := 871, attributes := #[] }, { accessFlags := 9, nameIndex := 302, descriptorIndex := 875, attributes := #[] }] 49 2 #[] #[{ accessFlags := 26, nameIndex := 715, descriptorIndex := 716, attributes := #[] }, { accessFlags := 26, nameIndex := 719, descriptorIndex := 716, attributes := #[] }, { accessFlags := 4120, nameIndex := 445, descriptorIndex := 117, attributes := #[] }])
  fields := #[{ name := "MIN_ARRAY_SORT_GRAN", type := .int, accessFlags := 26, slot := 0, constantValue := 0 }, { name := "INSERTIONSORT_THRESHOLD", type := .int, accessFlags := 26, slot := 1, constantValue := 0 }, { name := "$assertionsDisabled", type := .boolean, accessFlags := 4120, slot := 2, constantValue := 0 }]
  methods := #[k10m0, k10m1, k10m2]
  instanceTypes := #[]
  staticTypes := #[.int, .int, .boolean]
  resolved := Array.replicate 1029 none
  statics := none }

def pool11 : Array CpInfo := pool [(2, .class_ 4), (1, u "java/lang/Object"), (0, u "<init>"), (0, u "()V"), (1, .class_ 10), (1, u "java/lang/System"), (0, u "allowSecurityManager"), (0, u "I"), (16, u "cons"), (0, u "Ljava/io/Console;"), (77, .class_ 110), (1, u "java/lang/System$CallersHolder"), (43, u "initialErrStream"), (0, u "Ljava/io/PrintStream;"), (19, u "security"), (0, u "Ljava/lang/SecurityManager;"), (31, .class_ 209), (0, u "java/lang/System$1"), (7, u "props"), (0, u "Ljava/util/Properties;"), (2, u "lineSeparator"), (0, u "Ljava/lang/String;"), (96, .class_ 321), (1, u "java/lang/System$LoggerFinder"), (5, .class_ 328), (0, u "java/lang/System$Logger"), (67, u "err"), (2, u "out"), (91, u "notSupportedJnuEncoding"), (15, u "in"), (17, u "initialIn"), (0, u "Ljava/io/InputStream;"), (35, u "bootLayer"), (0, u "Ljava/lang/ModuleLayer;"), (99, .class_ 664), (0, u "java/lang/System$2"), (9, u "NEVER"), (2, u "MAYBE"), (49, u "arraycopy"), (0, u "(Ljava/lang/Object;ILjava/lang/Object;II)V"), (72, .class_ 802), (0, u "java/lang/System$Logger$Level")] 31

def k11m0 : Method := { name := "<init>", desc := "()V", sig := { parameters := [], returnType := none }, accessFlags := 2, code := none }
def k11m1 : Method := { name := "arraycopy", desc := "(Ljava/lang/Object;ILjava/lang/Object;II)V", sig := { parameters := [(.object "java/lang/Object"), .int, (.object "java/lang/Object"), .int, .int], returnType := none }, accessFlags := 265, code := none }
/-- java/lang/System -/
def k11 : Class := { plain "java/lang/System" (some 0) with
  accessFlags := 49
  interfaces := #[]
  cf := some (fileOf pool11 8 #[.nestMembers #[319, 327, 801, 108, 663, 208]] #[{ accessFlags := 2, nameIndex := 5, descriptorIndex := 6, attributes := #[] }, { accessFlags := 265, nameIndex := 727, descriptorIndex := 728, attributes := #[] }] 49 2 #[] #[{ accessFlags := 25, nameIndex := 507, descriptorIndex := 526, attributes := #[] }, { accessFlags := 25, nameIndex := 399, descriptorIndex := 155, attributes := #[] }, { accessFlags := 25, nameIndex := 396, descriptorIndex := 155, attributes := #[] }, { accessFlags := 10, nameIndex := 525, descriptorIndex := 526, attributes := #[] }, { accessFlags := 26, nameIndex := 674, descriptorIndex := 12, attributes := #[] }, { accessFlags := 26, nameIndex := 677, descriptorIndex := 12, attributes := #[] }, { accessFlags := 10, nameIndex := 11, descriptorIndex := 12, attributes := #[] }, { accessFlags := 74, nameIndex := 175, descriptorIndex := 176, attributes := #[] }, { accessFlags := 10, nameIndex := 491, descriptorIndex := 222, attributes := #[] }, { accessFlags := 74, nameIndex := 29, descriptorIndex := 30, attributes := #[] }, { accessFlags := 74, nameIndex := 154, descriptorIndex := 155, attributes := #[] }, { accessFlags := 10, nameIndex := 217, descriptorIndex := 218, attributes := #[] }, { accessFlags := 10, nameIndex := 221, descriptorIndex := 222, attributes := #[] }, { accessFlags := 8, nameIndex := 562, descriptorIndex := 563, attributes := #[] }])
  fields := #[{ name := "in", type := (.object "java/io/InputStream"), accessFlags := 25, slot := 0, constantValue := 0 }, { name := "out", type := (.object "java/io/PrintStream"), accessFlags := 25, slot := 1, constantValue := 0 }, { name := "err", type := (.object "java/io/PrintStream"), accessFlags := 25, slot := 2, constantValue := 0 }, { name := "initialIn", type := (.object "java/io/InputStream"), accessFlags := 10, slot := 3, constantValue := 0 }, { name := "NEVER", type := .int, accessFlags := 26, slot := 4, constantValue := 0 }, { name := "MAYBE", type := .int, accessFlags := 26, slot := 5, constantValue := 0 }, { name := "allowSecurityManager", type := .int, accessFlags := 10, slot := 6, constantValue := 0 }, { name := "security", type := (.object "java/lang/SecurityManager"), accessFlags := 74, slot := 7, constantValue := 0 }, { name := "notSupportedJnuEncoding", type := (.object "java/lang/String"), accessFlags := 10, slot := 8, constantValue := 0 }, { name := "cons", type := (.object "java/io/Console"), accessFlags := 74, slot := 9, constantValue := 0 }, { name := "initialErrStream", type := (.object "java/io/PrintStream"), accessFlags := 74, slot := 10, constantValue := 0 }, { name := "props", type := (.object "java/util/Properties"), accessFlags := 10, slot := 11, constantValue := 0 }, { name := "lineSeparator", type := (.object "java/lang/String"), accessFlags := 10, slot := 12, constantValue := 0 }, { name := "bootLayer", type := (.object "java/lang/ModuleLayer"), accessFlags := 8, slot := 13, constantValue := 0 }]
  methods := #[k11m0, k11m1]
  instanceTypes := #[]
  staticTypes := #[(.object "java/io/InputStream"), (.object "java/io/PrintStream"), (.object "java/io/PrintStream"), (.object "java/io/InputStream"), .int, .int, .int, (.object "java/lang/SecurityManager"), (.object "java/lang/String"), (.object "java/io/Console"), (.object "java/io/PrintStream"), (.object "java/util/Properties"), (.object "java/lang/String"), (.object "java/lang/ModuleLayer")]
  resolved := Array.replicate 834 none
  statics := none }

def pool12 : Array CpInfo := pool [(1, .class_ 2), (0, u "java/lang/Integer"), (16, u "digits"), (0, u "[C"), (32, u "numberOfLeadingZeros"), (0, u "(I)I"), (30, u "DigitOnes"), (0, u "[B"), (2, u "DigitTens"), (99, .class_ 190), (0, u "java/lang/Integer$IntegerCache"), (3, u "I"), (8, .class_ 204), (0, u "java/lang/Number"), (2, u "value"), (56, .integer 65536), (37, u "TYPE"), (0, u "Ljava/lang/Class;"), (0, .class_ 305), (0, u "java/lang/Comparable"), (0, .class_ 307), (0, u "java/lang/constant/Constable"), (0, .class_ 309), (0, u "java/lang/constant/ConstantDesc"), (0, u "MIN_VALUE"), (1, u "MAX_VALUE"), (3, u "SIZE"), (1, u "BYTES"), (1, u "serialVersionUID"), (0, u "J")] 131

def k12c0 : Code := { maxStack := 3, maxLocals := 2, code := jdk_33_method_47_code, exceptionTable := #[], attributes := #[] }
def k12m0 : Method := { name := "numberOfLeadingZeros", desc := "(I)I", sig := { parameters := [.int], returnType := some .int }, accessFlags := 9, code := some k12c0 }
/-- java/lang/Integer -/
def k12 : Class := { plain "java/lang/Integer" (some 4) with
  accessFlags := 49
  interfaces := #[5, 6, 7]
  cf := some (fileOf pool12 1 #[.nestMembers #[189]] #[{ accessFlags := 9, nameIndex := 53, descriptorIndex := 54, attributes := #[] }] 49 203 #[304, 306, 308] #[{ accessFlags := 25, nameIndex := 310, descriptorIndex := 194, attributes := #[] }, { accessFlags := 25, nameIndex := 312, descriptorIndex := 194, attributes := #[] }, { accessFlags := 25, nameIndex := 302, descriptorIndex := 303, attributes := #[] }, { accessFlags := 24, nameIndex := 19, descriptorIndex := 20, attributes := #[] }, { accessFlags := 24, nameIndex := 89, descriptorIndex := 86, attributes := #[] }, { accessFlags := 24, nameIndex := 85, descriptorIndex := 86, attributes := #[] }, { accessFlags := 18, nameIndex := 207, descriptorIndex := 194, attributes := #[] }, { accessFlags := 25, nameIndex := 316, descriptorIndex := 194, attributes := #[] }, { accessFlags := 25, nameIndex := 318, descriptorIndex := 194, attributes := #[] }, { accessFlags := 26, nameIndex := 320, descriptorIndex := 321, attributes := #[] }])
  fields := #[{ name := "MIN_VALUE", type := .int, accessFlags := 25, slot := 0, constantValue := 0 }, { name := "MAX_VALUE", type := .int, accessFlags := 25, slot := 1, constantValue := 0 }, { name := "TYPE", type := (.object "java/lang/Class"), accessFlags := 25, slot := 2, constantValue := 0 }, { name := "digits", type := (.array .char), accessFlags := 24, slot := 3, constantValue := 0 }, { name := "DigitTens", type := (.array .byte), accessFlags := 24, slot := 4, constantValue := 0 }, { name := "DigitOnes", type := (.array .byte), accessFlags := 24, slot := 5, constantValue := 0 }, { name := "value", type := .int, accessFlags := 18, slot := 0, constantValue := 0 }, { name := "SIZE", type := .int, accessFlags := 25, slot := 6, constantValue := 0 }, { name := "BYTES", type := .int, accessFlags := 25, slot := 7, constantValue := 0 }, { name := "serialVersionUID", type := .long, accessFlags := 26, slot := 8, constantValue := 0 }]
  methods := #[k12m0]
  instanceTypes := #[.int]
  staticTypes := #[.int, .int, (.object "java/lang/Class"), (.array .char), (.array .byte), (.array .byte), .int, .int, .long]
  resolved := Array.replicate 453 none
  statics := none }

def pool13 : Array CpInfo := pool [(1, u "java/lang/Cloneable"), (0, .class_ 1), (0, u "java/lang/Object"), (0, .class_ 3)] 3

/-- java/lang/Cloneable -/
def k13 : Class := { plain "java/lang/Cloneable" (some 0) with
  accessFlags := 1537
  interfaces := #[]
  cf := some (fileOf pool13 2 #[] #[] 1537 4 #[] #[])
  fields := #[]
  methods := #[]
  instanceTypes := #[]
  staticTypes := #[]
  resolved := Array.replicate 8 none
  statics := none }

/-- the primitive byte -/
def k14 : Class := { plain "byte" none with kind := .primitive 'B', accessFlags := 0x411 }
/-- [B -/
def k15 : Class := { plain "[B" (some 0) with kind := .array 14 .byte, interfaces := #[13, 3], accessFlags := 1041 }

/-- the primitive double -/
def k16 : Class := { plain "double" none with kind := .primitive 'D', accessFlags := 0x411 }
/-- [D -/
def k17 : Class := { plain "[D" (some 0) with kind := .array 16 .double, interfaces := #[13, 3], accessFlags := 1041 }

/-- the primitive int -/
def k18 : Class := { plain "int" none with kind := .primitive 'I', accessFlags := 0x411 }
/-- [I -/
def k19 : Class := { plain "[I" (some 0) with kind := .array 18 .int, interfaces := #[13, 3], accessFlags := 1041 }

def heap : Heap := #[]
def classes : Array Class := #[k0, k1, k2, k3, k4, k5, k6, k7, k8, k9, k10, k11, k12, k13, k14, k15, k16, k17, k18, k19]
def interned : List (Array UInt16 × Addr) := []
def slotsUsed : Nat := 0
def theMethod : MethodId := ⟨1, 1⟩
def args0 : Array Value := #[.int 5, .int 7, .int 3, .int 7, .int 9]
def aboutOver (below : List Frame) : State where
  vm := { classes := classes, interned := interned.toArray }
  heap := heap
  slotsUsed := slotsUsed
  threads := #[{ frames := .invoking theMethod args0 :: below }]
def below0 : List Frame := [.native { method := ⟨0, 0⟩, args := #[] }]
def about1 : State := aboutOver below0
def p0 : Program := .bare "" "" ""
def e0 : Env := launch0.env 0 0 0
theorem w_frames : about1.frames = Frame.invoking theMethod args0 :: below0 := rfl
set_option maxRecDepth 65536 in
theorem w_args : argsFit about1.vm theMethod args0 = true := by decide +kernel
set_option maxRecDepth 65536 in
theorem w_heap : heapFits about1 = true := by decide +kernel
set_option maxRecDepth 65536 in
theorem w_runnable : about1.curStatus? = some .runnable := by decide +kernel
set_option maxRecDepth 65536 in
theorem w_alone : about1.alone = true := by decide +kernel
set_option maxRecDepth 65536 in
theorem w_named : about1.methodNamed? x = some theMethod := by decide +kernel
set_option maxRecDepth 65536 in
theorem w_hears : about1.hears theMethod below0 = true := by decide +kernel
set_option maxRecDepth 65536 in
theorem w_ripe : about1.ripe theMethod args0 below0 = true := by decide +kernel
theorem w_running : about1.status = .running := rfl
set_option maxRecDepth 65536 in
theorem w_room : about1.hasRoom e0.platform room_1 = true :=
  launch0.hasRoom_least _ room_1 (by decide +kernel) (by decide +kernel) (by decide +kernel) (by decide +kernel) (by decide +kernel) (by decide +kernel)
theorem allAtoms_all (ts : List Jvm.Cond) (a : Array Jvm.Value) (st : Jvm.State) : (allAtoms ts).before a st = ts.all (fun c => c.before a st) := by
  induction ts with
  | nil => rfl
  | cons c t ih =>
    show (Jvm.Cond.and c (allAtoms t)).before a st = _
    rw [Jvm.Cond.before_and, ih, List.all_cons]
def words1 : List Jvm.Cond := Jvm.Cond.code x code maxLocals ret :: tables_1
/-- a 'code' word, met by the world's own term for the bytes: nothing is compared byte by byte -/
theorem code_word {y : MethodName} {bytes : ByteArray} {mx : Nat} {rt : Option FieldType} {a : Array Value} {s : State} {m : MethodId} {meth : Method} {c : Code} (h1 : s.methodNamed? y = some m) (h2 : s.vm.method? m = some meth) (h3 : meth.code = some c) (h4 : c.code = bytes)
    (h5 : (c.maxLocals == mx && c.exceptionTable.isEmpty && decide (c.maxStack ≤ mostOperands) && decide (meth.sig.returnType = rt) && !meth.locks && decide (parseMethodDescriptor y.desc = some meth.sig)) = true) : (Jvm.Cond.code y bytes mx rt).before a s = true := by
  simp only [Bool.and_eq_true, beq_iff_eq, Bool.not_eq_true', decide_eq_true_eq] at h5
  obtain ⟨⟨⟨⟨⟨g1, g2⟩, g3⟩, g4⟩, g5⟩, g6⟩ := h5
  simp [Cond.before, Cond.holds, Cond.value, h1, h2, h3, h4, g1, g2, g3, g4, g5, g6]
def isCode : Jvm.Cond → Bool
  | .code _ _ _ _ => true
  | _ => false
theorem all_split {L : List Jvm.Cond} {P : Jvm.Cond → Bool} (h1 : L.all (fun c => isCode c || P c) = true) (h2 : ∀ c ∈ L.filter isCode, P c = true) : L.all P = true := by
  refine List.all_eq_true.mpr fun c hc => ?_
  have h := List.all_eq_true.mp h1 c hc
  rcases Bool.eq_false_or_eq_true (isCode c) with hi | hi
  · exact h2 c (List.mem_filter.mpr ⟨hc, hi⟩)
  · simpa [hi] using h
set_option maxRecDepth 65536 in
theorem w_c0 : (Jvm.Cond.code x code maxLocals ret).before args0 about1 = true := code_word (m := ⟨1, 1⟩) (meth := k1m1) (c := k1c1) (by decide +kernel) rfl rfl rfl (by decide +kernel)
set_option maxRecDepth 65536 in
theorem w_c1 : (Jvm.Cond.code ({ cls := "com/example/due_weight/dueweight/core/Pairs", name := "<init>", desc := "()V" } : Jvm.MethodName) prog_21_method_1_code (1 : Nat) (Option.none : Option Jvm.ClassFile.FieldType)).before args0 about1 = true := code_word (m := ⟨2, 0⟩) (meth := k2m0) (c := k2c0) (by decide +kernel) rfl rfl rfl (by decide +kernel)
set_option maxRecDepth 65536 in
theorem w_c2 : (Jvm.Cond.code ({ cls := "java/lang/Object", name := "<init>", desc := "()V" } : Jvm.MethodName) object_method_1_code (1 : Nat) (Option.none : Option Jvm.ClassFile.FieldType)).before args0 about1 = true := code_word (m := ⟨0, 0⟩) (meth := k0m0) (c := k0c0) (by decide +kernel) rfl rfl rfl (by decide +kernel)
set_option maxRecDepth 65536 in
theorem w_c3 : (Jvm.Cond.code ({ cls := "com/example/due_weight/dueweight/core/Pairs", name := "add", desc := "(ID)I" } : Jvm.MethodName) prog_21_method_7_code (5 : Nat) (Option.some Jvm.ClassFile.FieldType.int)).before args0 about1 = true := code_word (m := ⟨2, 2⟩) (meth := k2m2) (c := k2c2) (by decide +kernel) rfl rfl rfl (by decide +kernel)
set_option maxRecDepth 65536 in
theorem w_c4 : (Jvm.Cond.code ({ cls := "com/example/due_weight/dueweight/core/Pairs", name := "indexOf", desc := "(I)I" } : Jvm.MethodName) prog_21_method_6_code (4 : Nat) (Option.some Jvm.ClassFile.FieldType.int)).before args0 about1 = true := code_word (m := ⟨2, 1⟩) (meth := k2m1) (c := k2c1) (by decide +kernel) rfl rfl rfl (by decide +kernel)
set_option maxRecDepth 65536 in
theorem w_c5 : (Jvm.Cond.code ({ cls := "com/example/due_weight/dueweight/core/Pairs", name := "fingerprint", desc := "(ID)J" } : Jvm.MethodName) prog_21_method_21_code (3 : Nat) (Option.some Jvm.ClassFile.FieldType.long)).before args0 about1 = true := code_word (m := ⟨2, 5⟩) (meth := k2m5) (c := k2c5) (by decide +kernel) rfl rfl rfl (by decide +kernel)
set_option maxRecDepth 65536 in
theorem w_c6 : (Jvm.Cond.code ({ cls := "java/lang/Double", name := "doubleToLongBits", desc := "(D)J" } : Jvm.MethodName) jdk_117_method_23_code (2 : Nat) (Option.some Jvm.ClassFile.FieldType.long)).before args0 about1 = true := code_word (m := ⟨8, 1⟩) (meth := k8m1) (c := k8c1) (by decide +kernel) rfl rfl rfl (by decide +kernel)
set_option maxRecDepth 65536 in
theorem w_c7 : (Jvm.Cond.code ({ cls := "java/lang/Double", name := "isNaN", desc := "(D)Z" } : Jvm.MethodName) jdk_117_method_6_code (2 : Nat) (Option.some Jvm.ClassFile.FieldType.boolean)).before args0 about1 = true := code_word (m := ⟨8, 0⟩) (meth := k8m0) (c := k8c0) (by decide +kernel) rfl rfl rfl (by decide +kernel)
set_option maxRecDepth 65536 in
theorem w_c8 : (Jvm.Cond.code ({ cls := "com/example/due_weight/dueweight/core/Pairs", name := "mix", desc := "(J)J" } : Jvm.MethodName) prog_21_method_22_code (4 : Nat) (Option.some Jvm.ClassFile.FieldType.long)).before args0 about1 = true := code_word (m := ⟨2, 6⟩) (meth := k2m6) (c := k2c6) (by decide +kernel) rfl rfl rfl (by decide +kernel)
set_option maxRecDepth 65536 in
theorem w_c9 : (Jvm.Cond.code ({ cls := "com/example/due_weight/dueweight/core/PairsIndexOfPinLaw", name := "expected", desc := "(IIII)I" } : Jvm.MethodName) method_3_code (5 : Nat) (Option.some Jvm.ClassFile.FieldType.int)).before args0 about1 = true := code_word (m := ⟨1, 2⟩) (meth := k1m2) (c := k1c2) (by decide +kernel) rfl rfl rfl (by decide +kernel)
set_option maxRecDepth 65536 in
theorem w_c10 : (Jvm.Cond.code ({ cls := "java/lang/Math", name := "multiplyExact", desc := "(II)I" } : Jvm.MethodName) jdk_29_method_28_code (4 : Nat) (Option.some Jvm.ClassFile.FieldType.int)).before args0 about1 = true := code_word (m := ⟨9, 1⟩) (meth := k9m1) (c := k9c1) (by decide +kernel) rfl rfl rfl (by decide +kernel)
set_option maxRecDepth 65536 in
theorem w_c11 : (Jvm.Cond.code ({ cls := "java/util/Arrays", name := "copyOf", desc := "([II)[I" } : Jvm.MethodName) jdk_65_method_123_code (3 : Nat) (Option.some (Jvm.ClassFile.FieldType.array Jvm.ClassFile.FieldType.int))).before args0 about1 = true := code_word (m := ⟨10, 1⟩) (meth := k10m1) (c := k10c1) (by decide +kernel) rfl rfl rfl (by decide +kernel)
set_option maxRecDepth 65536 in
theorem w_c12 : (Jvm.Cond.code ({ cls := "java/lang/Math", name := "min", desc := "(II)I" } : Jvm.MethodName) jdk_29_method_69_code (2 : Nat) (Option.some Jvm.ClassFile.FieldType.int)).before args0 about1 = true := code_word (m := ⟨9, 2⟩) (meth := k9m2) (c := k9c2) (by decide +kernel) rfl rfl rfl (by decide +kernel)
set_option maxRecDepth 65536 in
theorem w_c13 : (Jvm.Cond.code ({ cls := "java/util/Arrays", name := "copyOf", desc := "([DI)[D" } : Jvm.MethodName) jdk_65_method_127_code (3 : Nat) (Option.some (Jvm.ClassFile.FieldType.array Jvm.ClassFile.FieldType.double))).before args0 about1 = true := code_word (m := ⟨10, 2⟩) (meth := k10m2) (c := k10c2) (by decide +kernel) rfl rfl rfl (by decide +kernel)
set_option maxRecDepth 65536 in
theorem w_c14 : (Jvm.Cond.code ({ cls := "com/example/due_weight/dueweight/core/Pairs", name := "index", desc := "()V" } : Jvm.MethodName) prog_21_method_8_code (3 : Nat) (Option.none : Option Jvm.ClassFile.FieldType)).before args0 about1 = true := code_word (m := ⟨2, 3⟩) (meth := k2m3) (c := k2c3) (by decide +kernel) rfl rfl rfl (by decide +kernel)
set_option maxRecDepth 65536 in
theorem w_c15 : (Jvm.Cond.code ({ cls := "java/lang/Integer", name := "numberOfLeadingZeros", desc := "(I)I" } : Jvm.MethodName) jdk_33_method_47_code (2 : Nat) (Option.some Jvm.ClassFile.FieldType.int)).before args0 about1 = true := code_word (m := ⟨12, 0⟩) (meth := k12m0) (c := k12c0) (by decide +kernel) rfl rfl rfl (by decide +kernel)
set_option maxRecDepth 65536 in
theorem w_c16 : (Jvm.Cond.code ({ cls := "com/example/due_weight/dueweight/core/Pairs", name := "fill", desc := "(I)V" } : Jvm.MethodName) prog_21_method_9_code (3 : Nat) (Option.none : Option Jvm.ClassFile.FieldType)).before args0 about1 = true := code_word (m := ⟨2, 4⟩) (meth := k2m4) (c := k2c4) (by decide +kernel) rfl rfl rfl (by decide +kernel)
def codes1 : List Jvm.Cond := [Jvm.Cond.code x code maxLocals ret, Jvm.Cond.code ({ cls := "com/example/due_weight/dueweight/core/Pairs", name := "<init>", desc := "()V" } : Jvm.MethodName) prog_21_method_1_code (1 : Nat) (Option.none : Option Jvm.ClassFile.FieldType), Jvm.Cond.code ({ cls := "java/lang/Object", name := "<init>", desc := "()V" } : Jvm.MethodName) object_method_1_code (1 : Nat) (Option.none : Option Jvm.ClassFile.FieldType), Jvm.Cond.code ({ cls := "com/example/due_weight/dueweight/core/Pairs", name := "add", desc := "(ID)I" } : Jvm.MethodName) prog_21_method_7_code (5 : Nat) (Option.some Jvm.ClassFile.FieldType.int), Jvm.Cond.code ({ cls := "com/example/due_weight/dueweight/core/Pairs", name := "indexOf", desc := "(I)I" } : Jvm.MethodName) prog_21_method_6_code (4 : Nat) (Option.some Jvm.ClassFile.FieldType.int), Jvm.Cond.code ({ cls := "com/example/due_weight/dueweight/core/Pairs", name := "fingerprint", desc := "(ID)J" } : Jvm.MethodName) prog_21_method_21_code (3 : Nat) (Option.some Jvm.ClassFile.FieldType.long), Jvm.Cond.code ({ cls := "java/lang/Double", name := "doubleToLongBits", desc := "(D)J" } : Jvm.MethodName) jdk_117_method_23_code (2 : Nat) (Option.some Jvm.ClassFile.FieldType.long), Jvm.Cond.code ({ cls := "java/lang/Double", name := "isNaN", desc := "(D)Z" } : Jvm.MethodName) jdk_117_method_6_code (2 : Nat) (Option.some Jvm.ClassFile.FieldType.boolean), Jvm.Cond.code ({ cls := "com/example/due_weight/dueweight/core/Pairs", name := "mix", desc := "(J)J" } : Jvm.MethodName) prog_21_method_22_code (4 : Nat) (Option.some Jvm.ClassFile.FieldType.long), Jvm.Cond.code ({ cls := "com/example/due_weight/dueweight/core/PairsIndexOfPinLaw", name := "expected", desc := "(IIII)I" } : Jvm.MethodName) method_3_code (5 : Nat) (Option.some Jvm.ClassFile.FieldType.int), Jvm.Cond.code ({ cls := "java/lang/Math", name := "multiplyExact", desc := "(II)I" } : Jvm.MethodName) jdk_29_method_28_code (4 : Nat) (Option.some Jvm.ClassFile.FieldType.int), Jvm.Cond.code ({ cls := "java/util/Arrays", name := "copyOf", desc := "([II)[I" } : Jvm.MethodName) jdk_65_method_123_code (3 : Nat) (Option.some (Jvm.ClassFile.FieldType.array Jvm.ClassFile.FieldType.int)), Jvm.Cond.code ({ cls := "java/lang/Math", name := "min", desc := "(II)I" } : Jvm.MethodName) jdk_29_method_69_code (2 : Nat) (Option.some Jvm.ClassFile.FieldType.int), Jvm.Cond.code ({ cls := "java/util/Arrays", name := "copyOf", desc := "([DI)[D" } : Jvm.MethodName) jdk_65_method_127_code (3 : Nat) (Option.some (Jvm.ClassFile.FieldType.array Jvm.ClassFile.FieldType.double)), Jvm.Cond.code ({ cls := "com/example/due_weight/dueweight/core/Pairs", name := "index", desc := "()V" } : Jvm.MethodName) prog_21_method_8_code (3 : Nat) (Option.none : Option Jvm.ClassFile.FieldType), Jvm.Cond.code ({ cls := "java/lang/Integer", name := "numberOfLeadingZeros", desc := "(I)I" } : Jvm.MethodName) jdk_33_method_47_code (2 : Nat) (Option.some Jvm.ClassFile.FieldType.int), Jvm.Cond.code ({ cls := "com/example/due_weight/dueweight/core/Pairs", name := "fill", desc := "(I)V" } : Jvm.MethodName) prog_21_method_9_code (3 : Nat) (Option.none : Option Jvm.ClassFile.FieldType)]
set_option maxRecDepth 65536 in
theorem codes_eq : words1.filter isCode = codes1 := rfl
theorem w_codes : ∀ c ∈ words1.filter isCode, c.before args0 about1 = true := by
  rw [codes_eq]
  intro c hc
  simp only [codes1, List.mem_cons, List.not_mem_nil, or_false] at hc
  rcases hc with rfl | rfl | rfl | rfl | rfl | rfl | rfl | rfl | rfl | rfl | rfl | rfl | rfl | rfl | rfl | rfl | rfl
  · exact w_c0
  · exact w_c1
  · exact w_c2
  · exact w_c3
  · exact w_c4
  · exact w_c5
  · exact w_c6
  · exact w_c7
  · exact w_c8
  · exact w_c9
  · exact w_c10
  · exact w_c11
  · exact w_c12
  · exact w_c13
  · exact w_c14
  · exact w_c15
  · exact w_c16
set_option maxRecDepth 65536 in
theorem w_t1 : (words1.take 24).all (fun c => isCode c || c.before args0 about1) = true := by decide +kernel
set_option maxRecDepth 65536 in
theorem w_t2 : ((words1.drop 24).take 24).all (fun c => isCode c || c.before args0 about1) = true := by decide +kernel
set_option maxRecDepth 65536 in
theorem w_t3 : (((words1.drop 24).drop 24).take 24).all (fun c => isCode c || c.before args0 about1) = true := by decide +kernel
set_option maxRecDepth 65536 in
theorem w_t4 : (((words1.drop 24).drop 24).drop 24).all (fun c => isCode c || c.before args0 about1) = true := by decide +kernel
theorem w_tables : (allAtoms (Jvm.Cond.code x code maxLocals ret :: tables_1)).before args0 about1 = true := by
  rw [allAtoms_all]
  show words1.all (fun c => c.before args0 about1) = true
  refine all_split ?_ w_codes
  rw [← List.take_append_drop 24 words1, List.all_append, w_t1, ← List.take_append_drop 24 (words1.drop 24), List.all_append, w_t2, ← List.take_append_drop 24 ((words1.drop 24).drop 24), List.all_append, w_t3, w_t4]
  rfl
set_option maxRecDepth 65536 in
theorem w_case : (Jvm.Cond.and given_1 narrow_1).before args0 about1 = true := by decide +kernel
theorem w_applies : (headSpec (Jvm.Cond.code x code maxLocals ret :: tables_1) room_1).applies x e0.platform about1 = true :=
  (Spec.applies_iff w_frames).mpr ⟨w_running, w_runnable, w_alone, w_named, w_hears, w_ripe, w_room, w_tables⟩
theorem atStart : AtStart classFile x code maxLocals ret World_1 tables_1 room_1 Calls_1 rest_1 Pre_1 launch0 p0 e0 about1 theMethod args0 below0 :=
  ⟨lists_1, trivial, launch0.admits_env _ _ _, launch0.least_env, fairChoices_fair.cas, fairChoices_fair.clock, w_frames, w_args, w_heap, w_applies, trivial, trivial, w_case⟩
end start1
theorem witness_1 : WitnessClaimed_1 := ⟨start1.p0, start1.e0, start1.about1, start1.theMethod, start1.args0, start1.below0, start1.atStart⟩
end Jvm.Pilot.@@N@@
