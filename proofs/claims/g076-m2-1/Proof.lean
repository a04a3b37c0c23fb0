import JvmDerived
import JvmDerived.Pilot.@@N@@Statement
import JvmDerived.Pilot.@@N@@Code
set_option linter.unusedVariables false
set_option linter.unusedSimpArgs false
@@BLOCK:NumsL.lean.txt@@
namespace Jvm.Pilot.@@N@@
open Jvm Jvm.ClassFile Sem Op Lib Jvm.Free Jvm.Stand Jvm.LawKit Jvm.RoadKit Bundle Jvm.Pilot.@@N@@.Jvm.D
section OwnGo
variable {p : Program} {l : Launch} {e : Env} {R : Room} {s : State} {m : MethodId} {args : Array Value} {below : List Frame} {meth : Method} {c : Code} {T T' : State} {locs : List Loc} {cells slots K1 K2 : Nat} {Q : Option Value → Heap → List Loc → Prop}
/-- from T at the frame f the run comes to an end that meets Q -/
def Go (p : Program) (e : Env) (below : List Frame) (s : State) (K1 K2 : Nat) (Q : Option Value → Heap → List Loc → Prop) (T : State) (f : JFrame) : Prop :=
  ∃ s₂ o, Steps p.tables e below (T.setTop f) s₂ ∧ s₂.status = .running ∧ Ended s₂ below o ∧ ∃ v L, o = .returned v ∧ Q v s₂.heap L ∧ FrameEnd s o s₂ L K1 K2
theorem Go.on {f f' : JFrame} (h : ∀ t, Steps p.tables e below (T'.setTop f') t → Steps p.tables e below (T.setTop f) t) (g : Go p e below s K1 K2 Q T' f') : Go p e below s K1 K2 Q T f := by
  obtain ⟨s₂, o, h1, r⟩ := g
  exact ⟨s₂, o, h _ h1, r⟩
theorem Go.cast {f f' : JFrame} (h : f = f') (g : Go p e below s K1 K2 Q T f') : Go p e below s K1 K2 Q T f := h ▸ g
theorem Go.gen {f : JFrame} (h : ∀ k1 k2 q, k1 = K1 → k2 = K2 → Q = q → Go p e below s k1 k2 q T f) : Go p e below s K1 K2 Q T f := h _ _ _ rfl rfl rfl
theorem Go.retV (X : Stand p l e R s m args below meth c T locs cells slots) (hx : p.tables.exec = Jvm.exec) {pc : Nat} {Ls : Array Slot} {w : Value} {t : FieldType} {i : Instr} {rest : List Value} (hret : meth.sig.returnType = some t) (hn : narrow t w = w)
    (hi : (i = .ireturn ∧ (t = .int ∨ t = .boolean ∨ t = .byte ∨ t = .char ∨ t = .short) ∧ ∃ z, w = .int z) ∨ (i = .lreturn ∧ t = .long ∧ ∃ z, w = .long z) ∨ (i = .dreturn ∧ t = .double ∧ ∃ z, w = .double z) ∨ (i = .freturn ∧ t = .float ∧ ∃ z, w = .float z) ∨ (i = .areturn ∧ t.isReference = true ∧ w.isRef = true))
    (hd : decode c.code pc = .ok (i, 1)) (hq : Q (some w) T.heap locs) (hc : cells ≤ K1) (hs : slots ≤ K2) (hlk : meth.locks = false := by assumption) : Go p e below s K1 K2 Q T (mkF m pc Ls (w :: rest)) := by
  obtain ⟨fs, hr, hrun, hended, hW, hsame⟩ := X.leave (v := some w) (fun h => by rw [hret] at h; cases h) hlk
  exact ⟨_, _, retOut X hx hret hn hi hd hr, hrun, hended, _, _, rfl, hq, ⟨_, rfl⟩, hW, hsame.mono hc hs⟩
theorem Go.retN (X : Stand p l e R s m args below meth c T locs cells slots) (hx : p.tables.exec = Jvm.exec) {pc : Nat} {Ls : Array Slot} {z : Int32} {t : FieldType} {rest : List Value} (hret : meth.sig.returnType = some t) (ht : t = .boolean ∨ t = .byte ∨ t = .char ∨ t = .short)
    (hd : decode c.code pc = .ok (.ireturn, 1)) (hq : Q (some (.int (nar t z))) T.heap locs) (hc : cells ≤ K1) (hs : slots ≤ K2) (hlk : meth.locks = false := by assumption) : Go p e below s K1 K2 Q T (mkF m pc Ls (.int z :: rest)) := by
  obtain ⟨fs, hr, hrun, hended, hW, hsame⟩ := X.leave (v := some (.int (nar t z))) (fun h => by rw [hret] at h; cases h) hlk
  exact ⟨_, _, Jvm.RoadKit.retN X hx hret ht hd hr, hrun, hended, _, _, rfl, hq, ⟨_, rfl⟩, hW, hsame.mono hc hs⟩
theorem Go.ret0 (X : Stand p l e R s m args below meth c T locs cells slots) (hx : p.tables.exec = Jvm.exec) {pc : Nat} {Ls : Array Slot} (hret : meth.sig.returnType = none)
    (hd : decode c.code pc = .ok (.return_, 1)) (hq : Q none T.heap locs) (hc : cells ≤ K1) (hs : slots ≤ K2) (hlk : meth.locks = false := by assumption) : Go p e below s K1 K2 Q T (mkF m pc Ls []) := by
  obtain ⟨fs, hr, hrun, hended, hW, hsame⟩ := X.leave (v := none) (fun _ => rfl) hlk
  exact ⟨_, _, X.returnOut hx hret hd hr, hrun, hended, _, _, rfl, hq, ⟨_, rfl⟩, hW, hsame.mono hc hs⟩
theorem own_lc_lt {a b : Int64} : lcmpW a b < 0 ↔ a < b := by rw [lcW]; exact lc_lt a b
theorem own_lc_gt {a b : Int64} : 0 < lcmpW a b ↔ b < a := by rw [lcW]; exact lc_gt a b
theorem own_lc_eq {a b : Int64} : lcmpW a b = 0 ↔ a = b := by rw [lcW]; exact lc_eq a b
theorem own_lremM {g : JFrame} {target : State} (X : Stand p l e R s m args below meth c T locs cells slots) (hx : p.tables.exec = Jvm.exec) (hg : g.method = m) {x y : Int64} {rest : List Value} (hd : decode c.code g.pc = .ok (.lrem, 1)) (hs : g.stack = .long y :: .long x :: rest) (hy : y ≠ 0)
    (hr : Steps p.tables e below (T.setTop { g with pc := g.pc + 1, stack := .long (x % y) :: rest }) target) : Steps p.tables e below (T.setTop g) target := by
  have q : x - x / y * y = x % y := by
    apply Int64.toInt_inj.mp
    have h1 := Int64.le_toInt (x % y)
    have h2 := Int64.toInt_lt (x % y)
    rw [Int64.toInt_sub, Int64.toInt_mul, Int64.toInt_div, Int.bmod_mul_bmod, Int.sub_bmod_bmod, Int.mul_comm (x.toInt.tdiv y.toInt), ← Int.tmod_def, ← Int64.toInt_mod]
    exact Int.bmod_eq_of_le_mul_two (by omega) (by omega)
  exact XS.lrem X.here hx hg hd hs hy (by rw [q]; exact hr)
theorem own_cl_gt {o : Option Ordering} : 0 < cmpValue o .l ↔ o = some .gt := by rcases o with _ | (_ | _ | _) <;> decide
theorem own_cl_lt {o : Option Ordering} : cmpValue o .l < 0 ↔ ¬ (o = some .gt ∨ o = some .eq) := by rcases o with _ | (_ | _ | _) <;> decide
theorem own_cg_lt {o : Option Ordering} : cmpValue o .g < 0 ↔ o = some .lt := by rcases o with _ | (_ | _ | _) <;> decide
theorem own_cg_gt {o : Option Ordering} : 0 < cmpValue o .g ↔ ¬ (o = some .lt ∨ o = some .eq) := by rcases o with _ | (_ | _ | _) <;> decide
theorem own_c_eq {o : Option Ordering} {k : CmpOp} : cmpValue o k = 0 ↔ o = some .eq := by cases k <;> rcases o with _ | (_ | _ | _) <;> decide
end OwnGo
section OwnFp
open Jvm.FP.Core
variable {a b V : UInt64} {x y z v : Int}
/-- the double a is finite and worth x units of 2^-1074 -/
def ZV (a : UInt64) (x : Int) : Prop := DFin a ∧ zval b64 (val64 a) = x
theorem ZV.ne (h : ZV a x) : val64 a ≠ .nan := h.1.ne_nan
theorem ZV.nn (h : ZV a x) : Jvm.Free.Fl.NoNaN64 a := Jvm.Free.Fl.noNaN64_no.mpr h.1.notNaN
theorem ZV.cmp (ha : ZV a x) (hb : ZV b y) : FP.dcmp a b = some (compare x y) := by
  show FP.Core.dcmp a b = _
  rw [dcmp_zval ha.ne hb.ne, ha.2, hb.2]
theorem ZV.uniq (ha : ZV a x) (hb : ZV a y) : x = y := ha.2.symm.trans hb.2
theorem own_fin_of {W : UInt64} (hn : val64 a ≠ .nan) (hW : DFin W) (h : zmag b64 (val64 a) ≤ zmag b64 (val64 W)) : DFin a := by
  cases h2 : val64 a with
  | nan => exact absurd h2 hn
  | inf s =>
    rw [h2] at h
    have := hW.zval_lt
    have e : zmag b64 (.inf s) = b64.tails * 2 ^ (b64.exps - 2) := rfl
    rw [e] at h
    omega
  | fin s c q => exact ⟨s, c, q, h2⟩
theorem own_natAbs (d : Datum) : (zval b64 d).natAbs = zmag b64 d := natAbs_signed _ _
theorem own_fin_of_z {W : UInt64} (hn : val64 a ≠ .nan) (hW : DFin W) (h : (zval b64 (val64 a)).natAbs ≤ (zval b64 (val64 W)).natAbs) : DFin a := by
  rw [own_natAbs, own_natAbs] at h; exact own_fin_of hn hW h
theorem ZV.add (ha : ZV a x) (hb : ZV b y) (hv : ZV V (x + y)) : ZV (FP.dadd a b) (x + y) := by
  have hn : val64 (FP.Core.dadd a b) ≠ .nan := (notNaN_iff _).mp (FP.Core.dadd_out ha.1.notNaN hb.1)
  have e : zval b64 (val64 (FP.Core.dadd a b)) = x + y := by
    have h1 := sum_le good_b64 ha.1 hb.1 (val64_fits a) (val64_fits b) (val64_fits V) hv.ne (by rw [ha.2, hb.2, hv.2]; exact Int.le_refl _)
    have h2 := sum_ge good_b64 ha.1 hb.1 (val64_fits a) (val64_fits b) (val64_fits V) hv.ne (by rw [ha.2, hb.2, hv.2]; exact Int.le_refl _)
    rw [← val64_dadd, hv.2] at h1 h2
    exact Int.le_antisymm h1 h2
  exact ⟨own_fin_of_z hn hv.1 (by rw [e, hv.2]; exact Nat.le_refl _), e⟩
theorem own_neg_fin {d : Datum} (h : ∃ s c q, d = .fin s c q) : ∃ s c q, negate d = .fin s c q := by
  obtain ⟨s, c, q, rfl⟩ := h; exact ⟨_, _, _, rfl⟩
theorem ZV.sub (ha : ZV a x) (hb : ZV b y) (hv : ZV V (x - y)) : ZV (FP.dsub a b) (x - y) := by
  have hn : val64 (FP.Core.dsub a b) ≠ .nan := (notNaN_iff _).mp (FP.Core.dsub_out ha.1.notNaN hb.1)
  have e : zval b64 (val64 (FP.Core.dsub a b)) = x - y := by
    have h1 := sum_le good_b64 ha.1 (own_neg_fin hb.1) (val64_fits a) (negate_fits (val64_fits b)) (val64_fits V) hv.ne (by rw [ha.2, zval_negate, hb.2, hv.2]; omega)
    have h2 := sum_ge good_b64 ha.1 (own_neg_fin hb.1) (val64_fits a) (negate_fits (val64_fits b)) (val64_fits V) hv.ne (by rw [ha.2, zval_negate, hb.2, hv.2]; omega)
    rw [← val64_dsub, hv.2] at h1 h2
    exact Int.le_antisymm h1 h2
  exact ⟨own_fin_of_z hn hv.1 (by rw [e, hv.2]; exact Nat.le_refl _), e⟩
/-- a sum or a difference lies between what bounds it -/
theorem ZV.add_le (ha : ZV a x) (hb : ZV b y) (hv : ZV V v) (h : x + y ≤ v) : zval b64 (val64 (FP.dadd a b)) ≤ v := by
  have h1 := sum_le good_b64 ha.1 hb.1 (val64_fits a) (val64_fits b) (val64_fits V) hv.ne (by rw [ha.2, hb.2, hv.2]; exact h)
  rw [← val64_dadd, hv.2] at h1; exact h1
theorem ZV.add_ge (ha : ZV a x) (hb : ZV b y) (hv : ZV V v) (h : v ≤ x + y) : v ≤ zval b64 (val64 (FP.dadd a b)) := by
  have h1 := sum_ge good_b64 ha.1 hb.1 (val64_fits a) (val64_fits b) (val64_fits V) hv.ne (by rw [ha.2, hb.2, hv.2]; exact h)
  rw [← val64_dadd, hv.2] at h1; exact h1
theorem ZV.sub_le (ha : ZV a x) (hb : ZV b y) (hv : ZV V v) (h : x - y ≤ v) : zval b64 (val64 (FP.dsub a b)) ≤ v := by
  have h1 := sum_le good_b64 ha.1 (own_neg_fin hb.1) (val64_fits a) (negate_fits (val64_fits b)) (val64_fits V) hv.ne (by rw [ha.2, zval_negate, hb.2, hv.2]; omega)
  rw [← val64_dsub, hv.2] at h1; exact h1
theorem ZV.sub_ge (ha : ZV a x) (hb : ZV b y) (hv : ZV V v) (h : v ≤ x - y) : v ≤ zval b64 (val64 (FP.dsub a b)) := by
  have h1 := sum_ge good_b64 ha.1 (own_neg_fin hb.1) (val64_fits a) (negate_fits (val64_fits b)) (val64_fits V) hv.ne (by rw [ha.2, zval_negate, hb.2, hv.2]; omega)
  rw [← val64_dsub, hv.2] at h1; exact h1
/-- the product's bounds -/
theorem own_mul_le (ha : ZV a x) (hb : ZV b y) (hv : ZV V v) (h : x * y ≤ v * (one64 : Int)) : zval b64 (val64 (FP.dmul a b)) ≤ v := by
  obtain ⟨⟨s, c, q, h1⟩, ex⟩ := ha
  obtain ⟨⟨t, d, r, h2⟩, ey⟩ := hb
  have f1 := val64_fits a; have f2 := val64_fits b
  rw [h1] at f1 ex; rw [h2] at f2 ey
  obtain ⟨p1, p2, p3⟩ := product_units f1 f2
  show zval b64 (val64 (FP.Core.dmul a b)) ≤ v
  rw [val64_dmul, h1, h2, p1, ← hv.2]
  refine zval_round_le good_b64 (val64_fits V) hv.ne (e0 := 2 * b64.qmin) (by decide) p2 ?_
  rw [p3, show (b64.qmin - 2 * b64.qmin).toNat = (-b64.qmin).toNat from by decide, pow_qmin64, hv.2, signed_xor]
  have : zval b64 (.fin s c q) * zval b64 (.fin t d r) ≤ v * (one64 : Int) := by rw [ex, ey]; exact h
  exact this
theorem own_mul_ge (ha : ZV a x) (hb : ZV b y) (hv : ZV V v) (h : v * (one64 : Int) ≤ x * y) : v ≤ zval b64 (val64 (FP.dmul a b)) := by
  obtain ⟨⟨s, c, q, h1⟩, ex⟩ := ha
  obtain ⟨⟨t, d, r, h2⟩, ey⟩ := hb
  have f1 := val64_fits a; have f2 := val64_fits b
  rw [h1] at f1 ex; rw [h2] at f2 ey
  obtain ⟨p1, p2, p3⟩ := product_units f1 f2
  show v ≤ zval b64 (val64 (FP.Core.dmul a b))
  rw [val64_dmul, h1, h2, p1, ← hv.2]
  refine zval_round_ge good_b64 (val64_fits V) hv.ne (e0 := 2 * b64.qmin) (by decide) p2 ?_
  rw [p3, show (b64.qmin - 2 * b64.qmin).toNat = (-b64.qmin).toNat from by decide, pow_qmin64, hv.2, signed_xor]
  have : v * (one64 : Int) ≤ zval b64 (.fin s c q) * zval b64 (.fin t d r) := by rw [ex, ey]; exact h
  exact this
theorem ZV.mul (ha : ZV a x) (hb : ZV b y) (hv : ZV V z) (h : x * y = z * (one64 : Int)) : ZV (FP.dmul a b) z := by
  have hn : val64 (FP.Core.dmul a b) ≠ .nan := (notNaN_iff _).mp (FP.Core.dmul_out ha.1 hb.1)
  have e : zval b64 (val64 (FP.Core.dmul a b)) = z := Int.le_antisymm (own_mul_le ha hb hv (Int.le_of_eq h)) (own_mul_ge ha hb hv (Int.le_of_eq h.symm))
  exact ⟨own_fin_of_z hn hv.1 (by rw [e, hv.2]; exact Nat.le_refl _), e⟩
/-- the quotient of finite doubles, the divisor not nought: its datum -/
theorem own_quot (ha : ZV a x) (hb : ZV b y) (hy : y ≠ 0) : ∃ s c q t d r, val64 a = .fin s c q ∧ val64 b = .fin t d r ∧ 0 < d ∧ val64 (FP.ddiv a b) = roundRatio b64 (s != t) c d (q - r) ∧ FP.Core.fits b64 (.fin s c q) ∧ FP.Core.fits b64 (.fin t d r) := by
  obtain ⟨⟨s, c, q, h1⟩, ex⟩ := ha
  obtain ⟨⟨t, d, r, h2⟩, ey⟩ := hb
  have f1 := val64_fits a; have f2 := val64_fits b
  rw [h1] at f1; rw [h2] at f2
  have hd : d ≠ 0 := fun q => by
    subst q
    rw [h2] at ey
    apply hy; rw [← ey]; show signed t (inUnits 0 r _) = 0
    unfold inUnits; rw [Nat.zero_mul, signed_zero]
  refine ⟨s, c, q, t, d, r, h1, h2, Nat.pos_of_ne_zero hd, ?_, f1, f2⟩
  show val64 (FP.Core.ddiv a b) = _
  rw [val64_ddiv, h1, h2]
  show (if d = 0 then _ else _) = _
  rw [if_neg hd]
theorem own_div_mag_le {c d : Nat} {q r : Int} {s t sg : Bool} (f1 : FP.Core.fits b64 (.fin s c q)) (f2 : FP.Core.fits b64 (.fin t d r)) (hd : 0 < d) {W : Datum} (fW : FP.Core.fits b64 W) (hW : W ≠ .nan)
    (h : inUnits c q b64.qmin * one64 ≤ zmag b64 W * inUnits d r b64.qmin) : zmag b64 (roundRatio b64 sg c d (q - r)) ≤ zmag b64 W := by
  have h1 := f1.2.1
  have h2 := f2.2.1
  have hq : b64.qmin < 0 := by decide
  refine zmag_roundRatio_le good_b64 hd fW hW (e0 := 2 * b64.qmin - r) (by omega) (by omega) ?_
  have e1 : (b64.qmin - (2 * b64.qmin - r)).toNat = (r - b64.qmin).toNat := by congr 1; omega
  rw [e1]
  have e2 : inUnits c (q - r) (2 * b64.qmin - r) = inUnits c q b64.qmin * one64 := by
    unfold inUnits
    rw [← pow_qmin64, Nat.mul_assoc, ← Nat.pow_add]
    congr 2; omega
  rw [e2]
  refine Nat.le_trans h (Nat.le_of_eq ?_)
  unfold inUnits
  rw [Nat.mul_comm d, Nat.mul_assoc]
theorem own_div_mag_ge {c d : Nat} {q r : Int} {s t sg : Bool} (f1 : FP.Core.fits b64 (.fin s c q)) (f2 : FP.Core.fits b64 (.fin t d r)) (hd : 0 < d) {W : Datum} (fW : FP.Core.fits b64 W)
    (h : zmag b64 W * inUnits d r b64.qmin ≤ inUnits c q b64.qmin * one64) : zmag b64 W ≤ zmag b64 (roundRatio b64 sg c d (q - r)) := by
  have h1 := f1.2.1
  have h2 := f2.2.1
  have hq : b64.qmin < 0 := by decide
  refine zmag_roundRatio_ge good_b64 hd fW (e0 := 2 * b64.qmin - r) (by omega) (by omega) ?_
  have e1 : (b64.qmin - (2 * b64.qmin - r)).toNat = (r - b64.qmin).toNat := by congr 1; omega
  rw [e1]
  have e2 : inUnits c (q - r) (2 * b64.qmin - r) = inUnits c q b64.qmin * one64 := by
    unfold inUnits
    rw [← pow_qmin64, Nat.mul_assoc, ← Nat.pow_add]
    congr 2; omega
  rw [e2]
  refine Nat.le_trans (Nat.le_of_eq ?_) h
  unfold inUnits
  rw [Nat.mul_comm d, Nat.mul_assoc]
/-- what is said of a quotient: r its units -/
def Quo (x y r : Int) : Prop := ∀ (V : UInt64) (v : Int), ZV V v → (x * (one64 : Int) ≤ v * y → r ≤ v) ∧ (v * y ≤ x * (one64 : Int) → v ≤ r)
theorem own_sgn_z (s : Bool) (m : Nat) : signed s m = if s then -(m : Int) else m := rfl
theorem ZV.neg_ex (h : ZV a x) : ∃ V, ZV V (-x) := by
  refine ⟨FP.Core.dneg a, ?_, ?_⟩
  · obtain ⟨⟨s, c, q, h1⟩, -⟩ := h; exact ⟨!s, c, q, by rw [val64_dneg, h1]; rfl⟩
  · rw [val64_dneg, zval_negate, h.2]
theorem own_mag {s : Bool} {c : Nat} {q : Int} : zval b64 (.fin s c q) = signed s (inUnits c q b64.qmin) := rfl
/-- the quotient by a positive double of at least one -/
theorem ZV.div (ha : ZV a x) (hb : ZV b y) (hy : (one64 : Int) ≤ y) : ∃ r, ZV (FP.ddiv a b) r ∧ Quo x y r := by
  have o1 := one64_pos
  obtain ⟨s, c, q, t, d, r, h1, h2, hd, h3, f1, f2⟩ := own_quot ha hb (by omega)
  have ey := hb.2; rw [h2, own_mag] at ey
  have ex := ha.2; rw [h1, own_mag] at ex
  have t0 : t = false := by
    cases t
    · rfl
    · simp only [own_sgn_z, if_true] at ey; omega
  subst t0
  have hy0 : (0 : Int) < y := by omega
  have ey' : ((inUnits d r b64.qmin : Nat) : Int) = y := ey
  generalize hu : inUnits d r b64.qmin = u at *
  generalize hc : inUnits c q b64.qmin = k at *
  have hsg : sgn (val64 (FP.ddiv a b)) = s := by rw [h3, sgn_roundRatio]; cases s <;> rfl
  have hne : val64 (FP.ddiv a b) ≠ .nan := by rw [h3]; exact roundRatio_ne_nan _ _ _ _ _
  have hz : zval b64 (val64 (FP.ddiv a b)) = signed s (zmag b64 (val64 (FP.ddiv a b))) := by rw [zval, hsg]
  have up : ∀ W : UInt64, val64 W ≠ .nan → k * one64 ≤ zmag b64 (val64 W) * u → zmag b64 (val64 (FP.ddiv a b)) ≤ zmag b64 (val64 W) := fun W hW h => by
    rw [h3]; exact own_div_mag_le f1 f2 hd (val64_fits W) hW (by rw [hu, hc]; exact h)
  have dn : ∀ W : UInt64, zmag b64 (val64 W) * u ≤ k * one64 → zmag b64 (val64 W) ≤ zmag b64 (val64 (FP.ddiv a b)) := fun W h => by
    rw [h3]; exact own_div_mag_ge f1 f2 hd (val64_fits W) (by rw [hu, hc]; exact h)
  have hk : k = zmag b64 (val64 a) := by rw [h1]; exact hc.symm
  have hfin : DFin (FP.ddiv a b) := own_fin_of hne ha.1 (up a ha.ne (by rw [← hk]; exact Nat.mul_le_mul_left _ (by omega)))
  refine ⟨_, ⟨hfin, rfl⟩, fun V v hv => ?_⟩
  rw [hz]
  generalize hm : zmag b64 (val64 (FP.ddiv a b)) = m at *
  have hV := own_natAbs (val64 V)
  rw [hv.2] at hV
  have upV := up V hv.ne
  have dnV := dn V
  rw [← hV] at upV dnV
  clear up dn
  have cast : ∀ p q : Nat, ((p * q : Nat) : Int) = (p : Int) * q := fun p q => by simp
  cases s
  · have ex' : (k : Int) = x := ex
    have em : signed false m = (m : Int) := rfl
    rw [em]
    constructor
    · intro h
      by_cases hv0 : 0 ≤ v
      · have e1 : (v.natAbs : Int) = v := Int.natAbs_of_nonneg hv0
        have : k * one64 ≤ v.natAbs * u := by apply Int.ofNat_le.mp; rw [cast, cast, ex', e1, ey']; exact h
        have := upV this; omega
      · exfalso
        have h5 : v * y < 0 := Int.mul_neg_of_neg_of_pos (by omega) hy0
        have h6 : 0 ≤ x * (one64 : Int) := Int.mul_nonneg (by omega) (by omega)
        omega
    · intro h
      by_cases hv0 : 0 ≤ v
      · have e1 : (v.natAbs : Int) = v := Int.natAbs_of_nonneg hv0
        have : v.natAbs * u ≤ k * one64 := by apply Int.ofNat_le.mp; rw [cast, cast, ex', e1, ey']; exact h
        have := dnV this; omega
      · omega
  · have ex' : -(k : Int) = x := ex
    have em : signed true m = -(m : Int) := rfl
    rw [em]
    have ek : (k : Int) = -x := by omega
    constructor
    · intro h
      by_cases hv0 : 0 ≤ v
      · omega
      · have e1 : (v.natAbs : Int) = -v := by omega
        have : v.natAbs * u ≤ k * one64 := by
          apply Int.ofNat_le.mp; rw [cast, cast, ek, e1, ey', Int.neg_mul, Int.neg_mul]; omega
        have := dnV this; omega
    · intro h
      by_cases hv0 : v ≤ 0
      · have e1 : (v.natAbs : Int) = -v := by omega
        have : k * one64 ≤ v.natAbs * u := by
          apply Int.ofNat_le.mp; rw [cast, cast, ek, e1, ey', Int.neg_mul, Int.neg_mul]; omega
        have := upV this; omega
      · exfalso
        have h5 : 0 < v * y := Int.mul_pos (by omega) hy0
        have h6 : x * (one64 : Int) ≤ 0 := by
          have : 0 ≤ (k : Int) * (one64 : Int) := Int.mul_nonneg (by omega) (by omega)
          rw [ek, Int.neg_mul] at this; omega
        omega
theorem ZV.div_exact (ha : ZV a x) (hb : ZV b y) (hy : (one64 : Int) ≤ y) (hv : ZV V z) (h : x * (one64 : Int) = z * y) : ZV (FP.ddiv a b) z := by
  obtain ⟨r, h1, h2⟩ := ha.div hb hy
  have h3 := h2 V z hv
  have : r = z := Int.le_antisymm (h3.1 (Int.le_of_eq h)) (h3.2 (Int.le_of_eq h.symm))
  exact this ▸ h1
/-- i * 2^k units are a double -/
theorem own_rep (i : Int) (k : Nat) (hi : i.natAbs < 2 ^ 53) (hk : k ≤ 2045) : ∃ V, ZV V (i * ((2 ^ k : Nat) : Int)) := by
  obtain ⟨c', q', h1, h2⟩ := round_exact good_b64 (decide (i < 0)) (c := i.natAbs) (q := (k : Int) + b64.qmin) hi (by omega) (by rw [show b64.qmax = 971 from by decide, qmin_b64]; omega)
  have hf : FP.Core.fits b64 (.fin (decide (i < 0)) c' q') := by rw [← h1]; exact round_fits good_b64 _
  refine ⟨of64 (.fin (decide (i < 0)) c' q'), ⟨_, _, _, val64_of64 hf⟩, ?_⟩
  rw [val64_of64 hf, own_mag, h2]
  unfold inUnits
  rw [show ((k : Int) + b64.qmin - b64.qmin).toNat = k from by omega, signed_mul, own_sgn_z]
  congr 1
  by_cases h : i < 0
  · simp only [h, decide_true, if_true]; omega
  · simp only [h, decide_false]; simp only [Bool.false_eq_true, if_false]; omega
theorem own_one64 : (one64 : Int) = ((2 ^ 1074 : Nat) : Int) := rfl
theorem ZV.of_int {i : Int} (h : DInt i a) : ZV a (i * (one64 : Int)) := by
  refine ⟨?_, DInt_zval h⟩
  unfold DInt at h
  cases h2 : val64 a with
  | nan => rw [h2] at h; exact h.elim
  | inf s => rw [h2] at h; exact h.elim
  | fin s c q => exact ⟨s, c, q, h2⟩
theorem own_i2d (n : Int32) : ZV (FP.i2d n) (n.toInt * (one64 : Int)) := ZV.of_int (i2d_int n)
theorem own_l2d {n : Int64} (h : n.toInt.natAbs ≤ 2 ^ 53) : ZV (FP.l2d n) (n.toInt * (one64 : Int)) := ZV.of_int (l2d_int h)
theorem own_ddiv_nn (ha : DFin a) (hb : DFin b) : FP.ddiv (FP.Core.dneg a) (FP.Core.dneg b) = FP.ddiv a b ∨ val64 (FP.ddiv a b) = .nan := by
  by_cases hn : val64 (FP.ddiv a b) = .nan
  · exact Or.inr hn
  · refine Or.inl (val64_inj hn ?_).symm
    obtain ⟨s, c, q, h1⟩ := ha
    obtain ⟨t, d, r, h2⟩ := hb
    show val64 (FP.Core.ddiv a b) = val64 (FP.Core.ddiv _ _)
    rw [val64_ddiv, val64_ddiv, val64_dneg, val64_dneg, h1, h2]
    show quotient b64 (.fin s c q) (.fin t d r) = quotient b64 (.fin (!s) c q) (.fin (!t) d r)
    simp only [quotient]
    have : ((!s) != (!t)) = (s != t) := by cases s <;> cases t <;> rfl
    rw [this]
theorem ZV.dneg (h : ZV a x) : ZV (FP.Core.dneg a) (-x) := by
  refine ⟨?_, by rw [val64_dneg, zval_negate, h.2]⟩
  obtain ⟨⟨s, c, q, h1⟩, -⟩ := h; exact ⟨!s, c, q, by rw [val64_dneg, h1]; rfl⟩
/-- the quotient by a negative double of at most minus one -/
theorem ZV.div_neg (ha : ZV a x) (hb : ZV b y) (hy : y ≤ -(one64 : Int)) : ∃ r, ZV (FP.ddiv a b) r ∧ Quo (-x) (-y) r := by
  obtain ⟨r, h1, h2⟩ := ha.dneg.div hb.dneg (by omega)
  have o1 := one64_pos
  obtain ⟨s, c, q, t, d, r', -, -, -, h3, -⟩ := own_quot ha hb (by omega)
  rcases own_ddiv_nn ha.1 hb.1 with h | h
  · exact ⟨r, h ▸ h1, h2⟩
  · rw [h3] at h; exact absurd h (roundRatio_ne_nan _ _ _ _ _)
/-- n / D against i / 2^j -/
theorem own_quo_int {n D r : Int} (h : Quo (n * (one64 : Int)) (D * (one64 : Int)) r) (i : Int) (j : Nat) (hj : j ≤ 1074) (hi : i.natAbs < 2 ^ 53) :
    (n * ((2 ^ j : Nat) : Int) ≤ i * D → r ≤ i * ((2 ^ (1074 - j) : Nat) : Int)) ∧ (i * D ≤ n * ((2 ^ j : Nat) : Int) → i * ((2 ^ (1074 - j) : Nat) : Int) ≤ r) := by
  obtain ⟨V, hV⟩ := own_rep i (1074 - j) hi (by omega)
  have q := h V _ hV
  have e : (one64 : Int) = ((2 ^ j : Nat) : Int) * ((2 ^ (1074 - j) : Nat) : Int) := by
    rw [own_one64, ← Int.natCast_mul, ← Nat.pow_add]; congr 2; omega
  have hu : (0 : Int) ≤ ((2 ^ (1074 - j) : Nat) : Int) * (one64 : Int) := Int.mul_nonneg (Int.natCast_nonneg _) (Int.natCast_nonneg _)
  have e1 : n * (one64 : Int) * (one64 : Int) = n * ((2 ^ j : Nat) : Int) * (((2 ^ (1074 - j) : Nat) : Int) * (one64 : Int)) := by
    conv => lhs; arg 1; rw [e]
    rw [← Int.mul_assoc n, Int.mul_assoc (n * _)]
  have e2 : i * ((2 ^ (1074 - j) : Nat) : Int) * (D * (one64 : Int)) = i * D * (((2 ^ (1074 - j) : Nat) : Int) * (one64 : Int)) := by rw [Int.mul_assoc i, Int.mul_left_comm _ D, ← Int.mul_assoc i D]
  rw [e1, e2] at q
  exact ⟨fun z => q.1 (Int.mul_le_mul_of_nonneg_right z hu), fun z => q.2 (Int.mul_le_mul_of_nonneg_right z hu)⟩
theorem own_zero : ZV (0 : UInt64) 0 := ⟨⟨_, _, _, val64_zero⟩, zval64_zero⟩
theorem own_one : ZV (4607182418800017408 : UInt64) (one64 : Int) := by
  have := ZV.of_int dint_one; rwa [Int.one_mul] at this
theorem own_cmp_gt {x y : Int} : some (compare x y) = some Ordering.gt ↔ y < x := by rw [Option.some.injEq]; exact compare_gt_iff x y
theorem own_cmp_lt {x y : Int} : some (compare x y) = some Ordering.lt ↔ x < y := by rw [Option.some.injEq]; exact compare_lt_iff x y
theorem own_cmp_eq {x y : Int} : some (compare x y) = some Ordering.eq ↔ x = y := by rw [Option.some.injEq]; exact compare_eq_iff x y
theorem own_dnn {i : Int} {a : UInt64} (h : DInt i a) : Jvm.Free.Fl.NoNaN64 a := (ZV.of_int h).nn
theorem own_nnd' {a : UInt64} (ha : DFin a) (n : Int32) (hn : n ≠ 0) : Jvm.Free.Fl.NoNaN64 (FP.ddiv a (FP.i2d n)) :=
  Jvm.Free.Fl.noNaN64_no.mpr (FP.Core.ddiv_out ha.notNaN (i2d_fin n) (fun q => i2d_ne_zero hn (by rwa [zero_bits2] at q)))
theorem own_nnd (s : Int64) (n : Int32) (hn : n ≠ 0) : Jvm.Free.Fl.NoNaN64 (FP.ddiv (FP.l2d s) (FP.i2d n)) := own_nnd' (l2d_fin s) n hn
theorem own_dz : DInt 0 (0 : UInt64) := by
  have : (0 : UInt64) = FP.l2d 0 := FP.Core.l2d_zero.symm
  rw [this]; exact l2d_int (a := 0) (by decide)
theorem own_div_eq {S S' : UInt64} {s : Int} (h : DInt s S) (h' : DInt s S') (n : Int32) (hn : 1 ≤ n.toInt) : FP.dcmp (FP.ddiv S (FP.i2d n)) (FP.ddiv S' (FP.i2d n)) = some .eq := by
  have hy : (one64 : Int) ≤ n.toInt * (one64 : Int) := by
    have := Int.mul_le_mul_of_nonneg_right hn (show (0 : Int) ≤ (one64 : Int) by omega)
    rwa [Int.one_mul] at this
  by_cases hs : s = 0
  · subst hs
    have z1 := ZV.of_int h
    have z2 := ZV.of_int h'
    rw [Int.zero_mul] at z1 z2
    have q1 := z1.div_exact (own_i2d n) hy own_zero (by rw [Int.zero_mul, Int.zero_mul])
    have q2 := z2.div_exact (own_i2d n) hy own_zero (by rw [Int.zero_mul, Int.zero_mul])
    rw [q1.cmp q2, own_cmp_eq]
  · have e := dint_unique hs h h'
    subst e
    have hz : n ≠ 0 := fun q => by subst q; revert hn; decide
    exact dcmp_refl (Jvm.Free.Fl.noNaN64_no.mp (own_nnd' (ZV.of_int h).1 n hz))
theorem own_ib (x : Int32) : x.toInt.natAbs ≤ 2147483648 := by have := x.le_toInt; have := x.toInt_lt; omega
end OwnFp
section OwnGoW
variable {p : Program} {l : Launch} {e : Env} {R : Room} {s : State} {vm₁ : Vm} {k0 : Nat} {m : MethodId} {args : Array Value} {below : List Frame} {meth : Method} {c : Code} {T T' : State} {locs : List Loc} {cells slots K1 K2 : Nat} {Q : Option Value → Heap → List Loc → Prop}
/-- as Go, for a run that may load String literals -/
def GoW (p : Program) (e : Env) (below : List Frame) (s : State) (K1 K2 : Nat) (Q : Option Value → Heap → List Loc → Prop) (T : State) (f : JFrame) : Prop :=
  ∃ s₂ o, Steps p.tables e below (T.setTop f) s₂ ∧ s₂.status = .running ∧ Ended s₂ below o ∧ ∃ v L, o = .returned v ∧ Q v s₂.heap L ∧ ReturnedEndW s o s₂ L K1 K2
theorem GoW.on {f f' : JFrame} (h : ∀ t, Steps p.tables e below (T'.setTop f') t → Steps p.tables e below (T.setTop f) t) (g : GoW p e below s K1 K2 Q T' f') : GoW p e below s K1 K2 Q T f := by
  obtain ⟨s₂, o, h1, r⟩ := g
  exact ⟨s₂, o, h _ h1, r⟩
theorem GoW.cast {f f' : JFrame} (h : f = f') (g : GoW p e below s K1 K2 Q T f') : GoW p e below s K1 K2 Q T f := h ▸ g
theorem GoW.gen {f : JFrame} (h : ∀ k1 k2 q, k1 = K1 → k2 = K2 → Q = q → GoW p e below s k1 k2 q T f) : GoW p e below s K1 K2 Q T f := h _ _ _ rfl rfl rfl
theorem own_moreW {o : Outcome} {t : State} {L : List Loc} {k n k' n' : Nat} (h : ReturnedEndW s o t L k n) (h1 : k ≤ k') (h2 : n ≤ n') : ReturnedEndW s o t L k' n' := ⟨h.1, h.2.1, h.2.2.1, h.2.2.2.mono h1 h2⟩
theorem GoW.retV (X : Stand p l e R (s.setVm vm₁) m args below meth c T locs cells slots) (hx : p.tables.exec = Jvm.exec) (hS : s.Since vm₁ k0) (hk : k0 ≤ T.heap.size) {pc : Nat} {Ls : Array Slot} {w : Value} {t : FieldType} {i : Instr} {rest : List Value} (hret : meth.sig.returnType = some t) (hn : narrow t w = w)
    (hi : (i = .ireturn ∧ (t = .int ∨ t = .boolean ∨ t = .byte ∨ t = .char ∨ t = .short) ∧ ∃ z, w = .int z) ∨ (i = .lreturn ∧ t = .long ∧ ∃ z, w = .long z) ∨ (i = .dreturn ∧ t = .double ∧ ∃ z, w = .double z) ∨ (i = .freturn ∧ t = .float ∧ ∃ z, w = .float z) ∨ (i = .areturn ∧ t.isReference = true ∧ w.isRef = true))
    (hd : decode c.code pc = .ok (i, 1)) (hq : Q (some w) T.heap locs) (hc : cells ≤ K1) (hs : slots ≤ K2) (hlk : meth.locks = false := by assumption) : GoW p e below s K1 K2 Q T (mkF m pc Ls (w :: rest)) := by
  obtain ⟨fs, hr, hrun, hended, hE⟩ := X.leaveW hS hk (v := some w) (fun h => by rw [hret] at h; cases h) hlk
  exact ⟨_, _, retOut X hx hret hn hi hd hr, hrun, hended, _, _, rfl, hq, own_moreW hE hc hs⟩
theorem GoW.retN (X : Stand p l e R (s.setVm vm₁) m args below meth c T locs cells slots) (hx : p.tables.exec = Jvm.exec) (hS : s.Since vm₁ k0) (hk : k0 ≤ T.heap.size) {pc : Nat} {Ls : Array Slot} {z : Int32} {t : FieldType} {rest : List Value} (hret : meth.sig.returnType = some t) (ht : t = .boolean ∨ t = .byte ∨ t = .char ∨ t = .short)
    (hd : decode c.code pc = .ok (.ireturn, 1)) (hq : Q (some (.int (nar t z))) T.heap locs) (hc : cells ≤ K1) (hs : slots ≤ K2) (hlk : meth.locks = false := by assumption) : GoW p e below s K1 K2 Q T (mkF m pc Ls (.int z :: rest)) := by
  obtain ⟨fs, hr, hrun, hended, hE⟩ := X.leaveW hS hk (v := some (.int (nar t z))) (fun h => by rw [hret] at h; cases h) hlk
  exact ⟨_, _, Jvm.RoadKit.retN X hx hret ht hd hr, hrun, hended, _, _, rfl, hq, own_moreW hE hc hs⟩
theorem GoW.ret0 (X : Stand p l e R (s.setVm vm₁) m args below meth c T locs cells slots) (hx : p.tables.exec = Jvm.exec) (hS : s.Since vm₁ k0) (hk : k0 ≤ T.heap.size) {pc : Nat} {Ls : Array Slot} (hret : meth.sig.returnType = none)
    (hd : decode c.code pc = .ok (.return_, 1)) (hq : Q none T.heap locs) (hc : cells ≤ K1) (hs : slots ≤ K2) (hlk : meth.locks = false := by assumption) : GoW p e below s K1 K2 Q T (mkF m pc Ls []) := by
  obtain ⟨fs, hr, hrun, hended, hE⟩ := X.leaveW hS hk (v := none) (fun _ => rfl) hlk
  exact ⟨_, _, X.returnOut hx hret hd hr, hrun, hended, _, _, rfl, hq, own_moreW hE hc hs⟩
end OwnGoW
theorem own_wS {Z : State} {aw : Array Value} (hw : ∀ d ∈ tables_1, d.before aw Z = true) : ∀ a ∈ Bundle.stringAtoms, a.before aw Z = true := fun d hd => by
  simp only [Bundle.stringAtoms, List.mem_cons, List.not_mem_nil, or_false] at hd
  rcases hd with rfl | rfl | rfl | rfl | rfl | rfl | rfl
  · exact hw _ (List.mem_of_getElem? (i := 18) rfl)
  · exact hw _ (List.mem_of_getElem? (i := 19) rfl)
  · exact hw _ (List.mem_of_getElem? (i := 20) rfl)
  · exact hw _ (List.mem_of_getElem? (i := 21) rfl)
  · exact hw _ (List.mem_of_getElem? (i := 22) rfl)
  · exact hw _ (List.mem_of_getElem? (i := 23) rfl)
  · exact hw _ (List.mem_of_getElem? (i := 24) rfl)
section PureLaw
open Jvm.FP.Core
theorem own_split (j : Nat) (hj : j ≤ 1074) : (one64 : Int) = ((2 ^ j : Nat) : Int) * ((2 ^ (1074 - j) : Nat) : Int) := by
  rw [own_one64, ← Int.natCast_mul, ← Nat.pow_add]; congr 2; omega
/-- a double worth n * 2^-k -/
def PV (k : Nat) (a : UInt64) (n : Int) : Prop := ZV a (n * ((2 ^ (1074 - k) : Nat) : Int))
variable {k : Nat} {a b : UInt64} {n r z : Int}
theorem PV.ex (k : Nat) (n : Int) (h : n.natAbs < 2 ^ 53) : ∃ V, PV k V n := own_rep n (1074 - k) h (by omega)
theorem PV.add (ha : PV k a n) (hb : PV k b r) (h : (n + r).natAbs < 2 ^ 53) : PV k (FP.dadd a b) (n + r) := by
  obtain ⟨V, hV⟩ := PV.ex k _ h
  unfold PV at *
  rw [Int.add_mul] at *
  exact ZV.add ha hb hV
theorem PV.nn (h : PV k a n) : Jvm.Free.Fl.NoNaN64 a := ZV.nn h
theorem PV.of_int {c : UInt64} {i : Int} (h : ZV c (i * (one64 : Int))) : PV 0 c i := by
  unfold PV
  have e : ((2 ^ (1074 - 0) : Nat) : Int) = (one64 : Int) := own_one64.symm
  rw [e]; exact h
/-- over a power of two -/
theorem PV.div (ha : PV k a n) {c : UInt64} {j : Nat} (hc : ZV c (((2 ^ j : Nat) : Int) * (one64 : Int))) (hj : k + j ≤ 1074) (h : n.natAbs < 2 ^ 53) : PV (k + j) (FP.ddiv a c) n := by
  obtain ⟨V, hV⟩ := PV.ex (k + j) n h
  unfold PV at *
  have op : (0 : Int) < (one64 : Int) := by have := one64_pos; omega
  have p1 : (1 : Int) ≤ ((2 ^ j : Nat) : Int) := by have := Nat.two_pow_pos j; omega
  have hy : (one64 : Int) ≤ ((2 ^ j : Nat) : Int) * (one64 : Int) := by
    have := Int.mul_le_mul_of_nonneg_right p1 (Int.le_of_lt op)
    rwa [Int.one_mul] at this
  refine ZV.div_exact ha hc hy hV ?_
  have e : ((2 ^ (1074 - k) : Nat) : Int) = ((2 ^ (1074 - (k + j)) : Nat) : Int) * ((2 ^ j : Nat) : Int) := by
    rw [← Int.natCast_mul, ← Nat.pow_add]; congr 2; omega
  rw [e]
  generalize ((2 ^ (1074 - (k + j)) : Nat) : Int) = H
  generalize ((2 ^ j : Nat) : Int) = J
  generalize (one64 : Int) = o
  ac_rfl
theorem PV.eq (h : PV k a n) (h' : PV k b r) (e : n = r) : (cmpValue (FP.dcmp a b) .l) = (0 : Int32) := by
  subst e
  rw [own_c_eq, ZV.cmp h h', own_cmp_eq]
theorem own_c65536 : ZV (4679240012837945344 : UInt64) (((2 ^ 16 : Nat) : Int) * (one64 : Int)) := by
  have h : (4679240012837945344 : UInt64) = FP.l2d 65536 := by decide +kernel
  rw [h]; exact own_l2d (n := 65536) (by decide)
theorem own_c262144 : ZV (4688247212092686336 : UInt64) (((2 ^ 18 : Nat) : Int) * (one64 : Int)) := by
  have h : (4688247212092686336 : UInt64) = FP.l2d 262144 := by decide +kernel
  rw [h]; exact own_l2d (n := 262144) (by decide)
theorem own_c4 : ZV (4616189618054758400 : UInt64) (((2 ^ 2 : Nat) : Int) * (one64 : Int)) := by
  have h : (4616189618054758400 : UInt64) = FP.l2d 4 := by decide +kernel
  rw [h]; exact own_l2d (n := 4) (by decide)
theorem own_rem {i j : Int32} (h : ((i &&& (2147483647 : Int32)) % (65537 : Int32)) = j) : 0 ≤ j.toInt ∧ j.toInt ≤ 65536 := by
  have e1 : (i &&& 2147483647).toInt = i.toInt % 2 ^ 31 := Jvm.Kit.i32_mask i 2147483647 (k := 31) (by decide) (by decide)
  have l3 : (65537 : Int32).toInt = 65537 := by decide
  rw [← h, Int32.toInt_mod, e1, l3, Int.tmod_eq_emod_of_nonneg (by omega)]; omega
/-- an int over 65536 -/
theorem own_q (j : Int32) (h : 0 ≤ j.toInt ∧ j.toInt ≤ 65536) : PV 16 (FP.ddiv (FP.i2d j) (4679240012837945344 : UInt64)) j.toInt := by
  have := (PV.of_int (own_i2d j)).div own_c65536 (by omega) (by omega)
  rwa [Nat.zero_add] at this
theorem own_lo (j : Int32) (h : 0 ≤ j.toInt ∧ j.toInt ≤ 65536) : ¬ ((cmpValue (FP.dcmp (FP.ddiv (FP.i2d j) (4679240012837945344 : UInt64)) (0 : UInt64)) .l) < (0 : Int32)) := by
  have q := own_q j h
  unfold PV at q
  rw [own_cl_lt, q.cmp own_zero, own_cmp_gt, own_cmp_eq]
  have := Int.mul_nonneg h.1 (Int.natCast_nonneg (2 ^ (1074 - 16)))
  generalize j.toInt * ((2 ^ (1074 - 16) : Nat) : Int) = y at *
  omega
theorem own_hi (j : Int32) (h : 0 ≤ j.toInt ∧ j.toInt ≤ 65536) : ¬ ((0 : Int32) < (cmpValue (FP.dcmp (FP.ddiv (FP.i2d j) (4679240012837945344 : UInt64)) (4607182418800017408 : UInt64)) .g)) := by
  have q := own_q j h
  unfold PV at q
  rw [own_cg_gt, q.cmp own_one, own_cmp_lt, own_cmp_eq, own_split 16 (by omega)]
  have h3 := Int.mul_le_mul_of_nonneg_right h.2 (Int.natCast_nonneg (2 ^ (1074 - 16)))
  rw [show ((2 ^ 16 : Nat) : Int) = 65536 from rfl]
  generalize ((2 ^ (1074 - 16) : Nat) : Int) = y at *
  generalize j.toInt * y = u at *
  omega
variable {a b c d : Int32}
abbrev qD (j : Int32) : UInt64 := FP.ddiv (FP.i2d j) (4679240012837945344 : UInt64)
theorem own_sums (ha : 0 ≤ a.toInt ∧ a.toInt ≤ 65536) (hb : 0 ≤ b.toInt ∧ b.toInt ≤ 65536) (hc : 0 ≤ c.toInt ∧ c.toInt ≤ 65536) (hd : 0 ≤ d.toInt ∧ d.toInt ≤ 65536) :
    PV 16 (FP.dadd (qD a) (qD b)) (a.toInt + b.toInt) ∧ PV 16 (FP.dadd (FP.dadd (qD a) (qD b)) (qD c)) (a.toInt + b.toInt + c.toInt) ∧ PV 16 (FP.dadd (FP.dadd (FP.dadd (qD a) (qD b)) (qD c)) (qD d)) (a.toInt + b.toInt + c.toInt + d.toInt) ∧
    PV 18 (FP.ddiv (FP.dadd (FP.dadd (FP.dadd (qD a) (qD b)) (qD c)) (qD d)) (4616189618054758400 : UInt64)) (a.toInt + b.toInt + c.toInt + d.toInt) := by
  have s1 := (own_q a ha).add (own_q b hb) (by omega)
  have s2 := s1.add (own_q c hc) (by omega)
  have s3 := s2.add (own_q d hd) (by omega)
  have s4 := s3.div own_c4 (by omega) (by omega)
  rw [show 16 + 2 = 18 from rfl] at s4
  exact ⟨s1, s2, s3, s4⟩
theorem own_exp (ha : 0 ≤ a.toInt ∧ a.toInt ≤ 65536) (hb : 0 ≤ b.toInt ∧ b.toInt ≤ 65536) (hc : 0 ≤ c.toInt ∧ c.toInt ≤ 65536) (hd : 0 ≤ d.toInt ∧ d.toInt ≤ 65536) :
    PV 18 (FP.ddiv (FP.i2d (((a + b) + c) + d)) (4688247212092686336 : UInt64)) (a.toInt + b.toInt + c.toInt + d.toInt) := by
  have t1 : (a + b).toInt = a.toInt + b.toInt := Jvm.Kit.i32_add (by omega) (by omega)
  have t2 : (a + b + c).toInt = a.toInt + b.toInt + c.toInt := by rw [Jvm.Kit.i32_add (by rw [t1]; omega) (by rw [t1]; omega), t1]
  have t3 : (a + b + c + d).toInt = a.toInt + b.toInt + c.toInt + d.toInt := by rw [Jvm.Kit.i32_add (by rw [t2]; omega) (by rw [t2]; omega), t2]
  have := (PV.of_int (own_i2d (a + b + c + d))).div own_c262144 (by omega) (by rw [t3]; omega)
  rwa [Nat.zero_add, t3] at this
end PureLaw
theorem own_fin {a b c d : Int32} {ex : UInt64} (h : (FP.ddiv (FP.i2d (((a + b) + c) + d)) (4688247212092686336 : UInt64)) = ex) (ha : 0 ≤ a.toInt ∧ a.toInt ≤ 65536) (hb : 0 ≤ b.toInt ∧ b.toInt ≤ 65536) (hc : 0 ≤ c.toInt ∧ c.toInt ≤ 65536) (hd : 0 ≤ d.toInt ∧ d.toInt ≤ 65536) :
    (cmpValue (FP.dcmp (FP.ddiv (FP.dadd (FP.dadd (FP.dadd (qD a) (qD b)) (qD c)) (qD d)) (4616189618054758400 : UInt64)) ex) .l) = (0 : Int32) := by
  subst h
  exact PV.eq (own_sums ha hb hc hd).2.2.2 (own_exp ha hb hc hd) rfl

theorem d2_0 : decode jdk_30_method_1_code 0 = .ok (.aload_n 0, 1) := by decide +kernel
theorem d2_1 : decode jdk_30_method_1_code 1 = .ok (.invokespecial 1, 3) := by decide +kernel
theorem d2_4 : decode jdk_30_method_1_code 4 = .ok (.return_, 1) := by decide +kernel
theorem pn_0 : plainName "java/lang/Record" = true := by first | (simp [plainName, overriddenIn]; done) | decide +kernel
theorem ef_rm2 (m : MethodId) (a0 : Addr) : entryFrame m #[(.ref a0)] 1 = mkF m 0 #[.val (.ref a0)] [] := by first | (simp [entryFrame, mkF, argsToLocals, Value.category]; done) | rfl
def Q_rm2 (Z : State) (a0 : Addr) (h0 : Heap) (n0 : Nat) (v : Option Value) (h : Heap) (L : List Loc) : Prop := v = none ∧ Fr n0 L ∧ h = h0
set_option maxRecDepth 65536 in
set_option maxHeartbeats 40000000 in
theorem rm2 (l : Launch) (Z : State) (aw : Array Value) (hw : ∀ d ∈ tables_1, d.before aw Z = true) (ws : List Jvm.Cond) (a0 : Addr) (h0 : Heap) (n0 : Nat) (Z0 : n0 ≤ h0.size) :
    MetFree l (⟨"java/lang/Record", "<init>", "()V"⟩ : MethodName) (head1 (Jvm.Cond.code (⟨"java/lang/Record", "<init>", "()V"⟩ : MethodName) jdk_30_method_1_code 1 none :: ws) ({ frames := 1, cells := 0, slots := 0, locals := 12 } : Room)) (fun a U => a = #[(.ref a0)] ∧ Z.Warmed39 U.vm ∧ U.heap = h0) (fun _ _ _ _ _ => True) (fun _ U o U' => ∃ v L, o = .returned v ∧ Q_rm2 Z a0 h0 n0 v U'.heap L ∧ FrameEnd U o U' L ({ frames := 1, cells := 0, slots := 0, locals := 12 } : Room).cells ({ frames := 1, cells := 0, slots := 0, locals := 12 } : Room).slots) := by
  refine MetFree.of_bodySF (plainFor_of_name pn_0) hisR ?_
  intro p e s m args below meth c s₁ Bd hml0 hP hK
  obtain ⟨rfl, hZ, hh⟩ := hP
  have hx := Bd.exec
  have hby := Bd.bytes
  have hml : c.maxLocals = 1 := hml0
  have hown : s.vm.findClass "java/lang/Record" = some m.cls := findClass_of_methodNamed Bd.named
  have hnm := (name_of_methodNamed Bd.named Bd.method).1
  have hlk : meth.locks = false := BodyLoose.notSynchronized Bd
  have X0 : Stand p l e ({ frames := 1, cells := 0, slots := 0, locals := 12 } : Room) s m #[(.ref a0)] below meth c s₁ [] 0 0 := Stand.of_body Bd
  have e0 : s₁.heap = h0 := by rw [← hh, Bd.state]; rfl
  have N0 := Fr.nil n0
  have ZZ := Z0
  show Go p e below s ({ frames := 1, cells := 0, slots := 0, locals := 12 } : Room).cells ({ frames := 1, cells := 0, slots := 0, locals := 12 } : Room).slots (fun v h L => Q_rm2 Z a0 h0 n0 v h L) s₁ (entryFrame m #[(.ref a0)] 1)
  refine Go.cast (ef_rm2 m a0) ?_
  refine Go.gen ?_
  intro K1 K2 QQ hK1 hK2 hQQ
  refine Go.on (fun _ k => XS.aloadN X0.here hx rfl (hb hby d2_0) rfl rfl k) ?_
  show Go _ _ _ _ _ _ _ _ (mkF m 1 #[.val (.ref a0)] [(.ref a0)])
  obtain ⟨T1, X1, e1, st1⟩ := initO X0 hx hZ hown (hw _ (List.mem_of_getElem? (i := 14) rfl)) (hw _ (List.mem_of_getElem? (i := 15) rfl)) (hw _ (List.mem_of_getElem? (i := 16) rfl)) e0 (g := (mkF m 1 #[.val (.ref a0)] [(.ref a0)])) rfl (by rw [hml]; rfl) rfl (hb hby d2_1) (by decide) (W := 0) (by show 2 * 0 + _ ≤ _; exact Nat.le_of_eq rfl) (by decide)
  refine Go.on st1 ?_
  show Go _ _ _ _ _ _ _ _ (mkF m 4 #[.val (.ref a0)] [])
  refine Go.ret0 X1 hx Bd.returns (hb hby d2_4) ?_ (by rw [hK1]; decide) (by rw [hK2]; decide)
  rw [e1, ← hQQ]
  exact ⟨rfl, N0, rfl⟩
theorem d4_0 : decode prog_26_method_3_code 0 = .ok (.dload_n 1, 1) := by decide +kernel
theorem d4_1 : decode prog_26_method_3_code 1 = .ok (.dconst 0, 1) := by decide +kernel
theorem d4_2 : decode prog_26_method_3_code 2 = .ok (.dcmp .l, 1) := by decide +kernel
theorem d4_3 : decode prog_26_method_3_code 3 = .ok (.ifCond .lt 9, 3) := by decide +kernel
theorem d4_6 : decode prog_26_method_3_code 6 = .ok (.dload_n 1, 1) := by decide +kernel
theorem d4_7 : decode prog_26_method_3_code 7 = .ok (.dconst 1, 1) := by decide +kernel
theorem d4_8 : decode prog_26_method_3_code 8 = .ok (.dcmp .g, 1) := by decide +kernel
theorem d4_9 : decode prog_26_method_3_code 9 = .ok (.ifCond .le 18, 3) := by decide +kernel
theorem d4_27 : decode prog_26_method_3_code 27 = .ok (.return_, 1) := by decide +kernel
theorem pn_1 : plainName "com/example/due_weight/dueweight/core/QualityFactors" = true := by first | (simp [plainName, overriddenIn]; done) | decide +kernel
theorem ef_rm4 (m : MethodId) (a0 : Addr) (d1 : UInt64) : entryFrame m #[(.ref a0), (.double d1)] 3 = mkF m 0 #[.val (.ref a0), .val (.double d1), .second] [] := by first | (simp [entryFrame, mkF, argsToLocals, Value.category]; done) | rfl
def Q_rm4 (Z : State) (a0 : Addr) (d1 : UInt64) (h0 : Heap) (n0 : Nat) (v : Option Value) (h : Heap) (L : List Loc) : Prop := v = none ∧ Fr n0 L ∧ h = h0
set_option maxRecDepth 65536 in
set_option maxHeartbeats 40000000 in
theorem rm4 (l : Launch) (Z : State) (aw : Array Value) (hw : ∀ d ∈ tables_1, d.before aw Z = true) (ws : List Jvm.Cond) (a0 : Addr) (d1 : UInt64) (h0 : Heap) (n0 : Nat) (Z0 : n0 ≤ h0.size) (h1 : ¬ ((cmpValue (FP.dcmp d1 (0 : UInt64)) .l) < (0 : Int32))) (h2 : ¬ ((0 : Int32) < (cmpValue (FP.dcmp d1 (4607182418800017408 : UInt64)) .g))) :
    MetFree l (⟨"com/example/due_weight/dueweight/core/QualityFactors", "requireFactor", "(Ljava/lang/String;D)V"⟩ : MethodName) (head1 (Jvm.Cond.code (⟨"com/example/due_weight/dueweight/core/QualityFactors", "requireFactor", "(Ljava/lang/String;D)V"⟩ : MethodName) prog_26_method_3_code 3 none :: ws) ({ frames := 0, cells := 0, slots := 0, locals := 0 } : Room)) (fun a U => a = #[(.ref a0), (.double d1)] ∧ Z.Warmed39 U.vm ∧ U.heap = h0) (fun _ _ _ _ _ => True) (fun _ U o U' => ∃ v L, o = .returned v ∧ Q_rm4 Z a0 d1 h0 n0 v U'.heap L ∧ FrameEnd U o U' L ({ frames := 0, cells := 0, slots := 0, locals := 0 } : Room).cells ({ frames := 0, cells := 0, slots := 0, locals := 0 } : Room).slots) := by
  refine MetFree.of_bodySF (plainFor_of_name pn_1) hisR ?_
  intro p e s m args below meth c s₁ Bd hml0 hP hK
  obtain ⟨rfl, hZ, hh⟩ := hP
  have hx := Bd.exec
  have hby := Bd.bytes
  have hml : c.maxLocals = 3 := hml0
  have hown : s.vm.findClass "com/example/due_weight/dueweight/core/QualityFactors" = some m.cls := findClass_of_methodNamed Bd.named
  have hnm := (name_of_methodNamed Bd.named Bd.method).1
  have hlk : meth.locks = false := BodyLoose.notSynchronized Bd
  have X0 : Stand p l e ({ frames := 0, cells := 0, slots := 0, locals := 0 } : Room) s m #[(.ref a0), (.double d1)] below meth c s₁ [] 0 0 := Stand.of_body Bd
  have e0 : s₁.heap = h0 := by rw [← hh, Bd.state]; rfl
  have N0 := Fr.nil n0
  have ZZ := Z0
  show Go p e below s ({ frames := 0, cells := 0, slots := 0, locals := 0 } : Room).cells ({ frames := 0, cells := 0, slots := 0, locals := 0 } : Room).slots (fun v h L => Q_rm4 Z a0 d1 h0 n0 v h L) s₁ (entryFrame m #[(.ref a0), (.double d1)] 3)
  refine Go.cast (ef_rm4 m a0 d1) ?_
  refine Go.gen ?_
  intro K1 K2 QQ hK1 hK2 hQQ
  refine Go.on (fun _ k => XS.dloadN X0.here hx rfl (hb hby d4_0) rfl k) ?_
  show Go _ _ _ _ _ _ _ _ (mkF m 1 #[.val (.ref a0), .val (.double d1), .second] [(.double d1)])
  refine Go.on (fun _ k => XS.dconst0 X0.here hx rfl (v := (0 : UInt64)) (hb hby d4_1) rfl k) ?_
  show Go _ _ _ _ _ _ _ _ (mkF m 2 #[.val (.ref a0), .val (.double d1), .second] [(.double (0 : UInt64)), (.double d1)])
  refine Go.on (fun _ k => XS.dcmpS X0.here hx rfl (hb hby d4_2) rfl rfl k) ?_
  show Go _ _ _ _ _ _ _ _ (mkF m 3 #[.val (.ref a0), .val (.double d1), .second] [(.int (cmpValue (FP.dcmp d1 (0 : UInt64)) .l))])
  have hc1 : ¬ ((cmpValue (FP.dcmp d1 (0 : UInt64)) .l) < (0 : Int32)) := h1
  refine Go.on (fun _ k => XS.ifNo X0.here hx rfl (hb hby d4_3) rfl ((if0 _ _).trans (flt hc1).1) k) ?_
  show Go _ _ _ _ _ _ _ _ (mkF m 6 #[.val (.ref a0), .val (.double d1), .second] [])
  refine Go.on (fun _ k => XS.dloadN X0.here hx rfl (hb hby d4_6) rfl k) ?_
  show Go _ _ _ _ _ _ _ _ (mkF m 7 #[.val (.ref a0), .val (.double d1), .second] [(.double d1)])
  refine Go.on (fun _ k => XS.dconst1 X0.here hx rfl (v := (4607182418800017408 : UInt64)) (hb hby d4_7) rfl k) ?_
  show Go _ _ _ _ _ _ _ _ (mkF m 8 #[.val (.ref a0), .val (.double d1), .second] [(.double (4607182418800017408 : UInt64)), (.double d1)])
  refine Go.on (fun _ k => XS.dcmpS X0.here hx rfl (hb hby d4_8) rfl rfl k) ?_
  show Go _ _ _ _ _ _ _ _ (mkF m 9 #[.val (.ref a0), .val (.double d1), .second] [(.int (cmpValue (FP.dcmp d1 (4607182418800017408 : UInt64)) .g))])
  have hc2 : ¬ ((0 : Int32) < (cmpValue (FP.dcmp d1 (4607182418800017408 : UInt64)) .g)) := h2
  refine Go.on (fun _ k => XS.ifYes X0.here hx rfl (pc0 := 9) (pc' := 27) rfl (hb hby d4_9) rfl ((if0 _ _).trans (flt hc2).2.2.2) (by decide) (by decide) k) ?_
  show Go _ _ _ _ _ _ _ _ (mkF m 27 #[.val (.ref a0), .val (.double d1), .second] [])
  refine Go.ret0 X0 hx Bd.returns (hb hby d4_27) ?_ (by rw [hK1]; decide) (by rw [hK2]; decide)
  rw [e0, ← hQQ]
  exact ⟨rfl, N0, rfl⟩
theorem pd_0 : parseMethodDescriptor "()V" = some ⟨[], none⟩ := by decide +kernel
theorem pd_1 : parseMethodDescriptor "(Ljava/lang/String;D)V" = some ⟨[(.object "java/lang/String"), .double], none⟩ := by decide +kernel
theorem d1_0 : decode prog_26_method_1_code 0 = .ok (.aload_n 0, 1) := by decide +kernel
theorem d1_1 : decode prog_26_method_1_code 1 = .ok (.invokespecial 1, 3) := by decide +kernel
theorem d1_4 : decode prog_26_method_1_code 4 = .ok (.ldc 7, 2) := by decide +kernel
theorem d1_6 : decode prog_26_method_1_code 6 = .ok (.dload_n 1, 1) := by decide +kernel
theorem d1_7 : decode prog_26_method_1_code 7 = .ok (.invokestatic 9, 3) := by decide +kernel
theorem d1_10 : decode prog_26_method_1_code 10 = .ok (.ldc 15, 2) := by decide +kernel
theorem d1_12 : decode prog_26_method_1_code 12 = .ok (.dload_n 3, 1) := by decide +kernel
theorem d1_13 : decode prog_26_method_1_code 13 = .ok (.invokestatic 9, 3) := by decide +kernel
theorem d1_16 : decode prog_26_method_1_code 16 = .ok (.ldc 17, 2) := by decide +kernel
theorem d1_18 : decode prog_26_method_1_code 18 = .ok (.dload 5, 2) := by decide +kernel
theorem d1_20 : decode prog_26_method_1_code 20 = .ok (.invokestatic 9, 3) := by decide +kernel
theorem d1_23 : decode prog_26_method_1_code 23 = .ok (.ldc 19, 2) := by decide +kernel
theorem d1_25 : decode prog_26_method_1_code 25 = .ok (.dload 7, 2) := by decide +kernel
theorem d1_27 : decode prog_26_method_1_code 27 = .ok (.invokestatic 9, 3) := by decide +kernel
theorem d1_30 : decode prog_26_method_1_code 30 = .ok (.aload_n 0, 1) := by decide +kernel
theorem d1_31 : decode prog_26_method_1_code 31 = .ok (.dload_n 1, 1) := by decide +kernel
theorem d1_32 : decode prog_26_method_1_code 32 = .ok (.putfield 21, 3) := by decide +kernel
theorem d1_35 : decode prog_26_method_1_code 35 = .ok (.aload_n 0, 1) := by decide +kernel
theorem d1_36 : decode prog_26_method_1_code 36 = .ok (.dload_n 3, 1) := by decide +kernel
theorem d1_37 : decode prog_26_method_1_code 37 = .ok (.putfield 24, 3) := by decide +kernel
theorem d1_40 : decode prog_26_method_1_code 40 = .ok (.aload_n 0, 1) := by decide +kernel
theorem d1_41 : decode prog_26_method_1_code 41 = .ok (.dload 5, 2) := by decide +kernel
theorem d1_43 : decode prog_26_method_1_code 43 = .ok (.putfield 26, 3) := by decide +kernel
theorem d1_46 : decode prog_26_method_1_code 46 = .ok (.aload_n 0, 1) := by decide +kernel
theorem d1_47 : decode prog_26_method_1_code 47 = .ok (.dload 7, 2) := by decide +kernel
theorem d1_49 : decode prog_26_method_1_code 49 = .ok (.putfield 28, 3) := by decide +kernel
theorem d1_52 : decode prog_26_method_1_code 52 = .ok (.return_, 1) := by decide +kernel
theorem ef_rm1 (m : MethodId) (a0 : Addr) (d1 : UInt64) (d2 : UInt64) (d3 : UInt64) (d4 : UInt64) : entryFrame m #[(.ref a0), (.double d1), (.double d2), (.double d3), (.double d4)] 9 = mkF m 0 #[.val (.ref a0), .val (.double d1), .second, .val (.double d2), .second, .val (.double d3), .second, .val (.double d4), .second] [] := by first | (simp [entryFrame, mkF, argsToLocals, Value.category]; done) | rfl
def Q_rm1 (Z : State) (a0 : Addr) (d1 : UInt64) (d2 : UInt64) (d3 : UInt64) (d4 : UInt64) (h0 : Heap) (n0 : Nat) (v : Option Value) (h : Heap) (L : List Loc) : Prop := v = none ∧ Fr n0 L ∧ Keep h0 h [a0] ∧ Exa Z h a0 "com/example/due_weight/dueweight/core/QualityFactors" ∧ Fld Z h a0 "com/example/due_weight/dueweight/core/QualityFactors" "relevance" "D" (.double d1) ∧ Fld Z h a0 "com/example/due_weight/dueweight/core/QualityFactors" "coverage" "D" (.double d2) ∧ Fld Z h a0 "com/example/due_weight/dueweight/core/QualityFactors" "originality" "D" (.double d3) ∧ Fld Z h a0 "com/example/due_weight/dueweight/core/QualityFactors" "timeliness" "D" (.double d4)
set_option maxRecDepth 65536 in
set_option maxHeartbeats 40000000 in
theorem rm1 (l : Launch) (Z : State) (aw : Array Value) (hw : ∀ d ∈ tables_1, d.before aw Z = true) (ws : List Jvm.Cond) (a0 : Addr) (d1 : UInt64) (d2 : UInt64) (d3 : UInt64) (d4 : UInt64) (h0 : Heap) (n0 : Nat) (Z0 : n0 ≤ h0.size) (E_a0 : Exa Z h0 a0 "com/example/due_weight/dueweight/core/QualityFactors") (F_relevance_a0 : Fld Z h0 a0 "com/example/due_weight/dueweight/core/QualityFactors" "relevance" "D" (.double (0 : UInt64))) (F_coverage_a0 : Fld Z h0 a0 "com/example/due_weight/dueweight/core/QualityFactors" "coverage" "D" (.double (0 : UInt64))) (F_originality_a0 : Fld Z h0 a0 "com/example/due_weight/dueweight/core/QualityFactors" "originality" "D" (.double (0 : UInt64))) (F_timeliness_a0 : Fld Z h0 a0 "com/example/due_weight/dueweight/core/QualityFactors" "timeliness" "D" (.double (0 : UInt64))) (g_a0 : n0 ≤ a0) (ld1 : ¬ ((cmpValue (FP.dcmp d1 (0 : UInt64)) .l) < (0 : Int32))) (ud1 : ¬ ((0 : Int32) < (cmpValue (FP.dcmp d1 (4607182418800017408 : UInt64)) .g))) (ld2 : ¬ ((cmpValue (FP.dcmp d2 (0 : UInt64)) .l) < (0 : Int32))) (ud2 : ¬ ((0 : Int32) < (cmpValue (FP.dcmp d2 (4607182418800017408 : UInt64)) .g))) (ld3 : ¬ ((cmpValue (FP.dcmp d3 (0 : UInt64)) .l) < (0 : Int32))) (ud3 : ¬ ((0 : Int32) < (cmpValue (FP.dcmp d3 (4607182418800017408 : UInt64)) .g))) (ld4 : ¬ ((cmpValue (FP.dcmp d4 (0 : UInt64)) .l) < (0 : Int32))) (ud4 : ¬ ((0 : Int32) < (cmpValue (FP.dcmp d4 (4607182418800017408 : UInt64)) .g))) :
    MetFree l (⟨"com/example/due_weight/dueweight/core/QualityFactors", "<init>", "(DDDD)V"⟩ : MethodName) (head1 (Jvm.Cond.code (⟨"com/example/due_weight/dueweight/core/QualityFactors", "<init>", "(DDDD)V"⟩ : MethodName) prog_26_method_1_code 9 none :: ws) ({ frames := 2, cells := 8, slots := 168, locals := 24 } : Room)) (fun a U => a = #[(.ref a0), (.double d1), (.double d2), (.double d3), (.double d4)] ∧ Z.Warmed39 U.vm ∧ U.heap = h0) (fun _ _ _ _ _ => True) (fun _ U o U' => ∃ v L, o = .returned v ∧ Q_rm1 Z a0 d1 d2 d3 d4 h0 n0 v U'.heap L ∧ ReturnedEndW U o U' L ({ frames := 2, cells := 8, slots := 168, locals := 24 } : Room).cells ({ frames := 2, cells := 8, slots := 168, locals := 24 } : Room).slots) := by
  refine MetFree.of_bodySF (plainFor_of_name pn_1) hisR ?_
  intro p e s m args below meth c s₁ Bd hml0 hP hK
  obtain ⟨rfl, hZ, hh⟩ := hP
  have hx := Bd.exec
  have hby := Bd.bytes
  have hml : c.maxLocals = 9 := hml0
  have hown : s.vm.findClass "com/example/due_weight/dueweight/core/QualityFactors" = some m.cls := findClass_of_methodNamed Bd.named
  have hnm := (name_of_methodNamed Bd.named Bd.method).1
  have hlk : meth.locks = false := BodyLoose.notSynchronized Bd
  have X0 : Stand p l e ({ frames := 2, cells := 8, slots := 168, locals := 24 } : Room) (s.setVm s.vm) m #[(.ref a0), (.double d1), (.double d2), (.double d3), (.double d4)] below meth c s₁ [] 0 0 := Stand.of_body Bd
  have e0 : s₁.heap = h0 := by rw [← hh, Bd.state]; rfl
  have N0 := Fr.nil n0
  have ZZ := Z0
  show GoW p e below s ({ frames := 2, cells := 8, slots := 168, locals := 24 } : Room).cells ({ frames := 2, cells := 8, slots := 168, locals := 24 } : Room).slots (fun v h L => Q_rm1 Z a0 d1 d2 d3 d4 h0 n0 v h L) s₁ (entryFrame m #[(.ref a0), (.double d1), (.double d2), (.double d3), (.double d4)] 9)
  refine GoW.cast (ef_rm1 m a0 d1 d2 d3 d4) ?_
  refine GoW.gen ?_
  intro K1 K2 QQ hK1 hK2 hQQ
  have HS : s.Since s.vm s.heap.size := (State.WarmedH.refl s).since _
  have HK : s.heap.size ≤ h0.size := by rw [hh]; exact Nat.le_refl _
  replace hZ : Z.Warmed39 (s.setVm s.vm).vm := hZ
  replace hown : (s.setVm s.vm).vm.findClass "com/example/due_weight/dueweight/core/QualityFactors" = some m.cls := hown
  have KP : Keep h0 h0 [a0] := Keep.refl _ _
  refine GoW.on (fun _ k => XS.aloadN X0.here hx rfl (hb hby d1_0) rfl rfl k) ?_
  show GoW _ _ _ _ _ _ _ _ (mkF m 1 #[.val (.ref a0), .val (.double d1), .second, .val (.double d2), .second, .val (.double d3), .second, .val (.double d4), .second] [(.ref a0)])
  obtain ⟨_, _, ⟨T1, L1, k1, n1⟩, -, X1, ⟨Lc1, hQ1, l1, y1, z1⟩, st1⟩ := X0.specialBack hx (y := (⟨"java/lang/Record", "<init>", "()V"⟩ : MethodName)) rfl hown (mvT hZ (hw _ (List.mem_of_getElem? (i := 9) rfl))) (mvT hZ (hw _ (List.mem_of_getElem? (i := 10) rfl))) (mvT hZ (hw _ (List.mem_of_getElem? (i := 13) rfl))) (by decide) (backOf (W := 0) (rm2 l Z aw hw [] a0  h0 n0 ZZ ) hZ (hw _ (List.mem_of_getElem? (i := 13) rfl)) (hw _ (List.mem_of_getElem? (i := 12) rfl)) (by decide) (by decide)) (g := (mkF m 1 #[.val (.ref a0), .val (.double d1), .second, .val (.double d2), .second, .val (.double d3), .second, .val (.double d4), .second] [(.ref a0)])) rfl (by rw [hml]; rfl) (Steps.refl _) (a := a0) (argsL := []) (rest := []) (lenOf pd_0 rfl) rfl (by show 2 * 0 + _ ≤ _; exact Nat.le_of_eq rfl) (hb hby d1_1) (fun _ _ => ⟨rfl, e0, (by decide : 0 + 0 ≤ _), (by decide : 0 + 0 ≤ _)⟩)
  dsimp only [Pt.U, Pt.locs, Pt.cells, Pt.slots] at X1 l1 y1 z1 st1 hQ1
  subst l1 y1 z1
  obtain ⟨rfl, N1q, e1⟩ := hQ1
  have N1 := Fr.app N0 N1q
  refine GoW.on (fun _ k => st1.trans k) ?_
  show GoW _ _ _ _ _ _ _ _ (mkF m 4 #[.val (.ref a0), .val (.double d1), .second, .val (.double d2), .second, .val (.double d3), .second, .val (.double d4), .second] [])
  obtain ⟨sa2, T2, h2, kk2, X2, e2, E2, HS2, HK2, hZ2, hown2, st2⟩ := Jvm.RoadKit.ldcS X1 hx hZ hown (hw _ (List.mem_of_getElem? (i := 17) rfl)) (own_wS hw) e1 HS HK (g := (mkF m 4 #[.val (.ref a0), .val (.double d1), .second, .val (.double d2), .second, .val (.double d3), .second, .val (.double d4), .second] [])) rfl (hb hby d1_4) (n := 36) (by decide) (by decide) (by decide) (by decide)
  replace E_a0 := E_a0.ext E2
  replace F_relevance_a0 := F_relevance_a0.ext E2
  replace F_coverage_a0 := F_coverage_a0.ext E2
  replace F_originality_a0 := F_originality_a0.ext E2
  replace F_timeliness_a0 := F_timeliness_a0.ext E2
  replace ZZ := Nat.le_trans ZZ E2.1
  replace KP := KP.ext E2
  replace HS := HS2
  replace HK := HK2
  replace hZ := hZ2
  replace hown := hown2
  refine GoW.on st2 ?_
  show GoW _ _ _ _ _ _ _ _ (mkF m 6 #[.val (.ref a0), .val (.double d1), .second, .val (.double d2), .second, .val (.double d3), .second, .val (.double d4), .second] [(.ref sa2)])
  refine GoW.on (fun _ k => XS.dloadN X2.here hx rfl (hb hby d1_6) rfl k) ?_
  show GoW _ _ _ _ _ _ _ _ (mkF m 7 #[.val (.ref a0), .val (.double d1), .second, .val (.double d2), .second, .val (.double d3), .second, .val (.double d4), .second] [(.double d1), (.ref sa2)])
  obtain ⟨_, _, ⟨T3, L3, k3, n3⟩, -, X3, ⟨Lc3, hQ3, l3, y3, z3⟩, st3⟩ := Jvm.LawKit.callS X2 hx (y := (⟨"com/example/due_weight/dueweight/core/QualityFactors", "requireFactor", "(Ljava/lang/String;D)V"⟩ : MethodName)) hown (mvT hZ (hw _ (List.mem_of_getElem? (i := 25) rfl))) (mvT hZ (hw _ (List.mem_of_getElem? (i := 26) rfl))) (mvT hZ (hw _ (List.mem_of_getElem? (i := 4) rfl))) (mvT hZ (hw _ (List.mem_of_getElem? (i := 27) rfl))) (by decide) (backOf (W := 0) (rm4 l Z aw hw [] sa2 d1  h2 n0 ZZ ld1 ud1) hZ (hw _ (List.mem_of_getElem? (i := 27) rfl)) (hw _ (List.mem_of_getElem? (i := 4) rfl)) (by decide) (by decide)) (g := (mkF m 7 #[.val (.ref a0), .val (.double d1), .second, .val (.double d2), .second, .val (.double d3), .second, .val (.double d4), .second] [(.double d1), (.ref sa2)])) rfl (by rw [hml]; rfl) (argsL := [(.ref sa2), (.double d1)]) (rest := []) (lenOf pd_1 rfl) rfl (by show 2 * 0 + _ ≤ _; exact Nat.le_of_eq rfl) (hb hby d1_7) (fun _ _ => ⟨rfl, e2, (by decide : 2 + 0 ≤ _), (by decide : 40 + 0 ≤ _)⟩)
  dsimp only [Pt.U, Pt.locs, Pt.cells, Pt.slots] at X3 l3 y3 z3 st3 hQ3
  subst l3 y3 z3
  obtain ⟨rfl, N3q, e3⟩ := hQ3
  have N3 := Fr.app N1 N3q
  refine GoW.on st3 ?_
  show GoW _ _ _ _ _ _ _ _ (mkF m 10 #[.val (.ref a0), .val (.double d1), .second, .val (.double d2), .second, .val (.double d3), .second, .val (.double d4), .second] [])
  obtain ⟨sa4, T4, h4, kk4, X4, e4, E4, HS4, HK4, hZ4, hown4, st4⟩ := Jvm.RoadKit.ldcS X3 hx hZ hown (hw _ (List.mem_of_getElem? (i := 28) rfl)) (own_wS hw) e3 HS HK (g := (mkF m 10 #[.val (.ref a0), .val (.double d1), .second, .val (.double d2), .second, .val (.double d3), .second, .val (.double d4), .second] [])) rfl (hb hby d1_10) (n := 32) (by decide) (by decide) (by decide) (by decide)
  replace E_a0 := E_a0.ext E4
  replace F_relevance_a0 := F_relevance_a0.ext E4
  replace F_coverage_a0 := F_coverage_a0.ext E4
  replace F_originality_a0 := F_originality_a0.ext E4
  replace F_timeliness_a0 := F_timeliness_a0.ext E4
  replace ZZ := Nat.le_trans ZZ E4.1
  replace KP := KP.ext E4
  replace HS := HS4
  replace HK := HK4
  replace hZ := hZ4
  replace hown := hown4
  refine GoW.on st4 ?_
  show GoW _ _ _ _ _ _ _ _ (mkF m 12 #[.val (.ref a0), .val (.double d1), .second, .val (.double d2), .second, .val (.double d3), .second, .val (.double d4), .second] [(.ref sa4)])
  refine GoW.on (fun _ k => XS.dloadN X4.here hx rfl (hb hby d1_12) rfl k) ?_
  show GoW _ _ _ _ _ _ _ _ (mkF m 13 #[.val (.ref a0), .val (.double d1), .second, .val (.double d2), .second, .val (.double d3), .second, .val (.double d4), .second] [(.double d2), (.ref sa4)])
  obtain ⟨_, _, ⟨T5, L5, k5, n5⟩, -, X5, ⟨Lc5, hQ5, l5, y5, z5⟩, st5⟩ := Jvm.LawKit.callS X4 hx (y := (⟨"com/example/due_weight/dueweight/core/QualityFactors", "requireFactor", "(Ljava/lang/String;D)V"⟩ : MethodName)) hown (mvT hZ (hw _ (List.mem_of_getElem? (i := 25) rfl))) (mvT hZ (hw _ (List.mem_of_getElem? (i := 26) rfl))) (mvT hZ (hw _ (List.mem_of_getElem? (i := 4) rfl))) (mvT hZ (hw _ (List.mem_of_getElem? (i := 27) rfl))) (by decide) (backOf (W := 0) (rm4 l Z aw hw [] sa4 d2  h4 n0 ZZ ld2 ud2) hZ (hw _ (List.mem_of_getElem? (i := 27) rfl)) (hw _ (List.mem_of_getElem? (i := 4) rfl)) (by decide) (by decide)) (g := (mkF m 13 #[.val (.ref a0), .val (.double d1), .second, .val (.double d2), .second, .val (.double d3), .second, .val (.double d4), .second] [(.double d2), (.ref sa4)])) rfl (by rw [hml]; rfl) (argsL := [(.ref sa4), (.double d2)]) (rest := []) (lenOf pd_1 rfl) rfl (by show 2 * 0 + _ ≤ _; exact Nat.le_of_eq rfl) (hb hby d1_13) (fun _ _ => ⟨rfl, e4, (by decide : 4 + 0 ≤ _), (by decide : 76 + 0 ≤ _)⟩)
  dsimp only [Pt.U, Pt.locs, Pt.cells, Pt.slots] at X5 l5 y5 z5 st5 hQ5
  subst l5 y5 z5
  obtain ⟨rfl, N5q, e5⟩ := hQ5
  have N5 := Fr.app N3 N5q
  refine GoW.on st5 ?_
  show GoW _ _ _ _ _ _ _ _ (mkF m 16 #[.val (.ref a0), .val (.double d1), .second, .val (.double d2), .second, .val (.double d3), .second, .val (.double d4), .second] [])
  obtain ⟨sa6, T6, h6, kk6, X6, e6, E6, HS6, HK6, hZ6, hown6, st6⟩ := Jvm.RoadKit.ldcS X5 hx hZ hown (hw _ (List.mem_of_getElem? (i := 29) rfl)) (own_wS hw) e5 HS HK (g := (mkF m 16 #[.val (.ref a0), .val (.double d1), .second, .val (.double d2), .second, .val (.double d3), .second, .val (.double d4), .second] [])) rfl (hb hby d1_16) (n := 44) (by decide) (by decide) (by decide) (by decide)
  replace E_a0 := E_a0.ext E6
  replace F_relevance_a0 := F_relevance_a0.ext E6
  replace F_coverage_a0 := F_coverage_a0.ext E6
  replace F_originality_a0 := F_originality_a0.ext E6
  replace F_timeliness_a0 := F_timeliness_a0.ext E6
  replace ZZ := Nat.le_trans ZZ E6.1
  replace KP := KP.ext E6
  replace HS := HS6
  replace HK := HK6
  replace hZ := hZ6
  replace hown := hown6
  refine GoW.on st6 ?_
  show GoW _ _ _ _ _ _ _ _ (mkF m 18 #[.val (.ref a0), .val (.double d1), .second, .val (.double d2), .second, .val (.double d3), .second, .val (.double d4), .second] [(.ref sa6)])
  refine GoW.on (fun _ k => XS.dload X6.here hx rfl (hb hby d1_18) rfl k) ?_
  show GoW _ _ _ _ _ _ _ _ (mkF m 20 #[.val (.ref a0), .val (.double d1), .second, .val (.double d2), .second, .val (.double d3), .second, .val (.double d4), .second] [(.double d3), (.ref sa6)])
  obtain ⟨_, _, ⟨T7, L7, k7, n7⟩, -, X7, ⟨Lc7, hQ7, l7, y7, z7⟩, st7⟩ := Jvm.LawKit.callS X6 hx (y := (⟨"com/example/due_weight/dueweight/core/QualityFactors", "requireFactor", "(Ljava/lang/String;D)V"⟩ : MethodName)) hown (mvT hZ (hw _ (List.mem_of_getElem? (i := 25) rfl))) (mvT hZ (hw _ (List.mem_of_getElem? (i := 26) rfl))) (mvT hZ (hw _ (List.mem_of_getElem? (i := 4) rfl))) (mvT hZ (hw _ (List.mem_of_getElem? (i := 27) rfl))) (by decide) (backOf (W := 0) (rm4 l Z aw hw [] sa6 d3  h6 n0 ZZ ld3 ud3) hZ (hw _ (List.mem_of_getElem? (i := 27) rfl)) (hw _ (List.mem_of_getElem? (i := 4) rfl)) (by decide) (by decide)) (g := (mkF m 20 #[.val (.ref a0), .val (.double d1), .second, .val (.double d2), .second, .val (.double d3), .second, .val (.double d4), .second] [(.double d3), (.ref sa6)])) rfl (by rw [hml]; rfl) (argsL := [(.ref sa6), (.double d3)]) (rest := []) (lenOf pd_1 rfl) rfl (by show 2 * 0 + _ ≤ _; exact Nat.le_of_eq rfl) (hb hby d1_20) (fun _ _ => ⟨rfl, e6, (by decide : 6 + 0 ≤ _), (by decide : 124 + 0 ≤ _)⟩)
  dsimp only [Pt.U, Pt.locs, Pt.cells, Pt.slots] at X7 l7 y7 z7 st7 hQ7
  subst l7 y7 z7
  obtain ⟨rfl, N7q, e7⟩ := hQ7
  have N7 := Fr.app N5 N7q
  refine GoW.on st7 ?_
  show GoW _ _ _ _ _ _ _ _ (mkF m 23 #[.val (.ref a0), .val (.double d1), .second, .val (.double d2), .second, .val (.double d3), .second, .val (.double d4), .second] [])
  obtain ⟨sa8, T8, h8, kk8, X8, e8, E8, HS8, HK8, hZ8, hown8, st8⟩ := Jvm.RoadKit.ldcS X7 hx hZ hown (hw _ (List.mem_of_getElem? (i := 30) rfl)) (own_wS hw) e7 HS HK (g := (mkF m 23 #[.val (.ref a0), .val (.double d1), .second, .val (.double d2), .second, .val (.double d3), .second, .val (.double d4), .second] [])) rfl (hb hby d1_23) (n := 40) (by decide) (by decide) (by decide) (by decide)
  replace E_a0 := E_a0.ext E8
  replace F_relevance_a0 := F_relevance_a0.ext E8
  replace F_coverage_a0 := F_coverage_a0.ext E8
  replace F_originality_a0 := F_originality_a0.ext E8
  replace F_timeliness_a0 := F_timeliness_a0.ext E8
  replace ZZ := Nat.le_trans ZZ E8.1
  replace KP := KP.ext E8
  replace HS := HS8
  replace HK := HK8
  replace hZ := hZ8
  replace hown := hown8
  refine GoW.on st8 ?_
  show GoW _ _ _ _ _ _ _ _ (mkF m 25 #[.val (.ref a0), .val (.double d1), .second, .val (.double d2), .second, .val (.double d3), .second, .val (.double d4), .second] [(.ref sa8)])
  refine GoW.on (fun _ k => XS.dload X8.here hx rfl (hb hby d1_25) rfl k) ?_
  show GoW _ _ _ _ _ _ _ _ (mkF m 27 #[.val (.ref a0), .val (.double d1), .second, .val (.double d2), .second, .val (.double d3), .second, .val (.double d4), .second] [(.double d4), (.ref sa8)])
  obtain ⟨_, _, ⟨T9, L9, k9, n9⟩, -, X9, ⟨Lc9, hQ9, l9, y9, z9⟩, st9⟩ := Jvm.LawKit.callS X8 hx (y := (⟨"com/example/due_weight/dueweight/core/QualityFactors", "requireFactor", "(Ljava/lang/String;D)V"⟩ : MethodName)) hown (mvT hZ (hw _ (List.mem_of_getElem? (i := 25) rfl))) (mvT hZ (hw _ (List.mem_of_getElem? (i := 26) rfl))) (mvT hZ (hw _ (List.mem_of_getElem? (i := 4) rfl))) (mvT hZ (hw _ (List.mem_of_getElem? (i := 27) rfl))) (by decide) (backOf (W := 0) (rm4 l Z aw hw [] sa8 d4  h8 n0 ZZ ld4 ud4) hZ (hw _ (List.mem_of_getElem? (i := 27) rfl)) (hw _ (List.mem_of_getElem? (i := 4) rfl)) (by decide) (by decide)) (g := (mkF m 27 #[.val (.ref a0), .val (.double d1), .second, .val (.double d2), .second, .val (.double d3), .second, .val (.double d4), .second] [(.double d4), (.ref sa8)])) rfl (by rw [hml]; rfl) (argsL := [(.ref sa8), (.double d4)]) (rest := []) (lenOf pd_1 rfl) rfl (by show 2 * 0 + _ ≤ _; exact Nat.le_of_eq rfl) (hb hby d1_27) (fun _ _ => ⟨rfl, e8, (by decide : 8 + 0 ≤ _), (by decide : 168 + 0 ≤ _)⟩)
  dsimp only [Pt.U, Pt.locs, Pt.cells, Pt.slots] at X9 l9 y9 z9 st9 hQ9
  subst l9 y9 z9
  obtain ⟨rfl, N9q, e9⟩ := hQ9
  have N9 := Fr.app N7 N9q
  refine GoW.on st9 ?_
  show GoW _ _ _ _ _ _ _ _ (mkF m 30 #[.val (.ref a0), .val (.double d1), .second, .val (.double d2), .second, .val (.double d3), .second, .val (.double d4), .second] [])
  refine GoW.on (fun _ k => XS.aloadN X9.here hx rfl (hb hby d1_30) rfl rfl k) ?_
  show GoW _ _ _ _ _ _ _ _ (mkF m 31 #[.val (.ref a0), .val (.double d1), .second, .val (.double d2), .second, .val (.double d3), .second, .val (.double d4), .second] [(.ref a0)])
  refine GoW.on (fun _ k => XS.dloadN X9.here hx rfl (hb hby d1_31) rfl k) ?_
  show GoW _ _ _ _ _ _ _ _ (mkF m 32 #[.val (.ref a0), .val (.double d1), .second, .val (.double d2), .second, .val (.double d3), .second, .val (.double d4), .second] [(.double d1), (.ref a0)])
  obtain ⟨T10, h10, X10, e10, W10, st10⟩ := putF X9 hx hZ hown (host := "") (Or.inl (hw _ (List.mem_of_getElem? (i := 31) rfl))) Via.refl e9 F_relevance_a0 E_a0 (Or.inr ⟨(hw _ (List.mem_of_getElem? (i := 32) rfl)), rfl, hnm⟩) (hw _ (List.mem_of_getElem? (i := 3) rfl)) (ty := .double) (by decide) rfl rfl (g := (mkF m 32 #[.val (.ref a0), .val (.double d1), .second, .val (.double d2), .second, .val (.double d3), .second, .val (.double d4), .second] [(.double d1), (.ref a0)])) rfl rfl (hb hby d1_32)
  refine GoW.on st10 ?_
  replace F_relevance_a0 := F_relevance_a0.same W10
  replace E_a0 := E_a0.wr W10
  replace F_coverage_a0 := F_coverage_a0.other W10 (Or.inr (slot_ne (Or.inr (hw _ (List.mem_of_getElem? (i := 34) rfl))) (Or.inr (hw _ (List.mem_of_getElem? (i := 32) rfl))) (by decide) (t := .double) (t' := .double) (by decide) (by decide)))
  replace F_originality_a0 := F_originality_a0.other W10 (Or.inr (slot_ne (Or.inr (hw _ (List.mem_of_getElem? (i := 36) rfl))) (Or.inr (hw _ (List.mem_of_getElem? (i := 32) rfl))) (by decide) (t := .double) (t' := .double) (by decide) (by decide)))
  replace F_timeliness_a0 := F_timeliness_a0.other W10 (Or.inr (slot_ne (Or.inr (hw _ (List.mem_of_getElem? (i := 38) rfl))) (Or.inr (hw _ (List.mem_of_getElem? (i := 32) rfl))) (by decide) (t := .double) (t' := .double) (by decide) (by decide)))
  have N10 := Fr.snoc X10 N9 g_a0
  replace ZZ := Nat.le_trans ZZ (Keep.of_wr W10).1
  replace HK := Nat.le_trans HK (Keep.of_wr W10).1
  replace KP := KP.wr W10 (Or.inl (List.mem_of_getElem? (i := 0) rfl))
  show GoW _ _ _ _ _ _ _ _ (mkF m 35 #[.val (.ref a0), .val (.double d1), .second, .val (.double d2), .second, .val (.double d3), .second, .val (.double d4), .second] [])
  refine GoW.on (fun _ k => XS.aloadN X10.here hx rfl (hb hby d1_35) rfl rfl k) ?_
  show GoW _ _ _ _ _ _ _ _ (mkF m 36 #[.val (.ref a0), .val (.double d1), .second, .val (.double d2), .second, .val (.double d3), .second, .val (.double d4), .second] [(.ref a0)])
  refine GoW.on (fun _ k => XS.dloadN X10.here hx rfl (hb hby d1_36) rfl k) ?_
  show GoW _ _ _ _ _ _ _ _ (mkF m 37 #[.val (.ref a0), .val (.double d1), .second, .val (.double d2), .second, .val (.double d3), .second, .val (.double d4), .second] [(.double d2), (.ref a0)])
  obtain ⟨T11, h11, X11, e11, W11, st11⟩ := putF X10 hx hZ hown (host := "") (Or.inl (hw _ (List.mem_of_getElem? (i := 33) rfl))) Via.refl e10 F_coverage_a0 E_a0 (Or.inr ⟨(hw _ (List.mem_of_getElem? (i := 34) rfl)), rfl, hnm⟩) (hw _ (List.mem_of_getElem? (i := 3) rfl)) (ty := .double) (by decide) rfl rfl (g := (mkF m 37 #[.val (.ref a0), .val (.double d1), .second, .val (.double d2), .second, .val (.double d3), .second, .val (.double d4), .second] [(.double d2), (.ref a0)])) rfl rfl (hb hby d1_37)
  refine GoW.on st11 ?_
  replace F_coverage_a0 := F_coverage_a0.same W11
  replace E_a0 := E_a0.wr W11
  replace F_relevance_a0 := F_relevance_a0.other W11 (Or.inr (slot_ne (Or.inr (hw _ (List.mem_of_getElem? (i := 32) rfl))) (Or.inr (hw _ (List.mem_of_getElem? (i := 34) rfl))) (by decide) (t := .double) (t' := .double) (by decide) (by decide)))
  replace F_originality_a0 := F_originality_a0.other W11 (Or.inr (slot_ne (Or.inr (hw _ (List.mem_of_getElem? (i := 36) rfl))) (Or.inr (hw _ (List.mem_of_getElem? (i := 34) rfl))) (by decide) (t := .double) (t' := .double) (by decide) (by decide)))
  replace F_timeliness_a0 := F_timeliness_a0.other W11 (Or.inr (slot_ne (Or.inr (hw _ (List.mem_of_getElem? (i := 38) rfl))) (Or.inr (hw _ (List.mem_of_getElem? (i := 34) rfl))) (by decide) (t := .double) (t' := .double) (by decide) (by decide)))
  have N11 := Fr.snoc X11 N10 g_a0
  replace ZZ := Nat.le_trans ZZ (Keep.of_wr W11).1
  replace HK := Nat.le_trans HK (Keep.of_wr W11).1
  replace KP := KP.wr W11 (Or.inl (List.mem_of_getElem? (i := 0) rfl))
  show GoW _ _ _ _ _ _ _ _ (mkF m 40 #[.val (.ref a0), .val (.double d1), .second, .val (.double d2), .second, .val (.double d3), .second, .val (.double d4), .second] [])
  refine GoW.on (fun _ k => XS.aloadN X11.here hx rfl (hb hby d1_40) rfl rfl k) ?_
  show GoW _ _ _ _ _ _ _ _ (mkF m 41 #[.val (.ref a0), .val (.double d1), .second, .val (.double d2), .second, .val (.double d3), .second, .val (.double d4), .second] [(.ref a0)])
  refine GoW.on (fun _ k => XS.dload X11.here hx rfl (hb hby d1_41) rfl k) ?_
  show GoW _ _ _ _ _ _ _ _ (mkF m 43 #[.val (.ref a0), .val (.double d1), .second, .val (.double d2), .second, .val (.double d3), .second, .val (.double d4), .second] [(.double d3), (.ref a0)])
  obtain ⟨T12, h12, X12, e12, W12, st12⟩ := putF X11 hx hZ hown (host := "") (Or.inl (hw _ (List.mem_of_getElem? (i := 35) rfl))) Via.refl e11 F_originality_a0 E_a0 (Or.inr ⟨(hw _ (List.mem_of_getElem? (i := 36) rfl)), rfl, hnm⟩) (hw _ (List.mem_of_getElem? (i := 3) rfl)) (ty := .double) (by decide) rfl rfl (g := (mkF m 43 #[.val (.ref a0), .val (.double d1), .second, .val (.double d2), .second, .val (.double d3), .second, .val (.double d4), .second] [(.double d3), (.ref a0)])) rfl rfl (hb hby d1_43)
  refine GoW.on st12 ?_
  replace F_originality_a0 := F_originality_a0.same W12
  replace E_a0 := E_a0.wr W12
  replace F_relevance_a0 := F_relevance_a0.other W12 (Or.inr (slot_ne (Or.inr (hw _ (List.mem_of_getElem? (i := 32) rfl))) (Or.inr (hw _ (List.mem_of_getElem? (i := 36) rfl))) (by decide) (t := .double) (t' := .double) (by decide) (by decide)))
  replace F_coverage_a0 := F_coverage_a0.other W12 (Or.inr (slot_ne (Or.inr (hw _ (List.mem_of_getElem? (i := 34) rfl))) (Or.inr (hw _ (List.mem_of_getElem? (i := 36) rfl))) (by decide) (t := .double) (t' := .double) (by decide) (by decide)))
  replace F_timeliness_a0 := F_timeliness_a0.other W12 (Or.inr (slot_ne (Or.inr (hw _ (List.mem_of_getElem? (i := 38) rfl))) (Or.inr (hw _ (List.mem_of_getElem? (i := 36) rfl))) (by decide) (t := .double) (t' := .double) (by decide) (by decide)))
  have N12 := Fr.snoc X12 N11 g_a0
  replace ZZ := Nat.le_trans ZZ (Keep.of_wr W12).1
  replace HK := Nat.le_trans HK (Keep.of_wr W12).1
  replace KP := KP.wr W12 (Or.inl (List.mem_of_getElem? (i := 0) rfl))
  show GoW _ _ _ _ _ _ _ _ (mkF m 46 #[.val (.ref a0), .val (.double d1), .second, .val (.double d2), .second, .val (.double d3), .second, .val (.double d4), .second] [])
  refine GoW.on (fun _ k => XS.aloadN X12.here hx rfl (hb hby d1_46) rfl rfl k) ?_
  show GoW _ _ _ _ _ _ _ _ (mkF m 47 #[.val (.ref a0), .val (.double d1), .second, .val (.double d2), .second, .val (.double d3), .second, .val (.double d4), .second] [(.ref a0)])
  refine GoW.on (fun _ k => XS.dload X12.here hx rfl (hb hby d1_47) rfl k) ?_
  show GoW _ _ _ _ _ _ _ _ (mkF m 49 #[.val (.ref a0), .val (.double d1), .second, .val (.double d2), .second, .val (.double d3), .second, .val (.double d4), .second] [(.double d4), (.ref a0)])
  obtain ⟨T13, h13, X13, e13, W13, st13⟩ := putF X12 hx hZ hown (host := "") (Or.inl (hw _ (List.mem_of_getElem? (i := 37) rfl))) Via.refl e12 F_timeliness_a0 E_a0 (Or.inr ⟨(hw _ (List.mem_of_getElem? (i := 38) rfl)), rfl, hnm⟩) (hw _ (List.mem_of_getElem? (i := 3) rfl)) (ty := .double) (by decide) rfl rfl (g := (mkF m 49 #[.val (.ref a0), .val (.double d1), .second, .val (.double d2), .second, .val (.double d3), .second, .val (.double d4), .second] [(.double d4), (.ref a0)])) rfl rfl (hb hby d1_49)
  refine GoW.on st13 ?_
  replace F_timeliness_a0 := F_timeliness_a0.same W13
  replace E_a0 := E_a0.wr W13
  replace F_relevance_a0 := F_relevance_a0.other W13 (Or.inr (slot_ne (Or.inr (hw _ (List.mem_of_getElem? (i := 32) rfl))) (Or.inr (hw _ (List.mem_of_getElem? (i := 38) rfl))) (by decide) (t := .double) (t' := .double) (by decide) (by decide)))
  replace F_coverage_a0 := F_coverage_a0.other W13 (Or.inr (slot_ne (Or.inr (hw _ (List.mem_of_getElem? (i := 34) rfl))) (Or.inr (hw _ (List.mem_of_getElem? (i := 38) rfl))) (by decide) (t := .double) (t' := .double) (by decide) (by decide)))
  replace F_originality_a0 := F_originality_a0.other W13 (Or.inr (slot_ne (Or.inr (hw _ (List.mem_of_getElem? (i := 36) rfl))) (Or.inr (hw _ (List.mem_of_getElem? (i := 38) rfl))) (by decide) (t := .double) (t' := .double) (by decide) (by decide)))
  have N13 := Fr.snoc X13 N12 g_a0
  replace ZZ := Nat.le_trans ZZ (Keep.of_wr W13).1
  replace HK := Nat.le_trans HK (Keep.of_wr W13).1
  replace KP := KP.wr W13 (Or.inl (List.mem_of_getElem? (i := 0) rfl))
  show GoW _ _ _ _ _ _ _ _ (mkF m 52 #[.val (.ref a0), .val (.double d1), .second, .val (.double d2), .second, .val (.double d3), .second, .val (.double d4), .second] [])
  refine GoW.ret0 X13 hx HS (by rw [e13]; exact HK) Bd.returns (hb hby d1_52) ?_ (by rw [hK1]; decide) (by rw [hK2]; decide)
  rw [e13, ← hQQ]
  exact ⟨rfl, N13, KP, E_a0, F_relevance_a0, F_coverage_a0, F_originality_a0, F_timeliness_a0⟩
theorem d5_0 : decode prog_26_method_2_code 0 = .ok (.aload_n 0, 1) := by decide +kernel
theorem d5_1 : decode prog_26_method_2_code 1 = .ok (.getfield 21, 3) := by decide +kernel
theorem d5_4 : decode prog_26_method_2_code 4 = .ok (.aload_n 0, 1) := by decide +kernel
theorem d5_5 : decode prog_26_method_2_code 5 = .ok (.getfield 24, 3) := by decide +kernel
theorem d5_8 : decode prog_26_method_2_code 8 = .ok (.dadd, 1) := by decide +kernel
theorem d5_9 : decode prog_26_method_2_code 9 = .ok (.aload_n 0, 1) := by decide +kernel
theorem d5_10 : decode prog_26_method_2_code 10 = .ok (.getfield 26, 3) := by decide +kernel
theorem d5_13 : decode prog_26_method_2_code 13 = .ok (.dadd, 1) := by decide +kernel
theorem d5_14 : decode prog_26_method_2_code 14 = .ok (.aload_n 0, 1) := by decide +kernel
theorem d5_15 : decode prog_26_method_2_code 15 = .ok (.getfield 28, 3) := by decide +kernel
theorem d5_18 : decode prog_26_method_2_code 18 = .ok (.dadd, 1) := by decide +kernel
theorem d5_19 : decode prog_26_method_2_code 19 = .ok (.ldc2_w 30, 3) := by decide +kernel
theorem d5_22 : decode prog_26_method_2_code 22 = .ok (.ddiv, 1) := by decide +kernel
theorem d5_23 : decode prog_26_method_2_code 23 = .ok (.dreturn, 1) := by decide +kernel
theorem ef_rm5 (m : MethodId) (a0 : Addr) : entryFrame m #[(.ref a0)] 1 = mkF m 0 #[.val (.ref a0)] [] := by first | (simp [entryFrame, mkF, argsToLocals, Value.category]; done) | rfl
def Q_rm5 (Z : State) (a0 : Addr) (v1 : UInt64) (v2 : UInt64) (v3 : UInt64) (v4 : UInt64) (h0 : Heap) (n0 : Nat) (v : Option Value) (h : Heap) (L : List Loc) : Prop := v = some (.double (FP.ddiv (FP.dadd (FP.dadd (FP.dadd v1 v2) v3) v4) (4616189618054758400 : UInt64))) ∧ Fr n0 L ∧ h = h0
set_option maxRecDepth 65536 in
set_option maxHeartbeats 40000000 in
theorem rm5 (l : Launch) (Z : State) (aw : Array Value) (hw : ∀ d ∈ tables_1, d.before aw Z = true) (ws : List Jvm.Cond) (a0 : Addr) (v1 : UInt64) (v2 : UInt64) (v3 : UInt64) (v4 : UInt64) (h0 : Heap) (n0 : Nat) (Z0 : n0 ≤ h0.size) (F_relevance_a0 : Fld Z h0 a0 "com/example/due_weight/dueweight/core/QualityFactors" "relevance" "D" (.double v1)) (F_coverage_a0 : Fld Z h0 a0 "com/example/due_weight/dueweight/core/QualityFactors" "coverage" "D" (.double v2)) (F_originality_a0 : Fld Z h0 a0 "com/example/due_weight/dueweight/core/QualityFactors" "originality" "D" (.double v3)) (F_timeliness_a0 : Fld Z h0 a0 "com/example/due_weight/dueweight/core/QualityFactors" "timeliness" "D" (.double v4)) (hq0 : Jvm.Free.Fl.NoNaN64 (FP.dadd v1 v2)) (hq1 : Jvm.Free.Fl.NoNaN64 (FP.dadd (FP.dadd v1 v2) v3)) (hq2 : Jvm.Free.Fl.NoNaN64 (FP.dadd (FP.dadd (FP.dadd v1 v2) v3) v4)) (hq3 : Jvm.Free.Fl.NoNaN64 (FP.ddiv (FP.dadd (FP.dadd (FP.dadd v1 v2) v3) v4) (4616189618054758400 : UInt64))) :
    MetFree l (⟨"com/example/due_weight/dueweight/core/QualityFactors", "quality", "()D"⟩ : MethodName) (head1 (Jvm.Cond.code (⟨"com/example/due_weight/dueweight/core/QualityFactors", "quality", "()D"⟩ : MethodName) prog_26_method_2_code 1 (some .double) :: ws) ({ frames := 0, cells := 0, slots := 0, locals := 0 } : Room)) (fun a U => a = #[(.ref a0)] ∧ Z.Warmed39 U.vm ∧ U.heap = h0) (fun _ _ _ _ _ => True) (fun _ U o U' => ∃ v L, o = .returned v ∧ Q_rm5 Z a0 v1 v2 v3 v4 h0 n0 v U'.heap L ∧ FrameEnd U o U' L ({ frames := 0, cells := 0, slots := 0, locals := 0 } : Room).cells ({ frames := 0, cells := 0, slots := 0, locals := 0 } : Room).slots) := by
  refine MetFree.of_bodySF (plainFor_of_name pn_1) hisR ?_
  intro p e s m args below meth c s₁ Bd hml0 hP hK
  obtain ⟨rfl, hZ, hh⟩ := hP
  have hx := Bd.exec
  have hby := Bd.bytes
  have hml : c.maxLocals = 1 := hml0
  have hown : s.vm.findClass "com/example/due_weight/dueweight/core/QualityFactors" = some m.cls := findClass_of_methodNamed Bd.named
  have hnm := (name_of_methodNamed Bd.named Bd.method).1
  have hlk : meth.locks = false := BodyLoose.notSynchronized Bd
  have X0 : Stand p l e ({ frames := 0, cells := 0, slots := 0, locals := 0 } : Room) s m #[(.ref a0)] below meth c s₁ [] 0 0 := Stand.of_body Bd
  have e0 : s₁.heap = h0 := by rw [← hh, Bd.state]; rfl
  have N0 := Fr.nil n0
  have ZZ := Z0
  show Go p e below s ({ frames := 0, cells := 0, slots := 0, locals := 0 } : Room).cells ({ frames := 0, cells := 0, slots := 0, locals := 0 } : Room).slots (fun v h L => Q_rm5 Z a0 v1 v2 v3 v4 h0 n0 v h L) s₁ (entryFrame m #[(.ref a0)] 1)
  refine Go.cast (ef_rm5 m a0) ?_
  refine Go.gen ?_
  intro K1 K2 QQ hK1 hK2 hQQ
  refine Go.on (fun _ k => XS.aloadN X0.here hx rfl (hb hby d5_0) rfl rfl k) ?_
  show Go _ _ _ _ _ _ _ _ (mkF m 1 #[.val (.ref a0)] [(.ref a0)])
  obtain ⟨T1, X1, e1, st1⟩ := getF X0 hx hZ hown (host := "") (Or.inl (hw _ (List.mem_of_getElem? (i := 31) rfl))) Via.refl e0 F_relevance_a0 (g := (mkF m 1 #[.val (.ref a0)] [(.ref a0)])) rfl rfl (hb hby d5_1)
  refine Go.on st1 ?_
  show Go _ _ _ _ _ _ _ _ (mkF m 4 #[.val (.ref a0)] [(.double v1)])
  refine Go.on (fun _ k => XS.aloadN X1.here hx rfl (hb hby d5_4) rfl rfl k) ?_
  show Go _ _ _ _ _ _ _ _ (mkF m 5 #[.val (.ref a0)] [(.ref a0), (.double v1)])
  obtain ⟨T2, X2, e2, st2⟩ := getF X1 hx hZ hown (host := "") (Or.inl (hw _ (List.mem_of_getElem? (i := 33) rfl))) Via.refl e1 F_coverage_a0 (g := (mkF m 5 #[.val (.ref a0)] [(.ref a0), (.double v1)])) rfl rfl (hb hby d5_5)
  refine Go.on st2 ?_
  show Go _ _ _ _ _ _ _ _ (mkF m 8 #[.val (.ref a0)] [(.double v2), (.double v1)])
  refine Go.on (fun _ k => XS.daddS X2.here hx rfl (hb hby d5_8) rfl (hq0) rfl k) ?_
  show Go _ _ _ _ _ _ _ _ (mkF m 9 #[.val (.ref a0)] [(.double (FP.dadd v1 v2))])
  refine Go.on (fun _ k => XS.aloadN X2.here hx rfl (hb hby d5_9) rfl rfl k) ?_
  show Go _ _ _ _ _ _ _ _ (mkF m 10 #[.val (.ref a0)] [(.ref a0), (.double (FP.dadd v1 v2))])
  obtain ⟨T3, X3, e3, st3⟩ := getF X2 hx hZ hown (host := "") (Or.inl (hw _ (List.mem_of_getElem? (i := 35) rfl))) Via.refl e2 F_originality_a0 (g := (mkF m 10 #[.val (.ref a0)] [(.ref a0), (.double (FP.dadd v1 v2))])) rfl rfl (hb hby d5_10)
  refine Go.on st3 ?_
  show Go _ _ _ _ _ _ _ _ (mkF m 13 #[.val (.ref a0)] [(.double v3), (.double (FP.dadd v1 v2))])
  refine Go.on (fun _ k => XS.daddS X3.here hx rfl (hb hby d5_13) rfl (hq1) rfl k) ?_
  show Go _ _ _ _ _ _ _ _ (mkF m 14 #[.val (.ref a0)] [(.double (FP.dadd (FP.dadd v1 v2) v3))])
  refine Go.on (fun _ k => XS.aloadN X3.here hx rfl (hb hby d5_14) rfl rfl k) ?_
  show Go _ _ _ _ _ _ _ _ (mkF m 15 #[.val (.ref a0)] [(.ref a0), (.double (FP.dadd (FP.dadd v1 v2) v3))])
  obtain ⟨T4, X4, e4, st4⟩ := getF X3 hx hZ hown (host := "") (Or.inl (hw _ (List.mem_of_getElem? (i := 37) rfl))) Via.refl e3 F_timeliness_a0 (g := (mkF m 15 #[.val (.ref a0)] [(.ref a0), (.double (FP.dadd (FP.dadd v1 v2) v3))])) rfl rfl (hb hby d5_15)
  refine Go.on st4 ?_
  show Go _ _ _ _ _ _ _ _ (mkF m 18 #[.val (.ref a0)] [(.double v4), (.double (FP.dadd (FP.dadd v1 v2) v3))])
  refine Go.on (fun _ k => XS.daddS X4.here hx rfl (hb hby d5_18) rfl (hq2) rfl k) ?_
  show Go _ _ _ _ _ _ _ _ (mkF m 19 #[.val (.ref a0)] [(.double (FP.dadd (FP.dadd (FP.dadd v1 v2) v3) v4))])
  refine Go.on (X4.ldc2DoubleC hx hown (mvT hZ (hw _ (List.mem_of_getElem? (i := 45) rfl))) (g := (mkF m 19 #[.val (.ref a0)] [(.double (FP.dadd (FP.dadd (FP.dadd v1 v2) v3) v4))])) rfl (hb hby d5_19)) ?_
  show Go _ _ _ _ _ _ _ _ (mkF m 22 #[.val (.ref a0)] [(.double (4616189618054758400 : UInt64)), (.double (FP.dadd (FP.dadd (FP.dadd v1 v2) v3) v4))])
  refine Go.on (fun _ k => XS.ddivS X4.here hx rfl (hb hby d5_22) rfl (hq3) rfl k) ?_
  show Go _ _ _ _ _ _ _ _ (mkF m 23 #[.val (.ref a0)] [(.double (FP.ddiv (FP.dadd (FP.dadd (FP.dadd v1 v2) v3) v4) (4616189618054758400 : UInt64)))])
  refine Go.retV X4 hx Bd.returns rfl (Or.inr (Or.inr (Or.inl ⟨rfl, rfl, _, rfl⟩))) (hb hby d5_23) ?_ (by rw [hK1]; decide) (by rw [hK2]; decide)
  rw [e4, ← hQQ]
  exact ⟨rfl, N0, rfl⟩
theorem pd_2 : parseMethodDescriptor "(DDDD)V" = some ⟨[.double, .double, .double, .double], none⟩ := by decide +kernel
theorem pd_3 : parseMethodDescriptor "()D" = some ⟨[], some .double⟩ := by decide +kernel
theorem pn_2 : plainName "com/example/due_weight/dueweight/core/QualityFactorsQualityPinLaw" = true := by first | (simp [plainName, overriddenIn]; done) | decide +kernel
theorem ef_rm0 (m : MethodId) (i0 : Int32) (i1 : Int32) (i2 : Int32) (i3 : Int32) : entryFrame m #[(.int i0), (.int i1), (.int i2), (.int i3)] maxLocals = mkF m 0 #[.val (.int i0), .val (.int i1), .val (.int i2), .val (.int i3), .unset, .unset, .unset, .unset, .unset, .unset, .unset] [] := by first | (simp [entryFrame, mkF, argsToLocals, Value.category, maxLocals]; done) | rfl
def Q_rm0 (Z : State) (i0 : Int32) (i1 : Int32) (i2 : Int32) (i3 : Int32) (h0 : Heap) (n0 : Nat) (v : Option Value) (h : Heap) (L : List Loc) : Prop := v = some (.int 1) ∧ Fr n0 L
set_option maxRecDepth 65536 in
set_option maxHeartbeats 40000000 in
theorem rm0 (l : Launch) (Z : State) (aw : Array Value) (hw : ∀ d ∈ tables_1, d.before aw Z = true) (ws : List Jvm.Cond) (i0 : Int32) (i1 : Int32) (i2 : Int32) (i3 : Int32) (h0 : Heap) (n0 : Nat) (Z0 : n0 ≤ h0.size) :
    MetFree l x (head1 (Jvm.Cond.code x code maxLocals ret :: ws) room_1) (fun a U => a = #[(.int i0), (.int i1), (.int i2), (.int i3)] ∧ Z.Warmed39 U.vm ∧ U.heap = h0) (fun _ _ _ _ _ => True) (fun _ U o U' => ∃ v L, o = .returned v ∧ Q_rm0 Z i0 i1 i2 i3 h0 n0 v U'.heap L ∧ ReturnedEndW U o U' L 9 172) := by
  refine MetFree.of_bodySF (plainFor_of_name pn_2) hisR ?_
  intro p e s m args below meth c s₁ Bd hml0 hP hK
  obtain ⟨rfl, hZ, hh⟩ := hP
  have hx := Bd.exec
  have hby := Bd.bytes
  have hml : c.maxLocals = 11 := hml0
  have hown : s.vm.findClass "com/example/due_weight/dueweight/core/QualityFactorsQualityPinLaw" = some m.cls := findClass_of_methodNamed Bd.named
  have hnm := (name_of_methodNamed Bd.named Bd.method).1
  have hlk : meth.locks = false := BodyLoose.notSynchronized Bd
  have X0 : Stand p l e room_1 (s.setVm s.vm) m #[(.int i0), (.int i1), (.int i2), (.int i3)] below meth c s₁ [] 0 0 := Stand.of_body Bd
  have e0 : s₁.heap = h0 := by rw [← hh, Bd.state]; rfl
  have N0 := Fr.nil n0
  have ZZ := Z0
  show GoW p e below s 9 172 (fun v h L => Q_rm0 Z i0 i1 i2 i3 h0 n0 v h L) s₁ (entryFrame m #[(.int i0), (.int i1), (.int i2), (.int i3)] maxLocals)
  refine GoW.cast (ef_rm0 m i0 i1 i2 i3) ?_
  refine GoW.gen ?_
  intro K1 K2 QQ hK1 hK2 hQQ
  have HS : s.Since s.vm s.heap.size := (State.WarmedH.refl s).since _
  have HK : s.heap.size ≤ h0.size := by rw [hh]; exact Nat.le_refl _
  replace hZ : Z.Warmed39 (s.setVm s.vm).vm := hZ
  replace hown : (s.setVm s.vm).vm.findClass "com/example/due_weight/dueweight/core/QualityFactorsQualityPinLaw" = some m.cls := hown
  refine GoW.on (fun _ k => XS.iloadN X0.here hx rfl (hb hby at_0) rfl k) ?_
  show GoW _ _ _ _ _ _ _ _ (mkF m 1 #[.val (.int i0), .val (.int i1), .val (.int i2), .val (.int i3), .unset, .unset, .unset, .unset, .unset, .unset, .unset] [(.int i0)])
  refine GoW.on (fun _ k => X0.ldcI hx hown (mvT hZ (hw _ (List.mem_of_getElem? (i := 0) rfl))) rfl (hb hby at_1) k) ?_
  show GoW _ _ _ _ _ _ _ _ (mkF m 3 #[.val (.int i0), .val (.int i1), .val (.int i2), .val (.int i3), .unset, .unset, .unset, .unset, .unset, .unset, .unset] [(.int (2147483647 : Int32)), (.int i0)])
  refine GoW.on (fun _ k => XS.iand X0.here hx rfl (hb hby at_3) rfl k) ?_
  show GoW _ _ _ _ _ _ _ _ (mkF m 4 #[.val (.int i0), .val (.int i1), .val (.int i2), .val (.int i3), .unset, .unset, .unset, .unset, .unset, .unset, .unset] [(.int (i0 &&& (2147483647 : Int32)))])
  refine GoW.on (fun _ k => X0.ldcI hx hown (mvT hZ (hw _ (List.mem_of_getElem? (i := 1) rfl))) rfl (hb hby at_4) k) ?_
  show GoW _ _ _ _ _ _ _ _ (mkF m 6 #[.val (.int i0), .val (.int i1), .val (.int i2), .val (.int i3), .unset, .unset, .unset, .unset, .unset, .unset, .unset] [(.int (65537 : Int32)), (.int (i0 &&& (2147483647 : Int32)))])
  refine GoW.on (fun _ k => iremM X0 hx rfl (hb hby at_6) rfl (by decide) k) ?_
  show GoW _ _ _ _ _ _ _ _ (mkF m 7 #[.val (.int i0), .val (.int i1), .val (.int i2), .val (.int i3), .unset, .unset, .unset, .unset, .unset, .unset, .unset] [(.int ((i0 &&& (2147483647 : Int32)) % (65537 : Int32)))])
  refine GoW.on (fun _ k => XS.istore X0.here hx rfl (hb hby at_7) rfl (l' := #[.val (.int i0), .val (.int i1), .val (.int i2), .val (.int i3), .val (.int ((i0 &&& (2147483647 : Int32)) % (65537 : Int32))), .unset, .unset, .unset, .unset, .unset, .unset]) rfl k) ?_
  show GoW _ _ _ _ _ _ _ _ (mkF m 9 #[.val (.int i0), .val (.int i1), .val (.int i2), .val (.int i3), .val (.int ((i0 &&& (2147483647 : Int32)) % (65537 : Int32))), .unset, .unset, .unset, .unset, .unset, .unset] [])
  generalize hja : ((i0 &&& (2147483647 : Int32)) % (65537 : Int32)) = ja
  show GoW _ _ _ _ _ _ _ _ (mkF m 9 #[.val (.int i0), .val (.int i1), .val (.int i2), .val (.int i3), .val (.int ja), .unset, .unset, .unset, .unset, .unset, .unset] [])
  refine GoW.on (fun _ k => XS.iloadN X0.here hx rfl (hb hby at_9) rfl k) ?_
  show GoW _ _ _ _ _ _ _ _ (mkF m 10 #[.val (.int i0), .val (.int i1), .val (.int i2), .val (.int i3), .val (.int ja), .unset, .unset, .unset, .unset, .unset, .unset] [(.int i1)])
  refine GoW.on (fun _ k => X0.ldcI hx hown (mvT hZ (hw _ (List.mem_of_getElem? (i := 0) rfl))) rfl (hb hby at_10) k) ?_
  show GoW _ _ _ _ _ _ _ _ (mkF m 12 #[.val (.int i0), .val (.int i1), .val (.int i2), .val (.int i3), .val (.int ja), .unset, .unset, .unset, .unset, .unset, .unset] [(.int (2147483647 : Int32)), (.int i1)])
  refine GoW.on (fun _ k => XS.iand X0.here hx rfl (hb hby at_12) rfl k) ?_
  show GoW _ _ _ _ _ _ _ _ (mkF m 13 #[.val (.int i0), .val (.int i1), .val (.int i2), .val (.int i3), .val (.int ja), .unset, .unset, .unset, .unset, .unset, .unset] [(.int (i1 &&& (2147483647 : Int32)))])
  refine GoW.on (fun _ k => X0.ldcI hx hown (mvT hZ (hw _ (List.mem_of_getElem? (i := 1) rfl))) rfl (hb hby at_13) k) ?_
  show GoW _ _ _ _ _ _ _ _ (mkF m 15 #[.val (.int i0), .val (.int i1), .val (.int i2), .val (.int i3), .val (.int ja), .unset, .unset, .unset, .unset, .unset, .unset] [(.int (65537 : Int32)), (.int (i1 &&& (2147483647 : Int32)))])
  refine GoW.on (fun _ k => iremM X0 hx rfl (hb hby at_15) rfl (by decide) k) ?_
  show GoW _ _ _ _ _ _ _ _ (mkF m 16 #[.val (.int i0), .val (.int i1), .val (.int i2), .val (.int i3), .val (.int ja), .unset, .unset, .unset, .unset, .unset, .unset] [(.int ((i1 &&& (2147483647 : Int32)) % (65537 : Int32)))])
  refine GoW.on (fun _ k => XS.istore X0.here hx rfl (hb hby at_16) rfl (l' := #[.val (.int i0), .val (.int i1), .val (.int i2), .val (.int i3), .val (.int ja), .val (.int ((i1 &&& (2147483647 : Int32)) % (65537 : Int32))), .unset, .unset, .unset, .unset, .unset]) rfl k) ?_
  show GoW _ _ _ _ _ _ _ _ (mkF m 18 #[.val (.int i0), .val (.int i1), .val (.int i2), .val (.int i3), .val (.int ja), .val (.int ((i1 &&& (2147483647 : Int32)) % (65537 : Int32))), .unset, .unset, .unset, .unset, .unset] [])
  generalize hjb : ((i1 &&& (2147483647 : Int32)) % (65537 : Int32)) = jb
  show GoW _ _ _ _ _ _ _ _ (mkF m 18 #[.val (.int i0), .val (.int i1), .val (.int i2), .val (.int i3), .val (.int ja), .val (.int jb), .unset, .unset, .unset, .unset, .unset] [])
  refine GoW.on (fun _ k => XS.iloadN X0.here hx rfl (hb hby at_18) rfl k) ?_
  show GoW _ _ _ _ _ _ _ _ (mkF m 19 #[.val (.int i0), .val (.int i1), .val (.int i2), .val (.int i3), .val (.int ja), .val (.int jb), .unset, .unset, .unset, .unset, .unset] [(.int i2)])
  refine GoW.on (fun _ k => X0.ldcI hx hown (mvT hZ (hw _ (List.mem_of_getElem? (i := 0) rfl))) rfl (hb hby at_19) k) ?_
  show GoW _ _ _ _ _ _ _ _ (mkF m 21 #[.val (.int i0), .val (.int i1), .val (.int i2), .val (.int i3), .val (.int ja), .val (.int jb), .unset, .unset, .unset, .unset, .unset] [(.int (2147483647 : Int32)), (.int i2)])
  refine GoW.on (fun _ k => XS.iand X0.here hx rfl (hb hby at_21) rfl k) ?_
  show GoW _ _ _ _ _ _ _ _ (mkF m 22 #[.val (.int i0), .val (.int i1), .val (.int i2), .val (.int i3), .val (.int ja), .val (.int jb), .unset, .unset, .unset, .unset, .unset] [(.int (i2 &&& (2147483647 : Int32)))])
  refine GoW.on (fun _ k => X0.ldcI hx hown (mvT hZ (hw _ (List.mem_of_getElem? (i := 1) rfl))) rfl (hb hby at_22) k) ?_
  show GoW _ _ _ _ _ _ _ _ (mkF m 24 #[.val (.int i0), .val (.int i1), .val (.int i2), .val (.int i3), .val (.int ja), .val (.int jb), .unset, .unset, .unset, .unset, .unset] [(.int (65537 : Int32)), (.int (i2 &&& (2147483647 : Int32)))])
  refine GoW.on (fun _ k => iremM X0 hx rfl (hb hby at_24) rfl (by decide) k) ?_
  show GoW _ _ _ _ _ _ _ _ (mkF m 25 #[.val (.int i0), .val (.int i1), .val (.int i2), .val (.int i3), .val (.int ja), .val (.int jb), .unset, .unset, .unset, .unset, .unset] [(.int ((i2 &&& (2147483647 : Int32)) % (65537 : Int32)))])
  refine GoW.on (fun _ k => XS.istore X0.here hx rfl (hb hby at_25) rfl (l' := #[.val (.int i0), .val (.int i1), .val (.int i2), .val (.int i3), .val (.int ja), .val (.int jb), .val (.int ((i2 &&& (2147483647 : Int32)) % (65537 : Int32))), .unset, .unset, .unset, .unset]) rfl k) ?_
  show GoW _ _ _ _ _ _ _ _ (mkF m 27 #[.val (.int i0), .val (.int i1), .val (.int i2), .val (.int i3), .val (.int ja), .val (.int jb), .val (.int ((i2 &&& (2147483647 : Int32)) % (65537 : Int32))), .unset, .unset, .unset, .unset] [])
  generalize hjc : ((i2 &&& (2147483647 : Int32)) % (65537 : Int32)) = jc
  show GoW _ _ _ _ _ _ _ _ (mkF m 27 #[.val (.int i0), .val (.int i1), .val (.int i2), .val (.int i3), .val (.int ja), .val (.int jb), .val (.int jc), .unset, .unset, .unset, .unset] [])
  refine GoW.on (fun _ k => XS.iloadN X0.here hx rfl (hb hby at_27) rfl k) ?_
  show GoW _ _ _ _ _ _ _ _ (mkF m 28 #[.val (.int i0), .val (.int i1), .val (.int i2), .val (.int i3), .val (.int ja), .val (.int jb), .val (.int jc), .unset, .unset, .unset, .unset] [(.int i3)])
  refine GoW.on (fun _ k => X0.ldcI hx hown (mvT hZ (hw _ (List.mem_of_getElem? (i := 0) rfl))) rfl (hb hby at_28) k) ?_
  show GoW _ _ _ _ _ _ _ _ (mkF m 30 #[.val (.int i0), .val (.int i1), .val (.int i2), .val (.int i3), .val (.int ja), .val (.int jb), .val (.int jc), .unset, .unset, .unset, .unset] [(.int (2147483647 : Int32)), (.int i3)])
  refine GoW.on (fun _ k => XS.iand X0.here hx rfl (hb hby at_30) rfl k) ?_
  show GoW _ _ _ _ _ _ _ _ (mkF m 31 #[.val (.int i0), .val (.int i1), .val (.int i2), .val (.int i3), .val (.int ja), .val (.int jb), .val (.int jc), .unset, .unset, .unset, .unset] [(.int (i3 &&& (2147483647 : Int32)))])
  refine GoW.on (fun _ k => X0.ldcI hx hown (mvT hZ (hw _ (List.mem_of_getElem? (i := 1) rfl))) rfl (hb hby at_31) k) ?_
  show GoW _ _ _ _ _ _ _ _ (mkF m 33 #[.val (.int i0), .val (.int i1), .val (.int i2), .val (.int i3), .val (.int ja), .val (.int jb), .val (.int jc), .unset, .unset, .unset, .unset] [(.int (65537 : Int32)), (.int (i3 &&& (2147483647 : Int32)))])
  refine GoW.on (fun _ k => iremM X0 hx rfl (hb hby at_33) rfl (by decide) k) ?_
  show GoW _ _ _ _ _ _ _ _ (mkF m 34 #[.val (.int i0), .val (.int i1), .val (.int i2), .val (.int i3), .val (.int ja), .val (.int jb), .val (.int jc), .unset, .unset, .unset, .unset] [(.int ((i3 &&& (2147483647 : Int32)) % (65537 : Int32)))])
  refine GoW.on (fun _ k => XS.istore X0.here hx rfl (hb hby at_34) rfl (l' := #[.val (.int i0), .val (.int i1), .val (.int i2), .val (.int i3), .val (.int ja), .val (.int jb), .val (.int jc), .val (.int ((i3 &&& (2147483647 : Int32)) % (65537 : Int32))), .unset, .unset, .unset]) rfl k) ?_
  show GoW _ _ _ _ _ _ _ _ (mkF m 36 #[.val (.int i0), .val (.int i1), .val (.int i2), .val (.int i3), .val (.int ja), .val (.int jb), .val (.int jc), .val (.int ((i3 &&& (2147483647 : Int32)) % (65537 : Int32))), .unset, .unset, .unset] [])
  generalize hjd : ((i3 &&& (2147483647 : Int32)) % (65537 : Int32)) = jd
  show GoW _ _ _ _ _ _ _ _ (mkF m 36 #[.val (.int i0), .val (.int i1), .val (.int i2), .val (.int i3), .val (.int ja), .val (.int jb), .val (.int jc), .val (.int jd), .unset, .unset, .unset] [])
  obtain ⟨T1, h1, X1, e1, E1, A1, D1, -, st1⟩ := newO X0 hx hZ hown (hw _ (List.mem_of_getElem? (i := 2) rfl)) (hw _ (List.mem_of_getElem? (i := 3) rfl)) (hw _ (List.mem_of_getElem? (i := 4) rfl)) e0 (g := (mkF m 36 #[.val (.int i0), .val (.int i1), .val (.int i2), .val (.int i3), .val (.int ja), .val (.int jb), .val (.int jc), .val (.int jd), .unset, .unset, .unset] [])) rfl (hb hby at_36) (by decide) (by decide)
  obtain ⟨q, g1⟩ : ∃ z, z = h0.size := ⟨_, rfl⟩
  have g_q : n0 ≤ q := Nat.le_trans ZZ (Nat.le_of_eq g1.symm)
  rw [← g1] at A1 D1 st1
  replace ZZ := Nat.le_trans ZZ E1.1
  replace HK := Nat.le_trans HK E1.1
  have E_q := A1
  have F_relevance_q : Fld Z h1 q "com/example/due_weight/dueweight/core/QualityFactors" "relevance" "D" (.double (0 : UInt64)) := D1 (Or.inr (hw _ (List.mem_of_getElem? (i := 32) rfl))) (ty := .double) (by decide)
  have F_coverage_q : Fld Z h1 q "com/example/due_weight/dueweight/core/QualityFactors" "coverage" "D" (.double (0 : UInt64)) := D1 (Or.inr (hw _ (List.mem_of_getElem? (i := 34) rfl))) (ty := .double) (by decide)
  have F_originality_q : Fld Z h1 q "com/example/due_weight/dueweight/core/QualityFactors" "originality" "D" (.double (0 : UInt64)) := D1 (Or.inr (hw _ (List.mem_of_getElem? (i := 36) rfl))) (ty := .double) (by decide)
  have F_timeliness_q : Fld Z h1 q "com/example/due_weight/dueweight/core/QualityFactors" "timeliness" "D" (.double (0 : UInt64)) := D1 (Or.inr (hw _ (List.mem_of_getElem? (i := 38) rfl))) (ty := .double) (by decide)
  refine GoW.on st1 ?_
  show GoW _ _ _ _ _ _ _ _ (mkF m 39 #[.val (.int i0), .val (.int i1), .val (.int i2), .val (.int i3), .val (.int ja), .val (.int jb), .val (.int jc), .val (.int jd), .unset, .unset, .unset] [(.ref q)])
  refine GoW.on (fun _ k => XS.dup X1.here hx rfl (hb hby at_39) rfl rfl k) ?_
  show GoW _ _ _ _ _ _ _ _ (mkF m 40 #[.val (.int i0), .val (.int i1), .val (.int i2), .val (.int i3), .val (.int ja), .val (.int jb), .val (.int jc), .val (.int jd), .unset, .unset, .unset] [(.ref q), (.ref q)])
  refine GoW.on (fun _ k => XS.iload X1.here hx rfl (hb hby at_40) rfl k) ?_
  show GoW _ _ _ _ _ _ _ _ (mkF m 42 #[.val (.int i0), .val (.int i1), .val (.int i2), .val (.int i3), .val (.int ja), .val (.int jb), .val (.int jc), .val (.int jd), .unset, .unset, .unset] [(.int ja), (.ref q), (.ref q)])
  refine GoW.on (fun _ k => XS.i2dS X1.here hx rfl (hb hby at_42) rfl rfl k) ?_
  show GoW _ _ _ _ _ _ _ _ (mkF m 43 #[.val (.int i0), .val (.int i1), .val (.int i2), .val (.int i3), .val (.int ja), .val (.int jb), .val (.int jc), .val (.int jd), .unset, .unset, .unset] [(.double (FP.i2d ja)), (.ref q), (.ref q)])
  refine GoW.on (X1.ldc2DoubleC hx hown (mvT hZ (hw _ (List.mem_of_getElem? (i := 5) rfl))) (g := (mkF m 43 #[.val (.int i0), .val (.int i1), .val (.int i2), .val (.int i3), .val (.int ja), .val (.int jb), .val (.int jc), .val (.int jd), .unset, .unset, .unset] [(.double (FP.i2d ja)), (.ref q), (.ref q)])) rfl (hb hby at_43)) ?_
  show GoW _ _ _ _ _ _ _ _ (mkF m 46 #[.val (.int i0), .val (.int i1), .val (.int i2), .val (.int i3), .val (.int ja), .val (.int jb), .val (.int jc), .val (.int jd), .unset, .unset, .unset] [(.double (4679240012837945344 : UInt64)), (.double (FP.i2d ja)), (.ref q), (.ref q)])
  refine GoW.on (fun _ k => XS.ddivS X1.here hx rfl (hb hby at_46) rfl ((own_q _ (own_rem hja)).nn) rfl k) ?_
  show GoW _ _ _ _ _ _ _ _ (mkF m 47 #[.val (.int i0), .val (.int i1), .val (.int i2), .val (.int i3), .val (.int ja), .val (.int jb), .val (.int jc), .val (.int jd), .unset, .unset, .unset] [(.double (FP.ddiv (FP.i2d ja) (4679240012837945344 : UInt64))), (.ref q), (.ref q)])
  refine GoW.on (fun _ k => XS.iload X1.here hx rfl (hb hby at_47) rfl k) ?_
  show GoW _ _ _ _ _ _ _ _ (mkF m 49 #[.val (.int i0), .val (.int i1), .val (.int i2), .val (.int i3), .val (.int ja), .val (.int jb), .val (.int jc), .val (.int jd), .unset, .unset, .unset] [(.int jb), (.double (FP.ddiv (FP.i2d ja) (4679240012837945344 : UInt64))), (.ref q), (.ref q)])
  refine GoW.on (fun _ k => XS.i2dS X1.here hx rfl (hb hby at_49) rfl rfl k) ?_
  show GoW _ _ _ _ _ _ _ _ (mkF m 50 #[.val (.int i0), .val (.int i1), .val (.int i2), .val (.int i3), .val (.int ja), .val (.int jb), .val (.int jc), .val (.int jd), .unset, .unset, .unset] [(.double (FP.i2d jb)), (.double (FP.ddiv (FP.i2d ja) (4679240012837945344 : UInt64))), (.ref q), (.ref q)])
  refine GoW.on (X1.ldc2DoubleC hx hown (mvT hZ (hw _ (List.mem_of_getElem? (i := 5) rfl))) (g := (mkF m 50 #[.val (.int i0), .val (.int i1), .val (.int i2), .val (.int i3), .val (.int ja), .val (.int jb), .val (.int jc), .val (.int jd), .unset, .unset, .unset] [(.double (FP.i2d jb)), (.double (FP.ddiv (FP.i2d ja) (4679240012837945344 : UInt64))), (.ref q), (.ref q)])) rfl (hb hby at_50)) ?_
  show GoW _ _ _ _ _ _ _ _ (mkF m 53 #[.val (.int i0), .val (.int i1), .val (.int i2), .val (.int i3), .val (.int ja), .val (.int jb), .val (.int jc), .val (.int jd), .unset, .unset, .unset] [(.double (4679240012837945344 : UInt64)), (.double (FP.i2d jb)), (.double (FP.ddiv (FP.i2d ja) (4679240012837945344 : UInt64))), (.ref q), (.ref q)])
  refine GoW.on (fun _ k => XS.ddivS X1.here hx rfl (hb hby at_53) rfl ((own_q _ (own_rem hjb)).nn) rfl k) ?_
  show GoW _ _ _ _ _ _ _ _ (mkF m 54 #[.val (.int i0), .val (.int i1), .val (.int i2), .val (.int i3), .val (.int ja), .val (.int jb), .val (.int jc), .val (.int jd), .unset, .unset, .unset] [(.double (FP.ddiv (FP.i2d jb) (4679240012837945344 : UInt64))), (.double (FP.ddiv (FP.i2d ja) (4679240012837945344 : UInt64))), (.ref q), (.ref q)])
  refine GoW.on (fun _ k => XS.iload X1.here hx rfl (hb hby at_54) rfl k) ?_
  show GoW _ _ _ _ _ _ _ _ (mkF m 56 #[.val (.int i0), .val (.int i1), .val (.int i2), .val (.int i3), .val (.int ja), .val (.int jb), .val (.int jc), .val (.int jd), .unset, .unset, .unset] [(.int jc), (.double (FP.ddiv (FP.i2d jb) (4679240012837945344 : UInt64))), (.double (FP.ddiv (FP.i2d ja) (4679240012837945344 : UInt64))), (.ref q), (.ref q)])
  refine GoW.on (fun _ k => XS.i2dS X1.here hx rfl (hb hby at_56) rfl rfl k) ?_
  show GoW _ _ _ _ _ _ _ _ (mkF m 57 #[.val (.int i0), .val (.int i1), .val (.int i2), .val (.int i3), .val (.int ja), .val (.int jb), .val (.int jc), .val (.int jd), .unset, .unset, .unset] [(.double (FP.i2d jc)), (.double (FP.ddiv (FP.i2d jb) (4679240012837945344 : UInt64))), (.double (FP.ddiv (FP.i2d ja) (4679240012837945344 : UInt64))), (.ref q), (.ref q)])
  refine GoW.on (X1.ldc2DoubleC hx hown (mvT hZ (hw _ (List.mem_of_getElem? (i := 5) rfl))) (g := (mkF m 57 #[.val (.int i0), .val (.int i1), .val (.int i2), .val (.int i3), .val (.int ja), .val (.int jb), .val (.int jc), .val (.int jd), .unset, .unset, .unset] [(.double (FP.i2d jc)), (.double (FP.ddiv (FP.i2d jb) (4679240012837945344 : UInt64))), (.double (FP.ddiv (FP.i2d ja) (4679240012837945344 : UInt64))), (.ref q), (.ref q)])) rfl (hb hby at_57)) ?_
  show GoW _ _ _ _ _ _ _ _ (mkF m 60 #[.val (.int i0), .val (.int i1), .val (.int i2), .val (.int i3), .val (.int ja), .val (.int jb), .val (.int jc), .val (.int jd), .unset, .unset, .unset] [(.double (4679240012837945344 : UInt64)), (.double (FP.i2d jc)), (.double (FP.ddiv (FP.i2d jb) (4679240012837945344 : UInt64))), (.double (FP.ddiv (FP.i2d ja) (4679240012837945344 : UInt64))), (.ref q), (.ref q)])
  refine GoW.on (fun _ k => XS.ddivS X1.here hx rfl (hb hby at_60) rfl ((own_q _ (own_rem hjc)).nn) rfl k) ?_
  show GoW _ _ _ _ _ _ _ _ (mkF m 61 #[.val (.int i0), .val (.int i1), .val (.int i2), .val (.int i3), .val (.int ja), .val (.int jb), .val (.int jc), .val (.int jd), .unset, .unset, .unset] [(.double (FP.ddiv (FP.i2d jc) (4679240012837945344 : UInt64))), (.double (FP.ddiv (FP.i2d jb) (4679240012837945344 : UInt64))), (.double (FP.ddiv (FP.i2d ja) (4679240012837945344 : UInt64))), (.ref q), (.ref q)])
  refine GoW.on (fun _ k => XS.iload X1.here hx rfl (hb hby at_61) rfl k) ?_
  show GoW _ _ _ _ _ _ _ _ (mkF m 63 #[.val (.int i0), .val (.int i1), .val (.int i2), .val (.int i3), .val (.int ja), .val (.int jb), .val (.int jc), .val (.int jd), .unset, .unset, .unset] [(.int jd), (.double (FP.ddiv (FP.i2d jc) (4679240012837945344 : UInt64))), (.double (FP.ddiv (FP.i2d jb) (4679240012837945344 : UInt64))), (.double (FP.ddiv (FP.i2d ja) (4679240012837945344 : UInt64))), (.ref q), (.ref q)])
  refine GoW.on (fun _ k => XS.i2dS X1.here hx rfl (hb hby at_63) rfl rfl k) ?_
  show GoW _ _ _ _ _ _ _ _ (mkF m 64 #[.val (.int i0), .val (.int i1), .val (.int i2), .val (.int i3), .val (.int ja), .val (.int jb), .val (.int jc), .val (.int jd), .unset, .unset, .unset] [(.double (FP.i2d jd)), (.double (FP.ddiv (FP.i2d jc) (4679240012837945344 : UInt64))), (.double (FP.ddiv (FP.i2d jb) (4679240012837945344 : UInt64))), (.double (FP.ddiv (FP.i2d ja) (4679240012837945344 : UInt64))), (.ref q), (.ref q)])
  refine GoW.on (X1.ldc2DoubleC hx hown (mvT hZ (hw _ (List.mem_of_getElem? (i := 5) rfl))) (g := (mkF m 64 #[.val (.int i0), .val (.int i1), .val (.int i2), .val (.int i3), .val (.int ja), .val (.int jb), .val (.int jc), .val (.int jd), .unset, .unset, .unset] [(.double (FP.i2d jd)), (.double (FP.ddiv (FP.i2d jc) (4679240012837945344 : UInt64))), (.double (FP.ddiv (FP.i2d jb) (4679240012837945344 : UInt64))), (.double (FP.ddiv (FP.i2d ja) (4679240012837945344 : UInt64))), (.ref q), (.ref q)])) rfl (hb hby at_64)) ?_
  show GoW _ _ _ _ _ _ _ _ (mkF m 67 #[.val (.int i0), .val (.int i1), .val (.int i2), .val (.int i3), .val (.int ja), .val (.int jb), .val (.int jc), .val (.int jd), .unset, .unset, .unset] [(.double (4679240012837945344 : UInt64)), (.double (FP.i2d jd)), (.double (FP.ddiv (FP.i2d jc) (4679240012837945344 : UInt64))), (.double (FP.ddiv (FP.i2d jb) (4679240012837945344 : UInt64))), (.double (FP.ddiv (FP.i2d ja) (4679240012837945344 : UInt64))), (.ref q), (.ref q)])
  refine GoW.on (fun _ k => XS.ddivS X1.here hx rfl (hb hby at_67) rfl ((own_q _ (own_rem hjd)).nn) rfl k) ?_
  show GoW _ _ _ _ _ _ _ _ (mkF m 68 #[.val (.int i0), .val (.int i1), .val (.int i2), .val (.int i3), .val (.int ja), .val (.int jb), .val (.int jc), .val (.int jd), .unset, .unset, .unset] [(.double (FP.ddiv (FP.i2d jd) (4679240012837945344 : UInt64))), (.double (FP.ddiv (FP.i2d jc) (4679240012837945344 : UInt64))), (.double (FP.ddiv (FP.i2d jb) (4679240012837945344 : UInt64))), (.double (FP.ddiv (FP.i2d ja) (4679240012837945344 : UInt64))), (.ref q), (.ref q)])
  have Ba := own_rem hja
  have Bb := own_rem hjb
  have Bc := own_rem hjc
  have Bd_ := own_rem hjd
  have SS := own_sums Ba Bb Bc Bd_
  obtain ⟨_, _, ⟨T2, L2, k2, n2⟩, -, X2, HS2_, HG2_, ⟨Lc2, hQ2, l2, y2, z2⟩, st2⟩ := X1.specialBackS hx (y := (⟨"com/example/due_weight/dueweight/core/QualityFactors", "<init>", "(DDDD)V"⟩ : MethodName)) rfl hown (mvT hZ (hw _ (List.mem_of_getElem? (i := 6) rfl))) (mvT hZ (hw _ (List.mem_of_getElem? (i := 7) rfl))) (mvT hZ (hw _ (List.mem_of_getElem? (i := 8) rfl))) (by decide) (backOfS (W := 1) (rm1 l Z aw hw [] q (FP.ddiv (FP.i2d ja) (4679240012837945344 : UInt64)) (FP.ddiv (FP.i2d jb) (4679240012837945344 : UInt64)) (FP.ddiv (FP.i2d jc) (4679240012837945344 : UInt64)) (FP.ddiv (FP.i2d jd) (4679240012837945344 : UInt64))  h1 n0 ZZ E_q F_relevance_q F_coverage_q F_originality_q F_timeliness_q g_q (own_lo _ Ba) (own_hi _ Ba) (own_lo _ Bb) (own_hi _ Bb) (own_lo _ Bc) (own_hi _ Bc) (own_lo _ Bd_) (own_hi _ Bd_)) hZ (hw _ (List.mem_of_getElem? (i := 8) rfl)) (hw _ (List.mem_of_getElem? (i := 4) rfl)) (by decide) (by decide)) (g := (mkF m 68 #[.val (.int i0), .val (.int i1), .val (.int i2), .val (.int i3), .val (.int ja), .val (.int jb), .val (.int jc), .val (.int jd), .unset, .unset, .unset] [(.double (FP.ddiv (FP.i2d jd) (4679240012837945344 : UInt64))), (.double (FP.ddiv (FP.i2d jc) (4679240012837945344 : UInt64))), (.double (FP.ddiv (FP.i2d jb) (4679240012837945344 : UInt64))), (.double (FP.ddiv (FP.i2d ja) (4679240012837945344 : UInt64))), (.ref q), (.ref q)])) rfl (by rw [hml]; rfl) (Steps.refl _) (a := q) (argsL := [(.double (FP.ddiv (FP.i2d ja) (4679240012837945344 : UInt64))), (.double (FP.ddiv (FP.i2d jb) (4679240012837945344 : UInt64))), (.double (FP.ddiv (FP.i2d jc) (4679240012837945344 : UInt64))), (.double (FP.ddiv (FP.i2d jd) (4679240012837945344 : UInt64)))]) (rest := [(.ref q)]) (lenOf pd_2 rfl) rfl (by show 2 * 0 + _ ≤ _; exact Nat.le_of_eq rfl) (hb hby at_68) (fun _ _ => ⟨rfl, e1, (by decide : 1 + 8 ≤ _), (by decide : 4 + 168 ≤ _)⟩)
  dsimp only [Pt.U, Pt.locs, Pt.cells, Pt.slots] at X2 l2 y2 z2 st2 hQ2 HS2_ HG2_
  subst l2 y2 z2
  have HS2 := Jvm.RoadKit.foldS HS (by rw [e1]; exact HK) HS2_ HG2_
  have hZ2 : Z.Warmed39 (s.setVm T2.vm).vm := State.Warmed39.trans (t := State.setVm s _) hZ HS2_.1
  have hown2 : (s.setVm T2.vm).vm.findClass "com/example/due_weight/dueweight/core/QualityFactorsQualityPinLaw" = some m.cls := by rw [show (s.setVm T2.vm).vm = T2.vm from rfl, HS2_.1.alike.findClass]; exact hown
  replace X2 : Stand p l e _ (s.setVm T2.vm) m _ below meth c T2 _ _ _ := X2
  replace HS := HS2
  replace hZ := hZ2
  replace hown := hown2
  obtain ⟨h2, e2⟩ : ∃ q, T2.heap = q := ⟨_, rfl⟩
  rw [e2] at hQ2
  obtain ⟨rfl, N2q, K2q, E_q', F_relevance_q', F_coverage_q', F_originality_q', F_timeliness_q'⟩ := hQ2
  have N2 := Fr.app N0 N2q
  replace E_q := E_q.keep K2q
  replace ZZ := Nat.le_trans ZZ K2q.1
  replace E_q := E_q'
  have F_relevance_q := F_relevance_q'
  have F_coverage_q := F_coverage_q'
  have F_originality_q := F_originality_q'
  have F_timeliness_q := F_timeliness_q'
  refine GoW.on (fun _ k => st2.trans k) ?_
  show GoW _ _ _ _ _ _ _ _ (mkF m 71 #[.val (.int i0), .val (.int i1), .val (.int i2), .val (.int i3), .val (.int ja), .val (.int jb), .val (.int jc), .val (.int jd), .unset, .unset, .unset] [(.ref q)])
  replace HK : T2.heap.size ≤ h2.size := by rw [e2]; exact Nat.le_refl _
  refine GoW.on (fun _ k => XS.astore X2.here hx rfl (hb hby at_71) rfl rfl (l' := #[.val (.int i0), .val (.int i1), .val (.int i2), .val (.int i3), .val (.int ja), .val (.int jb), .val (.int jc), .val (.int jd), .val (.ref q), .unset, .unset]) rfl k) ?_
  show GoW _ _ _ _ _ _ _ _ (mkF m 73 #[.val (.int i0), .val (.int i1), .val (.int i2), .val (.int i3), .val (.int ja), .val (.int jb), .val (.int jc), .val (.int jd), .val (.ref q), .unset, .unset] [])
  refine GoW.on (fun _ k => XS.iload X2.here hx rfl (hb hby at_73) rfl k) ?_
  show GoW _ _ _ _ _ _ _ _ (mkF m 75 #[.val (.int i0), .val (.int i1), .val (.int i2), .val (.int i3), .val (.int ja), .val (.int jb), .val (.int jc), .val (.int jd), .val (.ref q), .unset, .unset] [(.int ja)])
  refine GoW.on (fun _ k => XS.iload X2.here hx rfl (hb hby at_75) rfl k) ?_
  show GoW _ _ _ _ _ _ _ _ (mkF m 77 #[.val (.int i0), .val (.int i1), .val (.int i2), .val (.int i3), .val (.int ja), .val (.int jb), .val (.int jc), .val (.int jd), .val (.ref q), .unset, .unset] [(.int jb), (.int ja)])
  refine GoW.on (fun _ k => XS.iadd X2.here hx rfl (hb hby at_77) rfl k) ?_
  show GoW _ _ _ _ _ _ _ _ (mkF m 78 #[.val (.int i0), .val (.int i1), .val (.int i2), .val (.int i3), .val (.int ja), .val (.int jb), .val (.int jc), .val (.int jd), .val (.ref q), .unset, .unset] [(.int (ja + jb))])
  refine GoW.on (fun _ k => XS.iload X2.here hx rfl (hb hby at_78) rfl k) ?_
  show GoW _ _ _ _ _ _ _ _ (mkF m 80 #[.val (.int i0), .val (.int i1), .val (.int i2), .val (.int i3), .val (.int ja), .val (.int jb), .val (.int jc), .val (.int jd), .val (.ref q), .unset, .unset] [(.int jc), (.int (ja + jb))])
  refine GoW.on (fun _ k => XS.iadd X2.here hx rfl (hb hby at_80) rfl k) ?_
  show GoW _ _ _ _ _ _ _ _ (mkF m 81 #[.val (.int i0), .val (.int i1), .val (.int i2), .val (.int i3), .val (.int ja), .val (.int jb), .val (.int jc), .val (.int jd), .val (.ref q), .unset, .unset] [(.int ((ja + jb) + jc))])
  refine GoW.on (fun _ k => XS.iload X2.here hx rfl (hb hby at_81) rfl k) ?_
  show GoW _ _ _ _ _ _ _ _ (mkF m 83 #[.val (.int i0), .val (.int i1), .val (.int i2), .val (.int i3), .val (.int ja), .val (.int jb), .val (.int jc), .val (.int jd), .val (.ref q), .unset, .unset] [(.int jd), (.int ((ja + jb) + jc))])
  refine GoW.on (fun _ k => XS.iadd X2.here hx rfl (hb hby at_83) rfl k) ?_
  show GoW _ _ _ _ _ _ _ _ (mkF m 84 #[.val (.int i0), .val (.int i1), .val (.int i2), .val (.int i3), .val (.int ja), .val (.int jb), .val (.int jc), .val (.int jd), .val (.ref q), .unset, .unset] [(.int (((ja + jb) + jc) + jd))])
  refine GoW.on (fun _ k => XS.i2dS X2.here hx rfl (hb hby at_84) rfl rfl k) ?_
  show GoW _ _ _ _ _ _ _ _ (mkF m 85 #[.val (.int i0), .val (.int i1), .val (.int i2), .val (.int i3), .val (.int ja), .val (.int jb), .val (.int jc), .val (.int jd), .val (.ref q), .unset, .unset] [(.double (FP.i2d (((ja + jb) + jc) + jd)))])
  refine GoW.on (X2.ldc2DoubleC hx hown (mvT hZ (hw _ (List.mem_of_getElem? (i := 39) rfl))) (g := (mkF m 85 #[.val (.int i0), .val (.int i1), .val (.int i2), .val (.int i3), .val (.int ja), .val (.int jb), .val (.int jc), .val (.int jd), .val (.ref q), .unset, .unset] [(.double (FP.i2d (((ja + jb) + jc) + jd)))])) rfl (hb hby at_85)) ?_
  show GoW _ _ _ _ _ _ _ _ (mkF m 88 #[.val (.int i0), .val (.int i1), .val (.int i2), .val (.int i3), .val (.int ja), .val (.int jb), .val (.int jc), .val (.int jd), .val (.ref q), .unset, .unset] [(.double (4688247212092686336 : UInt64)), (.double (FP.i2d (((ja + jb) + jc) + jd)))])
  refine GoW.on (fun _ k => XS.ddivS X2.here hx rfl (hb hby at_88) rfl ((own_exp Ba Bb Bc Bd_).nn) rfl k) ?_
  show GoW _ _ _ _ _ _ _ _ (mkF m 89 #[.val (.int i0), .val (.int i1), .val (.int i2), .val (.int i3), .val (.int ja), .val (.int jb), .val (.int jc), .val (.int jd), .val (.ref q), .unset, .unset] [(.double (FP.ddiv (FP.i2d (((ja + jb) + jc) + jd)) (4688247212092686336 : UInt64)))])
  refine GoW.on (fun _ k => XS.dstore X2.here hx rfl (hb hby at_89) rfl (l' := #[.val (.int i0), .val (.int i1), .val (.int i2), .val (.int i3), .val (.int ja), .val (.int jb), .val (.int jc), .val (.int jd), .val (.ref q), .val (.double (FP.ddiv (FP.i2d (((ja + jb) + jc) + jd)) (4688247212092686336 : UInt64))), .second]) rfl k) ?_
  show GoW _ _ _ _ _ _ _ _ (mkF m 91 #[.val (.int i0), .val (.int i1), .val (.int i2), .val (.int i3), .val (.int ja), .val (.int jb), .val (.int jc), .val (.int jd), .val (.ref q), .val (.double (FP.ddiv (FP.i2d (((ja + jb) + jc) + jd)) (4688247212092686336 : UInt64))), .second] [])
  generalize hex : (FP.ddiv (FP.i2d (((ja + jb) + jc) + jd)) (4688247212092686336 : UInt64)) = ex
  show GoW _ _ _ _ _ _ _ _ (mkF m 91 #[.val (.int i0), .val (.int i1), .val (.int i2), .val (.int i3), .val (.int ja), .val (.int jb), .val (.int jc), .val (.int jd), .val (.ref q), .val (.double ex), .second] [])
  refine GoW.on (fun _ k => XS.aload X2.here hx rfl (hb hby at_91) rfl rfl k) ?_
  show GoW _ _ _ _ _ _ _ _ (mkF m 93 #[.val (.int i0), .val (.int i1), .val (.int i2), .val (.int i3), .val (.int ja), .val (.int jb), .val (.int jc), .val (.int jd), .val (.ref q), .val (.double ex), .second] [(.ref q)])
  obtain ⟨cq3, kq3, q3a, q3b, q3c⟩ := isOf hZ e2 E_q
  obtain ⟨_, _, ⟨T3, L3, k3, n3⟩, -, X3, ⟨Lc3, hQ3, l3, y3, z3⟩, st3⟩ := X2.virtualBack hx (y := (⟨"com/example/due_weight/dueweight/core/QualityFactors", "quality", "()D"⟩ : MethodName)) (z := (⟨"com/example/due_weight/dueweight/core/QualityFactors", "quality", "()D"⟩ : MethodName)) hown (mvT hZ (hw _ (List.mem_of_getElem? (i := 40) rfl))) (mvT hZ (hw _ (List.mem_of_getElem? (i := 41) rfl))) (notFace_of_selects (args := #[]) (mvT hZ (hw _ (List.mem_of_getElem? (i := 43) rfl)))) (mvT hZ (hw _ (List.mem_of_getElem? (i := 43) rfl))) (mvT hZ (hw _ (List.mem_of_getElem? (i := 42) rfl))) (by decide) (backOf (W := 0) (rm5 l Z aw hw [] q (FP.ddiv (FP.i2d ja) (4679240012837945344 : UInt64)) (FP.ddiv (FP.i2d jb) (4679240012837945344 : UInt64)) (FP.ddiv (FP.i2d jc) (4679240012837945344 : UInt64)) (FP.ddiv (FP.i2d jd) (4679240012837945344 : UInt64)) h2 n0 ZZ F_relevance_q F_coverage_q F_originality_q F_timeliness_q SS.1.nn SS.2.1.nn SS.2.2.1.nn SS.2.2.2.nn) hZ (hw _ (List.mem_of_getElem? (i := 44) rfl)) (hw _ (List.mem_of_getElem? (i := 4) rfl)) (by decide) (by decide)) q3a q3c (g := (mkF m 93 #[.val (.int i0), .val (.int i1), .val (.int i2), .val (.int i3), .val (.int ja), .val (.int jb), .val (.int jc), .val (.int jd), .val (.ref q), .val (.double ex), .second] [(.ref q)])) rfl (by rw [hml]; rfl) (Steps.refl _) (argsL := []) (rest := []) (lenOf pd_3 rfl) rfl (by show 2 * 0 + _ ≤ _; exact Nat.le_of_eq rfl) (hb hby at_93) (fun _ _ => ⟨rfl, e2, (by decide : 9 + 0 ≤ _), (by decide : 172 + 0 ≤ _)⟩)
  dsimp only [Pt.U, Pt.locs, Pt.cells, Pt.slots] at X3 l3 y3 z3 st3 hQ3
  subst l3 y3 z3
  obtain ⟨rfl, N3q, e3⟩ := hQ3
  have N3 := Fr.app N2 N3q
  refine GoW.on (fun _ k => st3.trans k) ?_
  show GoW _ _ _ _ _ _ _ _ (mkF m 96 #[.val (.int i0), .val (.int i1), .val (.int i2), .val (.int i3), .val (.int ja), .val (.int jb), .val (.int jc), .val (.int jd), .val (.ref q), .val (.double ex), .second] [(.double (FP.ddiv (FP.dadd (FP.dadd (FP.dadd (FP.ddiv (FP.i2d ja) (4679240012837945344 : UInt64)) (FP.ddiv (FP.i2d jb) (4679240012837945344 : UInt64))) (FP.ddiv (FP.i2d jc) (4679240012837945344 : UInt64))) (FP.ddiv (FP.i2d jd) (4679240012837945344 : UInt64))) (4616189618054758400 : UInt64)))])
  refine GoW.on (fun _ k => XS.dload X3.here hx rfl (hb hby at_96) rfl k) ?_
  show GoW _ _ _ _ _ _ _ _ (mkF m 98 #[.val (.int i0), .val (.int i1), .val (.int i2), .val (.int i3), .val (.int ja), .val (.int jb), .val (.int jc), .val (.int jd), .val (.ref q), .val (.double ex), .second] [(.double ex), (.double (FP.ddiv (FP.dadd (FP.dadd (FP.dadd (FP.ddiv (FP.i2d ja) (4679240012837945344 : UInt64)) (FP.ddiv (FP.i2d jb) (4679240012837945344 : UInt64))) (FP.ddiv (FP.i2d jc) (4679240012837945344 : UInt64))) (FP.ddiv (FP.i2d jd) (4679240012837945344 : UInt64))) (4616189618054758400 : UInt64)))])
  refine GoW.on (fun _ k => XS.dcmpS X3.here hx rfl (hb hby at_98) rfl rfl k) ?_
  show GoW _ _ _ _ _ _ _ _ (mkF m 99 #[.val (.int i0), .val (.int i1), .val (.int i2), .val (.int i3), .val (.int ja), .val (.int jb), .val (.int jc), .val (.int jd), .val (.ref q), .val (.double ex), .second] [(.int (cmpValue (FP.dcmp (FP.ddiv (FP.dadd (FP.dadd (FP.dadd (FP.ddiv (FP.i2d ja) (4679240012837945344 : UInt64)) (FP.ddiv (FP.i2d jb) (4679240012837945344 : UInt64))) (FP.ddiv (FP.i2d jc) (4679240012837945344 : UInt64))) (FP.ddiv (FP.i2d jd) (4679240012837945344 : UInt64))) (4616189618054758400 : UInt64)) ex) .l))])
  have hc4 : (cmpValue (FP.dcmp (FP.ddiv (FP.dadd (FP.dadd (FP.dadd (FP.ddiv (FP.i2d ja) (4679240012837945344 : UInt64)) (FP.ddiv (FP.i2d jb) (4679240012837945344 : UInt64))) (FP.ddiv (FP.i2d jc) (4679240012837945344 : UInt64))) (FP.ddiv (FP.i2d jd) (4679240012837945344 : UInt64))) (4616189618054758400 : UInt64)) ex) .l) = (0 : Int32) := own_fin hex Ba Bb Bc Bd_
  refine GoW.on (fun _ k => XS.ifNo X3.here hx rfl (hb hby at_99) rfl ((if0 _ _).trans (teq hc4).2) k) ?_
  show GoW _ _ _ _ _ _ _ _ (mkF m 102 #[.val (.int i0), .val (.int i1), .val (.int i2), .val (.int i3), .val (.int ja), .val (.int jb), .val (.int jc), .val (.int jd), .val (.ref q), .val (.double ex), .second] [])
  refine GoW.on (fun _ k => XS.iconst X3.here hx rfl (hb hby at_102) k) ?_
  show GoW _ _ _ _ _ _ _ _ (mkF m 103 #[.val (.int i0), .val (.int i1), .val (.int i2), .val (.int i3), .val (.int ja), .val (.int jb), .val (.int jc), .val (.int jd), .val (.ref q), .val (.double ex), .second] [(.int (1 : Int32))])
  refine GoW.on (fun _ k => XS.goto X3.here hx rfl (pc0 := 103) (pc' := 107) rfl (hb hby at_103) (by decide) (by decide) k) ?_
  show GoW _ _ _ _ _ _ _ _ (mkF m 107 #[.val (.int i0), .val (.int i1), .val (.int i2), .val (.int i3), .val (.int ja), .val (.int jb), .val (.int jc), .val (.int jd), .val (.ref q), .val (.double ex), .second] [(.int (1 : Int32))])
  refine GoW.retN X3 hx HS (by rw [e3]; exact HK) (t := .boolean) Bd.returns (by simp) (hb hby at_107) ?_ (by rw [hK1]; decide) (by rw [hK2]; decide)
  rw [e3, ← hQQ]
  exact ⟨rfl, N3⟩
set_option maxRecDepth 65536 in
set_option maxHeartbeats 40000000 in
theorem comes_1 {Post : Tables → Env → Array Value → State → Outcome → State → Prop} (hpost : ∀ tb e args s v u, (limb_1_1.after args s (.returned v) u = true ∧ limb_1_2.after args s (.returned v) u = true ∧ True) → ReturnedEndW s (.returned v) u (Jvm.fieldLocs frame_1_writes args s ++ Jvm.arrayLocs frame_1_arrays args s ++ Jvm.staticLocs frame_1_statics s) 24 4224 → Post tb e args s (.returned v) u) :
    ArmFor flags0 classFile x code maxLocals ret World_1 tables_1 room_1 Calls_1 rest_1 Pre_1 Post := by
  intro l hfl _ _ p e ha hc hk s m args below hf hA hF happ hP
  obtain ⟨hcalls, hrest, hpre⟩ := hP
  obtain ⟨-, -, -, hnamed, -, -, -, hat⟩ := (Spec.applies_iff hf).mp happ
  obtain ⟨hg, hn⟩ := and_e (Cond.before_iff.mp (show (Jvm.Cond.and given_1 narrow_1).before args s = true from hpre))
  obtain ⟨g0, r0⟩ := and_e hg
  obtain ⟨g1, r1⟩ := and_e r0
  obtain ⟨g2, r2⟩ := and_e r1
  obtain ⟨g3, g4⟩ := and_e r2
  obtain ⟨w0, w1, w2, w3, rfl⟩ : ∃ w0 w1 w2 w3 : Value, args = #[w0, w1, w2, w3] := by
    have hs : args.size = 4 := by simpa [Cond.value, given_1] using g0
    obtain ⟨L⟩ := args
    match L, hs with
    | [w0, w1, w2, w3], _ => exact ⟨w0, w1, w2, w3, rfl⟩
  have hw := fun d (hd : d ∈ tables_1) => atoms_spec (ws := Jvm.Cond.code x code maxLocals ret :: tables_1) hat d (List.mem_cons_of_mem _ hd)
  have hfit : Fit s := fun {y c} hc i hi => by
    obtain ⟨ha, rfl⟩ := Array.getElem?_eq_some_iff.mp hc
    have q := List.all_eq_true.mp ((Array.all_eq_true_iff_forall_mem.mp hF) _ (Array.getElem_mem ha)) i (List.mem_range.mpr hi)
    simpa [Array.getElem?_eq_getElem hi] using q
  obtain ⟨i0, ei0⟩ := is_v g1
  obtain rfl : w0 = (.int i0) := Option.some.inj ei0
  obtain ⟨i1, ei1⟩ := is_v g2
  obtain rfl : w1 = (.int i1) := Option.some.inj ei1
  obtain ⟨i2, ei2⟩ := is_v g3
  obtain rfl : w2 = (.int i2) := Option.some.inj ei2
  obtain ⟨i3, ei3⟩ := is_v g4
  obtain rfl : w3 = (.int i3) := Option.some.inj ei3
  obtain ⟨n, o, h1, h2, h3, _, L, rfl, ⟨rfl, N⟩, hq⟩ := rm0 l s _ hw tables_1 i0 i1 i2 i3 s.heap s.heap.size (Nat.le_refl _) p e ha hc hk s m _ below hf ((Spec.applies_iff_loose hf).mp happ).1 ⟨rfl, State.Warmed39.refl s, rfl⟩ trivial
  refine ⟨n, _, h1, h2, h3, hpost _ _ _ _ _ _ ⟨Cond.after_iff.mpr rfl, Cond.after_iff.mpr (eq_i res_at (Term.int_eval (1)) rfl), trivial⟩ ⟨hq.1, hq.2.1, hq.2.2.1, (hq.2.2.2.sift fun y hy => Or.inr (N y hy)).mono (by decide) (by decide)⟩⟩
theorem main_1_1 : Claimed_1_1 := comes_1 fun _ _ _ _ _ _ h hF => ⟨h.1, hF⟩
theorem main_1_2 : Claimed_1_2 := comes_1 fun _ _ _ _ _ _ h hF => ⟨h.2.1, hF⟩
end Jvm.Pilot.@@N@@
namespace Jvm.Pilot.@@N@@
open Jvm Jvm.ClassFile Sem Op Lib Jvm.Free Jvm.Stand Jvm.Pilot.@@N@@.Jvm.D
/-! MADE BY PROGRAM (witnessworld.py) out of the Statement's table words and the real class files: 15 classes; the members and pool entries that the words name. The judged class is class 1, her method 1. -/
namespace start1
open Jvm.ClassFile
def u (s : String) : CpInfo := .utf8 (stringToUtf16 s)
/-- a pool by its gaps: so many unusable entries, then the entry; so many at the end -/
def gap : Nat → List CpInfo → List CpInfo
  | 0, r => r
  | n + 1, r => .unusable :: gap n r
def poolList (es : List (Nat × CpInfo)) (last : Nat) : List CpInfo := es.foldr (fun e r => gap e.1 (e.2 :: r)) (gap last [])
def pool (es : List (Nat × CpInfo)) (last : Nat) : Array CpInfo := ⟨poolList es last⟩
def fileOf (pool : Array CpInfo) (this : Nat) (attrs : Array Attribute := #[]) (ms : Array MethodInfo := #[]) (fl : Nat := 33) (sup : Nat := 0) (ifs : Array Nat := #[]) (fds : Array FieldInfo := #[]) : ClassFile where
  minorVersion := 0
  majorVersion := 65
  constantPool := pool
  accessFlags := fl
  thisClass := this
  superClass := sup
  interfaces := ifs
  fields := fds
  methods := ms
  attributes := attrs
def plain (name : String) (sup : Option ClassId) : Class where
  name := name
  kind := .ordinary
  loader := none
  accessFlags := 33
  super := sup
  interfaces := #[]
  cf := none
  fields := #[]
  methods := #[]
  instanceTypes := #[]
  staticTypes := #[]
  resolved := #[]
  callSites := []
  init := .initialized
  statics := none
  mirror := none

def pool0 : Array CpInfo := pool [(5, u "<init>"), (0, u "()V"), (1, .class_ 10), (1, u "java/lang/Object")] 113

def k0c0 : Code := { maxStack := 0, maxLocals := 1, code := object_method_1_code, exceptionTable := #[], attributes := #[] }
def k0m0 : Method := { name := "<init>", desc := "()V", sig := { parameters := [], returnType := none }, accessFlags := 1, code := some k0c0 }
/-- java/lang/Object -/
def k0 : Class := { plain "java/lang/Object" none with
  accessFlags := 33
  interfaces := #[]
  cf := some (fileOf pool0 8 #[] #[{ accessFlags := 1, nameIndex := 5, descriptorIndex := 6, attributes := #[] }] 33 0 #[] #[])
  fields := #[]
  methods := #[k0m0]
  instanceTypes := #[]
  staticTypes := #[]
  resolved := Array.replicate 124 none
  statics := none }

def pool1 : Array CpInfo := pool [(2, .class_ 4), (1, u "java/lang/Object"), (0, u "<init>"), (0, u "()V"), (0, .integer 2147483647), (0, .integer 65537), (0, .class_ 10), (0, u "com/example/due_weight/dueweight/core/QualityFactors"), (0, .double 4679240012837945344), (1, .methodref 9 14), (0, .nameAndType 5 15), (0, u "(DDDD)V"), (0, .double 4688247212092686336), (1, .methodref 9 19), (0, .nameAndType 20 21), (0, u "quality"), (0, u "()D"), (0, .class_ 23), (0, u "com/example/due_weight/dueweight/core/QualityFactorsQualityPinLaw"), (2, u "law"), (0, u "(IIII)Z")] 3

def k1m0 : Method := { name := "<init>", desc := "()V", sig := { parameters := [], returnType := none }, accessFlags := 1, code := none }
def k1c1 : Code := { maxStack := 12, maxLocals := 11, code := code, exceptionTable := #[], attributes := #[] }
def k1m1 : Method := { name := "law", desc := "(IIII)Z", sig := { parameters := [.int, .int, .int, .int], returnType := some .boolean }, accessFlags := 9, code := some k1c1 }
/-- com/example/due_weight/dueweight/core/QualityFactorsQualityPinLaw -/
def k1 : Class := { plain "com/example/due_weight/dueweight/core/QualityFactorsQualityPinLaw" (some 0) with
  accessFlags := 49
  interfaces := #[]
  cf := some (fileOf pool1 22 #[] #[{ accessFlags := 1, nameIndex := 5, descriptorIndex := 6, attributes := #[] }, { accessFlags := 9, nameIndex := 26, descriptorIndex := 27, attributes := #[] }] 49 2 #[] #[])
  fields := #[]
  methods := #[k1m0, k1m1]
  instanceTypes := #[]
  staticTypes := #[]
  resolved := Array.replicate 31 none
  statics := none }

def pool2 : Array CpInfo := pool [(1, .methodref 2 3), (0, .class_ 4), (0, .nameAndType 5 6), (0, u "java/lang/Object"), (0, u "<init>"), (0, u "()V"), (0, .class_ 8), (0, u "java/lang/Record")] 13

def k2c0 : Code := { maxStack := 1, maxLocals := 1, code := jdk_30_method_1_code, exceptionTable := #[], attributes := #[] }
def k2m0 : Method := { name := "<init>", desc := "()V", sig := { parameters := [], returnType := none }, accessFlags := 4, code := some k2c0 }
/-- java/lang/Record -/
def k2 : Class := { plain "java/lang/Record" (some 0) with
  accessFlags := 1057
  interfaces := #[]
  cf := some (fileOf pool2 7 #[] #[{ accessFlags := 4, nameIndex := 5, descriptorIndex := 6, attributes := #[] }] 1057 2 #[] #[])
  fields := #[]
  methods := #[k2m0]
  instanceTypes := #[]
  staticTypes := #[]
  resolved := Array.replicate 22 none
  statics := none }

def pool3 : Array CpInfo := pool [(1, .methodref 2 3), (0, .class_ 4), (0, .nameAndType 5 6), (0, u "java/lang/Record"), (0, u "<init>"), (0, u "()V"), (0, .string 8), (0, u "relevance"), (0, .methodref 10 11), (0, .class_ 12), (0, .nameAndType 13 14), (0, u "com/example/due_weight/dueweight/core/QualityFactors"), (0, u "requireFactor"), (0, u "(Ljava/lang/String;D)V"), (0, .string 16), (0, u "coverage"), (0, .string 18), (0, u "originality"), (0, .string 20), (0, u "timeliness"), (0, .fieldref 10 22), (0, .nameAndType 8 23), (0, u "D"), (0, .fieldref 10 25), (0, .nameAndType 16 23), (0, .fieldref 10 27), (0, .nameAndType 18 23), (0, .fieldref 10 29), (0, .nameAndType 20 23), (0, .double 4616189618054758400), (22, u "(DDDD)V"), (3, u "quality"), (0, u "()D")] 35

def k3c0 : Code := { maxStack := 3, maxLocals := 9, code := prog_26_method_1_code, exceptionTable := #[], attributes := #[] }
def k3m0 : Method := { name := "<init>", desc := "(DDDD)V", sig := { parameters := [.double, .double, .double, .double], returnType := none }, accessFlags := 1, code := some k3c0 }
def k3c1 : Code := { maxStack := 4, maxLocals := 1, code := prog_26_method_2_code, exceptionTable := #[], attributes := #[] }
def k3m1 : Method := { name := "quality", desc := "()D", sig := { parameters := [], returnType := some .double }, accessFlags := 1, code := some k3c1 }
def k3c2 : Code := { maxStack := 5, maxLocals := 3, code := prog_26_method_3_code, exceptionTable := #[], attributes := #[] }
def k3m2 : Method := { name := "requireFactor", desc := "(Ljava/lang/String;D)V", sig := { parameters := [(.object "java/lang/String"), .double], returnType := none }, accessFlags := 10, code := some k3c2 }
/-- com/example/due_weight/dueweight/core/QualityFactors -/
def k3 : Class := { plain "com/example/due_weight/dueweight/core/QualityFactors" (some 2) with
  accessFlags := 49
  interfaces := #[]
  cf := some (fileOf pool3 10 #[] #[{ accessFlags := 1, nameIndex := 5, descriptorIndex := 53, attributes := #[] }, { accessFlags := 1, nameIndex := 57, descriptorIndex := 58, attributes := #[] }, { accessFlags := 10, nameIndex := 13, descriptorIndex := 14, attributes := #[] }] 49 2 #[] #[{ accessFlags := 18, nameIndex := 8, descriptorIndex := 23, attributes := #[] }, { accessFlags := 18, nameIndex := 16, descriptorIndex := 23, attributes := #[] }, { accessFlags := 18, nameIndex := 18, descriptorIndex := 23, attributes := #[] }, { accessFlags := 18, nameIndex := 20, descriptorIndex := 23, attributes := #[] }])
  fields := #[{ name := "relevance", type := .double, accessFlags := 18, slot := 0, constantValue := 0 }, { name := "coverage", type := .double, accessFlags := 18, slot := 1, constantValue := 0 }, { name := "originality", type := .double, accessFlags := 18, slot := 2, constantValue := 0 }, { name := "timeliness", type := .double, accessFlags := 18, slot := 3, constantValue := 0 }]
  methods := #[k3m0, k3m1, k3m2]
  instanceTypes := #[.double, .double, .double, .double]
  staticTypes := #[]
  resolved := Array.replicate 94 none
  statics := none }

def pool4 : Array CpInfo := pool [(1, .class_ 2), (0, u "java/io/Serializable"), (0, .class_ 4), (0, u "java/lang/Object")] 2

/-- java/io/Serializable -/
def k4 : Class := { plain "java/io/Serializable" (some 0) with
  accessFlags := 1537
  interfaces := #[]
  cf := some (fileOf pool4 1 #[] #[] 1537 3 #[] #[])
  fields := #[]
  methods := #[]
  instanceTypes := #[]
  staticTypes := #[]
  resolved := Array.replicate 7 none
  statics := none }

def pool5 : Array CpInfo := pool [(1, .class_ 2), (0, u "java/lang/Comparable"), (0, .class_ 4), (0, u "java/lang/Object")] 7

/-- java/lang/Comparable -/
def k5 : Class := { plain "java/lang/Comparable" (some 0) with
  accessFlags := 1537
  interfaces := #[]
  cf := some (fileOf pool5 1 #[] #[] 1537 3 #[] #[])
  fields := #[]
  methods := #[]
  instanceTypes := #[]
  staticTypes := #[]
  resolved := Array.replicate 12 none
  statics := none }

def pool6 : Array CpInfo := pool [(2, .class_ 4), (1, u "java/lang/CharSequence"), (42, .class_ 48), (0, u "java/lang/CharSequence$1CodePointIterator"), (10, .class_ 60), (0, u "java/lang/CharSequence$1CharIterator"), (5, .class_ 67), (0, u "java/lang/Object")] 63

/-- java/lang/CharSequence -/
def k6 : Class := { plain "java/lang/CharSequence" (some 0) with
  accessFlags := 1537
  interfaces := #[]
  cf := some (fileOf pool6 2 #[.nestMembers #[47, 59]] #[] 1537 66 #[] #[])
  fields := #[]
  methods := #[]
  instanceTypes := #[]
  staticTypes := #[]
  resolved := Array.replicate 131 none
  statics := none }

def pool7 : Array CpInfo := pool [(1, .class_ 2), (0, u "java/lang/constant/Constable"), (0, .class_ 4), (0, u "java/lang/Object")] 6

/-- java/lang/constant/Constable -/
def k7 : Class := { plain "java/lang/constant/Constable" (some 0) with
  accessFlags := 1537
  interfaces := #[]
  cf := some (fileOf pool7 1 #[] #[] 1537 3 #[] #[])
  fields := #[]
  methods := #[]
  instanceTypes := #[]
  staticTypes := #[]
  resolved := Array.replicate 11 none
  statics := none }

def pool8 : Array CpInfo := pool [(1, .class_ 2), (0, u "java/lang/constant/ConstantDesc"), (0, .class_ 4), (0, u "java/lang/Object")] 32

/-- java/lang/constant/ConstantDesc -/
def k8 : Class := { plain "java/lang/constant/ConstantDesc" (some 0) with
  accessFlags := 1537
  interfaces := #[]
  cf := some (fileOf pool8 1 #[] #[] 1537 3 #[] #[])
  fields := #[]
  methods := #[]
  instanceTypes := #[]
  staticTypes := #[]
  resolved := Array.replicate 37 none
  statics := none }

def pool9 : Array CpInfo := pool [(2, .class_ 4), (1, u "java/lang/Object"), (0, u "<init>"), (0, u "()V"), (3, .class_ 12), (1, u "java/lang/String"), (0, u "value"), (0, u "[B"), (2, u "coder"), (0, u "B"), (2, u "hash"), (0, u "I"), (2, u "hashIsZero"), (0, u "Z"), (13, u "COMPACT_STRINGS"), (534, .class_ 576), (0, u "java/lang/CharSequence"), (22, u "CASE_INSENSITIVE_ORDER"), (0, u "Ljava/util/Comparator;"), (500, u "serialPersistentFields"), (0, u "[Ljava/io/ObjectStreamField;"), (0, .class_ 1104), (0, u "java/lang/String$CaseInsensitiveComparator"), (1, .class_ 1107), (0, u "java/io/Serializable"), (0, .class_ 1109), (0, u "java/lang/Comparable"), (0, .class_ 1111), (0, u "java/lang/constant/Constable"), (0, .class_ 1113), (0, u "java/lang/constant/ConstantDesc"), (2, u "serialVersionUID"), (0, u "J"), (3, u "REPL"), (0, u "C"), (2, u "LATIN1"), (1, u "UTF16")] 323

def k9m0 : Method := { name := "<init>", desc := "()V", sig := { parameters := [], returnType := none }, accessFlags := 1, code := none }
/-- java/lang/String -/
def k9 : Class := { plain "java/lang/String" (some 0) with
  accessFlags := 49
  interfaces := #[4, 5, 6, 7, 8]
  cf := some (fileOf pool9 10 #[.nestMembers #[1103]] #[{ accessFlags := 1, nameIndex := 5, descriptorIndex := 6, attributes := #[] }] 49 2 #[1106, 1108, 575, 1110, 1112] #[{ accessFlags := 18, nameIndex := 13, descriptorIndex := 14, attributes := #[] }, { accessFlags := 18, nameIndex := 17, descriptorIndex := 18, attributes := #[] }, { accessFlags := 2, nameIndex := 21, descriptorIndex := 22, attributes := #[] }, { accessFlags := 2, nameIndex := 25, descriptorIndex := 26, attributes := #[] }, { accessFlags := 26, nameIndex := 1116, descriptorIndex := 1117, attributes := #[] }, { accessFlags := 24, nameIndex := 40, descriptorIndex := 26, attributes := #[] }, { accessFlags := 26, nameIndex := 1101, descriptorIndex := 1102, attributes := #[] }, { accessFlags := 26, nameIndex := 1121, descriptorIndex := 1122, attributes := #[] }, { accessFlags := 25, nameIndex := 599, descriptorIndex := 600, attributes := #[] }, { accessFlags := 24, nameIndex := 1125, descriptorIndex := 18, attributes := #[] }, { accessFlags := 24, nameIndex := 1127, descriptorIndex := 18, attributes := #[] }])
  fields := #[{ name := "value", type := (.array .byte), accessFlags := 18, slot := 0, constantValue := 0 }, { name := "coder", type := .byte, accessFlags := 18, slot := 1, constantValue := 0 }, { name := "hash", type := .int, accessFlags := 2, slot := 2, constantValue := 0 }, { name := "hashIsZero", type := .boolean, accessFlags := 2, slot := 3, constantValue := 0 }, { name := "serialVersionUID", type := .long, accessFlags := 26, slot := 0, constantValue := 0 }, { name := "COMPACT_STRINGS", type := .boolean, accessFlags := 24, slot := 1, constantValue := 0 }, { name := "serialPersistentFields", type := (.array (.object "java/io/ObjectStreamField")), accessFlags := 26, slot := 2, constantValue := 0 }, { name := "REPL", type := .char, accessFlags := 26, slot := 3, constantValue := 0 }, { name := "CASE_INSENSITIVE_ORDER", type := (.object "java/util/Comparator"), accessFlags := 25, slot := 4, constantValue := 0 }, { name := "LATIN1", type := .byte, accessFlags := 24, slot := 5, constantValue := 0 }, { name := "UTF16", type := .byte, accessFlags := 24, slot := 6, constantValue := 0 }]
  methods := #[k9m0]
  instanceTypes := #[(.array .byte), .byte, .int, .boolean]
  staticTypes := #[.long, .boolean, (.array (.object "java/io/ObjectStreamField")), .char, (.object "java/util/Comparator"), .byte, .byte]
  resolved := Array.replicate 1451 none
  statics := none }

def pool10 : Array CpInfo := pool [(1, u "java/lang/Cloneable"), (0, .class_ 1), (0, u "java/lang/Object"), (0, .class_ 3)] 3

/-- java/lang/Cloneable -/
def k10 : Class := { plain "java/lang/Cloneable" (some 0) with
  accessFlags := 1537
  interfaces := #[]
  cf := some (fileOf pool10 2 #[] #[] 1537 4 #[] #[])
  fields := #[]
  methods := #[]
  instanceTypes := #[]
  staticTypes := #[]
  resolved := Array.replicate 8 none
  statics := none }

/-- the primitive byte -/
def k11 : Class := { plain "byte" none with kind := .primitive 'B', accessFlags := 0x411 }
/-- [B -/
def k12 : Class := { plain "[B" (some 0) with kind := .array 11 .byte, interfaces := #[10, 4], accessFlags := 1041 }

/-- the primitive int -/
def k13 : Class := { plain "int" none with kind := .primitive 'I', accessFlags := 0x411 }
/-- [I -/
def k14 : Class := { plain "[I" (some 0) with kind := .array 13 .int, interfaces := #[10, 4], accessFlags := 1041 }

def heap : Heap := #[]
def classes : Array Class := #[k0, k1, k2, k3, k4, k5, k6, k7, k8, k9, k10, k11, k12, k13, k14]
def interned : List (Array UInt16 × Addr) := []
def slotsUsed : Nat := 0
def theMethod : MethodId := ⟨1, 1⟩
def args0 : Array Value := #[.int 5, .int 7, .int 3, .int 7]
def aboutOver (below : List Frame) : State where
  vm := { classes := classes, interned := interned.toArray }
  heap := heap
  slotsUsed := slotsUsed
  threads := #[{ frames := .invoking theMethod args0 :: below }]
def below0 : List Frame := [.native { method := ⟨0, 0⟩, args := #[] }]
def about1 : State := aboutOver below0
def p0 : Program := .bare "" "" ""
def e0 : Env := launch0.env 0 0 0
theorem w_frames : about1.frames = Frame.invoking theMethod args0 :: below0 := rfl
set_option maxRecDepth 65536 in
theorem w_args : argsFit about1.vm theMethod args0 = true := by decide +kernel
set_option maxRecDepth 65536 in
theorem w_heap : heapFits about1 = true := by decide +kernel
set_option maxRecDepth 65536 in
theorem w_runnable : about1.curStatus? = some .runnable := by decide +kernel
set_option maxRecDepth 65536 in
theorem w_alone : about1.alone = true := by decide +kernel
set_option maxRecDepth 65536 in
theorem w_named : about1.methodNamed? x = some theMethod := by decide +kernel
set_option maxRecDepth 65536 in
theorem w_hears : about1.hears theMethod below0 = true := by decide +kernel
set_option maxRecDepth 65536 in
theorem w_ripe : about1.ripe theMethod args0 below0 = true := by decide +kernel
theorem w_running : about1.status = .running := rfl
set_option maxRecDepth 65536 in
theorem w_room : about1.hasRoom e0.platform room_1 = true :=
  launch0.hasRoom_least _ room_1 (by decide +kernel) (by decide +kernel) (by decide +kernel) (by decide +kernel) (by decide +kernel) (by decide +kernel)
theorem allAtoms_all (ts : List Jvm.Cond) (a : Array Jvm.Value) (st : Jvm.State) : (allAtoms ts).before a st = ts.all (fun c => c.before a st) := by
  induction ts with
  | nil => rfl
  | cons c t ih =>
    show (Jvm.Cond.and c (allAtoms t)).before a st = _
    rw [Jvm.Cond.before_and, ih, List.all_cons]
def words1 : List Jvm.Cond := Jvm.Cond.code x code maxLocals ret :: tables_1
/-- a 'code' word, met by the world's own term for the bytes: nothing is compared byte by byte -/
theorem code_word {y : MethodName} {bytes : ByteArray} {mx : Nat} {rt : Option FieldType} {a : Array Value} {s : State} {m : MethodId} {meth : Method} {c : Code} (h1 : s.methodNamed? y = some m) (h2 : s.vm.method? m = some meth) (h3 : meth.code = some c) (h4 : c.code = bytes)
    (h5 : (c.maxLocals == mx && c.exceptionTable.isEmpty && decide (c.maxStack ≤ mostOperands) && decide (meth.sig.returnType = rt) && !meth.locks && decide (parseMethodDescriptor y.desc = some meth.sig)) = true) : (Jvm.Cond.code y bytes mx rt).before a s = true := by
  simp only [Bool.and_eq_true, beq_iff_eq, Bool.not_eq_true', decide_eq_true_eq] at h5
  obtain ⟨⟨⟨⟨⟨g1, g2⟩, g3⟩, g4⟩, g5⟩, g6⟩ := h5
  simp [Cond.before, Cond.holds, Cond.value, h1, h2, h3, h4, g1, g2, g3, g4, g5, g6]
def isCode : Jvm.Cond → Bool
  | .code _ _ _ _ => true
  | _ => false
theorem all_split {L : List Jvm.Cond} {P : Jvm.Cond → Bool} (h1 : L.all (fun c => isCode c || P c) = true) (h2 : ∀ c ∈ L.filter isCode, P c = true) : L.all P = true := by
  refine List.all_eq_true.mpr fun c hc => ?_
  have h := List.all_eq_true.mp h1 c hc
  rcases Bool.eq_false_or_eq_true (isCode c) with hi | hi
  · exact h2 c (List.mem_filter.mpr ⟨hc, hi⟩)
  · simpa [hi] using h
set_option maxRecDepth 65536 in
theorem w_c0 : (Jvm.Cond.code x code maxLocals ret).before args0 about1 = true := code_word (m := ⟨1, 1⟩) (meth := k1m1) (c := k1c1) (by decide +kernel) rfl rfl rfl (by decide +kernel)
set_option maxRecDepth 65536 in
theorem w_c1 : (Jvm.Cond.code ({ cls := "com/example/due_weight/dueweight/core/QualityFactors", name := "<init>", desc := "(DDDD)V" } : Jvm.MethodName) prog_26_method_1_code (9 : Nat) (Option.none : Option Jvm.ClassFile.FieldType)).before args0 about1 = true := code_word (m := ⟨3, 0⟩) (meth := k3m0) (c := k3c0) (by decide +kernel) rfl rfl rfl (by decide +kernel)
set_option maxRecDepth 65536 in
theorem w_c2 : (Jvm.Cond.code ({ cls := "java/lang/Record", name := "<init>", desc := "()V" } : Jvm.MethodName) jdk_30_method_1_code (1 : Nat) (Option.none : Option Jvm.ClassFile.FieldType)).before args0 about1 = true := code_word (m := ⟨2, 0⟩) (meth := k2m0) (c := k2c0) (by decide +kernel) rfl rfl rfl (by decide +kernel)
set_option maxRecDepth 65536 in
theorem w_c3 : (Jvm.Cond.code ({ cls := "java/lang/Object", name := "<init>", desc := "()V" } : Jvm.MethodName) object_method_1_code (1 : Nat) (Option.none : Option Jvm.ClassFile.FieldType)).before args0 about1 = true := code_word (m := ⟨0, 0⟩) (meth := k0m0) (c := k0c0) (by decide +kernel) rfl rfl rfl (by decide +kernel)
set_option maxRecDepth 65536 in
theorem w_c4 : (Jvm.Cond.code ({ cls := "com/example/due_weight/dueweight/core/QualityFactors", name := "requireFactor", desc := "(Ljava/lang/String;D)V" } : Jvm.MethodName) prog_26_method_3_code (3 : Nat) (Option.none : Option Jvm.ClassFile.FieldType)).before args0 about1 = true := code_word (m := ⟨3, 2⟩) (meth := k3m2) (c := k3c2) (by decide +kernel) rfl rfl rfl (by decide +kernel)
set_option maxRecDepth 65536 in
theorem w_c5 : (Jvm.Cond.code ({ cls := "com/example/due_weight/dueweight/core/QualityFactors", name := "quality", desc := "()D" } : Jvm.MethodName) prog_26_method_2_code (1 : Nat) (Option.some Jvm.ClassFile.FieldType.double)).before args0 about1 = true := code_word (m := ⟨3, 1⟩) (meth := k3m1) (c := k3c1) (by decide +kernel) rfl rfl rfl (by decide +kernel)
def codes1 : List Jvm.Cond := [Jvm.Cond.code x code maxLocals ret, Jvm.Cond.code ({ cls := "com/example/due_weight/dueweight/core/QualityFactors", name := "<init>", desc := "(DDDD)V" } : Jvm.MethodName) prog_26_method_1_code (9 : Nat) (Option.none : Option Jvm.ClassFile.FieldType), Jvm.Cond.code ({ cls := "java/lang/Record", name := "<init>", desc := "()V" } : Jvm.MethodName) jdk_30_method_1_code (1 : Nat) (Option.none : Option Jvm.ClassFile.FieldType), Jvm.Cond.code ({ cls := "java/lang/Object", name := "<init>", desc := "()V" } : Jvm.MethodName) object_method_1_code (1 : Nat) (Option.none : Option Jvm.ClassFile.FieldType), Jvm.Cond.code ({ cls := "com/example/due_weight/dueweight/core/QualityFactors", name := "requireFactor", desc := "(Ljava/lang/String;D)V" } : Jvm.MethodName) prog_26_method_3_code (3 : Nat) (Option.none : Option Jvm.ClassFile.FieldType), Jvm.Cond.code ({ cls := "com/example/due_weight/dueweight/core/QualityFactors", name := "quality", desc := "()D" } : Jvm.MethodName) prog_26_method_2_code (1 : Nat) (Option.some Jvm.ClassFile.FieldType.double)]
set_option maxRecDepth 65536 in
theorem codes_eq : words1.filter isCode = codes1 := rfl
theorem w_codes : ∀ c ∈ words1.filter isCode, c.before args0 about1 = true := by
  rw [codes_eq]
  intro c hc
  simp only [codes1, List.mem_cons, List.not_mem_nil, or_false] at hc
  rcases hc with rfl | rfl | rfl | rfl | rfl | rfl
  · exact w_c0
  · exact w_c1
  · exact w_c2
  · exact w_c3
  · exact w_c4
  · exact w_c5
set_option maxRecDepth 65536 in
theorem w_t1 : (words1.take 24).all (fun c => isCode c || c.before args0 about1) = true := by decide +kernel
set_option maxRecDepth 65536 in
theorem w_t2 : (words1.drop 24).all (fun c => isCode c || c.before args0 about1) = true := by decide +kernel
theorem w_tables : (allAtoms (Jvm.Cond.code x code maxLocals ret :: tables_1)).before args0 about1 = true := by
  rw [allAtoms_all]
  show words1.all (fun c => c.before args0 about1) = true
  refine all_split ?_ w_codes
  rw [← List.take_append_drop 24 words1, List.all_append, w_t1, w_t2]
  rfl
set_option maxRecDepth 65536 in
theorem w_case : (Jvm.Cond.and given_1 narrow_1).before args0 about1 = true := by decide +kernel
theorem w_applies : (headSpec (Jvm.Cond.code x code maxLocals ret :: tables_1) room_1).applies x e0.platform about1 = true :=
  (Spec.applies_iff w_frames).mpr ⟨w_running, w_runnable, w_alone, w_named, w_hears, w_ripe, w_room, w_tables⟩
theorem atStart : AtStart classFile x code maxLocals ret World_1 tables_1 room_1 Calls_1 rest_1 Pre_1 launch0 p0 e0 about1 theMethod args0 below0 :=
  ⟨lists_1, trivial, launch0.admits_env _ _ _, launch0.least_env, fairChoices_fair.cas, fairChoices_fair.clock, w_frames, w_args, w_heap, w_applies, trivial, trivial, w_case⟩
end start1
theorem witness_1 : WitnessClaimed_1 := ⟨start1.p0, start1.e0, start1.about1, start1.theMethod, start1.args0, start1.below0, start1.atStart⟩
end Jvm.Pilot.@@N@@
