import JvmDerived
import JvmDerived.Pilot.@@N@@Statement
import JvmDerived.Pilot.@@N@@Code
set_option linter.unusedVariables false
set_option linter.unusedSimpArgs false
@@BLOCK:NumsL.lean.txt@@
namespace Jvm.Pilot.@@N@@
open Jvm Jvm.ClassFile Sem Op Lib Jvm.Free Jvm.Stand Jvm.LawKit Jvm.RoadKit Bundle Jvm.Pilot.@@N@@.Jvm.D
section OwnGo
variable {p : Program} {l : Launch} {e : Env} {R : Room} {s : State} {m : MethodId} {args : Array Value} {below : List Frame} {meth : Method} {c : Code} {T T' : State} {locs : List Loc} {cells slots K1 K2 : Nat} {Q : Option Value → Heap → List Loc → Prop}
/-- from T at the frame f the run comes to an end that meets Q -/
def Go (p : Program) (e : Env) (below : List Frame) (s : State) (K1 K2 : Nat) (Q : Option Value → Heap → List Loc → Prop) (T : State) (f : JFrame) : Prop :=
  ∃ s₂ o, Steps p.tables e below (T.setTop f) s₂ ∧ s₂.status = .running ∧ Ended s₂ below o ∧ ∃ v L, o = .returned v ∧ Q v s₂.heap L ∧ FrameEnd s o s₂ L K1 K2
theorem Go.on {f f' : JFrame} (h : ∀ t, Steps p.tables e below (T'.setTop f') t → Steps p.tables e below (T.setTop f) t) (g : Go p e below s K1 K2 Q T' f') : Go p e below s K1 K2 Q T f := by
  obtain ⟨s₂, o, h1, r⟩ := g
  exact ⟨s₂, o, h _ h1, r⟩
theorem Go.cast {f f' : JFrame} (h : f = f') (g : Go p e below s K1 K2 Q T f') : Go p e below s K1 K2 Q T f := h ▸ g
theorem Go.gen {f : JFrame} (h : ∀ k1 k2 q, k1 = K1 → k2 = K2 → Q = q → Go p e below s k1 k2 q T f) : Go p e below s K1 K2 Q T f := h _ _ _ rfl rfl rfl
theorem Go.retV (X : Stand p l e R s m args below meth c T locs cells slots) (hx : p.tables.exec = Jvm.exec) {pc : Nat} {Ls : Array Slot} {w : Value} {t : FieldType} {i : Instr} {rest : List Value} (hret : meth.sig.returnType = some t) (hn : narrow t w = w)
    (hi : (i = .ireturn ∧ (t = .int ∨ t = .boolean ∨ t = .byte ∨ t = .char ∨ t = .short) ∧ ∃ z, w = .int z) ∨ (i = .lreturn ∧ t = .long ∧ ∃ z, w = .long z) ∨ (i = .dreturn ∧ t = .double ∧ ∃ z, w = .double z) ∨ (i = .freturn ∧ t = .float ∧ ∃ z, w = .float z) ∨ (i = .areturn ∧ t.isReference = true ∧ w.isRef = true))
    (hd : decode c.code pc = .ok (i, 1)) (hq : Q (some w) T.heap locs) (hc : cells ≤ K1) (hs : slots ≤ K2) (hlk : meth.locks = false := by assumption) : Go p e below s K1 K2 Q T (mkF m pc Ls (w :: rest)) := by
  obtain ⟨fs, hr, hrun, hended, hW, hsame⟩ := X.leave (v := some w) (fun h => by rw [hret] at h; cases h) hlk
  exact ⟨_, _, retOut X hx hret hn hi hd hr, hrun, hended, _, _, rfl, hq, ⟨_, rfl⟩, hW, hsame.mono hc hs⟩
theorem Go.retN (X : Stand p l e R s m args below meth c T locs cells slots) (hx : p.tables.exec = Jvm.exec) {pc : Nat} {Ls : Array Slot} {z : Int32} {t : FieldType} {rest : List Value} (hret : meth.sig.returnType = some t) (ht : t = .boolean ∨ t = .byte ∨ t = .char ∨ t = .short)
    (hd : decode c.code pc = .ok (.ireturn, 1)) (hq : Q (some (.int (nar t z))) T.heap locs) (hc : cells ≤ K1) (hs : slots ≤ K2) (hlk : meth.locks = false := by assumption) : Go p e below s K1 K2 Q T (mkF m pc Ls (.int z :: rest)) := by
  obtain ⟨fs, hr, hrun, hended, hW, hsame⟩ := X.leave (v := some (.int (nar t z))) (fun h => by rw [hret] at h; cases h) hlk
  exact ⟨_, _, Jvm.RoadKit.retN X hx hret ht hd hr, hrun, hended, _, _, rfl, hq, ⟨_, rfl⟩, hW, hsame.mono hc hs⟩
theorem Go.ret0 (X : Stand p l e R s m args below meth c T locs cells slots) (hx : p.tables.exec = Jvm.exec) {pc : Nat} {Ls : Array Slot} (hret : meth.sig.returnType = none)
    (hd : decode c.code pc = .ok (.return_, 1)) (hq : Q none T.heap locs) (hc : cells ≤ K1) (hs : slots ≤ K2) (hlk : meth.locks = false := by assumption) : Go p e below s K1 K2 Q T (mkF m pc Ls []) := by
  obtain ⟨fs, hr, hrun, hended, hW, hsame⟩ := X.leave (v := none) (fun _ => rfl) hlk
  exact ⟨_, _, X.returnOut hx hret hd hr, hrun, hended, _, _, rfl, hq, ⟨_, rfl⟩, hW, hsame.mono hc hs⟩
theorem own_lc_lt {a b : Int64} : lcmpW a b < 0 ↔ a < b := by rw [lcW]; exact lc_lt a b
theorem own_lc_gt {a b : Int64} : 0 < lcmpW a b ↔ b < a := by rw [lcW]; exact lc_gt a b
theorem own_lc_eq {a b : Int64} : lcmpW a b = 0 ↔ a = b := by rw [lcW]; exact lc_eq a b
theorem own_lremM {g : JFrame} {target : State} (X : Stand p l e R s m args below meth c T locs cells slots) (hx : p.tables.exec = Jvm.exec) (hg : g.method = m) {x y : Int64} {rest : List Value} (hd : decode c.code g.pc = .ok (.lrem, 1)) (hs : g.stack = .long y :: .long x :: rest) (hy : y ≠ 0)
    (hr : Steps p.tables e below (T.setTop { g with pc := g.pc + 1, stack := .long (x % y) :: rest }) target) : Steps p.tables e below (T.setTop g) target := by
  have q : x - x / y * y = x % y := by
    apply Int64.toInt_inj.mp
    have h1 := Int64.le_toInt (x % y)
    have h2 := Int64.toInt_lt (x % y)
    rw [Int64.toInt_sub, Int64.toInt_mul, Int64.toInt_div, Int.bmod_mul_bmod, Int.sub_bmod_bmod, Int.mul_comm (x.toInt.tdiv y.toInt), ← Int.tmod_def, ← Int64.toInt_mod]
    exact Int.bmod_eq_of_le_mul_two (by omega) (by omega)
  exact XS.lrem X.here hx hg hd hs hy (by rw [q]; exact hr)
theorem own_cl_gt {o : Option Ordering} : 0 < cmpValue o .l ↔ o = some .gt := by rcases o with _ | (_ | _ | _) <;> decide
theorem own_cl_lt {o : Option Ordering} : cmpValue o .l < 0 ↔ ¬ (o = some .gt ∨ o = some .eq) := by rcases o with _ | (_ | _ | _) <;> decide
theorem own_cg_lt {o : Option Ordering} : cmpValue o .g < 0 ↔ o = some .lt := by rcases o with _ | (_ | _ | _) <;> decide
theorem own_cg_gt {o : Option Ordering} : 0 < cmpValue o .g ↔ ¬ (o = some .lt ∨ o = some .eq) := by rcases o with _ | (_ | _ | _) <;> decide
theorem own_c_eq {o : Option Ordering} {k : CmpOp} : cmpValue o k = 0 ↔ o = some .eq := by cases k <;> rcases o with _ | (_ | _ | _) <;> decide
end OwnGo
section OwnFp
open Jvm.FP.Core
variable {a b V : UInt64} {x y z v : Int}
/-- the double a is finite and worth x units of 2^-1074 -/
def ZV (a : UInt64) (x : Int) : Prop := DFin a ∧ zval b64 (val64 a) = x
theorem ZV.ne (h : ZV a x) : val64 a ≠ .nan := h.1.ne_nan
theorem ZV.nn (h : ZV a x) : Jvm.Free.Fl.NoNaN64 a := Jvm.Free.Fl.noNaN64_no.mpr h.1.notNaN
theorem ZV.cmp (ha : ZV a x) (hb : ZV b y) : FP.dcmp a b = some (compare x y) := by
  show FP.Core.dcmp a b = _
  rw [dcmp_zval ha.ne hb.ne, ha.2, hb.2]
theorem ZV.uniq (ha : ZV a x) (hb : ZV a y) : x = y := ha.2.symm.trans hb.2
theorem own_fin_of {W : UInt64} (hn : val64 a ≠ .nan) (hW : DFin W) (h : zmag b64 (val64 a) ≤ zmag b64 (val64 W)) : DFin a := by
  cases h2 : val64 a with
  | nan => exact absurd h2 hn
  | inf s =>
    rw [h2] at h
    have := hW.zval_lt
    have e : zmag b64 (.inf s) = b64.tails * 2 ^ (b64.exps - 2) := rfl
    rw [e] at h
    omega
  | fin s c q => exact ⟨s, c, q, h2⟩
theorem own_natAbs (d : Datum) : (zval b64 d).natAbs = zmag b64 d := natAbs_signed _ _
theorem own_fin_of_z {W : UInt64} (hn : val64 a ≠ .nan) (hW : DFin W) (h : (zval b64 (val64 a)).natAbs ≤ (zval b64 (val64 W)).natAbs) : DFin a := by
  rw [own_natAbs, own_natAbs] at h; exact own_fin_of hn hW h
theorem ZV.add (ha : ZV a x) (hb : ZV b y) (hv : ZV V (x + y)) : ZV (FP.dadd a b) (x + y) := by
  have hn : val64 (FP.Core.dadd a b) ≠ .nan := (notNaN_iff _).mp (FP.Core.dadd_out ha.1.notNaN hb.1)
  have e : zval b64 (val64 (FP.Core.dadd a b)) = x + y := by
    have h1 := sum_le good_b64 ha.1 hb.1 (val64_fits a) (val64_fits b) (val64_fits V) hv.ne (by rw [ha.2, hb.2, hv.2]; exact Int.le_refl _)
    have h2 := sum_ge good_b64 ha.1 hb.1 (val64_fits a) (val64_fits b) (val64_fits V) hv.ne (by rw [ha.2, hb.2, hv.2]; exact Int.le_refl _)
    rw [← val64_dadd, hv.2] at h1 h2
    exact Int.le_antisymm h1 h2
  exact ⟨own_fin_of_z hn hv.1 (by rw [e, hv.2]; exact Nat.le_refl _), e⟩
theorem own_neg_fin {d : Datum} (h : ∃ s c q, d = .fin s c q) : ∃ s c q, negate d = .fin s c q := by
  obtain ⟨s, c, q, rfl⟩ := h; exact ⟨_, _, _, rfl⟩
theorem ZV.sub (ha : ZV a x) (hb : ZV b y) (hv : ZV V (x - y)) : ZV (FP.dsub a b) (x - y) := by
  have hn : val64 (FP.Core.dsub a b) ≠ .nan := (notNaN_iff _).mp (FP.Core.dsub_out ha.1.notNaN hb.1)
  have e : zval b64 (val64 (FP.Core.dsub a b)) = x - y := by
    have h1 := sum_le good_b64 ha.1 (own_neg_fin hb.1) (val64_fits a) (negate_fits (val64_fits b)) (val64_fits V) hv.ne (by rw [ha.2, zval_negate, hb.2, hv.2]; omega)
    have h2 := sum_ge good_b64 ha.1 (own_neg_fin hb.1) (val64_fits a) (negate_fits (val64_fits b)) (val64_fits V) hv.ne (by rw [ha.2, zval_negate, hb.2, hv.2]; omega)
    rw [← val64_dsub, hv.2] at h1 h2
    exact Int.le_antisymm h1 h2
  exact ⟨own_fin_of_z hn hv.1 (by rw [e, hv.2]; exact Nat.le_refl _), e⟩
/-- a sum or a difference lies between what bounds it -/
theorem ZV.add_le (ha : ZV a x) (hb : ZV b y) (hv : ZV V v) (h : x + y ≤ v) : zval b64 (val64 (FP.dadd a b)) ≤ v := by
  have h1 := sum_le good_b64 ha.1 hb.1 (val64_fits a) (val64_fits b) (val64_fits V) hv.ne (by rw [ha.2, hb.2, hv.2]; exact h)
  rw [← val64_dadd, hv.2] at h1; exact h1
theorem ZV.add_ge (ha : ZV a x) (hb : ZV b y) (hv : ZV V v) (h : v ≤ x + y) : v ≤ zval b64 (val64 (FP.dadd a b)) := by
  have h1 := sum_ge good_b64 ha.1 hb.1 (val64_fits a) (val64_fits b) (val64_fits V) hv.ne (by rw [ha.2, hb.2, hv.2]; exact h)
  rw [← val64_dadd, hv.2] at h1; exact h1
theorem ZV.sub_le (ha : ZV a x) (hb : ZV b y) (hv : ZV V v) (h : x - y ≤ v) : zval b64 (val64 (FP.dsub a b)) ≤ v := by
  have h1 := sum_le good_b64 ha.1 (own_neg_fin hb.1) (val64_fits a) (negate_fits (val64_fits b)) (val64_fits V) hv.ne (by rw [ha.2, zval_negate, hb.2, hv.2]; omega)
  rw [← val64_dsub, hv.2] at h1; exact h1
theorem ZV.sub_ge (ha : ZV a x) (hb : ZV b y) (hv : ZV V v) (h : v ≤ x - y) : v ≤ zval b64 (val64 (FP.dsub a b)) := by
  have h1 := sum_ge good_b64 ha.1 (own_neg_fin hb.1) (val64_fits a) (negate_fits (val64_fits b)) (val64_fits V) hv.ne (by rw [ha.2, zval_negate, hb.2, hv.2]; omega)
  rw [← val64_dsub, hv.2] at h1; exact h1
/-- the product's bounds -/
theorem own_mul_le (ha : ZV a x) (hb : ZV b y) (hv : ZV V v) (h : x * y ≤ v * (one64 : Int)) : zval b64 (val64 (FP.dmul a b)) ≤ v := by
  obtain ⟨⟨s, c, q, h1⟩, ex⟩ := ha
  obtain ⟨⟨t, d, r, h2⟩, ey⟩ := hb
  have f1 := val64_fits a; have f2 := val64_fits b
  rw [h1] at f1 ex; rw [h2] at f2 ey
  obtain ⟨p1, p2, p3⟩ := product_units f1 f2
  show zval b64 (val64 (FP.Core.dmul a b)) ≤ v
  rw [val64_dmul, h1, h2, p1, ← hv.2]
  refine zval_round_le good_b64 (val64_fits V) hv.ne (e0 := 2 * b64.qmin) (by decide) p2 ?_
  rw [p3, show (b64.qmin - 2 * b64.qmin).toNat = (-b64.qmin).toNat from by decide, pow_qmin64, hv.2, signed_xor]
  have : zval b64 (.fin s c q) * zval b64 (.fin t d r) ≤ v * (one64 : Int) := by rw [ex, ey]; exact h
  exact this
theorem own_mul_ge (ha : ZV a x) (hb : ZV b y) (hv : ZV V v) (h : v * (one64 : Int) ≤ x * y) : v ≤ zval b64 (val64 (FP.dmul a b)) := by
  obtain ⟨⟨s, c, q, h1⟩, ex⟩ := ha
  obtain ⟨⟨t, d, r, h2⟩, ey⟩ := hb
  have f1 := val64_fits a; have f2 := val64_fits b
  rw [h1] at f1 ex; rw [h2] at f2 ey
  obtain ⟨p1, p2, p3⟩ := product_units f1 f2
  show v ≤ zval b64 (val64 (FP.Core.dmul a b))
  rw [val64_dmul, h1, h2, p1, ← hv.2]
  refine zval_round_ge good_b64 (val64_fits V) hv.ne (e0 := 2 * b64.qmin) (by decide) p2 ?_
  rw [p3, show (b64.qmin - 2 * b64.qmin).toNat = (-b64.qmin).toNat from by decide, pow_qmin64, hv.2, signed_xor]
  have : v * (one64 : Int) ≤ zval b64 (.fin s c q) * zval b64 (.fin t d r) := by rw [ex, ey]; exact h
  exact this
theorem ZV.mul (ha : ZV a x) (hb : ZV b y) (hv : ZV V z) (h : x * y = z * (one64 : Int)) : ZV (FP.dmul a b) z := by
  have hn : val64 (FP.Core.dmul a b) ≠ .nan := (notNaN_iff _).mp (FP.Core.dmul_out ha.1 hb.1)
  have e : zval b64 (val64 (FP.Core.dmul a b)) = z := Int.le_antisymm (own_mul_le ha hb hv (Int.le_of_eq h)) (own_mul_ge ha hb hv (Int.le_of_eq h.symm))
  exact ⟨own_fin_of_z hn hv.1 (by rw [e, hv.2]; exact Nat.le_refl _), e⟩
/-- the quotient of finite doubles, the divisor not nought: its datum -/
theorem own_quot (ha : ZV a x) (hb : ZV b y) (hy : y ≠ 0) : ∃ s c q t d r, val64 a = .fin s c q ∧ val64 b = .fin t d r ∧ 0 < d ∧ val64 (FP.ddiv a b) = roundRatio b64 (s != t) c d (q - r) ∧ FP.Core.fits b64 (.fin s c q) ∧ FP.Core.fits b64 (.fin t d r) := by
  obtain ⟨⟨s, c, q, h1⟩, ex⟩ := ha
  obtain ⟨⟨t, d, r, h2⟩, ey⟩ := hb
  have f1 := val64_fits a; have f2 := val64_fits b
  rw [h1] at f1; rw [h2] at f2
  have hd : d ≠ 0 := fun q => by
    subst q
    rw [h2] at ey
    apply hy; rw [← ey]; show signed t (inUnits 0 r _) = 0
    unfold inUnits; rw [Nat.zero_mul, signed_zero]
  refine ⟨s, c, q, t, d, r, h1, h2, Nat.pos_of_ne_zero hd, ?_, f1, f2⟩
  show val64 (FP.Core.ddiv a b) = _
  rw [val64_ddiv, h1, h2]
  show (if d = 0 then _ else _) = _
  rw [if_neg hd]
theorem own_div_mag_le {c d : Nat} {q r : Int} {s t sg : Bool} (f1 : FP.Core.fits b64 (.fin s c q)) (f2 : FP.Core.fits b64 (.fin t d r)) (hd : 0 < d) {W : Datum} (fW : FP.Core.fits b64 W) (hW : W ≠ .nan)
    (h : inUnits c q b64.qmin * one64 ≤ zmag b64 W * inUnits d r b64.qmin) : zmag b64 (roundRatio b64 sg c d (q - r)) ≤ zmag b64 W := by
  have h1 := f1.2.1
  have h2 := f2.2.1
  have hq : b64.qmin < 0 := by decide
  refine zmag_roundRatio_le good_b64 hd fW hW (e0 := 2 * b64.qmin - r) (by omega) (by omega) ?_
  have e1 : (b64.qmin - (2 * b64.qmin - r)).toNat = (r - b64.qmin).toNat := by congr 1; omega
  rw [e1]
  have e2 : inUnits c (q - r) (2 * b64.qmin - r) = inUnits c q b64.qmin * one64 := by
    unfold inUnits
    rw [← pow_qmin64, Nat.mul_assoc, ← Nat.pow_add]
    congr 2; omega
  rw [e2]
  refine Nat.le_trans h (Nat.le_of_eq ?_)
  unfold inUnits
  rw [Nat.mul_comm d, Nat.mul_assoc]
theorem own_div_mag_ge {c d : Nat} {q r : Int} {s t sg : Bool} (f1 : FP.Core.fits b64 (.fin s c q)) (f2 : FP.Core.fits b64 (.fin t d r)) (hd : 0 < d) {W : Datum} (fW : FP.Core.fits b64 W)
    (h : zmag b64 W * inUnits d r b64.qmin ≤ inUnits c q b64.qmin * one64) : zmag b64 W ≤ zmag b64 (roundRatio b64 sg c d (q - r)) := by
  have h1 := f1.2.1
  have h2 := f2.2.1
  have hq : b64.qmin < 0 := by decide
  refine zmag_roundRatio_ge good_b64 hd fW (e0 := 2 * b64.qmin - r) (by omega) (by omega) ?_
  have e1 : (b64.qmin - (2 * b64.qmin - r)).toNat = (r - b64.qmin).toNat := by congr 1; omega
  rw [e1]
  have e2 : inUnits c (q - r) (2 * b64.qmin - r) = inUnits c q b64.qmin * one64 := by
    unfold inUnits
    rw [← pow_qmin64, Nat.mul_assoc, ← Nat.pow_add]
    congr 2; omega
  rw [e2]
  refine Nat.le_trans (Nat.le_of_eq ?_) h
  unfold inUnits
  rw [Nat.mul_comm d, Nat.mul_assoc]
/-- what is said of a quotient: r its units -/
def Quo (x y r : Int) : Prop := ∀ (V : UInt64) (v : Int), ZV V v → (x * (one64 : Int) ≤ v * y → r ≤ v) ∧ (v * y ≤ x * (one64 : Int) → v ≤ r)
theorem own_sgn_z (s : Bool) (m : Nat) : signed s m = if s then -(m : Int) else m := rfl
theorem ZV.neg_ex (h : ZV a x) : ∃ V, ZV V (-x) := by
  refine ⟨FP.Core.dneg a, ?_, ?_⟩
  · obtain ⟨⟨s, c, q, h1⟩, -⟩ := h; exact ⟨!s, c, q, by rw [val64_dneg, h1]; rfl⟩
  · rw [val64_dneg, zval_negate, h.2]
theorem own_mag {s : Bool} {c : Nat} {q : Int} : zval b64 (.fin s c q) = signed s (inUnits c q b64.qmin) := rfl
/-- the quotient by a positive double of at least one -/
theorem ZV.div (ha : ZV a x) (hb : ZV b y) (hy : (one64 : Int) ≤ y) : ∃ r, ZV (FP.ddiv a b) r ∧ Quo x y r := by
  have o1 := one64_pos
  obtain ⟨s, c, q, t, d, r, h1, h2, hd, h3, f1, f2⟩ := own_quot ha hb (by omega)
  have ey := hb.2; rw [h2, own_mag] at ey
  have ex := ha.2; rw [h1, own_mag] at ex
  have t0 : t = false := by
    cases t
    · rfl
    · simp only [own_sgn_z, if_true] at ey; omega
  subst t0
  have hy0 : (0 : Int) < y := by omega
  have ey' : ((inUnits d r b64.qmin : Nat) : Int) = y := ey
  generalize hu : inUnits d r b64.qmin = u at *
  generalize hc : inUnits c q b64.qmin = k at *
  have hsg : sgn (val64 (FP.ddiv a b)) = s := by rw [h3, sgn_roundRatio]; cases s <;> rfl
  have hne : val64 (FP.ddiv a b) ≠ .nan := by rw [h3]; exact roundRatio_ne_nan _ _ _ _ _
  have hz : zval b64 (val64 (FP.ddiv a b)) = signed s (zmag b64 (val64 (FP.ddiv a b))) := by rw [zval, hsg]
  have up : ∀ W : UInt64, val64 W ≠ .nan → k * one64 ≤ zmag b64 (val64 W) * u → zmag b64 (val64 (FP.ddiv a b)) ≤ zmag b64 (val64 W) := fun W hW h => by
    rw [h3]; exact own_div_mag_le f1 f2 hd (val64_fits W) hW (by rw [hu, hc]; exact h)
  have dn : ∀ W : UInt64, zmag b64 (val64 W) * u ≤ k * one64 → zmag b64 (val64 W) ≤ zmag b64 (val64 (FP.ddiv a b)) := fun W h => by
    rw [h3]; exact own_div_mag_ge f1 f2 hd (val64_fits W) (by rw [hu, hc]; exact h)
  have hk : k = zmag b64 (val64 a) := by rw [h1]; exact hc.symm
  have hfin : DFin (FP.ddiv a b) := own_fin_of hne ha.1 (up a ha.ne (by rw [← hk]; exact Nat.mul_le_mul_left _ (by omega)))
  refine ⟨_, ⟨hfin, rfl⟩, fun V v hv => ?_⟩
  rw [hz]
  generalize hm : zmag b64 (val64 (FP.ddiv a b)) = m at *
  have hV := own_natAbs (val64 V)
  rw [hv.2] at hV
  have upV := up V hv.ne
  have dnV := dn V
  rw [← hV] at upV dnV
  clear up dn
  have cast : ∀ p q : Nat, ((p * q : Nat) : Int) = (p : Int) * q := fun p q => by simp
  cases s
  · have ex' : (k : Int) = x := ex
    have em : signed false m = (m : Int) := rfl
    rw [em]
    constructor
    · intro h
      by_cases hv0 : 0 ≤ v
      · have e1 : (v.natAbs : Int) = v := Int.natAbs_of_nonneg hv0
        have : k * one64 ≤ v.natAbs * u := by apply Int.ofNat_le.mp; rw [cast, cast, ex', e1, ey']; exact h
        have := upV this; omega
      · exfalso
        have h5 : v * y < 0 := Int.mul_neg_of_neg_of_pos (by omega) hy0
        have h6 : 0 ≤ x * (one64 : Int) := Int.mul_nonneg (by omega) (by omega)
        omega
    · intro h
      by_cases hv0 : 0 ≤ v
      · have e1 : (v.natAbs : Int) = v := Int.natAbs_of_nonneg hv0
        have : v.natAbs * u ≤ k * one64 := by apply Int.ofNat_le.mp; rw [cast, cast, ex', e1, ey']; exact h
        have := dnV this; omega
      · omega
  · have ex' : -(k : Int) = x := ex
    have em : signed true m = -(m : Int) := rfl
    rw [em]
    have ek : (k : Int) = -x := by omega
    constructor
    · intro h
      by_cases hv0 : 0 ≤ v
      · omega
      · have e1 : (v.natAbs : Int) = -v := by omega
        have : v.natAbs * u ≤ k * one64 := by
          apply Int.ofNat_le.mp; rw [cast, cast, ek, e1, ey', Int.neg_mul, Int.neg_mul]; omega
        have := dnV this; omega
    · intro h
      by_cases hv0 : v ≤ 0
      · have e1 : (v.natAbs : Int) = -v := by omega
        have : k * one64 ≤ v.natAbs * u := by
          apply Int.ofNat_le.mp; rw [cast, cast, ek, e1, ey', Int.neg_mul, Int.neg_mul]; omega
        have := upV this; omega
      · exfalso
        have h5 : 0 < v * y := Int.mul_pos (by omega) hy0
        have h6 : x * (one64 : Int) ≤ 0 := by
          have : 0 ≤ (k : Int) * (one64 : Int) := Int.mul_nonneg (by omega) (by omega)
          rw [ek, Int.neg_mul] at this; omega
        omega
theorem ZV.div_exact (ha : ZV a x) (hb : ZV b y) (hy : (one64 : Int) ≤ y) (hv : ZV V z) (h : x * (one64 : Int) = z * y) : ZV (FP.ddiv a b) z := by
  obtain ⟨r, h1, h2⟩ := ha.div hb hy
  have h3 := h2 V z hv
  have : r = z := Int.le_antisymm (h3.1 (Int.le_of_eq h)) (h3.2 (Int.le_of_eq h.symm))
  exact this ▸ h1
/-- i * 2^k units are a double -/
theorem own_rep (i : Int) (k : Nat) (hi : i.natAbs < 2 ^ 53) (hk : k ≤ 2045) : ∃ V, ZV V (i * ((2 ^ k : Nat) : Int)) := by
  obtain ⟨c', q', h1, h2⟩ := round_exact good_b64 (decide (i < 0)) (c := i.natAbs) (q := (k : Int) + b64.qmin) hi (by omega) (by rw [show b64.qmax = 971 from by decide, qmin_b64]; omega)
  have hf : FP.Core.fits b64 (.fin (decide (i < 0)) c' q') := by rw [← h1]; exact round_fits good_b64 _
  refine ⟨of64 (.fin (decide (i < 0)) c' q'), ⟨_, _, _, val64_of64 hf⟩, ?_⟩
  rw [val64_of64 hf, own_mag, h2]
  unfold inUnits
  rw [show ((k : Int) + b64.qmin - b64.qmin).toNat = k from by omega, signed_mul, own_sgn_z]
  congr 1
  by_cases h : i < 0
  · simp only [h, decide_true, if_true]; omega
  · simp only [h, decide_false]; simp only [Bool.false_eq_true, if_false]; omega
theorem own_one64 : (one64 : Int) = ((2 ^ 1074 : Nat) : Int) := rfl
theorem ZV.of_int {i : Int} (h : DInt i a) : ZV a (i * (one64 : Int)) := by
  refine ⟨?_, DInt_zval h⟩
  unfold DInt at h
  cases h2 : val64 a with
  | nan => rw [h2] at h; exact h.elim
  | inf s => rw [h2] at h; exact h.elim
  | fin s c q => exact ⟨s, c, q, h2⟩
theorem own_i2d (n : Int32) : ZV (FP.i2d n) (n.toInt * (one64 : Int)) := ZV.of_int (i2d_int n)
theorem own_l2d {n : Int64} (h : n.toInt.natAbs ≤ 2 ^ 53) : ZV (FP.l2d n) (n.toInt * (one64 : Int)) := ZV.of_int (l2d_int h)
theorem own_ddiv_nn (ha : DFin a) (hb : DFin b) : FP.ddiv (FP.Core.dneg a) (FP.Core.dneg b) = FP.ddiv a b ∨ val64 (FP.ddiv a b) = .nan := by
  by_cases hn : val64 (FP.ddiv a b) = .nan
  · exact Or.inr hn
  · refine Or.inl (val64_inj hn ?_).symm
    obtain ⟨s, c, q, h1⟩ := ha
    obtain ⟨t, d, r, h2⟩ := hb
    show val64 (FP.Core.ddiv a b) = val64 (FP.Core.ddiv _ _)
    rw [val64_ddiv, val64_ddiv, val64_dneg, val64_dneg, h1, h2]
    show quotient b64 (.fin s c q) (.fin t d r) = quotient b64 (.fin (!s) c q) (.fin (!t) d r)
    simp only [quotient]
    have : ((!s) != (!t)) = (s != t) := by cases s <;> cases t <;> rfl
    rw [this]
theorem ZV.dneg (h : ZV a x) : ZV (FP.Core.dneg a) (-x) := by
  refine ⟨?_, by rw [val64_dneg, zval_negate, h.2]⟩
  obtain ⟨⟨s, c, q, h1⟩, -⟩ := h; exact ⟨!s, c, q, by rw [val64_dneg, h1]; rfl⟩
/-- the quotient by a negative double of at most minus one -/
theorem ZV.div_neg (ha : ZV a x) (hb : ZV b y) (hy : y ≤ -(one64 : Int)) : ∃ r, ZV (FP.ddiv a b) r ∧ Quo (-x) (-y) r := by
  obtain ⟨r, h1, h2⟩ := ha.dneg.div hb.dneg (by omega)
  have o1 := one64_pos
  obtain ⟨s, c, q, t, d, r', -, -, -, h3, -⟩ := own_quot ha hb (by omega)
  rcases own_ddiv_nn ha.1 hb.1 with h | h
  · exact ⟨r, h ▸ h1, h2⟩
  · rw [h3] at h; exact absurd h (roundRatio_ne_nan _ _ _ _ _)
/-- n / D against i / 2^j -/
theorem own_quo_int {n D r : Int} (h : Quo (n * (one64 : Int)) (D * (one64 : Int)) r) (i : Int) (j : Nat) (hj : j ≤ 1074) (hi : i.natAbs < 2 ^ 53) :
    (n * ((2 ^ j : Nat) : Int) ≤ i * D → r ≤ i * ((2 ^ (1074 - j) : Nat) : Int)) ∧ (i * D ≤ n * ((2 ^ j : Nat) : Int) → i * ((2 ^ (1074 - j) : Nat) : Int) ≤ r) := by
  obtain ⟨V, hV⟩ := own_rep i (1074 - j) hi (by omega)
  have q := h V _ hV
  have e : (one64 : Int) = ((2 ^ j : Nat) : Int) * ((2 ^ (1074 - j) : Nat) : Int) := by
    rw [own_one64, ← Int.natCast_mul, ← Nat.pow_add]; congr 2; omega
  have hu : (0 : Int) ≤ ((2 ^ (1074 - j) : Nat) : Int) * (one64 : Int) := Int.mul_nonneg (Int.natCast_nonneg _) (Int.natCast_nonneg _)
  have e1 : n * (one64 : Int) * (one64 : Int) = n * ((2 ^ j : Nat) : Int) * (((2 ^ (1074 - j) : Nat) : Int) * (one64 : Int)) := by
    conv => lhs; arg 1; rw [e]
    rw [← Int.mul_assoc n, Int.mul_assoc (n * _)]
  have e2 : i * ((2 ^ (1074 - j) : Nat) : Int) * (D * (one64 : Int)) = i * D * (((2 ^ (1074 - j) : Nat) : Int) * (one64 : Int)) := by rw [Int.mul_assoc i, Int.mul_left_comm _ D, ← Int.mul_assoc i D]
  rw [e1, e2] at q
  exact ⟨fun z => q.1 (Int.mul_le_mul_of_nonneg_right z hu), fun z => q.2 (Int.mul_le_mul_of_nonneg_right z hu)⟩
theorem own_zero : ZV (0 : UInt64) 0 := ⟨⟨_, _, _, val64_zero⟩, zval64_zero⟩
theorem own_one : ZV (4607182418800017408 : UInt64) (one64 : Int) := by
  have := ZV.of_int dint_one; rwa [Int.one_mul] at this
theorem own_cmp_gt {x y : Int} : some (compare x y) = some Ordering.gt ↔ y < x := by rw [Option.some.injEq]; exact compare_gt_iff x y
theorem own_cmp_lt {x y : Int} : some (compare x y) = some Ordering.lt ↔ x < y := by rw [Option.some.injEq]; exact compare_lt_iff x y
theorem own_cmp_eq {x y : Int} : some (compare x y) = some Ordering.eq ↔ x = y := by rw [Option.some.injEq]; exact compare_eq_iff x y
theorem own_dnn {i : Int} {a : UInt64} (h : DInt i a) : Jvm.Free.Fl.NoNaN64 a := (ZV.of_int h).nn
theorem own_nnd' {a : UInt64} (ha : DFin a) (n : Int32) (hn : n ≠ 0) : Jvm.Free.Fl.NoNaN64 (FP.ddiv a (FP.i2d n)) :=
  Jvm.Free.Fl.noNaN64_no.mpr (FP.Core.ddiv_out ha.notNaN (i2d_fin n) (fun q => i2d_ne_zero hn (by rwa [zero_bits2] at q)))
theorem own_nnd (s : Int64) (n : Int32) (hn : n ≠ 0) : Jvm.Free.Fl.NoNaN64 (FP.ddiv (FP.l2d s) (FP.i2d n)) := own_nnd' (l2d_fin s) n hn
theorem own_dz : DInt 0 (0 : UInt64) := by
  have : (0 : UInt64) = FP.l2d 0 := FP.Core.l2d_zero.symm
  rw [this]; exact l2d_int (a := 0) (by decide)
theorem own_div_eq {S S' : UInt64} {s : Int} (h : DInt s S) (h' : DInt s S') (n : Int32) (hn : 1 ≤ n.toInt) : FP.dcmp (FP.ddiv S (FP.i2d n)) (FP.ddiv S' (FP.i2d n)) = some .eq := by
  have hy : (one64 : Int) ≤ n.toInt * (one64 : Int) := by
    have := Int.mul_le_mul_of_nonneg_right hn (show (0 : Int) ≤ (one64 : Int) by omega)
    rwa [Int.one_mul] at this
  by_cases hs : s = 0
  · subst hs
    have z1 := ZV.of_int h
    have z2 := ZV.of_int h'
    rw [Int.zero_mul] at z1 z2
    have q1 := z1.div_exact (own_i2d n) hy own_zero (by rw [Int.zero_mul, Int.zero_mul])
    have q2 := z2.div_exact (own_i2d n) hy own_zero (by rw [Int.zero_mul, Int.zero_mul])
    rw [q1.cmp q2, own_cmp_eq]
  · have e := dint_unique hs h h'
    subst e
    have hz : n ≠ 0 := fun q => by subst q; revert hn; decide
    exact dcmp_refl (Jvm.Free.Fl.noNaN64_no.mp (own_nnd' (ZV.of_int h).1 n hz))
theorem own_ib (x : Int32) : x.toInt.natAbs ≤ 2147483648 := by have := x.le_toInt; have := x.toInt_lt; omega
end OwnFp
/-- a place of three -/
def Three (j : Int32) : Prop := j = (0 : Int32) ∨ j = (1 : Int32) ∨ j = (2 : Int32)
theorem Three.inb {j : Int32} (h : Three j) : ¬ j < 0 ∧ j < (3 : Int32) := by rcases h with rfl | rfl | rfl <;> decide
theorem Three.lt {j : Int32} (h : Three j) {a b c : Value} : j.toNatClampNeg < [a, b, c].length := by rcases h with rfl | rfl | rfl <;> exact Nat.le_of_ble_eq_true rfl
theorem own_setD {j : Int32} (h : Three j) (a b c v : UInt64) : [Value.double a, .double b, .double c].set j.toNatClampNeg (.double v) = [.double (if j = (0 : Int32) then v else a), .double (if j = (1 : Int32) then v else b), .double (if j = (2 : Int32) then v else c)] := by
  rcases h with rfl | rfl | rfl <;> rfl
theorem own_setI {j : Int32} (h : Three j) (a b c v : Int32) : [Value.int a, .int b, .int c].set j.toNatClampNeg (.int v) = [.int (if j = (0 : Int32) then v else a), .int (if j = (1 : Int32) then v else b), .int (if j = (2 : Int32) then v else c)] := by
  rcases h with rfl | rfl | rfl <;> rfl
theorem own_getD {j : Int32} (h : Three j) (a b c : UInt64) (d : Value) : [Value.double a, .double b, .double c].getD j.toNatClampNeg d = .double (if j = (0 : Int32) then a else (if j = (1 : Int32) then b else c)) := by
  rcases h with rfl | rfl | rfl <;> rfl
theorem own_getI {j : Int32} (h : Three j) (a b c : Int32) (d : Value) : [Value.int a, .int b, .int c].getD j.toNatClampNeg d = .int (if j = (0 : Int32) then a else (if j = (1 : Int32) then b else c)) := by
  rcases h with rfl | rfl | rfl <;> rfl

theorem d1_0 : decode prog_10_method_1_code 0 = .ok (.aload_n 0, 1) := by decide +kernel
theorem d1_1 : decode prog_10_method_1_code 1 = .ok (.invokespecial 1, 3) := by decide +kernel
theorem d1_4 : decode prog_10_method_1_code 4 = .ok (.aload_n 0, 1) := by decide +kernel
theorem d1_5 : decode prog_10_method_1_code 5 = .ok (.iload_n 1, 1) := by decide +kernel
theorem d1_6 : decode prog_10_method_1_code 6 = .ok (.newarray .double, 2) := by decide +kernel
theorem d1_8 : decode prog_10_method_1_code 8 = .ok (.putfield 7, 3) := by decide +kernel
theorem d1_11 : decode prog_10_method_1_code 11 = .ok (.aload_n 0, 1) := by decide +kernel
theorem d1_12 : decode prog_10_method_1_code 12 = .ok (.iload_n 1, 1) := by decide +kernel
theorem d1_13 : decode prog_10_method_1_code 13 = .ok (.newarray .int, 2) := by decide +kernel
theorem d1_15 : decode prog_10_method_1_code 15 = .ok (.putfield 13, 3) := by decide +kernel
theorem d1_18 : decode prog_10_method_1_code 18 = .ok (.aload_n 0, 1) := by decide +kernel
theorem d1_19 : decode prog_10_method_1_code 19 = .ok (.iload_n 1, 1) := by decide +kernel
theorem d1_20 : decode prog_10_method_1_code 20 = .ok (.newarray .int, 2) := by decide +kernel
theorem d1_22 : decode prog_10_method_1_code 22 = .ok (.putfield 17, 3) := by decide +kernel
theorem d1_25 : decode prog_10_method_1_code 25 = .ok (.return_, 1) := by decide +kernel
theorem pn_0 : plainName "com/example/clirtools/clirtools/DocumentSums" = true := by first | (simp [plainName, overriddenIn]; done) | decide +kernel
theorem ef_rm1 (m : MethodId) (a0 : Addr) : entryFrame m #[(.ref a0), (.int (3 : Int32))] 2 = mkF m 0 #[.val (.ref a0), .val (.int (3 : Int32))] [] := by first | (simp [entryFrame, mkF, argsToLocals, Value.category]; done) | rfl
def Q_rm1 (Z : State) (a0 : Addr) (u0 : Value) (u1 : Value) (u2 : Value) (h0 : Heap) (n0 : Nat) (v : Option Value) (h : Heap) (L : List Loc) : Prop := v = none ∧ Fr n0 L ∧ ∃ (as ac ad : Addr) (k_as k_ac k_ad : ClassId), Keep h0 h [a0] ∧ h0.size ≤ as ∧ h0.size ≤ ac ∧ h0.size ≤ ad ∧ as ≠ ac ∧ as ≠ ad ∧ ac ≠ ad ∧ Exa Z h a0 "com/example/clirtools/clirtools/DocumentSums" ∧ Fld Z h a0 "com/example/clirtools/clirtools/DocumentSums" "sums" "[D" (.ref as) ∧ Fld Z h a0 "com/example/clirtools/clirtools/DocumentSums" "counts" "[I" (.ref ac) ∧ Fld Z h a0 "com/example/clirtools/clirtools/DocumentSums" "documents" "[I" (.ref ad) ∧ Fld Z h a0 "com/example/clirtools/clirtools/DocumentSums" "size" "I" (.int (0 : Int32)) ∧ Arv Z h as k_as .double (3 : Int32) [(.double (0 : UInt64)), (.double (0 : UInt64)), (.double (0 : UInt64))] (.double (0 : UInt64)) ∧ Arv Z h ac k_ac .int (3 : Int32) [(.int (0 : Int32)), (.int (0 : Int32)), (.int (0 : Int32))] (.int (0 : Int32)) ∧ Arv Z h ad k_ad .int (3 : Int32) [(.int (0 : Int32)), (.int (0 : Int32)), (.int (0 : Int32))] (.int (0 : Int32))
set_option maxRecDepth 65536 in
set_option maxHeartbeats 40000000 in
theorem rm1 (l : Launch) (Z : State) (aw : Array Value) (hw : ∀ d ∈ tables_1, d.before aw Z = true) (ws : List Jvm.Cond) (a0 : Addr) (u0 : Value) (u1 : Value) (u2 : Value) (h0 : Heap) (n0 : Nat) (Z0 : n0 ≤ h0.size) (E_a0 : Exa Z h0 a0 "com/example/clirtools/clirtools/DocumentSums") (F_sums_a0 : Fld Z h0 a0 "com/example/clirtools/clirtools/DocumentSums" "sums" "[D" u0) (F_counts_a0 : Fld Z h0 a0 "com/example/clirtools/clirtools/DocumentSums" "counts" "[I" u1) (F_documents_a0 : Fld Z h0 a0 "com/example/clirtools/clirtools/DocumentSums" "documents" "[I" u2) (F_size_a0 : Fld Z h0 a0 "com/example/clirtools/clirtools/DocumentSums" "size" "I" (.int (0 : Int32))) (g_a0 : n0 ≤ a0) :
    MetFree l (⟨"com/example/clirtools/clirtools/DocumentSums", "<init>", "(I)V"⟩ : MethodName) (head1 (Jvm.Cond.code (⟨"com/example/clirtools/clirtools/DocumentSums", "<init>", "(I)V"⟩ : MethodName) prog_10_method_1_code 2 none :: ws) ({ frames := 1, cells := 3, slots := 9, locals := 12 } : Room)) (fun a U => a = #[(.ref a0), (.int (3 : Int32))] ∧ Z.Warmed39 U.vm ∧ U.heap = h0) (fun _ _ _ _ _ => True) (fun _ U o U' => ∃ v L, o = .returned v ∧ Q_rm1 Z a0 u0 u1 u2 h0 n0 v U'.heap L ∧ FrameEnd U o U' L ({ frames := 1, cells := 3, slots := 9, locals := 12 } : Room).cells ({ frames := 1, cells := 3, slots := 9, locals := 12 } : Room).slots) := by
  refine MetFree.of_bodySF (plainFor_of_name pn_0) hisR ?_
  intro p e s m args below meth c s₁ Bd hml0 hP hK
  obtain ⟨rfl, hZ, hh⟩ := hP
  have hx := Bd.exec
  have hby := Bd.bytes
  have hml : c.maxLocals = 2 := hml0
  have hown : s.vm.findClass "com/example/clirtools/clirtools/DocumentSums" = some m.cls := findClass_of_methodNamed Bd.named
  have hnm := (name_of_methodNamed Bd.named Bd.method).1
  have hlk : meth.locks = false := BodyLoose.notSynchronized Bd
  have X0 : Stand p l e ({ frames := 1, cells := 3, slots := 9, locals := 12 } : Room) s m #[(.ref a0), (.int (3 : Int32))] below meth c s₁ [] 0 0 := Stand.of_body Bd
  have e0 : s₁.heap = h0 := by rw [← hh, Bd.state]; rfl
  have N0 := Fr.nil n0
  have ZZ := Z0
  show Go p e below s ({ frames := 1, cells := 3, slots := 9, locals := 12 } : Room).cells ({ frames := 1, cells := 3, slots := 9, locals := 12 } : Room).slots (fun v h L => Q_rm1 Z a0 u0 u1 u2 h0 n0 v h L) s₁ (entryFrame m #[(.ref a0), (.int (3 : Int32))] 2)
  refine Go.cast (ef_rm1 m a0) ?_
  refine Go.gen ?_
  intro K1 K2 QQ hK1 hK2 hQQ
  have KP : Keep h0 h0 [a0] := Keep.refl _ _
  refine Go.on (fun _ k => XS.aloadN X0.here hx rfl (hb hby d1_0) rfl rfl k) ?_
  show Go _ _ _ _ _ _ _ _ (mkF m 1 #[.val (.ref a0), .val (.int (3 : Int32))] [(.ref a0)])
  obtain ⟨T1, X1, e1, st1⟩ := initO X0 hx hZ hown (hw _ (List.mem_of_getElem? (i := 6) rfl)) (hw _ (List.mem_of_getElem? (i := 7) rfl)) (hw _ (List.mem_of_getElem? (i := 8) rfl)) e0 (g := (mkF m 1 #[.val (.ref a0), .val (.int (3 : Int32))] [(.ref a0)])) rfl (by rw [hml]; rfl) rfl (hb hby d1_1) (by decide) (W := 0) (by show 2 * 0 + _ ≤ _; exact Nat.le_of_eq rfl) (by decide)
  refine Go.on st1 ?_
  show Go _ _ _ _ _ _ _ _ (mkF m 4 #[.val (.ref a0), .val (.int (3 : Int32))] [])
  refine Go.on (fun _ k => XS.aloadN X1.here hx rfl (hb hby d1_4) rfl rfl k) ?_
  show Go _ _ _ _ _ _ _ _ (mkF m 5 #[.val (.ref a0), .val (.int (3 : Int32))] [(.ref a0)])
  refine Go.on (fun _ k => XS.iloadN X1.here hx rfl (hb hby d1_5) rfl k) ?_
  show Go _ _ _ _ _ _ _ _ (mkF m 6 #[.val (.ref a0), .val (.int (3 : Int32))] [(.int (3 : Int32)), (.ref a0)])
  obtain ⟨T2, h2, k_as, X2, e2, E2, A2, st2⟩ := newP X1 hx hZ (hw _ (List.mem_of_getElem? (i := 9) rfl)) e1 (g := (mkF m 6 #[.val (.ref a0), .val (.int (3 : Int32))] [(.int (3 : Int32)), (.ref a0)])) rfl (hb hby d1_6) rfl (by decide) (cap := 3) (by decide) (by decide) (by decide) (by decide)
  obtain ⟨as, g2⟩ : ∃ z, z = h0.size := ⟨_, rfl⟩
  have ne_a0_as : a0 ≠ as := Nat.ne_of_lt (Nat.lt_of_lt_of_le E_a0.lt (Nat.le_of_eq g2.symm))
  have g_as : n0 ≤ as := Nat.le_trans ZZ (Nat.le_of_eq g2.symm)
  have sz_as : h0.size ≤ as := Nat.le_trans KP.1 (Nat.le_of_eq g2.symm)
  rw [← g2] at A2 st2
  replace E_a0 := E_a0.ext E2
  replace F_sums_a0 := F_sums_a0.ext E2
  replace F_counts_a0 := F_counts_a0.ext E2
  replace F_documents_a0 := F_documents_a0.ext E2
  replace F_size_a0 := F_size_a0.ext E2
  replace ZZ := Nat.le_trans ZZ E2.1
  replace KP := KP.ext E2
  have V_as : Arv Z h2 as k_as .double (3 : Int32) [(.double (0 : UInt64)), (.double (0 : UInt64)), (.double (0 : UInt64))] (.double (0 : UInt64)) := (Arv.new A2 (by decide)).pad (pad_rep [] (.double (0 : UInt64)) 3)
  refine Go.on st2 ?_
  show Go _ _ _ _ _ _ _ _ (mkF m 8 #[.val (.ref a0), .val (.int (3 : Int32))] [(.ref as), (.ref a0)])
  obtain ⟨T3, h3, X3, e3, W3, st3⟩ := putF X2 hx hZ hown (host := "") (Or.inl (hw _ (List.mem_of_getElem? (i := 10) rfl))) Via.refl e2 F_sums_a0 E_a0 (Or.inr ⟨(hw _ (List.mem_of_getElem? (i := 11) rfl)), rfl, hnm⟩) (hw _ (List.mem_of_getElem? (i := 1) rfl)) (ty := (.array .double)) (by decide) rfl rfl (g := (mkF m 8 #[.val (.ref a0), .val (.int (3 : Int32))] [(.ref as), (.ref a0)])) rfl rfl (hb hby d1_8)
  refine Go.on st3 ?_
  replace F_sums_a0 := F_sums_a0.same W3
  replace E_a0 := E_a0.wr W3
  replace F_counts_a0 := F_counts_a0.other W3 (Or.inr (slot_ne (Or.inr (hw _ (List.mem_of_getElem? (i := 14) rfl))) (Or.inr (hw _ (List.mem_of_getElem? (i := 11) rfl))) (by decide) (t := (.array .int)) (t' := (.array .double)) (by decide) (by decide)))
  replace F_documents_a0 := F_documents_a0.other W3 (Or.inr (slot_ne (Or.inr (hw _ (List.mem_of_getElem? (i := 16) rfl))) (Or.inr (hw _ (List.mem_of_getElem? (i := 11) rfl))) (by decide) (t := (.array .int)) (t' := (.array .double)) (by decide) (by decide)))
  replace F_size_a0 := F_size_a0.other W3 (Or.inr (slot_ne (Or.inl (hw _ (List.mem_of_getElem? (i := 23) rfl))) (Or.inr (hw _ (List.mem_of_getElem? (i := 11) rfl))) (by decide) (t := .int) (t' := (.array .double)) (by decide) (by decide)))
  replace V_as := V_as.other W3 (Ne.symm ne_a0_as)
  have N3 := Fr.snoc X3 N0 g_a0
  replace ZZ := Nat.le_trans ZZ (Keep.of_wr W3).1
  replace KP := KP.wr W3 (Or.inl (List.mem_of_getElem? (i := 0) rfl))
  show Go _ _ _ _ _ _ _ _ (mkF m 11 #[.val (.ref a0), .val (.int (3 : Int32))] [])
  refine Go.on (fun _ k => XS.aloadN X3.here hx rfl (hb hby d1_11) rfl rfl k) ?_
  show Go _ _ _ _ _ _ _ _ (mkF m 12 #[.val (.ref a0), .val (.int (3 : Int32))] [(.ref a0)])
  refine Go.on (fun _ k => XS.iloadN X3.here hx rfl (hb hby d1_12) rfl k) ?_
  show Go _ _ _ _ _ _ _ _ (mkF m 13 #[.val (.ref a0), .val (.int (3 : Int32))] [(.int (3 : Int32)), (.ref a0)])
  obtain ⟨T4, h4, k_ac, X4, e4, E4, A4, st4⟩ := newP X3 hx hZ (hw _ (List.mem_of_getElem? (i := 12) rfl)) e3 (g := (mkF m 13 #[.val (.ref a0), .val (.int (3 : Int32))] [(.int (3 : Int32)), (.ref a0)])) rfl (hb hby d1_13) rfl (by decide) (cap := 3) (by decide) (by decide) (by decide) (by decide)
  obtain ⟨ac, g4⟩ : ∃ z, z = h3.size := ⟨_, rfl⟩
  have ne_a0_ac : a0 ≠ ac := Nat.ne_of_lt (Nat.lt_of_lt_of_le E_a0.lt (Nat.le_of_eq g4.symm))
  have ne_as_ac : as ≠ ac := Nat.ne_of_lt (Nat.lt_of_lt_of_le V_as.lt (Nat.le_of_eq g4.symm))
  have g_ac : n0 ≤ ac := Nat.le_trans ZZ (Nat.le_of_eq g4.symm)
  have sz_ac : h0.size ≤ ac := Nat.le_trans KP.1 (Nat.le_of_eq g4.symm)
  rw [← g4] at A4 st4
  replace E_a0 := E_a0.ext E4
  replace F_sums_a0 := F_sums_a0.ext E4
  replace F_counts_a0 := F_counts_a0.ext E4
  replace F_documents_a0 := F_documents_a0.ext E4
  replace F_size_a0 := F_size_a0.ext E4
  replace V_as := V_as.ext E4
  replace ZZ := Nat.le_trans ZZ E4.1
  replace KP := KP.ext E4
  have V_ac : Arv Z h4 ac k_ac .int (3 : Int32) [(.int (0 : Int32)), (.int (0 : Int32)), (.int (0 : Int32))] (.int (0 : Int32)) := (Arv.new A4 (by decide)).pad (pad_rep [] (.int (0 : Int32)) 3)
  refine Go.on st4 ?_
  show Go _ _ _ _ _ _ _ _ (mkF m 15 #[.val (.ref a0), .val (.int (3 : Int32))] [(.ref ac), (.ref a0)])
  obtain ⟨T5, h5, X5, e5, W5, st5⟩ := putF X4 hx hZ hown (host := "") (Or.inl (hw _ (List.mem_of_getElem? (i := 13) rfl))) Via.refl e4 F_counts_a0 E_a0 (Or.inr ⟨(hw _ (List.mem_of_getElem? (i := 14) rfl)), rfl, hnm⟩) (hw _ (List.mem_of_getElem? (i := 1) rfl)) (ty := (.array .int)) (by decide) rfl rfl (g := (mkF m 15 #[.val (.ref a0), .val (.int (3 : Int32))] [(.ref ac), (.ref a0)])) rfl rfl (hb hby d1_15)
  refine Go.on st5 ?_
  replace F_counts_a0 := F_counts_a0.same W5
  replace E_a0 := E_a0.wr W5
  replace F_sums_a0 := F_sums_a0.other W5 (Or.inr (slot_ne (Or.inr (hw _ (List.mem_of_getElem? (i := 11) rfl))) (Or.inr (hw _ (List.mem_of_getElem? (i := 14) rfl))) (by decide) (t := (.array .double)) (t' := (.array .int)) (by decide) (by decide)))
  replace F_documents_a0 := F_documents_a0.other W5 (Or.inr (slot_ne (Or.inr (hw _ (List.mem_of_getElem? (i := 16) rfl))) (Or.inr (hw _ (List.mem_of_getElem? (i := 14) rfl))) (by decide) (t := (.array .int)) (t' := (.array .int)) (by decide) (by decide)))
  replace F_size_a0 := F_size_a0.other W5 (Or.inr (slot_ne (Or.inl (hw _ (List.mem_of_getElem? (i := 23) rfl))) (Or.inr (hw _ (List.mem_of_getElem? (i := 14) rfl))) (by decide) (t := .int) (t' := (.array .int)) (by decide) (by decide)))
  replace V_as := V_as.other W5 (Ne.symm ne_a0_as)
  replace V_ac := V_ac.other W5 (Ne.symm ne_a0_ac)
  have N5 := Fr.snoc X5 N3 g_a0
  replace ZZ := Nat.le_trans ZZ (Keep.of_wr W5).1
  replace KP := KP.wr W5 (Or.inl (List.mem_of_getElem? (i := 0) rfl))
  show Go _ _ _ _ _ _ _ _ (mkF m 18 #[.val (.ref a0), .val (.int (3 : Int32))] [])
  refine Go.on (fun _ k => XS.aloadN X5.here hx rfl (hb hby d1_18) rfl rfl k) ?_
  show Go _ _ _ _ _ _ _ _ (mkF m 19 #[.val (.ref a0), .val (.int (3 : Int32))] [(.ref a0)])
  refine Go.on (fun _ k => XS.iloadN X5.here hx rfl (hb hby d1_19) rfl k) ?_
  show Go _ _ _ _ _ _ _ _ (mkF m 20 #[.val (.ref a0), .val (.int (3 : Int32))] [(.int (3 : Int32)), (.ref a0)])
  obtain ⟨T6, h6, k_ad, X6, e6, E6, A6, st6⟩ := newP X5 hx hZ (hw _ (List.mem_of_getElem? (i := 12) rfl)) e5 (g := (mkF m 20 #[.val (.ref a0), .val (.int (3 : Int32))] [(.int (3 : Int32)), (.ref a0)])) rfl (hb hby d1_20) rfl (by decide) (cap := 3) (by decide) (by decide) (by decide) (by decide)
  obtain ⟨ad, g6⟩ : ∃ z, z = h5.size := ⟨_, rfl⟩
  have ne_a0_ad : a0 ≠ ad := Nat.ne_of_lt (Nat.lt_of_lt_of_le E_a0.lt (Nat.le_of_eq g6.symm))
  have ne_as_ad : as ≠ ad := Nat.ne_of_lt (Nat.lt_of_lt_of_le V_as.lt (Nat.le_of_eq g6.symm))
  have ne_ac_ad : ac ≠ ad := Nat.ne_of_lt (Nat.lt_of_lt_of_le V_ac.lt (Nat.le_of_eq g6.symm))
  have g_ad : n0 ≤ ad := Nat.le_trans ZZ (Nat.le_of_eq g6.symm)
  have sz_ad : h0.size ≤ ad := Nat.le_trans KP.1 (Nat.le_of_eq g6.symm)
  rw [← g6] at A6 st6
  replace E_a0 := E_a0.ext E6
  replace F_sums_a0 := F_sums_a0.ext E6
  replace F_counts_a0 := F_counts_a0.ext E6
  replace F_documents_a0 := F_documents_a0.ext E6
  replace F_size_a0 := F_size_a0.ext E6
  replace V_as := V_as.ext E6
  replace V_ac := V_ac.ext E6
  replace ZZ := Nat.le_trans ZZ E6.1
  replace KP := KP.ext E6
  have V_ad : Arv Z h6 ad k_ad .int (3 : Int32) [(.int (0 : Int32)), (.int (0 : Int32)), (.int (0 : Int32))] (.int (0 : Int32)) := (Arv.new A6 (by decide)).pad (pad_rep [] (.int (0 : Int32)) 3)
  refine Go.on st6 ?_
  show Go _ _ _ _ _ _ _ _ (mkF m 22 #[.val (.ref a0), .val (.int (3 : Int32))] [(.ref ad), (.ref a0)])
  obtain ⟨T7, h7, X7, e7, W7, st7⟩ := putF X6 hx hZ hown (host := "") (Or.inl (hw _ (List.mem_of_getElem? (i := 15) rfl))) Via.refl e6 F_documents_a0 E_a0 (Or.inr ⟨(hw _ (List.mem_of_getElem? (i := 16) rfl)), rfl, hnm⟩) (hw _ (List.mem_of_getElem? (i := 1) rfl)) (ty := (.array .int)) (by decide) rfl rfl (g := (mkF m 22 #[.val (.ref a0), .val (.int (3 : Int32))] [(.ref ad), (.ref a0)])) rfl rfl (hb hby d1_22)
  refine Go.on st7 ?_
  replace F_documents_a0 := F_documents_a0.same W7
  replace E_a0 := E_a0.wr W7
  replace F_sums_a0 := F_sums_a0.other W7 (Or.inr (slot_ne (Or.inr (hw _ (List.mem_of_getElem? (i := 11) rfl))) (Or.inr (hw _ (List.mem_of_getElem? (i := 16) rfl))) (by decide) (t := (.array .double)) (t' := (.array .int)) (by decide) (by decide)))
  replace F_counts_a0 := F_counts_a0.other W7 (Or.inr (slot_ne (Or.inr (hw _ (List.mem_of_getElem? (i := 14) rfl))) (Or.inr (hw _ (List.mem_of_getElem? (i := 16) rfl))) (by decide) (t := (.array .int)) (t' := (.array .int)) (by decide) (by decide)))
  replace F_size_a0 := F_size_a0.other W7 (Or.inr (slot_ne (Or.inl (hw _ (List.mem_of_getElem? (i := 23) rfl))) (Or.inr (hw _ (List.mem_of_getElem? (i := 16) rfl))) (by decide) (t := .int) (t' := (.array .int)) (by decide) (by decide)))
  replace V_as := V_as.other W7 (Ne.symm ne_a0_as)
  replace V_ac := V_ac.other W7 (Ne.symm ne_a0_ac)
  replace V_ad := V_ad.other W7 (Ne.symm ne_a0_ad)
  have N7 := Fr.snoc X7 N5 g_a0
  replace ZZ := Nat.le_trans ZZ (Keep.of_wr W7).1
  replace KP := KP.wr W7 (Or.inl (List.mem_of_getElem? (i := 0) rfl))
  show Go _ _ _ _ _ _ _ _ (mkF m 25 #[.val (.ref a0), .val (.int (3 : Int32))] [])
  refine Go.ret0 X7 hx Bd.returns (hb hby d1_25) ?_ (by rw [hK1]; decide) (by rw [hK2]; decide)
  rw [e7, ← hQQ]
  exact ⟨rfl, N7, as, ac, ad, k_as, k_ac, k_ad, KP, sz_as, sz_ac, sz_ad, ne_as_ac, ne_as_ad, ne_ac_ad, E_a0, F_sums_a0, F_counts_a0, F_documents_a0, F_size_a0, V_as, V_ac, V_ad⟩
theorem d7_0 : decode prog_10_method_2_code 0 = .ok (.aload_n 0, 1) := by decide +kernel
theorem d7_1 : decode prog_10_method_2_code 1 = .ok (.getfield 13, 3) := by decide +kernel
theorem d7_4 : decode prog_10_method_2_code 4 = .ok (.iload_n 1, 1) := by decide +kernel
theorem d7_5 : decode prog_10_method_2_code 5 = .ok (.iaload, 1) := by decide +kernel
theorem d7_6 : decode prog_10_method_2_code 6 = .ok (.ifCond .ne 20, 3) := by decide +kernel
theorem d7_9 : decode prog_10_method_2_code 9 = .ok (.aload_n 0, 1) := by decide +kernel
theorem d7_10 : decode prog_10_method_2_code 10 = .ok (.getfield 17, 3) := by decide +kernel
theorem d7_13 : decode prog_10_method_2_code 13 = .ok (.aload_n 0, 1) := by decide +kernel
theorem d7_14 : decode prog_10_method_2_code 14 = .ok (.dup, 1) := by decide +kernel
theorem d7_15 : decode prog_10_method_2_code 15 = .ok (.getfield 20, 3) := by decide +kernel
theorem d7_18 : decode prog_10_method_2_code 18 = .ok (.dup_x1, 1) := by decide +kernel
theorem d7_19 : decode prog_10_method_2_code 19 = .ok (.iconst 1, 1) := by decide +kernel
theorem d7_20 : decode prog_10_method_2_code 20 = .ok (.iadd, 1) := by decide +kernel
theorem d7_21 : decode prog_10_method_2_code 21 = .ok (.putfield 20, 3) := by decide +kernel
theorem d7_24 : decode prog_10_method_2_code 24 = .ok (.iload_n 1, 1) := by decide +kernel
theorem d7_25 : decode prog_10_method_2_code 25 = .ok (.iastore, 1) := by decide +kernel
theorem d7_26 : decode prog_10_method_2_code 26 = .ok (.aload_n 0, 1) := by decide +kernel
theorem d7_27 : decode prog_10_method_2_code 27 = .ok (.getfield 7, 3) := by decide +kernel
theorem d7_30 : decode prog_10_method_2_code 30 = .ok (.iload_n 1, 1) := by decide +kernel
theorem d7_31 : decode prog_10_method_2_code 31 = .ok (.dup2, 1) := by decide +kernel
theorem d7_32 : decode prog_10_method_2_code 32 = .ok (.daload, 1) := by decide +kernel
theorem d7_33 : decode prog_10_method_2_code 33 = .ok (.dload_n 2, 1) := by decide +kernel
theorem d7_34 : decode prog_10_method_2_code 34 = .ok (.dadd, 1) := by decide +kernel
theorem d7_35 : decode prog_10_method_2_code 35 = .ok (.dastore, 1) := by decide +kernel
theorem d7_36 : decode prog_10_method_2_code 36 = .ok (.aload_n 0, 1) := by decide +kernel
theorem d7_37 : decode prog_10_method_2_code 37 = .ok (.getfield 13, 3) := by decide +kernel
theorem d7_40 : decode prog_10_method_2_code 40 = .ok (.iload_n 1, 1) := by decide +kernel
theorem d7_41 : decode prog_10_method_2_code 41 = .ok (.dup2, 1) := by decide +kernel
theorem d7_42 : decode prog_10_method_2_code 42 = .ok (.iaload, 1) := by decide +kernel
theorem d7_43 : decode prog_10_method_2_code 43 = .ok (.iconst 1, 1) := by decide +kernel
theorem d7_44 : decode prog_10_method_2_code 44 = .ok (.iadd, 1) := by decide +kernel
theorem d7_45 : decode prog_10_method_2_code 45 = .ok (.iastore, 1) := by decide +kernel
theorem d7_46 : decode prog_10_method_2_code 46 = .ok (.return_, 1) := by decide +kernel
theorem ef_rm7 (m : MethodId) (a0 : Addr) (i1 : Int32) (d2 : UInt64) : entryFrame m #[(.ref a0), (.int i1), (.double d2)] 4 = mkF m 0 #[.val (.ref a0), .val (.int i1), .val (.double d2), .second] [] := by first | (simp [entryFrame, mkF, argsToLocals, Value.category]; done) | rfl
def Q_rm7 (Z : State) (a0 : Addr) (i1 : Int32) (d2 : UInt64) (as : Addr) (ac : Addr) (ad : Addr) (sz : Int32) (k_as : ClassId) (s0 : UInt64) (s1 : UInt64) (s2 : UInt64) (k_ac : ClassId) (c0 : Int32) (c1 : Int32) (c2 : Int32) (k_ad : ClassId) (dc0 : Int32) (dc1 : Int32) (dc2 : Int32) (h0 : Heap) (n0 : Nat) (v : Option Value) (h : Heap) (L : List Loc) : Prop := v = none ∧ Fr n0 L ∧ Keep h0 h [a0, as, ac, ad] ∧ Exa Z h a0 "com/example/clirtools/clirtools/DocumentSums" ∧ Fld Z h a0 "com/example/clirtools/clirtools/DocumentSums" "sums" "[D" (.ref as) ∧ Fld Z h a0 "com/example/clirtools/clirtools/DocumentSums" "counts" "[I" (.ref ac) ∧ Fld Z h a0 "com/example/clirtools/clirtools/DocumentSums" "documents" "[I" (.ref ad) ∧ Fld Z h a0 "com/example/clirtools/clirtools/DocumentSums" "size" "I" (.int (if (if i1 = (0 : Int32) then c0 else (if i1 = (1 : Int32) then c1 else c2)) = (0 : Int32) then (sz + (1 : Int32)) else sz)) ∧ Arv Z h as k_as .double (3 : Int32) [(.double (if i1 = (0 : Int32) then (FP.dadd (if i1 = (0 : Int32) then s0 else (if i1 = (1 : Int32) then s1 else s2)) d2) else s0)), (.double (if i1 = (1 : Int32) then (FP.dadd (if i1 = (0 : Int32) then s0 else (if i1 = (1 : Int32) then s1 else s2)) d2) else s1)), (.double (if i1 = (2 : Int32) then (FP.dadd (if i1 = (0 : Int32) then s0 else (if i1 = (1 : Int32) then s1 else s2)) d2) else s2))] (.double (0 : UInt64)) ∧ Arv Z h ac k_ac .int (3 : Int32) [(.int (if i1 = (0 : Int32) then ((if i1 = (0 : Int32) then c0 else (if i1 = (1 : Int32) then c1 else c2)) + (1 : Int32)) else c0)), (.int (if i1 = (1 : Int32) then ((if i1 = (0 : Int32) then c0 else (if i1 = (1 : Int32) then c1 else c2)) + (1 : Int32)) else c1)), (.int (if i1 = (2 : Int32) then ((if i1 = (0 : Int32) then c0 else (if i1 = (1 : Int32) then c1 else c2)) + (1 : Int32)) else c2))] (.int (0 : Int32)) ∧ Arv Z h ad k_ad .int (3 : Int32) [(.int (if (if i1 = (0 : Int32) then c0 else (if i1 = (1 : Int32) then c1 else c2)) = (0 : Int32) then (if sz = (0 : Int32) then i1 else dc0) else dc0)), (.int (if (if i1 = (0 : Int32) then c0 else (if i1 = (1 : Int32) then c1 else c2)) = (0 : Int32) then (if sz = (1 : Int32) then i1 else dc1) else dc1)), (.int (if (if i1 = (0 : Int32) then c0 else (if i1 = (1 : Int32) then c1 else c2)) = (0 : Int32) then (if sz = (2 : Int32) then i1 else dc2) else dc2))] (.int (0 : Int32))
set_option maxRecDepth 65536 in
set_option maxHeartbeats 40000000 in
theorem rm7 (l : Launch) (Z : State) (aw : Array Value) (hw : ∀ d ∈ tables_1, d.before aw Z = true) (ws : List Jvm.Cond) (a0 : Addr) (i1 : Int32) (d2 : UInt64) (as : Addr) (ac : Addr) (ad : Addr) (sz : Int32) (k_as : ClassId) (s0 : UInt64) (s1 : UInt64) (s2 : UInt64) (k_ac : ClassId) (c0 : Int32) (c1 : Int32) (c2 : Int32) (k_ad : ClassId) (dc0 : Int32) (dc1 : Int32) (dc2 : Int32) (h0 : Heap) (n0 : Nat) (Z0 : n0 ≤ h0.size) (E_a0 : Exa Z h0 a0 "com/example/clirtools/clirtools/DocumentSums") (F_sums_a0 : Fld Z h0 a0 "com/example/clirtools/clirtools/DocumentSums" "sums" "[D" (.ref as)) (F_counts_a0 : Fld Z h0 a0 "com/example/clirtools/clirtools/DocumentSums" "counts" "[I" (.ref ac)) (F_documents_a0 : Fld Z h0 a0 "com/example/clirtools/clirtools/DocumentSums" "documents" "[I" (.ref ad)) (F_size_a0 : Fld Z h0 a0 "com/example/clirtools/clirtools/DocumentSums" "size" "I" (.int sz)) (V_as : Arv Z h0 as k_as .double (3 : Int32) [(.double s0), (.double s1), (.double s2)] (.double (0 : UInt64))) (V_ac : Arv Z h0 ac k_ac .int (3 : Int32) [(.int c0), (.int c1), (.int c2)] (.int (0 : Int32))) (V_ad : Arv Z h0 ad k_ad .int (3 : Int32) [(.int dc0), (.int dc1), (.int dc2)] (.int (0 : Int32))) (g_a0 : n0 ≤ a0) (g_as : n0 ≤ as) (g_ac : n0 ≤ ac) (g_ad : n0 ≤ ad) (ne_a0_as : a0 ≠ as) (ne_a0_ac : a0 ≠ ac) (ne_a0_ad : a0 ≠ ad) (ne_as_ac : as ≠ ac) (ne_as_ad : as ≠ ad) (ne_ac_ad : ac ≠ ad) (hd : Three i1) (hz : (if i1 = (0 : Int32) then c0 else (if i1 = (1 : Int32) then c1 else c2)) = (0 : Int32) → Three sz) (hn : Jvm.Free.Fl.NoNaN64 (FP.dadd (if i1 = (0 : Int32) then s0 else (if i1 = (1 : Int32) then s1 else s2)) d2)) :
    MetFree l (⟨"com/example/clirtools/clirtools/DocumentSums", "add", "(ID)V"⟩ : MethodName) (head1 (Jvm.Cond.code (⟨"com/example/clirtools/clirtools/DocumentSums", "add", "(ID)V"⟩ : MethodName) prog_10_method_2_code 4 none :: ws) ({ frames := 0, cells := 0, slots := 0, locals := 0 } : Room)) (fun a U => a = #[(.ref a0), (.int i1), (.double d2)] ∧ Z.Warmed39 U.vm ∧ U.heap = h0) (fun _ _ _ _ _ => True) (fun _ U o U' => ∃ v L, o = .returned v ∧ Q_rm7 Z a0 i1 d2 as ac ad sz k_as s0 s1 s2 k_ac c0 c1 c2 k_ad dc0 dc1 dc2 h0 n0 v U'.heap L ∧ FrameEnd U o U' L ({ frames := 0, cells := 0, slots := 0, locals := 0 } : Room).cells ({ frames := 0, cells := 0, slots := 0, locals := 0 } : Room).slots) := by
  refine MetFree.of_bodySF (plainFor_of_name pn_0) hisR ?_
  intro p e s m args below meth c s₁ Bd hml0 hP hK
  obtain ⟨rfl, hZ, hh⟩ := hP
  have hx := Bd.exec
  have hby := Bd.bytes
  have hml : c.maxLocals = 4 := hml0
  have hown : s.vm.findClass "com/example/clirtools/clirtools/DocumentSums" = some m.cls := findClass_of_methodNamed Bd.named
  have hnm := (name_of_methodNamed Bd.named Bd.method).1
  have hlk : meth.locks = false := BodyLoose.notSynchronized Bd
  have X0 : Stand p l e ({ frames := 0, cells := 0, slots := 0, locals := 0 } : Room) s m #[(.ref a0), (.int i1), (.double d2)] below meth c s₁ [] 0 0 := Stand.of_body Bd
  have e0 : s₁.heap = h0 := by rw [← hh, Bd.state]; rfl
  have N0 := Fr.nil n0
  have ZZ := Z0
  show Go p e below s ({ frames := 0, cells := 0, slots := 0, locals := 0 } : Room).cells ({ frames := 0, cells := 0, slots := 0, locals := 0 } : Room).slots (fun v h L => Q_rm7 Z a0 i1 d2 as ac ad sz k_as s0 s1 s2 k_ac c0 c1 c2 k_ad dc0 dc1 dc2 h0 n0 v h L) s₁ (entryFrame m #[(.ref a0), (.int i1), (.double d2)] 4)
  refine Go.cast (ef_rm7 m a0 i1 d2) ?_
  refine Go.gen ?_
  intro K1 K2 QQ hK1 hK2 hQQ
  have KP : Keep h0 h0 [a0, as, ac, ad] := Keep.refl _ _
  refine Go.on (fun _ k => XS.aloadN X0.here hx rfl (hb hby d7_0) rfl rfl k) ?_
  show Go _ _ _ _ _ _ _ _ (mkF m 1 #[.val (.ref a0), .val (.int i1), .val (.double d2), .second] [(.ref a0)])
  obtain ⟨T1, X1, e1, st1⟩ := getF X0 hx hZ hown (host := "") (Or.inl (hw _ (List.mem_of_getElem? (i := 13) rfl))) Via.refl e0 F_counts_a0 (g := (mkF m 1 #[.val (.ref a0), .val (.int i1), .val (.double d2), .second] [(.ref a0)])) rfl rfl (hb hby d7_1)
  refine Go.on st1 ?_
  show Go _ _ _ _ _ _ _ _ (mkF m 4 #[.val (.ref a0), .val (.int i1), .val (.double d2), .second] [(.ref ac)])
  refine Go.on (fun _ k => XS.iloadN X1.here hx rfl (hb hby d7_4) rfl k) ?_
  show Go _ _ _ _ _ _ _ _ (mkF m 5 #[.val (.ref a0), .val (.int i1), .val (.double d2), .second] [(.int i1), (.ref ac)])
  obtain ⟨cl2, Ar2, -, S2, -, H2, -⟩ := id V_ac
  have hin2 : ¬ (i1 < 0 ∨ cl2.slots.size ≤ (i1).toNatClampNeg) := inb_of S2 hd.inb
  refine Go.on (X1.iaload hx (j := i1) (v := (.int (if i1 = (0 : Int32) then c0 else (if i1 = (1 : Int32) then c1 else c2)))) (by rw [e1]; exact Ar2.1) (State.isArrayOf_alike hZ.alike Ar2.2.1) Ar2.2.2 hin2 (H2.at hin2 (own_getI hd _ _ _ _)) (g := (mkF m 5 #[.val (.ref a0), .val (.int i1), .val (.double d2), .second] [(.int i1), (.ref ac)])) rfl rfl (hb hby d7_5)) ?_
  show Go _ _ _ _ _ _ _ _ (mkF m 6 #[.val (.ref a0), .val (.int i1), .val (.double d2), .second] [(.int (if i1 = (0 : Int32) then c0 else (if i1 = (1 : Int32) then c1 else c2)))])
  by_cases hc3 : (if i1 = (0 : Int32) then c0 else (if i1 = (1 : Int32) then c1 else c2)) = (0 : Int32)
  · -- pc 6 yes
    refine Go.on (fun _ k => XS.ifNo X1.here hx rfl (hb hby d7_6) rfl ((if0 _ _).trans (teq hc3).2) k) ?_
    show Go _ _ _ _ _ _ _ _ (mkF m 9 #[.val (.ref a0), .val (.int i1), .val (.double d2), .second] [])
    refine Go.on (fun _ k => XS.aloadN X1.here hx rfl (hb hby d7_9) rfl rfl k) ?_
    show Go _ _ _ _ _ _ _ _ (mkF m 10 #[.val (.ref a0), .val (.int i1), .val (.double d2), .second] [(.ref a0)])
    obtain ⟨T4, X4, e4, st4⟩ := getF X1 hx hZ hown (host := "") (Or.inl (hw _ (List.mem_of_getElem? (i := 15) rfl))) Via.refl e1 F_documents_a0 (g := (mkF m 10 #[.val (.ref a0), .val (.int i1), .val (.double d2), .second] [(.ref a0)])) rfl rfl (hb hby d7_10)
    refine Go.on st4 ?_
    show Go _ _ _ _ _ _ _ _ (mkF m 13 #[.val (.ref a0), .val (.int i1), .val (.double d2), .second] [(.ref ad)])
    refine Go.on (fun _ k => XS.aloadN X4.here hx rfl (hb hby d7_13) rfl rfl k) ?_
    show Go _ _ _ _ _ _ _ _ (mkF m 14 #[.val (.ref a0), .val (.int i1), .val (.double d2), .second] [(.ref a0), (.ref ad)])
    refine Go.on (fun _ k => XS.dup X4.here hx rfl (hb hby d7_14) rfl rfl k) ?_
    show Go _ _ _ _ _ _ _ _ (mkF m 15 #[.val (.ref a0), .val (.int i1), .val (.double d2), .second] [(.ref a0), (.ref a0), (.ref ad)])
    obtain ⟨T5, X5, e5, st5⟩ := getF X4 hx hZ hown (host := "") (Or.inl (hw _ (List.mem_of_getElem? (i := 22) rfl))) Via.refl e4 F_size_a0 (g := (mkF m 15 #[.val (.ref a0), .val (.int i1), .val (.double d2), .second] [(.ref a0), (.ref a0), (.ref ad)])) rfl rfl (hb hby d7_15)
    refine Go.on st5 ?_
    show Go _ _ _ _ _ _ _ _ (mkF m 18 #[.val (.ref a0), .val (.int i1), .val (.double d2), .second] [(.int sz), (.ref a0), (.ref ad)])
    refine Go.on (fun _ k => XS.dupX1 X5.here hx rfl (hb hby d7_18) rfl rfl rfl k) ?_
    show Go _ _ _ _ _ _ _ _ (mkF m 19 #[.val (.ref a0), .val (.int i1), .val (.double d2), .second] [(.int sz), (.ref a0), (.int sz), (.ref ad)])
    refine Go.on (fun _ k => XS.iconst X5.here hx rfl (hb hby d7_19) k) ?_
    show Go _ _ _ _ _ _ _ _ (mkF m 20 #[.val (.ref a0), .val (.int i1), .val (.double d2), .second] [(.int (1 : Int32)), (.int sz), (.ref a0), (.int sz), (.ref ad)])
    refine Go.on (fun _ k => XS.iadd X5.here hx rfl (hb hby d7_20) rfl k) ?_
    show Go _ _ _ _ _ _ _ _ (mkF m 21 #[.val (.ref a0), .val (.int i1), .val (.double d2), .second] [(.int (sz + (1 : Int32))), (.ref a0), (.int sz), (.ref ad)])
    obtain ⟨T6, h6, X6, e6, W6, st6⟩ := putF X5 hx hZ hown (host := "") (Or.inl (hw _ (List.mem_of_getElem? (i := 22) rfl))) Via.refl e5 F_size_a0 E_a0 (Or.inl (hw _ (List.mem_of_getElem? (i := 23) rfl))) (hw _ (List.mem_of_getElem? (i := 1) rfl)) (ty := .int) (by decide) rfl rfl (g := (mkF m 21 #[.val (.ref a0), .val (.int i1), .val (.double d2), .second] [(.int (sz + (1 : Int32))), (.ref a0), (.int sz), (.ref ad)])) rfl rfl (hb hby d7_21)
    refine Go.on st6 ?_
    replace F_size_a0 := F_size_a0.same W6
    replace E_a0 := E_a0.wr W6
    replace F_sums_a0 := F_sums_a0.other W6 (Or.inr (slot_ne (Or.inr (hw _ (List.mem_of_getElem? (i := 11) rfl))) (Or.inl (hw _ (List.mem_of_getElem? (i := 23) rfl))) (by decide) (t := (.array .double)) (t' := .int) (by decide) (by decide)))
    replace F_counts_a0 := F_counts_a0.other W6 (Or.inr (slot_ne (Or.inr (hw _ (List.mem_of_getElem? (i := 14) rfl))) (Or.inl (hw _ (List.mem_of_getElem? (i := 23) rfl))) (by decide) (t := (.array .int)) (t' := .int) (by decide) (by decide)))
    replace F_documents_a0 := F_documents_a0.other W6 (Or.inr (slot_ne (Or.inr (hw _ (List.mem_of_getElem? (i := 16) rfl))) (Or.inl (hw _ (List.mem_of_getElem? (i := 23) rfl))) (by decide) (t := (.array .int)) (t' := .int) (by decide) (by decide)))
    replace V_as := V_as.other W6 (Ne.symm ne_a0_as)
    replace V_ac := V_ac.other W6 (Ne.symm ne_a0_ac)
    replace V_ad := V_ad.other W6 (Ne.symm ne_a0_ad)
    have N6 := Fr.snoc X6 N0 g_a0
    replace ZZ := Nat.le_trans ZZ (Keep.of_wr W6).1
    replace KP := KP.wr W6 (Or.inl (List.mem_of_getElem? (i := 0) rfl))
    show Go _ _ _ _ _ _ _ _ (mkF m 24 #[.val (.ref a0), .val (.int i1), .val (.double d2), .second] [(.int sz), (.ref ad)])
    refine Go.on (fun _ k => XS.iloadN X6.here hx rfl (hb hby d7_24) rfl k) ?_
    show Go _ _ _ _ _ _ _ _ (mkF m 25 #[.val (.ref a0), .val (.int i1), .val (.double d2), .second] [(.int i1), (.int sz), (.ref ad)])
    obtain ⟨cl7, Ar7, q7, S7, N7n, H7, G7⟩ := id V_ad
    have hin7 : ¬ (sz < 0 ∨ cl7.slots.size ≤ (sz).toNatClampNeg) := inb_of S7 (hz hc3).inb
    obtain ⟨T7, h7, X7, e7, W7, st7⟩ := stI X6 hx hZ e6 Ar7 (j := sz) hin7 (g := (mkF m 25 #[.val (.ref a0), .val (.int i1), .val (.double d2), .second] [(.int i1), (.int sz), (.ref ad)])) rfl rfl (hb hby d7_25)
    replace V_ad := Arv.set Ar7 q7 S7 N7n H7 G7 rfl W7 _ rfl (hz hc3).lt
    replace E_a0 := E_a0.wr W7
    replace F_sums_a0 := F_sums_a0.other W7 (Or.inl ne_a0_ad)
    replace F_counts_a0 := F_counts_a0.other W7 (Or.inl ne_a0_ad)
    replace F_documents_a0 := F_documents_a0.other W7 (Or.inl ne_a0_ad)
    replace F_size_a0 := F_size_a0.other W7 (Or.inl ne_a0_ad)
    replace V_as := V_as.other W7 ne_as_ad
    replace V_ac := V_ac.other W7 ne_ac_ad
    refine Go.on st7 ?_
    have N7 := Fr.snoc X7 N6 g_ad
    replace ZZ := Nat.le_trans ZZ (Keep.of_wr W7).1
    replace KP := KP.wr W7 (Or.inl (List.mem_of_getElem? (i := 3) rfl))
    rw [own_setI (hz hc3)] at V_ad
    show Go _ _ _ _ _ _ _ _ (mkF m 26 #[.val (.ref a0), .val (.int i1), .val (.double d2), .second] [])
    refine Go.on (fun _ k => XS.aloadN X7.here hx rfl (hb hby d7_26) rfl rfl k) ?_
    show Go _ _ _ _ _ _ _ _ (mkF m 27 #[.val (.ref a0), .val (.int i1), .val (.double d2), .second] [(.ref a0)])
    obtain ⟨T8, X8, e8, st8⟩ := getF X7 hx hZ hown (host := "") (Or.inl (hw _ (List.mem_of_getElem? (i := 10) rfl))) Via.refl e7 F_sums_a0 (g := (mkF m 27 #[.val (.ref a0), .val (.int i1), .val (.double d2), .second] [(.ref a0)])) rfl rfl (hb hby d7_27)
    refine Go.on st8 ?_
    show Go _ _ _ _ _ _ _ _ (mkF m 30 #[.val (.ref a0), .val (.int i1), .val (.double d2), .second] [(.ref as)])
    refine Go.on (fun _ k => XS.iloadN X8.here hx rfl (hb hby d7_30) rfl k) ?_
    show Go _ _ _ _ _ _ _ _ (mkF m 31 #[.val (.ref a0), .val (.int i1), .val (.double d2), .second] [(.int i1), (.ref as)])
    refine Go.on (fun _ k => Jvm.Free.XT.dup2 X8.here hx rfl (hb hby d7_31) rfl rfl rfl k) ?_
    show Go _ _ _ _ _ _ _ _ (mkF m 32 #[.val (.ref a0), .val (.int i1), .val (.double d2), .second] [(.int i1), (.ref as), (.int i1), (.ref as)])
    obtain ⟨cl9, Ar9, -, S9, -, H9, -⟩ := id V_as
    have hin9 : ¬ (i1 < 0 ∨ cl9.slots.size ≤ (i1).toNatClampNeg) := inb_of S9 hd.inb
    refine Go.on (X8.daload hx (j := i1) (v := (.double (if i1 = (0 : Int32) then s0 else (if i1 = (1 : Int32) then s1 else s2)))) (by rw [e8]; exact Ar9.1) (State.isArrayOf_alike hZ.alike Ar9.2.1) Ar9.2.2 hin9 (H9.at hin9 (own_getD hd _ _ _ _)) (g := (mkF m 32 #[.val (.ref a0), .val (.int i1), .val (.double d2), .second] [(.int i1), (.ref as), (.int i1), (.ref as)])) rfl rfl (hb hby d7_32)) ?_
    show Go _ _ _ _ _ _ _ _ (mkF m 33 #[.val (.ref a0), .val (.int i1), .val (.double d2), .second] [(.double (if i1 = (0 : Int32) then s0 else (if i1 = (1 : Int32) then s1 else s2))), (.int i1), (.ref as)])
    refine Go.on (fun _ k => XS.dloadN X8.here hx rfl (hb hby d7_33) rfl k) ?_
    show Go _ _ _ _ _ _ _ _ (mkF m 34 #[.val (.ref a0), .val (.int i1), .val (.double d2), .second] [(.double d2), (.double (if i1 = (0 : Int32) then s0 else (if i1 = (1 : Int32) then s1 else s2))), (.int i1), (.ref as)])
    refine Go.on (fun _ k => XS.daddS X8.here hx rfl (hb hby d7_34) rfl (hn) rfl k) ?_
    show Go _ _ _ _ _ _ _ _ (mkF m 35 #[.val (.ref a0), .val (.int i1), .val (.double d2), .second] [(.double (FP.dadd (if i1 = (0 : Int32) then s0 else (if i1 = (1 : Int32) then s1 else s2)) d2)), (.int i1), (.ref as)])
    obtain ⟨cl10, Ar10, q10, S10, N10n, H10, G10⟩ := id V_as
    have hin10 : ¬ (i1 < 0 ∨ cl10.slots.size ≤ (i1).toNatClampNeg) := inb_of S10 hd.inb
    obtain ⟨T10, h10, X10, e10, W10, st10⟩ := stD X8 hx hZ e8 Ar10 (j := i1) hin10 (g := (mkF m 35 #[.val (.ref a0), .val (.int i1), .val (.double d2), .second] [(.double (FP.dadd (if i1 = (0 : Int32) then s0 else (if i1 = (1 : Int32) then s1 else s2)) d2)), (.int i1), (.ref as)])) rfl rfl (hb hby d7_35)
    replace V_as := Arv.set Ar10 q10 S10 N10n H10 G10 rfl W10 _ rfl hd.lt
    replace E_a0 := E_a0.wr W10
    replace F_sums_a0 := F_sums_a0.other W10 (Or.inl ne_a0_as)
    replace F_counts_a0 := F_counts_a0.other W10 (Or.inl ne_a0_as)
    replace F_documents_a0 := F_documents_a0.other W10 (Or.inl ne_a0_as)
    replace F_size_a0 := F_size_a0.other W10 (Or.inl ne_a0_as)
    replace V_ac := V_ac.other W10 (Ne.symm ne_as_ac)
    replace V_ad := V_ad.other W10 (Ne.symm ne_as_ad)
    refine Go.on st10 ?_
    have N10 := Fr.snoc X10 N7 g_as
    replace ZZ := Nat.le_trans ZZ (Keep.of_wr W10).1
    replace KP := KP.wr W10 (Or.inl (List.mem_of_getElem? (i := 1) rfl))
    rw [own_setD hd] at V_as
    show Go _ _ _ _ _ _ _ _ (mkF m 36 #[.val (.ref a0), .val (.int i1), .val (.double d2), .second] [])
    refine Go.on (fun _ k => XS.aloadN X10.here hx rfl (hb hby d7_36) rfl rfl k) ?_
    show Go _ _ _ _ _ _ _ _ (mkF m 37 #[.val (.ref a0), .val (.int i1), .val (.double d2), .second] [(.ref a0)])
    obtain ⟨T11, X11, e11, st11⟩ := getF X10 hx hZ hown (host := "") (Or.inl (hw _ (List.mem_of_getElem? (i := 13) rfl))) Via.refl e10 F_counts_a0 (g := (mkF m 37 #[.val (.ref a0), .val (.int i1), .val (.double d2), .second] [(.ref a0)])) rfl rfl (hb hby d7_37)
    refine Go.on st11 ?_
    show Go _ _ _ _ _ _ _ _ (mkF m 40 #[.val (.ref a0), .val (.int i1), .val (.double d2), .second] [(.ref ac)])
    refine Go.on (fun _ k => XS.iloadN X11.here hx rfl (hb hby d7_40) rfl k) ?_
    show Go _ _ _ _ _ _ _ _ (mkF m 41 #[.val (.ref a0), .val (.int i1), .val (.double d2), .second] [(.int i1), (.ref ac)])
    refine Go.on (fun _ k => Jvm.Free.XT.dup2 X11.here hx rfl (hb hby d7_41) rfl rfl rfl k) ?_
    show Go _ _ _ _ _ _ _ _ (mkF m 42 #[.val (.ref a0), .val (.int i1), .val (.double d2), .second] [(.int i1), (.ref ac), (.int i1), (.ref ac)])
    obtain ⟨cl12, Ar12, -, S12, -, H12, -⟩ := id V_ac
    have hin12 : ¬ (i1 < 0 ∨ cl12.slots.size ≤ (i1).toNatClampNeg) := inb_of S12 hd.inb
    refine Go.on (X11.iaload hx (j := i1) (v := (.int (if i1 = (0 : Int32) then c0 else (if i1 = (1 : Int32) then c1 else c2)))) (by rw [e11]; exact Ar12.1) (State.isArrayOf_alike hZ.alike Ar12.2.1) Ar12.2.2 hin12 (H12.at hin12 (own_getI hd _ _ _ _)) (g := (mkF m 42 #[.val (.ref a0), .val (.int i1), .val (.double d2), .second] [(.int i1), (.ref ac), (.int i1), (.ref ac)])) rfl rfl (hb hby d7_42)) ?_
    show Go _ _ _ _ _ _ _ _ (mkF m 43 #[.val (.ref a0), .val (.int i1), .val (.double d2), .second] [(.int (if i1 = (0 : Int32) then c0 else (if i1 = (1 : Int32) then c1 else c2))), (.int i1), (.ref ac)])
    refine Go.on (fun _ k => XS.iconst X11.here hx rfl (hb hby d7_43) k) ?_
    show Go _ _ _ _ _ _ _ _ (mkF m 44 #[.val (.ref a0), .val (.int i1), .val (.double d2), .second] [(.int (1 : Int32)), (.int (if i1 = (0 : Int32) then c0 else (if i1 = (1 : Int32) then c1 else c2))), (.int i1), (.ref ac)])
    refine Go.on (fun _ k => XS.iadd X11.here hx rfl (hb hby d7_44) rfl k) ?_
    show Go _ _ _ _ _ _ _ _ (mkF m 45 #[.val (.ref a0), .val (.int i1), .val (.double d2), .second] [(.int ((if i1 = (0 : Int32) then c0 else (if i1 = (1 : Int32) then c1 else c2)) + (1 : Int32))), (.int i1), (.ref ac)])
    obtain ⟨cl13, Ar13, q13, S13, N13n, H13, G13⟩ := id V_ac
    have hin13 : ¬ (i1 < 0 ∨ cl13.slots.size ≤ (i1).toNatClampNeg) := inb_of S13 hd.inb
    obtain ⟨T13, h13, X13, e13, W13, st13⟩ := stI X11 hx hZ e11 Ar13 (j := i1) hin13 (g := (mkF m 45 #[.val (.ref a0), .val (.int i1), .val (.double d2), .second] [(.int ((if i1 = (0 : Int32) then c0 else (if i1 = (1 : Int32) then c1 else c2)) + (1 : Int32))), (.int i1), (.ref ac)])) rfl rfl (hb hby d7_45)
    replace V_ac := Arv.set Ar13 q13 S13 N13n H13 G13 rfl W13 _ rfl hd.lt
    replace E_a0 := E_a0.wr W13
    replace F_sums_a0 := F_sums_a0.other W13 (Or.inl ne_a0_ac)
    replace F_counts_a0 := F_counts_a0.other W13 (Or.inl ne_a0_ac)
    replace F_documents_a0 := F_documents_a0.other W13 (Or.inl ne_a0_ac)
    replace F_size_a0 := F_size_a0.other W13 (Or.inl ne_a0_ac)
    replace V_as := V_as.other W13 ne_as_ac
    replace V_ad := V_ad.other W13 (Ne.symm ne_ac_ad)
    refine Go.on st13 ?_
    have N13 := Fr.snoc X13 N10 g_ac
    replace ZZ := Nat.le_trans ZZ (Keep.of_wr W13).1
    replace KP := KP.wr W13 (Or.inl (List.mem_of_getElem? (i := 2) rfl))
    rw [own_setI hd] at V_ac
    show Go _ _ _ _ _ _ _ _ (mkF m 46 #[.val (.ref a0), .val (.int i1), .val (.double d2), .second] [])
    refine Go.ret0 X13 hx Bd.returns (hb hby d7_46) ?_ (by rw [hK1]; decide) (by rw [hK2]; decide)
    rw [e13, ← hQQ]
    unfold Q_rm7; simp only [if_pos hc3]
    exact ⟨trivial, N13, KP, E_a0, F_sums_a0, F_counts_a0, F_documents_a0, F_size_a0, V_as, V_ac, V_ad⟩
  · -- pc 6 no
    refine Go.on (fun _ k => XS.ifYes X1.here hx rfl (pc0 := 6) (pc' := 26) rfl (hb hby d7_6) rfl ((if0 _ _).trans (feq hc3).2) (by decide) (by decide) k) ?_
    show Go _ _ _ _ _ _ _ _ (mkF m 26 #[.val (.ref a0), .val (.int i1), .val (.double d2), .second] [])
    refine Go.on (fun _ k => XS.aloadN X1.here hx rfl (hb hby d7_26) rfl rfl k) ?_
    show Go _ _ _ _ _ _ _ _ (mkF m 27 #[.val (.ref a0), .val (.int i1), .val (.double d2), .second] [(.ref a0)])
    obtain ⟨T14, X14, e14, st14⟩ := getF X1 hx hZ hown (host := "") (Or.inl (hw _ (List.mem_of_getElem? (i := 10) rfl))) Via.refl e1 F_sums_a0 (g := (mkF m 27 #[.val (.ref a0), .val (.int i1), .val (.double d2), .second] [(.ref a0)])) rfl rfl (hb hby d7_27)
    refine Go.on st14 ?_
    show Go _ _ _ _ _ _ _ _ (mkF m 30 #[.val (.ref a0), .val (.int i1), .val (.double d2), .second] [(.ref as)])
    refine Go.on (fun _ k => XS.iloadN X14.here hx rfl (hb hby d7_30) rfl k) ?_
    show Go _ _ _ _ _ _ _ _ (mkF m 31 #[.val (.ref a0), .val (.int i1), .val (.double d2), .second] [(.int i1), (.ref as)])
    refine Go.on (fun _ k => Jvm.Free.XT.dup2 X14.here hx rfl (hb hby d7_31) rfl rfl rfl k) ?_
    show Go _ _ _ _ _ _ _ _ (mkF m 32 #[.val (.ref a0), .val (.int i1), .val (.double d2), .second] [(.int i1), (.ref as), (.int i1), (.ref as)])
    obtain ⟨cl15, Ar15, -, S15, -, H15, -⟩ := id V_as
    have hin15 : ¬ (i1 < 0 ∨ cl15.slots.size ≤ (i1).toNatClampNeg) := inb_of S15 hd.inb
    refine Go.on (X14.daload hx (j := i1) (v := (.double (if i1 = (0 : Int32) then s0 else (if i1 = (1 : Int32) then s1 else s2)))) (by rw [e14]; exact Ar15.1) (State.isArrayOf_alike hZ.alike Ar15.2.1) Ar15.2.2 hin15 (H15.at hin15 (own_getD hd _ _ _ _)) (g := (mkF m 32 #[.val (.ref a0), .val (.int i1), .val (.double d2), .second] [(.int i1), (.ref as), (.int i1), (.ref as)])) rfl rfl (hb hby d7_32)) ?_
    show Go _ _ _ _ _ _ _ _ (mkF m 33 #[.val (.ref a0), .val (.int i1), .val (.double d2), .second] [(.double (if i1 = (0 : Int32) then s0 else (if i1 = (1 : Int32) then s1 else s2))), (.int i1), (.ref as)])
    refine Go.on (fun _ k => XS.dloadN X14.here hx rfl (hb hby d7_33) rfl k) ?_
    show Go _ _ _ _ _ _ _ _ (mkF m 34 #[.val (.ref a0), .val (.int i1), .val (.double d2), .second] [(.double d2), (.double (if i1 = (0 : Int32) then s0 else (if i1 = (1 : Int32) then s1 else s2))), (.int i1), (.ref as)])
    refine Go.on (fun _ k => XS.daddS X14.here hx rfl (hb hby d7_34) rfl (hn) rfl k) ?_
    show Go _ _ _ _ _ _ _ _ (mkF m 35 #[.val (.ref a0), .val (.int i1), .val (.double d2), .second] [(.double (FP.dadd (if i1 = (0 : Int32) then s0 else (if i1 = (1 : Int32) then s1 else s2)) d2)), (.int i1), (.ref as)])
    obtain ⟨cl16, Ar16, q16, S16, N16n, H16, G16⟩ := id V_as
    have hin16 : ¬ (i1 < 0 ∨ cl16.slots.size ≤ (i1).toNatClampNeg) := inb_of S16 hd.inb
    obtain ⟨T16, h16, X16, e16, W16, st16⟩ := stD X14 hx hZ e14 Ar16 (j := i1) hin16 (g := (mkF m 35 #[.val (.ref a0), .val (.int i1), .val (.double d2), .second] [(.double (FP.dadd (if i1 = (0 : Int32) then s0 else (if i1 = (1 : Int32) then s1 else s2)) d2)), (.int i1), (.ref as)])) rfl rfl (hb hby d7_35)
    replace V_as := Arv.set Ar16 q16 S16 N16n H16 G16 rfl W16 _ rfl hd.lt
    replace E_a0 := E_a0.wr W16
    replace F_sums_a0 := F_sums_a0.other W16 (Or.inl ne_a0_as)
    replace F_counts_a0 := F_counts_a0.other W16 (Or.inl ne_a0_as)
    replace F_documents_a0 := F_documents_a0.other W16 (Or.inl ne_a0_as)
    replace F_size_a0 := F_size_a0.other W16 (Or.inl ne_a0_as)
    replace V_ac := V_ac.other W16 (Ne.symm ne_as_ac)
    replace V_ad := V_ad.other W16 (Ne.symm ne_as_ad)
    refine Go.on st16 ?_
    have N16 := Fr.snoc X16 N0 g_as
    replace ZZ := Nat.le_trans ZZ (Keep.of_wr W16).1
    replace KP := KP.wr W16 (Or.inl (List.mem_of_getElem? (i := 1) rfl))
    rw [own_setD hd] at V_as
    show Go _ _ _ _ _ _ _ _ (mkF m 36 #[.val (.ref a0), .val (.int i1), .val (.double d2), .second] [])
    refine Go.on (fun _ k => XS.aloadN X16.here hx rfl (hb hby d7_36) rfl rfl k) ?_
    show Go _ _ _ _ _ _ _ _ (mkF m 37 #[.val (.ref a0), .val (.int i1), .val (.double d2), .second] [(.ref a0)])
    obtain ⟨T17, X17, e17, st17⟩ := getF X16 hx hZ hown (host := "") (Or.inl (hw _ (List.mem_of_getElem? (i := 13) rfl))) Via.refl e16 F_counts_a0 (g := (mkF m 37 #[.val (.ref a0), .val (.int i1), .val (.double d2), .second] [(.ref a0)])) rfl rfl (hb hby d7_37)
    refine Go.on st17 ?_
    show Go _ _ _ _ _ _ _ _ (mkF m 40 #[.val (.ref a0), .val (.int i1), .val (.double d2), .second] [(.ref ac)])
    refine Go.on (fun _ k => XS.iloadN X17.here hx rfl (hb hby d7_40) rfl k) ?_
    show Go _ _ _ _ _ _ _ _ (mkF m 41 #[.val (.ref a0), .val (.int i1), .val (.double d2), .second] [(.int i1), (.ref ac)])
    refine Go.on (fun _ k => Jvm.Free.XT.dup2 X17.here hx rfl (hb hby d7_41) rfl rfl rfl k) ?_
    show Go _ _ _ _ _ _ _ _ (mkF m 42 #[.val (.ref a0), .val (.int i1), .val (.double d2), .second] [(.int i1), (.ref ac), (.int i1), (.ref ac)])
    obtain ⟨cl18, Ar18, -, S18, -, H18, -⟩ := id V_ac
    have hin18 : ¬ (i1 < 0 ∨ cl18.slots.size ≤ (i1).toNatClampNeg) := inb_of S18 hd.inb
    refine Go.on (X17.iaload hx (j := i1) (v := (.int (if i1 = (0 : Int32) then c0 else (if i1 = (1 : Int32) then c1 else c2)))) (by rw [e17]; exact Ar18.1) (State.isArrayOf_alike hZ.alike Ar18.2.1) Ar18.2.2 hin18 (H18.at hin18 (own_getI hd _ _ _ _)) (g := (mkF m 42 #[.val (.ref a0), .val (.int i1), .val (.double d2), .second] [(.int i1), (.ref ac), (.int i1), (.ref ac)])) rfl rfl (hb hby d7_42)) ?_
    show Go _ _ _ _ _ _ _ _ (mkF m 43 #[.val (.ref a0), .val (.int i1), .val (.double d2), .second] [(.int (if i1 = (0 : Int32) then c0 else (if i1 = (1 : Int32) then c1 else c2))), (.int i1), (.ref ac)])
    refine Go.on (fun _ k => XS.iconst X17.here hx rfl (hb hby d7_43) k) ?_
    show Go _ _ _ _ _ _ _ _ (mkF m 44 #[.val (.ref a0), .val (.int i1), .val (.double d2), .second] [(.int (1 : Int32)), (.int (if i1 = (0 : Int32) then c0 else (if i1 = (1 : Int32) then c1 else c2))), (.int i1), (.ref ac)])
    refine Go.on (fun _ k => XS.iadd X17.here hx rfl (hb hby d7_44) rfl k) ?_
    show Go _ _ _ _ _ _ _ _ (mkF m 45 #[.val (.ref a0), .val (.int i1), .val (.double d2), .second] [(.int ((if i1 = (0 : Int32) then c0 else (if i1 = (1 : Int32) then c1 else c2)) + (1 : Int32))), (.int i1), (.ref ac)])
    obtain ⟨cl19, Ar19, q19, S19, N19n, H19, G19⟩ := id V_ac
    have hin19 : ¬ (i1 < 0 ∨ cl19.slots.size ≤ (i1).toNatClampNeg) := inb_of S19 hd.inb
    obtain ⟨T19, h19, X19, e19, W19, st19⟩ := stI X17 hx hZ e17 Ar19 (j := i1) hin19 (g := (mkF m 45 #[.val (.ref a0), .val (.int i1), .val (.double d2), .second] [(.int ((if i1 = (0 : Int32) then c0 else (if i1 = (1 : Int32) then c1 else c2)) + (1 : Int32))), (.int i1), (.ref ac)])) rfl rfl (hb hby d7_45)
    replace V_ac := Arv.set Ar19 q19 S19 N19n H19 G19 rfl W19 _ rfl hd.lt
    replace E_a0 := E_a0.wr W19
    replace F_sums_a0 := F_sums_a0.other W19 (Or.inl ne_a0_ac)
    replace F_counts_a0 := F_counts_a0.other W19 (Or.inl ne_a0_ac)
    replace F_documents_a0 := F_documents_a0.other W19 (Or.inl ne_a0_ac)
    replace F_size_a0 := F_size_a0.other W19 (Or.inl ne_a0_ac)
    replace V_as := V_as.other W19 ne_as_ac
    replace V_ad := V_ad.other W19 (Ne.symm ne_ac_ad)
    refine Go.on st19 ?_
    have N19 := Fr.snoc X19 N16 g_ac
    replace ZZ := Nat.le_trans ZZ (Keep.of_wr W19).1
    replace KP := KP.wr W19 (Or.inl (List.mem_of_getElem? (i := 2) rfl))
    rw [own_setI hd] at V_ac
    show Go _ _ _ _ _ _ _ _ (mkF m 46 #[.val (.ref a0), .val (.int i1), .val (.double d2), .second] [])
    refine Go.ret0 X19 hx Bd.returns (hb hby d7_46) ?_ (by rw [hK1]; decide) (by rw [hK2]; decide)
    rw [e19, ← hQQ]
    unfold Q_rm7; simp only [if_neg hc3]
    exact ⟨trivial, N19, KP, E_a0, F_sums_a0, F_counts_a0, F_documents_a0, F_size_a0, V_as, V_ac, V_ad⟩
theorem d4_0 : decode prog_10_method_3_code 0 = .ok (.aload_n 0, 1) := by decide +kernel
theorem d4_1 : decode prog_10_method_3_code 1 = .ok (.getfield 20, 3) := by decide +kernel
theorem d4_4 : decode prog_10_method_3_code 4 = .ok (.ireturn, 1) := by decide +kernel
theorem ef_rm4 (m : MethodId) (a0 : Addr) : entryFrame m #[(.ref a0)] 1 = mkF m 0 #[.val (.ref a0)] [] := by first | (simp [entryFrame, mkF, argsToLocals, Value.category]; done) | rfl
def Q_rm4 (Z : State) (a0 : Addr) (sz : Int32) (h0 : Heap) (n0 : Nat) (v : Option Value) (h : Heap) (L : List Loc) : Prop := v = some (.int sz) ∧ Fr n0 L ∧ h = h0
set_option maxRecDepth 65536 in
set_option maxHeartbeats 40000000 in
theorem rm4 (l : Launch) (Z : State) (aw : Array Value) (hw : ∀ d ∈ tables_1, d.before aw Z = true) (ws : List Jvm.Cond) (a0 : Addr) (sz : Int32) (h0 : Heap) (n0 : Nat) (Z0 : n0 ≤ h0.size) (F_size_a0 : Fld Z h0 a0 "com/example/clirtools/clirtools/DocumentSums" "size" "I" (.int sz)) :
    MetFree l (⟨"com/example/clirtools/clirtools/DocumentSums", "size", "()I"⟩ : MethodName) (head1 (Jvm.Cond.code (⟨"com/example/clirtools/clirtools/DocumentSums", "size", "()I"⟩ : MethodName) prog_10_method_3_code 1 (some .int) :: ws) ({ frames := 0, cells := 0, slots := 0, locals := 0 } : Room)) (fun a U => a = #[(.ref a0)] ∧ Z.Warmed39 U.vm ∧ U.heap = h0) (fun _ _ _ _ _ => True) (fun _ U o U' => ∃ v L, o = .returned v ∧ Q_rm4 Z a0 sz h0 n0 v U'.heap L ∧ FrameEnd U o U' L ({ frames := 0, cells := 0, slots := 0, locals := 0 } : Room).cells ({ frames := 0, cells := 0, slots := 0, locals := 0 } : Room).slots) := by
  refine MetFree.of_bodySF (plainFor_of_name pn_0) hisR ?_
  intro p e s m args below meth c s₁ Bd hml0 hP hK
  obtain ⟨rfl, hZ, hh⟩ := hP
  have hx := Bd.exec
  have hby := Bd.bytes
  have hml : c.maxLocals = 1 := hml0
  have hown : s.vm.findClass "com/example/clirtools/clirtools/DocumentSums" = some m.cls := findClass_of_methodNamed Bd.named
  have hnm := (name_of_methodNamed Bd.named Bd.method).1
  have hlk : meth.locks = false := BodyLoose.notSynchronized Bd
  have X0 : Stand p l e ({ frames := 0, cells := 0, slots := 0, locals := 0 } : Room) s m #[(.ref a0)] below meth c s₁ [] 0 0 := Stand.of_body Bd
  have e0 : s₁.heap = h0 := by rw [← hh, Bd.state]; rfl
  have N0 := Fr.nil n0
  have ZZ := Z0
  show Go p e below s ({ frames := 0, cells := 0, slots := 0, locals := 0 } : Room).cells ({ frames := 0, cells := 0, slots := 0, locals := 0 } : Room).slots (fun v h L => Q_rm4 Z a0 sz h0 n0 v h L) s₁ (entryFrame m #[(.ref a0)] 1)
  refine Go.cast (ef_rm4 m a0) ?_
  refine Go.gen ?_
  intro K1 K2 QQ hK1 hK2 hQQ
  refine Go.on (fun _ k => XS.aloadN X0.here hx rfl (hb hby d4_0) rfl rfl k) ?_
  show Go _ _ _ _ _ _ _ _ (mkF m 1 #[.val (.ref a0)] [(.ref a0)])
  obtain ⟨T1, X1, e1, st1⟩ := getF X0 hx hZ hown (host := "") (Or.inl (hw _ (List.mem_of_getElem? (i := 22) rfl))) Via.refl e0 F_size_a0 (g := (mkF m 1 #[.val (.ref a0)] [(.ref a0)])) rfl rfl (hb hby d4_1)
  refine Go.on st1 ?_
  show Go _ _ _ _ _ _ _ _ (mkF m 4 #[.val (.ref a0)] [(.int sz)])
  refine Go.retV X1 hx Bd.returns rfl (Or.inl ⟨rfl, Or.inl rfl, _, rfl⟩) (hb hby d4_4) ?_ (by rw [hK1]; decide) (by rw [hK2]; decide)
  rw [e1, ← hQQ]
  exact ⟨rfl, N0, rfl⟩
theorem d5_0 : decode prog_10_method_6_code 0 = .ok (.aload_n 0, 1) := by decide +kernel
theorem d5_1 : decode prog_10_method_6_code 1 = .ok (.getfield 13, 3) := by decide +kernel
theorem d5_4 : decode prog_10_method_6_code 4 = .ok (.iload_n 1, 1) := by decide +kernel
theorem d5_5 : decode prog_10_method_6_code 5 = .ok (.iaload, 1) := by decide +kernel
theorem d5_6 : decode prog_10_method_6_code 6 = .ok (.ireturn, 1) := by decide +kernel
theorem ef_rm5 (m : MethodId) (a0 : Addr) (i1 : Int32) : entryFrame m #[(.ref a0), (.int i1)] 2 = mkF m 0 #[.val (.ref a0), .val (.int i1)] [] := by first | (simp [entryFrame, mkF, argsToLocals, Value.category]; done) | rfl
def Q_rm5 (Z : State) (a0 : Addr) (i1 : Int32) (ac : Addr) (k_ac : ClassId) (c0 : Int32) (c1 : Int32) (c2 : Int32) (h0 : Heap) (n0 : Nat) (v : Option Value) (h : Heap) (L : List Loc) : Prop := v = some (.int (if i1 = (0 : Int32) then c0 else (if i1 = (1 : Int32) then c1 else c2))) ∧ Fr n0 L ∧ h = h0
set_option maxRecDepth 65536 in
set_option maxHeartbeats 40000000 in
theorem rm5 (l : Launch) (Z : State) (aw : Array Value) (hw : ∀ d ∈ tables_1, d.before aw Z = true) (ws : List Jvm.Cond) (a0 : Addr) (i1 : Int32) (ac : Addr) (k_ac : ClassId) (c0 : Int32) (c1 : Int32) (c2 : Int32) (h0 : Heap) (n0 : Nat) (Z0 : n0 ≤ h0.size) (F_counts_a0 : Fld Z h0 a0 "com/example/clirtools/clirtools/DocumentSums" "counts" "[I" (.ref ac)) (V_ac : Arv Z h0 ac k_ac .int (3 : Int32) [(.int c0), (.int c1), (.int c2)] (.int (0 : Int32))) (hd : Three i1) :
    MetFree l (⟨"com/example/clirtools/clirtools/DocumentSums", "count", "(I)I"⟩ : MethodName) (head1 (Jvm.Cond.code (⟨"com/example/clirtools/clirtools/DocumentSums", "count", "(I)I"⟩ : MethodName) prog_10_method_6_code 2 (some .int) :: ws) ({ frames := 0, cells := 0, slots := 0, locals := 0 } : Room)) (fun a U => a = #[(.ref a0), (.int i1)] ∧ Z.Warmed39 U.vm ∧ U.heap = h0) (fun _ _ _ _ _ => True) (fun _ U o U' => ∃ v L, o = .returned v ∧ Q_rm5 Z a0 i1 ac k_ac c0 c1 c2 h0 n0 v U'.heap L ∧ FrameEnd U o U' L ({ frames := 0, cells := 0, slots := 0, locals := 0 } : Room).cells ({ frames := 0, cells := 0, slots := 0, locals := 0 } : Room).slots) := by
  refine MetFree.of_bodySF (plainFor_of_name pn_0) hisR ?_
  intro p e s m args below meth c s₁ Bd hml0 hP hK
  obtain ⟨rfl, hZ, hh⟩ := hP
  have hx := Bd.exec
  have hby := Bd.bytes
  have hml : c.maxLocals = 2 := hml0
  have hown : s.vm.findClass "com/example/clirtools/clirtools/DocumentSums" = some m.cls := findClass_of_methodNamed Bd.named
  have hnm := (name_of_methodNamed Bd.named Bd.method).1
  have hlk : meth.locks = false := BodyLoose.notSynchronized Bd
  have X0 : Stand p l e ({ frames := 0, cells := 0, slots := 0, locals := 0 } : Room) s m #[(.ref a0), (.int i1)] below meth c s₁ [] 0 0 := Stand.of_body Bd
  have e0 : s₁.heap = h0 := by rw [← hh, Bd.state]; rfl
  have N0 := Fr.nil n0
  have ZZ := Z0
  show Go p e below s ({ frames := 0, cells := 0, slots := 0, locals := 0 } : Room).cells ({ frames := 0, cells := 0, slots := 0, locals := 0 } : Room).slots (fun v h L => Q_rm5 Z a0 i1 ac k_ac c0 c1 c2 h0 n0 v h L) s₁ (entryFrame m #[(.ref a0), (.int i1)] 2)
  refine Go.cast (ef_rm5 m a0 i1) ?_
  refine Go.gen ?_
  intro K1 K2 QQ hK1 hK2 hQQ
  refine Go.on (fun _ k => XS.aloadN X0.here hx rfl (hb hby d5_0) rfl rfl k) ?_
  show Go _ _ _ _ _ _ _ _ (mkF m 1 #[.val (.ref a0), .val (.int i1)] [(.ref a0)])
  obtain ⟨T1, X1, e1, st1⟩ := getF X0 hx hZ hown (host := "") (Or.inl (hw _ (List.mem_of_getElem? (i := 13) rfl))) Via.refl e0 F_counts_a0 (g := (mkF m 1 #[.val (.ref a0), .val (.int i1)] [(.ref a0)])) rfl rfl (hb hby d5_1)
  refine Go.on st1 ?_
  show Go _ _ _ _ _ _ _ _ (mkF m 4 #[.val (.ref a0), .val (.int i1)] [(.ref ac)])
  refine Go.on (fun _ k => XS.iloadN X1.here hx rfl (hb hby d5_4) rfl k) ?_
  show Go _ _ _ _ _ _ _ _ (mkF m 5 #[.val (.ref a0), .val (.int i1)] [(.int i1), (.ref ac)])
  obtain ⟨cl2, Ar2, -, S2, -, H2, -⟩ := id V_ac
  have hin2 : ¬ (i1 < 0 ∨ cl2.slots.size ≤ (i1).toNatClampNeg) := inb_of S2 hd.inb
  refine Go.on (X1.iaload hx (j := i1) (v := (.int (if i1 = (0 : Int32) then c0 else (if i1 = (1 : Int32) then c1 else c2)))) (by rw [e1]; exact Ar2.1) (State.isArrayOf_alike hZ.alike Ar2.2.1) Ar2.2.2 hin2 (H2.at hin2 (own_getI hd _ _ _ _)) (g := (mkF m 5 #[.val (.ref a0), .val (.int i1)] [(.int i1), (.ref ac)])) rfl rfl (hb hby d5_5)) ?_
  show Go _ _ _ _ _ _ _ _ (mkF m 6 #[.val (.ref a0), .val (.int i1)] [(.int (if i1 = (0 : Int32) then c0 else (if i1 = (1 : Int32) then c1 else c2)))])
  refine Go.retV X1 hx Bd.returns rfl (Or.inl ⟨rfl, Or.inl rfl, _, rfl⟩) (hb hby d5_6) ?_ (by rw [hK1]; decide) (by rw [hK2]; decide)
  rw [e1, ← hQQ]
  exact ⟨rfl, N0, rfl⟩
theorem d6_0 : decode prog_10_method_5_code 0 = .ok (.aload_n 0, 1) := by decide +kernel
theorem d6_1 : decode prog_10_method_5_code 1 = .ok (.getfield 7, 3) := by decide +kernel
theorem d6_4 : decode prog_10_method_5_code 4 = .ok (.iload_n 1, 1) := by decide +kernel
theorem d6_5 : decode prog_10_method_5_code 5 = .ok (.daload, 1) := by decide +kernel
theorem d6_6 : decode prog_10_method_5_code 6 = .ok (.dreturn, 1) := by decide +kernel
theorem ef_rm6 (m : MethodId) (a0 : Addr) (i1 : Int32) : entryFrame m #[(.ref a0), (.int i1)] 2 = mkF m 0 #[.val (.ref a0), .val (.int i1)] [] := by first | (simp [entryFrame, mkF, argsToLocals, Value.category]; done) | rfl
def Q_rm6 (Z : State) (a0 : Addr) (i1 : Int32) (as : Addr) (k_as : ClassId) (s0 : UInt64) (s1 : UInt64) (s2 : UInt64) (h0 : Heap) (n0 : Nat) (v : Option Value) (h : Heap) (L : List Loc) : Prop := v = some (.double (if i1 = (0 : Int32) then s0 else (if i1 = (1 : Int32) then s1 else s2))) ∧ Fr n0 L ∧ h = h0
set_option maxRecDepth 65536 in
set_option maxHeartbeats 40000000 in
theorem rm6 (l : Launch) (Z : State) (aw : Array Value) (hw : ∀ d ∈ tables_1, d.before aw Z = true) (ws : List Jvm.Cond) (a0 : Addr) (i1 : Int32) (as : Addr) (k_as : ClassId) (s0 : UInt64) (s1 : UInt64) (s2 : UInt64) (h0 : Heap) (n0 : Nat) (Z0 : n0 ≤ h0.size) (F_sums_a0 : Fld Z h0 a0 "com/example/clirtools/clirtools/DocumentSums" "sums" "[D" (.ref as)) (V_as : Arv Z h0 as k_as .double (3 : Int32) [(.double s0), (.double s1), (.double s2)] (.double (0 : UInt64))) (hd : Three i1) :
    MetFree l (⟨"com/example/clirtools/clirtools/DocumentSums", "sum", "(I)D"⟩ : MethodName) (head1 (Jvm.Cond.code (⟨"com/example/clirtools/clirtools/DocumentSums", "sum", "(I)D"⟩ : MethodName) prog_10_method_5_code 2 (some .double) :: ws) ({ frames := 0, cells := 0, slots := 0, locals := 0 } : Room)) (fun a U => a = #[(.ref a0), (.int i1)] ∧ Z.Warmed39 U.vm ∧ U.heap = h0) (fun _ _ _ _ _ => True) (fun _ U o U' => ∃ v L, o = .returned v ∧ Q_rm6 Z a0 i1 as k_as s0 s1 s2 h0 n0 v U'.heap L ∧ FrameEnd U o U' L ({ frames := 0, cells := 0, slots := 0, locals := 0 } : Room).cells ({ frames := 0, cells := 0, slots := 0, locals := 0 } : Room).slots) := by
  refine MetFree.of_bodySF (plainFor_of_name pn_0) hisR ?_
  intro p e s m args below meth c s₁ Bd hml0 hP hK
  obtain ⟨rfl, hZ, hh⟩ := hP
  have hx := Bd.exec
  have hby := Bd.bytes
  have hml : c.maxLocals = 2 := hml0
  have hown : s.vm.findClass "com/example/clirtools/clirtools/DocumentSums" = some m.cls := findClass_of_methodNamed Bd.named
  have hnm := (name_of_methodNamed Bd.named Bd.method).1
  have hlk : meth.locks = false := BodyLoose.notSynchronized Bd
  have X0 : Stand p l e ({ frames := 0, cells := 0, slots := 0, locals := 0 } : Room) s m #[(.ref a0), (.int i1)] below meth c s₁ [] 0 0 := Stand.of_body Bd
  have e0 : s₁.heap = h0 := by rw [← hh, Bd.state]; rfl
  have N0 := Fr.nil n0
  have ZZ := Z0
  show Go p e below s ({ frames := 0, cells := 0, slots := 0, locals := 0 } : Room).cells ({ frames := 0, cells := 0, slots := 0, locals := 0 } : Room).slots (fun v h L => Q_rm6 Z a0 i1 as k_as s0 s1 s2 h0 n0 v h L) s₁ (entryFrame m #[(.ref a0), (.int i1)] 2)
  refine Go.cast (ef_rm6 m a0 i1) ?_
  refine Go.gen ?_
  intro K1 K2 QQ hK1 hK2 hQQ
  refine Go.on (fun _ k => XS.aloadN X0.here hx rfl (hb hby d6_0) rfl rfl k) ?_
  show Go _ _ _ _ _ _ _ _ (mkF m 1 #[.val (.ref a0), .val (.int i1)] [(.ref a0)])
  obtain ⟨T1, X1, e1, st1⟩ := getF X0 hx hZ hown (host := "") (Or.inl (hw _ (List.mem_of_getElem? (i := 10) rfl))) Via.refl e0 F_sums_a0 (g := (mkF m 1 #[.val (.ref a0), .val (.int i1)] [(.ref a0)])) rfl rfl (hb hby d6_1)
  refine Go.on st1 ?_
  show Go _ _ _ _ _ _ _ _ (mkF m 4 #[.val (.ref a0), .val (.int i1)] [(.ref as)])
  refine Go.on (fun _ k => XS.iloadN X1.here hx rfl (hb hby d6_4) rfl k) ?_
  show Go _ _ _ _ _ _ _ _ (mkF m 5 #[.val (.ref a0), .val (.int i1)] [(.int i1), (.ref as)])
  obtain ⟨cl2, Ar2, -, S2, -, H2, -⟩ := id V_as
  have hin2 : ¬ (i1 < 0 ∨ cl2.slots.size ≤ (i1).toNatClampNeg) := inb_of S2 hd.inb
  refine Go.on (X1.daload hx (j := i1) (v := (.double (if i1 = (0 : Int32) then s0 else (if i1 = (1 : Int32) then s1 else s2)))) (by rw [e1]; exact Ar2.1) (State.isArrayOf_alike hZ.alike Ar2.2.1) Ar2.2.2 hin2 (H2.at hin2 (own_getD hd _ _ _ _)) (g := (mkF m 5 #[.val (.ref a0), .val (.int i1)] [(.int i1), (.ref as)])) rfl rfl (hb hby d6_5)) ?_
  show Go _ _ _ _ _ _ _ _ (mkF m 6 #[.val (.ref a0), .val (.int i1)] [(.double (if i1 = (0 : Int32) then s0 else (if i1 = (1 : Int32) then s1 else s2)))])
  refine Go.retV X1 hx Bd.returns rfl (Or.inr (Or.inr (Or.inl ⟨rfl, rfl, _, rfl⟩))) (hb hby d6_6) ?_ (by rw [hK1]; decide) (by rw [hK2]; decide)
  rw [e1, ← hQQ]
  exact ⟨rfl, N0, rfl⟩
def docV (cnt : Int32) (sm : UInt64) (k d1 d2 d3 a b c : Int32) : Int32 :=
  if cnt = (((if d1 = k then (1 : Int32) else (0 : Int32)) + (if d2 = k then (1 : Int32) else (0 : Int32))) + (if d3 = k then (1 : Int32) else (0 : Int32))) then
    (if (cmpValue (FP.dcmp sm (FP.l2d (((if d1 = k then (a.toInt64) else (0 : Int64)) + (if d2 = k then (b.toInt64) else (0 : Int64))) + (if d3 = k then (c.toInt64) else (0 : Int64))))) .l) = (0 : Int32) then (1 : Int32) else (0 : Int32))
  else (0 : Int32)
section PureLaw
open Jvm.FP.Core
theorem own_three {x d : Int32} (h : ((x &&& (255 : Int32)) % (3 : Int32)) = d) : Three d := by
  have e1 : (x &&& 255).toInt = x.toInt % 2 ^ 8 := Jvm.Kit.i32_mask x 255 (k := 8) (by decide) (by decide)
  have l3 : (3 : Int32).toInt = 3 := by decide
  have e2 : d.toInt = x.toInt % 2 ^ 8 % 3 := by rw [← h, Int32.toInt_mod, e1, l3, Int.tmod_eq_emod_of_nonneg (by omega)]
  have k0 : (0 : Int32).toInt = 0 := by decide
  have k1 : (1 : Int32).toInt = 1 := by decide
  have k2 : (2 : Int32).toInt = 2 := by decide
  unfold Three
  simp only [← Int32.toInt_inj, k0, k1, k2]; omega
/-- what a value adds to the sum of document k -/
def own_w (d k v : Int32) : Int := if d = k then v.toInt else 0
theorem own_wb (d k v : Int32) : (own_w d k v).natAbs ≤ 2147483648 := by
  unfold own_w; have := own_ib v; split <;> omega
theorem own_up0 {d v : Int32} {s0 s1 s2 q : UInt64} {i : Int} (hq : q = (if d = (0 : Int32) then (FP.dadd (if d = (0 : Int32) then s0 else (if d = (1 : Int32) then s1 else s2)) (FP.i2d v)) else s0)) (h : DInt i s0) (hi : i.natAbs ≤ 4294967296) : DInt (i + own_w d (0 : Int32) v) q := by
  have := own_wb d (0 : Int32) v
  rw [hq]; unfold own_w at *
  by_cases e : d = (0 : Int32)
  · subst e
    simp only [if_pos rfl] at *
    exact dadd_int h (i2d_int v) (by omega)
  · simp only [if_neg e]; rw [Int.add_zero]; exact h
theorem own_up1 {d v : Int32} {s0 s1 s2 q : UInt64} {i : Int} (hq : q = (if d = (1 : Int32) then (FP.dadd (if d = (0 : Int32) then s0 else (if d = (1 : Int32) then s1 else s2)) (FP.i2d v)) else s1)) (h : DInt i s1) (hi : i.natAbs ≤ 4294967296) : DInt (i + own_w d (1 : Int32) v) q := by
  have := own_wb d (1 : Int32) v
  rw [hq]; unfold own_w at *
  by_cases e : d = (1 : Int32)
  · subst e
    simp only [if_pos rfl] at *
    exact dadd_int h (i2d_int v) (by omega)
  · simp only [if_neg e]; rw [Int.add_zero]; exact h
theorem own_up2 {d v : Int32} {s0 s1 s2 q : UInt64} {i : Int} (hq : q = (if d = (2 : Int32) then (FP.dadd (if d = (0 : Int32) then s0 else (if d = (1 : Int32) then s1 else s2)) (FP.i2d v)) else s2)) (h : DInt i s2) (hi : i.natAbs ≤ 4294967296) : DInt (i + own_w d (2 : Int32) v) q := by
  have := own_wb d (2 : Int32) v
  rw [hq]; unfold own_w at *
  by_cases e : d = (2 : Int32)
  · subst e
    simp only [if_pos rfl] at *
    exact dadd_int h (i2d_int v) (by omega)
  · simp only [if_neg e]; rw [Int.add_zero]; exact h
theorem own_z1 {d1 z1 : Int32} (t1 : Three d1) (hz1 : z1 = (if (if d1 = (0 : Int32) then (0 : Int32) else (if d1 = (1 : Int32) then (0 : Int32) else (0 : Int32))) = (0 : Int32) then ((0 : Int32) + (1 : Int32)) else (0 : Int32))) : z1 = 1 := by rcases t1 with rfl | rfl | rfl <;> subst hz1 <;> decide
theorem own_z2 {d1 d2 z1 z2 cv1_0 cv1_1 cv1_2 : Int32} (t1 : Three d1) (t2 : Three d2) (hcv1_0 : cv1_0 = (if d1 = (0 : Int32) then ((if d1 = (0 : Int32) then (0 : Int32) else (if d1 = (1 : Int32) then (0 : Int32) else (0 : Int32))) + (1 : Int32)) else (0 : Int32))) (hcv1_1 : cv1_1 = (if d1 = (1 : Int32) then ((if d1 = (0 : Int32) then (0 : Int32) else (if d1 = (1 : Int32) then (0 : Int32) else (0 : Int32))) + (1 : Int32)) else (0 : Int32))) (hcv1_2 : cv1_2 = (if d1 = (2 : Int32) then ((if d1 = (0 : Int32) then (0 : Int32) else (if d1 = (1 : Int32) then (0 : Int32) else (0 : Int32))) + (1 : Int32)) else (0 : Int32))) (hz1 : z1 = (if (if d1 = (0 : Int32) then (0 : Int32) else (if d1 = (1 : Int32) then (0 : Int32) else (0 : Int32))) = (0 : Int32) then ((0 : Int32) + (1 : Int32)) else (0 : Int32))) (hz2 : z2 = (if (if d2 = (0 : Int32) then cv1_0 else (if d2 = (1 : Int32) then cv1_1 else cv1_2)) = (0 : Int32) then (z1 + (1 : Int32)) else z1)) : Three z2 := by
  rcases t1 with rfl | rfl | rfl <;> rcases t2 with rfl | rfl | rfl <;> subst hz2 hz1 hcv1_0 hcv1_1 hcv1_2 <;> unfold Three <;> decide
set_option maxHeartbeats 4000000 in
theorem own_cases {d1 d2 d3 z1 cv1_0 ev1_0 cv1_1 ev1_1 cv1_2 ev1_2 z2 cv2_0 ev2_0 cv2_1 ev2_1 cv2_2 ev2_2 z3 cv3_0 ev3_0 cv3_1 ev3_1 cv3_2 ev3_2 : Int32} (t1 : Three d1) (t2 : Three d2) (t3 : Three d3) (hcv1_0 : cv1_0 = (if d1 = (0 : Int32) then ((if d1 = (0 : Int32) then (0 : Int32) else (if d1 = (1 : Int32) then (0 : Int32) else (0 : Int32))) + (1 : Int32)) else (0 : Int32))) (hcv1_1 : cv1_1 = (if d1 = (1 : Int32) then ((if d1 = (0 : Int32) then (0 : Int32) else (if d1 = (1 : Int32) then (0 : Int32) else (0 : Int32))) + (1 : Int32)) else (0 : Int32))) (hcv1_2 : cv1_2 = (if d1 = (2 : Int32) then ((if d1 = (0 : Int32) then (0 : Int32) else (if d1 = (1 : Int32) then (0 : Int32) else (0 : Int32))) + (1 : Int32)) else (0 : Int32))) (hev1_0 : ev1_0 = (if (if d1 = (0 : Int32) then (0 : Int32) else (if d1 = (1 : Int32) then (0 : Int32) else (0 : Int32))) = (0 : Int32) then (if (0 : Int32) = (0 : Int32) then d1 else (0 : Int32)) else (0 : Int32))) (hev1_1 : ev1_1 = (if (if d1 = (0 : Int32) then (0 : Int32) else (if d1 = (1 : Int32) then (0 : Int32) else (0 : Int32))) = (0 : Int32) then (if (0 : Int32) = (1 : Int32) then d1 else (0 : Int32)) else (0 : Int32))) (hev1_2 : ev1_2 = (if (if d1 = (0 : Int32) then (0 : Int32) else (if d1 = (1 : Int32) then (0 : Int32) else (0 : Int32))) = (0 : Int32) then (if (0 : Int32) = (2 : Int32) then d1 else (0 : Int32)) else (0 : Int32))) (hz1 : z1 = (if (if d1 = (0 : Int32) then (0 : Int32) else (if d1 = (1 : Int32) then (0 : Int32) else (0 : Int32))) = (0 : Int32) then ((0 : Int32) + (1 : Int32)) else (0 : Int32))) (hcv2_0 : cv2_0 = (if d2 = (0 : Int32) then ((if d2 = (0 : Int32) then cv1_0 else (if d2 = (1 : Int32) then cv1_1 else cv1_2)) + (1 : Int32)) else cv1_0)) (hcv2_1 : cv2_1 = (if d2 = (1 : Int32) then ((if d2 = (0 : Int32) then cv1_0 else (if d2 = (1 : Int32) then cv1_1 else cv1_2)) + (1 : Int32)) else cv1_1)) (hcv2_2 : cv2_2 = (if d2 = (2 : Int32) then ((if d2 = (0 : Int32) then cv1_0 else (if d2 = (1 : Int32) then cv1_1 else cv1_2)) + (1 : Int32)) else cv1_2)) (hev2_0 : ev2_0 = (if (if d2 = (0 : Int32) then cv1_0 else (if d2 = (1 : Int32) then cv1_1 else cv1_2)) = (0 : Int32) then (if z1 = (0 : Int32) then d2 else ev1_0) else ev1_0)) (hev2_1 : ev2_1 = (if (if d2 = (0 : Int32) then cv1_0 else (if d2 = (1 : Int32) then cv1_1 else cv1_2)) = (0 : Int32) then (if z1 = (1 : Int32) then d2 else ev1_1) else ev1_1)) (hev2_2 : ev2_2 = (if (if d2 = (0 : Int32) then cv1_0 else (if d2 = (1 : Int32) then cv1_1 else cv1_2)) = (0 : Int32) then (if z1 = (2 : Int32) then d2 else ev1_2) else ev1_2)) (hz2 : z2 = (if (if d2 = (0 : Int32) then cv1_0 else (if d2 = (1 : Int32) then cv1_1 else cv1_2)) = (0 : Int32) then (z1 + (1 : Int32)) else z1)) (hcv3_0 : cv3_0 = (if d3 = (0 : Int32) then ((if d3 = (0 : Int32) then cv2_0 else (if d3 = (1 : Int32) then cv2_1 else cv2_2)) + (1 : Int32)) else cv2_0)) (hcv3_1 : cv3_1 = (if d3 = (1 : Int32) then ((if d3 = (0 : Int32) then cv2_0 else (if d3 = (1 : Int32) then cv2_1 else cv2_2)) + (1 : Int32)) else cv2_1)) (hcv3_2 : cv3_2 = (if d3 = (2 : Int32) then ((if d3 = (0 : Int32) then cv2_0 else (if d3 = (1 : Int32) then cv2_1 else cv2_2)) + (1 : Int32)) else cv2_2)) (hev3_0 : ev3_0 = (if (if d3 = (0 : Int32) then cv2_0 else (if d3 = (1 : Int32) then cv2_1 else cv2_2)) = (0 : Int32) then (if z2 = (0 : Int32) then d3 else ev2_0) else ev2_0)) (hev3_1 : ev3_1 = (if (if d3 = (0 : Int32) then cv2_0 else (if d3 = (1 : Int32) then cv2_1 else cv2_2)) = (0 : Int32) then (if z2 = (1 : Int32) then d3 else ev2_1) else ev2_1)) (hev3_2 : ev3_2 = (if (if d3 = (0 : Int32) then cv2_0 else (if d3 = (1 : Int32) then cv2_1 else cv2_2)) = (0 : Int32) then (if z2 = (2 : Int32) then d3 else ev2_2) else ev2_2)) (hz3 : z3 = (if (if d3 = (0 : Int32) then cv2_0 else (if d3 = (1 : Int32) then cv2_1 else cv2_2)) = (0 : Int32) then (z2 + (1 : Int32)) else z2)) :
    z3 = (((1 : Int32) + (if d2 = d1 then (0 : Int32) else (1 : Int32))) + (if d3 = d1 then (0 : Int32) else (if d3 = d2 then (0 : Int32) else (1 : Int32)))) ∧ ev3_0 = d1 ∧ (¬ (z3 < (2 : Int32)) → ev3_1 = (if d2 = d1 then d3 else d2)) ∧ (¬ (z3 < (3 : Int32)) → ev3_2 = d3) ∧ cv3_0 = (((if d1 = (0 : Int32) then (1 : Int32) else (0 : Int32)) + (if d2 = (0 : Int32) then (1 : Int32) else (0 : Int32))) + (if d3 = (0 : Int32) then (1 : Int32) else (0 : Int32))) ∧ cv3_1 = (((if d1 = (1 : Int32) then (1 : Int32) else (0 : Int32)) + (if d2 = (1 : Int32) then (1 : Int32) else (0 : Int32))) + (if d3 = (1 : Int32) then (1 : Int32) else (0 : Int32))) ∧ cv3_2 = (((if d1 = (2 : Int32) then (1 : Int32) else (0 : Int32)) + (if d2 = (2 : Int32) then (1 : Int32) else (0 : Int32))) + (if d3 = (2 : Int32) then (1 : Int32) else (0 : Int32))) := by
  rcases t1 with rfl | rfl | rfl <;> rcases t2 with rfl | rfl | rfl <;> rcases t3 with rfl | rfl | rfl <;> subst hz3 hev3_2 hev3_1 hev3_0 hcv3_2 hcv3_1 hcv3_0 hz2 hev2_2 hev2_1 hev2_0 hcv2_2 hcv2_1 hcv2_0 hz1 hev1_2 hev1_1 hev1_0 hcv1_2 hcv1_1 hcv1_0 <;> decide
theorem own_hz1 {i0 d1 d2 d3 : Int32} (hd1 : ((i0 &&& (255 : Int32)) % (3 : Int32)) = d1) (hd2 : ((((i0.toUInt32 >>> ((8 : Int32) &&& 31).toUInt32).toInt32) &&& (255 : Int32)) % (3 : Int32)) = d2) (hd3 : ((((i0.toUInt32 >>> ((16 : Int32) &&& 31).toUInt32).toInt32) &&& (255 : Int32)) % (3 : Int32)) = d3) : (if d1 = (0 : Int32) then (0 : Int32) else (if d1 = (1 : Int32) then (0 : Int32) else (0 : Int32))) = (0 : Int32) → Three (0 : Int32) := fun _ => Or.inl rfl
theorem own_hz2 {i0 d1 d2 d3 i1 z1 cv1_0 ev1_0 cv1_1 ev1_1 cv1_2 ev1_2 : Int32} {sv1_0 sv1_1 sv1_2 : UInt64} (hd1 : ((i0 &&& (255 : Int32)) % (3 : Int32)) = d1) (hd2 : ((((i0.toUInt32 >>> ((8 : Int32) &&& 31).toUInt32).toInt32) &&& (255 : Int32)) % (3 : Int32)) = d2) (hd3 : ((((i0.toUInt32 >>> ((16 : Int32) &&& 31).toUInt32).toInt32) &&& (255 : Int32)) % (3 : Int32)) = d3) (hsv1_0 : sv1_0 = (if d1 = (0 : Int32) then (FP.dadd (if d1 = (0 : Int32) then (0 : UInt64) else (if d1 = (1 : Int32) then (0 : UInt64) else (0 : UInt64))) (FP.i2d i1)) else (0 : UInt64))) (hsv1_1 : sv1_1 = (if d1 = (1 : Int32) then (FP.dadd (if d1 = (0 : Int32) then (0 : UInt64) else (if d1 = (1 : Int32) then (0 : UInt64) else (0 : UInt64))) (FP.i2d i1)) else (0 : UInt64))) (hsv1_2 : sv1_2 = (if d1 = (2 : Int32) then (FP.dadd (if d1 = (0 : Int32) then (0 : UInt64) else (if d1 = (1 : Int32) then (0 : UInt64) else (0 : UInt64))) (FP.i2d i1)) else (0 : UInt64))) (hcv1_0 : cv1_0 = (if d1 = (0 : Int32) then ((if d1 = (0 : Int32) then (0 : Int32) else (if d1 = (1 : Int32) then (0 : Int32) else (0 : Int32))) + (1 : Int32)) else (0 : Int32))) (hcv1_1 : cv1_1 = (if d1 = (1 : Int32) then ((if d1 = (0 : Int32) then (0 : Int32) else (if d1 = (1 : Int32) then (0 : Int32) else (0 : Int32))) + (1 : Int32)) else (0 : Int32))) (hcv1_2 : cv1_2 = (if d1 = (2 : Int32) then ((if d1 = (0 : Int32) then (0 : Int32) else (if d1 = (1 : Int32) then (0 : Int32) else (0 : Int32))) + (1 : Int32)) else (0 : Int32))) (hev1_0 : ev1_0 = (if (if d1 = (0 : Int32) then (0 : Int32) else (if d1 = (1 : Int32) then (0 : Int32) else (0 : Int32))) = (0 : Int32) then (if (0 : Int32) = (0 : Int32) then d1 else (0 : Int32)) else (0 : Int32))) (hev1_1 : ev1_1 = (if (if d1 = (0 : Int32) then (0 : Int32) else (if d1 = (1 : Int32) then (0 : Int32) else (0 : Int32))) = (0 : Int32) then (if (0 : Int32) = (1 : Int32) then d1 else (0 : Int32)) else (0 : Int32))) (hev1_2 : ev1_2 = (if (if d1 = (0 : Int32) then (0 : Int32) else (if d1 = (1 : Int32) then (0 : Int32) else (0 : Int32))) = (0 : Int32) then (if (0 : Int32) = (2 : Int32) then d1 else (0 : Int32)) else (0 : Int32))) (hz1 : z1 = (if (if d1 = (0 : Int32) then (0 : Int32) else (if d1 = (1 : Int32) then (0 : Int32) else (0 : Int32))) = (0 : Int32) then ((0 : Int32) + (1 : Int32)) else (0 : Int32))) : (if d2 = (0 : Int32) then cv1_0 else (if d2 = (1 : Int32) then cv1_1 else cv1_2)) = (0 : Int32) → Three z1 := fun _ => by rw [own_z1 (own_three hd1) hz1]; exact Or.inr (Or.inl rfl)
theorem own_hz3 {i0 d1 d2 d3 i1 i2 z1 cv1_0 ev1_0 cv1_1 ev1_1 cv1_2 ev1_2 z2 cv2_0 ev2_0 cv2_1 ev2_1 cv2_2 ev2_2 : Int32} {sv1_0 sv1_1 sv1_2 sv2_0 sv2_1 sv2_2 : UInt64} (hd1 : ((i0 &&& (255 : Int32)) % (3 : Int32)) = d1) (hd2 : ((((i0.toUInt32 >>> ((8 : Int32) &&& 31).toUInt32).toInt32) &&& (255 : Int32)) % (3 : Int32)) = d2) (hd3 : ((((i0.toUInt32 >>> ((16 : Int32) &&& 31).toUInt32).toInt32) &&& (255 : Int32)) % (3 : Int32)) = d3) (hsv1_0 : sv1_0 = (if d1 = (0 : Int32) then (FP.dadd (if d1 = (0 : Int32) then (0 : UInt64) else (if d1 = (1 : Int32) then (0 : UInt64) else (0 : UInt64))) (FP.i2d i1)) else (0 : UInt64))) (hsv1_1 : sv1_1 = (if d1 = (1 : Int32) then (FP.dadd (if d1 = (0 : Int32) then (0 : UInt64) else (if d1 = (1 : Int32) then (0 : UInt64) else (0 : UInt64))) (FP.i2d i1)) else (0 : UInt64))) (hsv1_2 : sv1_2 = (if d1 = (2 : Int32) then (FP.dadd (if d1 = (0 : Int32) then (0 : UInt64) else (if d1 = (1 : Int32) then (0 : UInt64) else (0 : UInt64))) (FP.i2d i1)) else (0 : UInt64))) (hcv1_0 : cv1_0 = (if d1 = (0 : Int32) then ((if d1 = (0 : Int32) then (0 : Int32) else (if d1 = (1 : Int32) then (0 : Int32) else (0 : Int32))) + (1 : Int32)) else (0 : Int32))) (hcv1_1 : cv1_1 = (if d1 = (1 : Int32) then ((if d1 = (0 : Int32) then (0 : Int32) else (if d1 = (1 : Int32) then (0 : Int32) else (0 : Int32))) + (1 : Int32)) else (0 : Int32))) (hcv1_2 : cv1_2 = (if d1 = (2 : Int32) then ((if d1 = (0 : Int32) then (0 : Int32) else (if d1 = (1 : Int32) then (0 : Int32) else (0 : Int32))) + (1 : Int32)) else (0 : Int32))) (hev1_0 : ev1_0 = (if (if d1 = (0 : Int32) then (0 : Int32) else (if d1 = (1 : Int32) then (0 : Int32) else (0 : Int32))) = (0 : Int32) then (if (0 : Int32) = (0 : Int32) then d1 else (0 : Int32)) else (0 : Int32))) (hev1_1 : ev1_1 = (if (if d1 = (0 : Int32) then (0 : Int32) else (if d1 = (1 : Int32) then (0 : Int32) else (0 : Int32))) = (0 : Int32) then (if (0 : Int32) = (1 : Int32) then d1 else (0 : Int32)) else (0 : Int32))) (hev1_2 : ev1_2 = (if (if d1 = (0 : Int32) then (0 : Int32) else (if d1 = (1 : Int32) then (0 : Int32) else (0 : Int32))) = (0 : Int32) then (if (0 : Int32) = (2 : Int32) then d1 else (0 : Int32)) else (0 : Int32))) (hz1 : z1 = (if (if d1 = (0 : Int32) then (0 : Int32) else (if d1 = (1 : Int32) then (0 : Int32) else (0 : Int32))) = (0 : Int32) then ((0 : Int32) + (1 : Int32)) else (0 : Int32))) (hsv2_0 : sv2_0 = (if d2 = (0 : Int32) then (FP.dadd (if d2 = (0 : Int32) then sv1_0 else (if d2 = (1 : Int32) then sv1_1 else sv1_2)) (FP.i2d i2)) else sv1_0)) (hsv2_1 : sv2_1 = (if d2 = (1 : Int32) then (FP.dadd (if d2 = (0 : Int32) then sv1_0 else (if d2 = (1 : Int32) then sv1_1 else sv1_2)) (FP.i2d i2)) else sv1_1)) (hsv2_2 : sv2_2 = (if d2 = (2 : Int32) then (FP.dadd (if d2 = (0 : Int32) then sv1_0 else (if d2 = (1 : Int32) then sv1_1 else sv1_2)) (FP.i2d i2)) else sv1_2)) (hcv2_0 : cv2_0 = (if d2 = (0 : Int32) then ((if d2 = (0 : Int32) then cv1_0 else (if d2 = (1 : Int32) then cv1_1 else cv1_2)) + (1 : Int32)) else cv1_0)) (hcv2_1 : cv2_1 = (if d2 = (1 : Int32) then ((if d2 = (0 : Int32) then cv1_0 else (if d2 = (1 : Int32) then cv1_1 else cv1_2)) + (1 : Int32)) else cv1_1)) (hcv2_2 : cv2_2 = (if d2 = (2 : Int32) then ((if d2 = (0 : Int32) then cv1_0 else (if d2 = (1 : Int32) then cv1_1 else cv1_2)) + (1 : Int32)) else cv1_2)) (hev2_0 : ev2_0 = (if (if d2 = (0 : Int32) then cv1_0 else (if d2 = (1 : Int32) then cv1_1 else cv1_2)) = (0 : Int32) then (if z1 = (0 : Int32) then d2 else ev1_0) else ev1_0)) (hev2_1 : ev2_1 = (if (if d2 = (0 : Int32) then cv1_0 else (if d2 = (1 : Int32) then cv1_1 else cv1_2)) = (0 : Int32) then (if z1 = (1 : Int32) then d2 else ev1_1) else ev1_1)) (hev2_2 : ev2_2 = (if (if d2 = (0 : Int32) then cv1_0 else (if d2 = (1 : Int32) then cv1_1 else cv1_2)) = (0 : Int32) then (if z1 = (2 : Int32) then d2 else ev1_2) else ev1_2)) (hz2 : z2 = (if (if d2 = (0 : Int32) then cv1_0 else (if d2 = (1 : Int32) then cv1_1 else cv1_2)) = (0 : Int32) then (z1 + (1 : Int32)) else z1)) : (if d3 = (0 : Int32) then cv2_0 else (if d3 = (1 : Int32) then cv2_1 else cv2_2)) = (0 : Int32) → Three z2 := fun _ => own_z2 (own_three hd1) (own_three hd2) hcv1_0 hcv1_1 hcv1_2 hz1 hz2
theorem own_S1 {d1 i1 : Int32} {sv1_0 sv1_1 sv1_2 : UInt64} (hsv1_0 : sv1_0 = (if d1 = (0 : Int32) then (FP.dadd (if d1 = (0 : Int32) then (0 : UInt64) else (if d1 = (1 : Int32) then (0 : UInt64) else (0 : UInt64))) (FP.i2d i1)) else (0 : UInt64))) (hsv1_1 : sv1_1 = (if d1 = (1 : Int32) then (FP.dadd (if d1 = (0 : Int32) then (0 : UInt64) else (if d1 = (1 : Int32) then (0 : UInt64) else (0 : UInt64))) (FP.i2d i1)) else (0 : UInt64))) (hsv1_2 : sv1_2 = (if d1 = (2 : Int32) then (FP.dadd (if d1 = (0 : Int32) then (0 : UInt64) else (if d1 = (1 : Int32) then (0 : UInt64) else (0 : UInt64))) (FP.i2d i1)) else (0 : UInt64))) : DInt (0 + own_w d1 0 i1) sv1_0 ∧ DInt (0 + own_w d1 1 i1) sv1_1 ∧ DInt (0 + own_w d1 2 i1) sv1_2 :=
  ⟨own_up0 (s1 := 0) (s2 := 0) hsv1_0 own_dz (by decide), own_up1 (s0 := 0) (s2 := 0) hsv1_1 own_dz (by decide), own_up2 (s0 := 0) (s1 := 0) hsv1_2 own_dz (by decide)⟩
theorem own_S2 {d1 i1 d2 i2 : Int32} {sv1_0 sv1_1 sv1_2 sv2_0 sv2_1 sv2_2 : UInt64} (hsv1_0 : sv1_0 = (if d1 = (0 : Int32) then (FP.dadd (if d1 = (0 : Int32) then (0 : UInt64) else (if d1 = (1 : Int32) then (0 : UInt64) else (0 : UInt64))) (FP.i2d i1)) else (0 : UInt64))) (hsv1_1 : sv1_1 = (if d1 = (1 : Int32) then (FP.dadd (if d1 = (0 : Int32) then (0 : UInt64) else (if d1 = (1 : Int32) then (0 : UInt64) else (0 : UInt64))) (FP.i2d i1)) else (0 : UInt64))) (hsv1_2 : sv1_2 = (if d1 = (2 : Int32) then (FP.dadd (if d1 = (0 : Int32) then (0 : UInt64) else (if d1 = (1 : Int32) then (0 : UInt64) else (0 : UInt64))) (FP.i2d i1)) else (0 : UInt64))) (hsv2_0 : sv2_0 = (if d2 = (0 : Int32) then (FP.dadd (if d2 = (0 : Int32) then sv1_0 else (if d2 = (1 : Int32) then sv1_1 else sv1_2)) (FP.i2d i2)) else sv1_0)) (hsv2_1 : sv2_1 = (if d2 = (1 : Int32) then (FP.dadd (if d2 = (0 : Int32) then sv1_0 else (if d2 = (1 : Int32) then sv1_1 else sv1_2)) (FP.i2d i2)) else sv1_1)) (hsv2_2 : sv2_2 = (if d2 = (2 : Int32) then (FP.dadd (if d2 = (0 : Int32) then sv1_0 else (if d2 = (1 : Int32) then sv1_1 else sv1_2)) (FP.i2d i2)) else sv1_2)) : DInt (0 + own_w d1 0 i1 + own_w d2 0 i2) sv2_0 ∧ DInt (0 + own_w d1 1 i1 + own_w d2 1 i2) sv2_1 ∧ DInt (0 + own_w d1 2 i1 + own_w d2 2 i2) sv2_2 := by
  obtain ⟨p0, p1, p2⟩ := own_S1 hsv1_0 hsv1_1 hsv1_2
  have b1_0 := own_wb d1 0 i1
  have b2_0 := own_wb d2 0 i2
  have b1_1 := own_wb d1 1 i1
  have b2_1 := own_wb d2 1 i2
  have b1_2 := own_wb d1 2 i1
  have b2_2 := own_wb d2 2 i2
  exact ⟨own_up0 hsv2_0 p0 (by omega), own_up1 hsv2_1 p1 (by omega), own_up2 hsv2_2 p2 (by omega)⟩
theorem own_S3 {d1 i1 d2 i2 d3 i3 : Int32} {sv1_0 sv1_1 sv1_2 sv2_0 sv2_1 sv2_2 sv3_0 sv3_1 sv3_2 : UInt64} (hsv1_0 : sv1_0 = (if d1 = (0 : Int32) then (FP.dadd (if d1 = (0 : Int32) then (0 : UInt64) else (if d1 = (1 : Int32) then (0 : UInt64) else (0 : UInt64))) (FP.i2d i1)) else (0 : UInt64))) (hsv1_1 : sv1_1 = (if d1 = (1 : Int32) then (FP.dadd (if d1 = (0 : Int32) then (0 : UInt64) else (if d1 = (1 : Int32) then (0 : UInt64) else (0 : UInt64))) (FP.i2d i1)) else (0 : UInt64))) (hsv1_2 : sv1_2 = (if d1 = (2 : Int32) then (FP.dadd (if d1 = (0 : Int32) then (0 : UInt64) else (if d1 = (1 : Int32) then (0 : UInt64) else (0 : UInt64))) (FP.i2d i1)) else (0 : UInt64))) (hsv2_0 : sv2_0 = (if d2 = (0 : Int32) then (FP.dadd (if d2 = (0 : Int32) then sv1_0 else (if d2 = (1 : Int32) then sv1_1 else sv1_2)) (FP.i2d i2)) else sv1_0)) (hsv2_1 : sv2_1 = (if d2 = (1 : Int32) then (FP.dadd (if d2 = (0 : Int32) then sv1_0 else (if d2 = (1 : Int32) then sv1_1 else sv1_2)) (FP.i2d i2)) else sv1_1)) (hsv2_2 : sv2_2 = (if d2 = (2 : Int32) then (FP.dadd (if d2 = (0 : Int32) then sv1_0 else (if d2 = (1 : Int32) then sv1_1 else sv1_2)) (FP.i2d i2)) else sv1_2)) (hsv3_0 : sv3_0 = (if d3 = (0 : Int32) then (FP.dadd (if d3 = (0 : Int32) then sv2_0 else (if d3 = (1 : Int32) then sv2_1 else sv2_2)) (FP.i2d i3)) else sv2_0)) (hsv3_1 : sv3_1 = (if d3 = (1 : Int32) then (FP.dadd (if d3 = (0 : Int32) then sv2_0 else (if d3 = (1 : Int32) then sv2_1 else sv2_2)) (FP.i2d i3)) else sv2_1)) (hsv3_2 : sv3_2 = (if d3 = (2 : Int32) then (FP.dadd (if d3 = (0 : Int32) then sv2_0 else (if d3 = (1 : Int32) then sv2_1 else sv2_2)) (FP.i2d i3)) else sv2_2)) : DInt (0 + own_w d1 0 i1 + own_w d2 0 i2 + own_w d3 0 i3) sv3_0 ∧ DInt (0 + own_w d1 1 i1 + own_w d2 1 i2 + own_w d3 1 i3) sv3_1 ∧ DInt (0 + own_w d1 2 i1 + own_w d2 2 i2 + own_w d3 2 i3) sv3_2 := by
  obtain ⟨p0, p1, p2⟩ := own_S2 hsv1_0 hsv1_1 hsv1_2 hsv2_0 hsv2_1 hsv2_2
  have b1_0 := own_wb d1 0 i1
  have b2_0 := own_wb d2 0 i2
  have b3_0 := own_wb d3 0 i3
  have b1_1 := own_wb d1 1 i1
  have b2_1 := own_wb d2 1 i2
  have b3_1 := own_wb d3 1 i3
  have b1_2 := own_wb d1 2 i1
  have b2_2 := own_wb d2 2 i2
  have b3_2 := own_wb d3 2 i3
  exact ⟨own_up0 hsv3_0 p0 (by omega), own_up1 hsv3_1 p1 (by omega), own_up2 hsv3_2 p2 (by omega)⟩
theorem own_pickI {d v : Int32} {s0 s1 s2 : UInt64} {a b c : Int} (t : Three d) (h0 : DInt a s0) (h1 : DInt b s1) (h2 : DInt c s2) (ha : a.natAbs ≤ 4294967296) (hb : b.natAbs ≤ 4294967296) (hc : c.natAbs ≤ 4294967296) : Jvm.Free.Fl.NoNaN64 (FP.dadd (if d = (0 : Int32) then s0 else (if d = (1 : Int32) then s1 else s2)) (FP.i2d v)) := by
  have := own_ib v
  rcases t with rfl | rfl | rfl
  · exact own_dnn (dadd_int h0 (i2d_int v) (by omega))
  · exact own_dnn (dadd_int h1 (i2d_int v) (by omega))
  · exact own_dnn (dadd_int h2 (i2d_int v) (by omega))
theorem own_nn1 {i0 d1 d2 d3 i1 : Int32} (hd1 : ((i0 &&& (255 : Int32)) % (3 : Int32)) = d1) (hd2 : ((((i0.toUInt32 >>> ((8 : Int32) &&& 31).toUInt32).toInt32) &&& (255 : Int32)) % (3 : Int32)) = d2) (hd3 : ((((i0.toUInt32 >>> ((16 : Int32) &&& 31).toUInt32).toInt32) &&& (255 : Int32)) % (3 : Int32)) = d3) (j1 j2 j3 : Int32) : Jvm.Free.Fl.NoNaN64 (FP.dadd (if d1 = (0 : Int32) then (0 : UInt64) else (if d1 = (1 : Int32) then (0 : UInt64) else (0 : UInt64))) (FP.i2d i1)) := by
  exact own_pickI (own_three hd1) own_dz own_dz own_dz (by decide) (by decide) (by decide)
theorem own_nn2 {i0 d1 d2 d3 i1 i2 z1 cv1_0 ev1_0 cv1_1 ev1_1 cv1_2 ev1_2 : Int32} {sv1_0 sv1_1 sv1_2 : UInt64} (hd1 : ((i0 &&& (255 : Int32)) % (3 : Int32)) = d1) (hd2 : ((((i0.toUInt32 >>> ((8 : Int32) &&& 31).toUInt32).toInt32) &&& (255 : Int32)) % (3 : Int32)) = d2) (hd3 : ((((i0.toUInt32 >>> ((16 : Int32) &&& 31).toUInt32).toInt32) &&& (255 : Int32)) % (3 : Int32)) = d3) (hsv1_0 : sv1_0 = (if d1 = (0 : Int32) then (FP.dadd (if d1 = (0 : Int32) then (0 : UInt64) else (if d1 = (1 : Int32) then (0 : UInt64) else (0 : UInt64))) (FP.i2d i1)) else (0 : UInt64))) (hsv1_1 : sv1_1 = (if d1 = (1 : Int32) then (FP.dadd (if d1 = (0 : Int32) then (0 : UInt64) else (if d1 = (1 : Int32) then (0 : UInt64) else (0 : UInt64))) (FP.i2d i1)) else (0 : UInt64))) (hsv1_2 : sv1_2 = (if d1 = (2 : Int32) then (FP.dadd (if d1 = (0 : Int32) then (0 : UInt64) else (if d1 = (1 : Int32) then (0 : UInt64) else (0 : UInt64))) (FP.i2d i1)) else (0 : UInt64))) (hcv1_0 : cv1_0 = (if d1 = (0 : Int32) then ((if d1 = (0 : Int32) then (0 : Int32) else (if d1 = (1 : Int32) then (0 : Int32) else (0 : Int32))) + (1 : Int32)) else (0 : Int32))) (hcv1_1 : cv1_1 = (if d1 = (1 : Int32) then ((if d1 = (0 : Int32) then (0 : Int32) else (if d1 = (1 : Int32) then (0 : Int32) else (0 : Int32))) + (1 : Int32)) else (0 : Int32))) (hcv1_2 : cv1_2 = (if d1 = (2 : Int32) then ((if d1 = (0 : Int32) then (0 : Int32) else (if d1 = (1 : Int32) then (0 : Int32) else (0 : Int32))) + (1 : Int32)) else (0 : Int32))) (hev1_0 : ev1_0 = (if (if d1 = (0 : Int32) then (0 : Int32) else (if d1 = (1 : Int32) then (0 : Int32) else (0 : Int32))) = (0 : Int32) then (if (0 : Int32) = (0 : Int32) then d1 else (0 : Int32)) else (0 : Int32))) (hev1_1 : ev1_1 = (if (if d1 = (0 : Int32) then (0 : Int32) else (if d1 = (1 : Int32) then (0 : Int32) else (0 : Int32))) = (0 : Int32) then (if (0 : Int32) = (1 : Int32) then d1 else (0 : Int32)) else (0 : Int32))) (hev1_2 : ev1_2 = (if (if d1 = (0 : Int32) then (0 : Int32) else (if d1 = (1 : Int32) then (0 : Int32) else (0 : Int32))) = (0 : Int32) then (if (0 : Int32) = (2 : Int32) then d1 else (0 : Int32)) else (0 : Int32))) (hz1 : z1 = (if (if d1 = (0 : Int32) then (0 : Int32) else (if d1 = (1 : Int32) then (0 : Int32) else (0 : Int32))) = (0 : Int32) then ((0 : Int32) + (1 : Int32)) else (0 : Int32))) (j1 j2 j3 : Int32) : Jvm.Free.Fl.NoNaN64 (FP.dadd (if d2 = (0 : Int32) then sv1_0 else (if d2 = (1 : Int32) then sv1_1 else sv1_2)) (FP.i2d i2)) := by
  obtain ⟨p0, p1, p2⟩ := own_S1 hsv1_0 hsv1_1 hsv1_2
  have b1_0 := own_wb d1 0 i1
  have b1_1 := own_wb d1 1 i1
  have b1_2 := own_wb d1 2 i1
  exact own_pickI (own_three hd2) p0 p1 p2 (by omega) (by omega) (by omega)
theorem own_nn3 {i0 d1 d2 d3 i1 i2 i3 z1 cv1_0 ev1_0 cv1_1 ev1_1 cv1_2 ev1_2 z2 cv2_0 ev2_0 cv2_1 ev2_1 cv2_2 ev2_2 : Int32} {sv1_0 sv1_1 sv1_2 sv2_0 sv2_1 sv2_2 : UInt64} (hd1 : ((i0 &&& (255 : Int32)) % (3 : Int32)) = d1) (hd2 : ((((i0.toUInt32 >>> ((8 : Int32) &&& 31).toUInt32).toInt32) &&& (255 : Int32)) % (3 : Int32)) = d2) (hd3 : ((((i0.toUInt32 >>> ((16 : Int32) &&& 31).toUInt32).toInt32) &&& (255 : Int32)) % (3 : Int32)) = d3) (hsv1_0 : sv1_0 = (if d1 = (0 : Int32) then (FP.dadd (if d1 = (0 : Int32) then (0 : UInt64) else (if d1 = (1 : Int32) then (0 : UInt64) else (0 : UInt64))) (FP.i2d i1)) else (0 : UInt64))) (hsv1_1 : sv1_1 = (if d1 = (1 : Int32) then (FP.dadd (if d1 = (0 : Int32) then (0 : UInt64) else (if d1 = (1 : Int32) then (0 : UInt64) else (0 : UInt64))) (FP.i2d i1)) else (0 : UInt64))) (hsv1_2 : sv1_2 = (if d1 = (2 : Int32) then (FP.dadd (if d1 = (0 : Int32) then (0 : UInt64) else (if d1 = (1 : Int32) then (0 : UInt64) else (0 : UInt64))) (FP.i2d i1)) else (0 : UInt64))) (hcv1_0 : cv1_0 = (if d1 = (0 : Int32) then ((if d1 = (0 : Int32) then (0 : Int32) else (if d1 = (1 : Int32) then (0 : Int32) else (0 : Int32))) + (1 : Int32)) else (0 : Int32))) (hcv1_1 : cv1_1 = (if d1 = (1 : Int32) then ((if d1 = (0 : Int32) then (0 : Int32) else (if d1 = (1 : Int32) then (0 : Int32) else (0 : Int32))) + (1 : Int32)) else (0 : Int32))) (hcv1_2 : cv1_2 = (if d1 = (2 : Int32) then ((if d1 = (0 : Int32) then (0 : Int32) else (if d1 = (1 : Int32) then (0 : Int32) else (0 : Int32))) + (1 : Int32)) else (0 : Int32))) (hev1_0 : ev1_0 = (if (if d1 = (0 : Int32) then (0 : Int32) else (if d1 = (1 : Int32) then (0 : Int32) else (0 : Int32))) = (0 : Int32) then (if (0 : Int32) = (0 : Int32) then d1 else (0 : Int32)) else (0 : Int32))) (hev1_1 : ev1_1 = (if (if d1 = (0 : Int32) then (0 : Int32) else (if d1 = (1 : Int32) then (0 : Int32) else (0 : Int32))) = (0 : Int32) then (if (0 : Int32) = (1 : Int32) then d1 else (0 : Int32)) else (0 : Int32))) (hev1_2 : ev1_2 = (if (if d1 = (0 : Int32) then (0 : Int32) else (if d1 = (1 : Int32) then (0 : Int32) else (0 : Int32))) = (0 : Int32) then (if (0 : Int32) = (2 : Int32) then d1 else (0 : Int32)) else (0 : Int32))) (hz1 : z1 = (if (if d1 = (0 : Int32) then (0 : Int32) else (if d1 = (1 : Int32) then (0 : Int32) else (0 : Int32))) = (0 : Int32) then ((0 : Int32) + (1 : Int32)) else (0 : Int32))) (hsv2_0 : sv2_0 = (if d2 = (0 : Int32) then (FP.dadd (if d2 = (0 : Int32) then sv1_0 else (if d2 = (1 : Int32) then sv1_1 else sv1_2)) (FP.i2d i2)) else sv1_0)) (hsv2_1 : sv2_1 = (if d2 = (1 : Int32) then (FP.dadd (if d2 = (0 : Int32) then sv1_0 else (if d2 = (1 : Int32) then sv1_1 else sv1_2)) (FP.i2d i2)) else sv1_1)) (hsv2_2 : sv2_2 = (if d2 = (2 : Int32) then (FP.dadd (if d2 = (0 : Int32) then sv1_0 else (if d2 = (1 : Int32) then sv1_1 else sv1_2)) (FP.i2d i2)) else sv1_2)) (hcv2_0 : cv2_0 = (if d2 = (0 : Int32) then ((if d2 = (0 : Int32) then cv1_0 else (if d2 = (1 : Int32) then cv1_1 else cv1_2)) + (1 : Int32)) else cv1_0)) (hcv2_1 : cv2_1 = (if d2 = (1 : Int32) then ((if d2 = (0 : Int32) then cv1_0 else (if d2 = (1 : Int32) then cv1_1 else cv1_2)) + (1 : Int32)) else cv1_1)) (hcv2_2 : cv2_2 = (if d2 = (2 : Int32) then ((if d2 = (0 : Int32) then cv1_0 else (if d2 = (1 : Int32) then cv1_1 else cv1_2)) + (1 : Int32)) else cv1_2)) (hev2_0 : ev2_0 = (if (if d2 = (0 : Int32) then cv1_0 else (if d2 = (1 : Int32) then cv1_1 else cv1_2)) = (0 : Int32) then (if z1 = (0 : Int32) then d2 else ev1_0) else ev1_0)) (hev2_1 : ev2_1 = (if (if d2 = (0 : Int32) then cv1_0 else (if d2 = (1 : Int32) then cv1_1 else cv1_2)) = (0 : Int32) then (if z1 = (1 : Int32) then d2 else ev1_1) else ev1_1)) (hev2_2 : ev2_2 = (if (if d2 = (0 : Int32) then cv1_0 else (if d2 = (1 : Int32) then cv1_1 else cv1_2)) = (0 : Int32) then (if z1 = (2 : Int32) then d2 else ev1_2) else ev1_2)) (hz2 : z2 = (if (if d2 = (0 : Int32) then cv1_0 else (if d2 = (1 : Int32) then cv1_1 else cv1_2)) = (0 : Int32) then (z1 + (1 : Int32)) else z1)) (j1 j2 j3 : Int32) : Jvm.Free.Fl.NoNaN64 (FP.dadd (if d3 = (0 : Int32) then sv2_0 else (if d3 = (1 : Int32) then sv2_1 else sv2_2)) (FP.i2d i3)) := by
  obtain ⟨p0, p1, p2⟩ := own_S2 hsv1_0 hsv1_1 hsv1_2 hsv2_0 hsv2_1 hsv2_2
  have b1_0 := own_wb d1 0 i1
  have b2_0 := own_wb d2 0 i2
  have b1_1 := own_wb d1 1 i1
  have b2_1 := own_wb d2 1 i2
  have b1_2 := own_wb d1 2 i1
  have b2_2 := own_wb d2 2 i2
  exact own_pickI (own_three hd3) p0 p1 p2 (by omega) (by omega) (by omega)
theorem own_c1 {i0 d1 d2 d3 i1 i2 i3 z1 cv1_0 ev1_0 cv1_1 ev1_1 cv1_2 ev1_2 z2 cv2_0 ev2_0 cv2_1 ev2_1 cv2_2 ev2_2 z3 cv3_0 ev3_0 cv3_1 ev3_1 cv3_2 ev3_2 b1 b2 n : Int32} {sv1_0 sv1_1 sv1_2 sv2_0 sv2_1 sv2_2 sv3_0 sv3_1 sv3_2 : UInt64} (hd1 : ((i0 &&& (255 : Int32)) % (3 : Int32)) = d1) (hd2 : ((((i0.toUInt32 >>> ((8 : Int32) &&& 31).toUInt32).toInt32) &&& (255 : Int32)) % (3 : Int32)) = d2) (hd3 : ((((i0.toUInt32 >>> ((16 : Int32) &&& 31).toUInt32).toInt32) &&& (255 : Int32)) % (3 : Int32)) = d3) (hsv1_0 : sv1_0 = (if d1 = (0 : Int32) then (FP.dadd (if d1 = (0 : Int32) then (0 : UInt64) else (if d1 = (1 : Int32) then (0 : UInt64) else (0 : UInt64))) (FP.i2d i1)) else (0 : UInt64))) (hsv1_1 : sv1_1 = (if d1 = (1 : Int32) then (FP.dadd (if d1 = (0 : Int32) then (0 : UInt64) else (if d1 = (1 : Int32) then (0 : UInt64) else (0 : UInt64))) (FP.i2d i1)) else (0 : UInt64))) (hsv1_2 : sv1_2 = (if d1 = (2 : Int32) then (FP.dadd (if d1 = (0 : Int32) then (0 : UInt64) else (if d1 = (1 : Int32) then (0 : UInt64) else (0 : UInt64))) (FP.i2d i1)) else (0 : UInt64))) (hcv1_0 : cv1_0 = (if d1 = (0 : Int32) then ((if d1 = (0 : Int32) then (0 : Int32) else (if d1 = (1 : Int32) then (0 : Int32) else (0 : Int32))) + (1 : Int32)) else (0 : Int32))) (hcv1_1 : cv1_1 = (if d1 = (1 : Int32) then ((if d1 = (0 : Int32) then (0 : Int32) else (if d1 = (1 : Int32) then (0 : Int32) else (0 : Int32))) + (1 : Int32)) else (0 : Int32))) (hcv1_2 : cv1_2 = (if d1 = (2 : Int32) then ((if d1 = (0 : Int32) then (0 : Int32) else (if d1 = (1 : Int32) then (0 : Int32) else (0 : Int32))) + (1 : Int32)) else (0 : Int32))) (hev1_0 : ev1_0 = (if (if d1 = (0 : Int32) then (0 : Int32) else (if d1 = (1 : Int32) then (0 : Int32) else (0 : Int32))) = (0 : Int32) then (if (0 : Int32) = (0 : Int32) then d1 else (0 : Int32)) else (0 : Int32))) (hev1_1 : ev1_1 = (if (if d1 = (0 : Int32) then (0 : Int32) else (if d1 = (1 : Int32) then (0 : Int32) else (0 : Int32))) = (0 : Int32) then (if (0 : Int32) = (1 : Int32) then d1 else (0 : Int32)) else (0 : Int32))) (hev1_2 : ev1_2 = (if (if d1 = (0 : Int32) then (0 : Int32) else (if d1 = (1 : Int32) then (0 : Int32) else (0 : Int32))) = (0 : Int32) then (if (0 : Int32) = (2 : Int32) then d1 else (0 : Int32)) else (0 : Int32))) (hz1 : z1 = (if (if d1 = (0 : Int32) then (0 : Int32) else (if d1 = (1 : Int32) then (0 : Int32) else (0 : Int32))) = (0 : Int32) then ((0 : Int32) + (1 : Int32)) else (0 : Int32))) (hsv2_0 : sv2_0 = (if d2 = (0 : Int32) then (FP.dadd (if d2 = (0 : Int32) then sv1_0 else (if d2 = (1 : Int32) then sv1_1 else sv1_2)) (FP.i2d i2)) else sv1_0)) (hsv2_1 : sv2_1 = (if d2 = (1 : Int32) then (FP.dadd (if d2 = (0 : Int32) then sv1_0 else (if d2 = (1 : Int32) then sv1_1 else sv1_2)) (FP.i2d i2)) else sv1_1)) (hsv2_2 : sv2_2 = (if d2 = (2 : Int32) then (FP.dadd (if d2 = (0 : Int32) then sv1_0 else (if d2 = (1 : Int32) then sv1_1 else sv1_2)) (FP.i2d i2)) else sv1_2)) (hcv2_0 : cv2_0 = (if d2 = (0 : Int32) then ((if d2 = (0 : Int32) then cv1_0 else (if d2 = (1 : Int32) then cv1_1 else cv1_2)) + (1 : Int32)) else cv1_0)) (hcv2_1 : cv2_1 = (if d2 = (1 : Int32) then ((if d2 = (0 : Int32) then cv1_0 else (if d2 = (1 : Int32) then cv1_1 else cv1_2)) + (1 : Int32)) else cv1_1)) (hcv2_2 : cv2_2 = (if d2 = (2 : Int32) then ((if d2 = (0 : Int32) then cv1_0 else (if d2 = (1 : Int32) then cv1_1 else cv1_2)) + (1 : Int32)) else cv1_2)) (hev2_0 : ev2_0 = (if (if d2 = (0 : Int32) then cv1_0 else (if d2 = (1 : Int32) then cv1_1 else cv1_2)) = (0 : Int32) then (if z1 = (0 : Int32) then d2 else ev1_0) else ev1_0)) (hev2_1 : ev2_1 = (if (if d2 = (0 : Int32) then cv1_0 else (if d2 = (1 : Int32) then cv1_1 else cv1_2)) = (0 : Int32) then (if z1 = (1 : Int32) then d2 else ev1_1) else ev1_1)) (hev2_2 : ev2_2 = (if (if d2 = (0 : Int32) then cv1_0 else (if d2 = (1 : Int32) then cv1_1 else cv1_2)) = (0 : Int32) then (if z1 = (2 : Int32) then d2 else ev1_2) else ev1_2)) (hz2 : z2 = (if (if d2 = (0 : Int32) then cv1_0 else (if d2 = (1 : Int32) then cv1_1 else cv1_2)) = (0 : Int32) then (z1 + (1 : Int32)) else z1)) (hsv3_0 : sv3_0 = (if d3 = (0 : Int32) then (FP.dadd (if d3 = (0 : Int32) then sv2_0 else (if d3 = (1 : Int32) then sv2_1 else sv2_2)) (FP.i2d i3)) else sv2_0)) (hsv3_1 : sv3_1 = (if d3 = (1 : Int32) then (FP.dadd (if d3 = (0 : Int32) then sv2_0 else (if d3 = (1 : Int32) then sv2_1 else sv2_2)) (FP.i2d i3)) else sv2_1)) (hsv3_2 : sv3_2 = (if d3 = (2 : Int32) then (FP.dadd (if d3 = (0 : Int32) then sv2_0 else (if d3 = (1 : Int32) then sv2_1 else sv2_2)) (FP.i2d i3)) else sv2_2)) (hcv3_0 : cv3_0 = (if d3 = (0 : Int32) then ((if d3 = (0 : Int32) then cv2_0 else (if d3 = (1 : Int32) then cv2_1 else cv2_2)) + (1 : Int32)) else cv2_0)) (hcv3_1 : cv3_1 = (if d3 = (1 : Int32) then ((if d3 = (0 : Int32) then cv2_0 else (if d3 = (1 : Int32) then cv2_1 else cv2_2)) + (1 : Int32)) else cv2_1)) (hcv3_2 : cv3_2 = (if d3 = (2 : Int32) then ((if d3 = (0 : Int32) then cv2_0 else (if d3 = (1 : Int32) then cv2_1 else cv2_2)) + (1 : Int32)) else cv2_2)) (hev3_0 : ev3_0 = (if (if d3 = (0 : Int32) then cv2_0 else (if d3 = (1 : Int32) then cv2_1 else cv2_2)) = (0 : Int32) then (if z2 = (0 : Int32) then d3 else ev2_0) else ev2_0)) (hev3_1 : ev3_1 = (if (if d3 = (0 : Int32) then cv2_0 else (if d3 = (1 : Int32) then cv2_1 else cv2_2)) = (0 : Int32) then (if z2 = (1 : Int32) then d3 else ev2_1) else ev2_1)) (hev3_2 : ev3_2 = (if (if d3 = (0 : Int32) then cv2_0 else (if d3 = (1 : Int32) then cv2_1 else cv2_2)) = (0 : Int32) then (if z2 = (2 : Int32) then d3 else ev2_2) else ev2_2)) (hz3 : z3 = (if (if d3 = (0 : Int32) then cv2_0 else (if d3 = (1 : Int32) then cv2_1 else cv2_2)) = (0 : Int32) then (z2 + (1 : Int32)) else z2)) (hb1 : b1 = (if d2 = d1 then (0 : Int32) else (1 : Int32))) (hb2 : b2 = (if d3 = d1 then (0 : Int32) else (if d3 = d2 then (0 : Int32) else (1 : Int32)))) (hn : (((1 : Int32) + b1) + b2) = n) : z3 = n := by
  rw [← hn, hb1, hb2]; exact (own_cases (own_three hd1) (own_three hd2) (own_three hd3) hcv1_0 hcv1_1 hcv1_2 hev1_0 hev1_1 hev1_2 hz1 hcv2_0 hcv2_1 hcv2_2 hev2_0 hev2_1 hev2_2 hz2 hcv3_0 hcv3_1 hcv3_2 hev3_0 hev3_1 hev3_2 hz3).1
theorem own_c2 {i0 d1 d2 d3 i1 i2 i3 z1 cv1_0 ev1_0 cv1_1 ev1_1 cv1_2 ev1_2 z2 cv2_0 ev2_0 cv2_1 ev2_1 cv2_2 ev2_2 z3 cv3_0 ev3_0 cv3_1 ev3_1 cv3_2 ev3_2 : Int32} {sv1_0 sv1_1 sv1_2 sv2_0 sv2_1 sv2_2 sv3_0 sv3_1 sv3_2 : UInt64} (hd1 : ((i0 &&& (255 : Int32)) % (3 : Int32)) = d1) (hd2 : ((((i0.toUInt32 >>> ((8 : Int32) &&& 31).toUInt32).toInt32) &&& (255 : Int32)) % (3 : Int32)) = d2) (hd3 : ((((i0.toUInt32 >>> ((16 : Int32) &&& 31).toUInt32).toInt32) &&& (255 : Int32)) % (3 : Int32)) = d3) (hsv1_0 : sv1_0 = (if d1 = (0 : Int32) then (FP.dadd (if d1 = (0 : Int32) then (0 : UInt64) else (if d1 = (1 : Int32) then (0 : UInt64) else (0 : UInt64))) (FP.i2d i1)) else (0 : UInt64))) (hsv1_1 : sv1_1 = (if d1 = (1 : Int32) then (FP.dadd (if d1 = (0 : Int32) then (0 : UInt64) else (if d1 = (1 : Int32) then (0 : UInt64) else (0 : UInt64))) (FP.i2d i1)) else (0 : UInt64))) (hsv1_2 : sv1_2 = (if d1 = (2 : Int32) then (FP.dadd (if d1 = (0 : Int32) then (0 : UInt64) else (if d1 = (1 : Int32) then (0 : UInt64) else (0 : UInt64))) (FP.i2d i1)) else (0 : UInt64))) (hcv1_0 : cv1_0 = (if d1 = (0 : Int32) then ((if d1 = (0 : Int32) then (0 : Int32) else (if d1 = (1 : Int32) then (0 : Int32) else (0 : Int32))) + (1 : Int32)) else (0 : Int32))) (hcv1_1 : cv1_1 = (if d1 = (1 : Int32) then ((if d1 = (0 : Int32) then (0 : Int32) else (if d1 = (1 : Int32) then (0 : Int32) else (0 : Int32))) + (1 : Int32)) else (0 : Int32))) (hcv1_2 : cv1_2 = (if d1 = (2 : Int32) then ((if d1 = (0 : Int32) then (0 : Int32) else (if d1 = (1 : Int32) then (0 : Int32) else (0 : Int32))) + (1 : Int32)) else (0 : Int32))) (hev1_0 : ev1_0 = (if (if d1 = (0 : Int32) then (0 : Int32) else (if d1 = (1 : Int32) then (0 : Int32) else (0 : Int32))) = (0 : Int32) then (if (0 : Int32) = (0 : Int32) then d1 else (0 : Int32)) else (0 : Int32))) (hev1_1 : ev1_1 = (if (if d1 = (0 : Int32) then (0 : Int32) else (if d1 = (1 : Int32) then (0 : Int32) else (0 : Int32))) = (0 : Int32) then (if (0 : Int32) = (1 : Int32) then d1 else (0 : Int32)) else (0 : Int32))) (hev1_2 : ev1_2 = (if (if d1 = (0 : Int32) then (0 : Int32) else (if d1 = (1 : Int32) then (0 : Int32) else (0 : Int32))) = (0 : Int32) then (if (0 : Int32) = (2 : Int32) then d1 else (0 : Int32)) else (0 : Int32))) (hz1 : z1 = (if (if d1 = (0 : Int32) then (0 : Int32) else (if d1 = (1 : Int32) then (0 : Int32) else (0 : Int32))) = (0 : Int32) then ((0 : Int32) + (1 : Int32)) else (0 : Int32))) (hsv2_0 : sv2_0 = (if d2 = (0 : Int32) then (FP.dadd (if d2 = (0 : Int32) then sv1_0 else (if d2 = (1 : Int32) then sv1_1 else sv1_2)) (FP.i2d i2)) else sv1_0)) (hsv2_1 : sv2_1 = (if d2 = (1 : Int32) then (FP.dadd (if d2 = (0 : Int32) then sv1_0 else (if d2 = (1 : Int32) then sv1_1 else sv1_2)) (FP.i2d i2)) else sv1_1)) (hsv2_2 : sv2_2 = (if d2 = (2 : Int32) then (FP.dadd (if d2 = (0 : Int32) then sv1_0 else (if d2 = (1 : Int32) then sv1_1 else sv1_2)) (FP.i2d i2)) else sv1_2)) (hcv2_0 : cv2_0 = (if d2 = (0 : Int32) then ((if d2 = (0 : Int32) then cv1_0 else (if d2 = (1 : Int32) then cv1_1 else cv1_2)) + (1 : Int32)) else cv1_0)) (hcv2_1 : cv2_1 = (if d2 = (1 : Int32) then ((if d2 = (0 : Int32) then cv1_0 else (if d2 = (1 : Int32) then cv1_1 else cv1_2)) + (1 : Int32)) else cv1_1)) (hcv2_2 : cv2_2 = (if d2 = (2 : Int32) then ((if d2 = (0 : Int32) then cv1_0 else (if d2 = (1 : Int32) then cv1_1 else cv1_2)) + (1 : Int32)) else cv1_2)) (hev2_0 : ev2_0 = (if (if d2 = (0 : Int32) then cv1_0 else (if d2 = (1 : Int32) then cv1_1 else cv1_2)) = (0 : Int32) then (if z1 = (0 : Int32) then d2 else ev1_0) else ev1_0)) (hev2_1 : ev2_1 = (if (if d2 = (0 : Int32) then cv1_0 else (if d2 = (1 : Int32) then cv1_1 else cv1_2)) = (0 : Int32) then (if z1 = (1 : Int32) then d2 else ev1_1) else ev1_1)) (hev2_2 : ev2_2 = (if (if d2 = (0 : Int32) then cv1_0 else (if d2 = (1 : Int32) then cv1_1 else cv1_2)) = (0 : Int32) then (if z1 = (2 : Int32) then d2 else ev1_2) else ev1_2)) (hz2 : z2 = (if (if d2 = (0 : Int32) then cv1_0 else (if d2 = (1 : Int32) then cv1_1 else cv1_2)) = (0 : Int32) then (z1 + (1 : Int32)) else z1)) (hsv3_0 : sv3_0 = (if d3 = (0 : Int32) then (FP.dadd (if d3 = (0 : Int32) then sv2_0 else (if d3 = (1 : Int32) then sv2_1 else sv2_2)) (FP.i2d i3)) else sv2_0)) (hsv3_1 : sv3_1 = (if d3 = (1 : Int32) then (FP.dadd (if d3 = (0 : Int32) then sv2_0 else (if d3 = (1 : Int32) then sv2_1 else sv2_2)) (FP.i2d i3)) else sv2_1)) (hsv3_2 : sv3_2 = (if d3 = (2 : Int32) then (FP.dadd (if d3 = (0 : Int32) then sv2_0 else (if d3 = (1 : Int32) then sv2_1 else sv2_2)) (FP.i2d i3)) else sv2_2)) (hcv3_0 : cv3_0 = (if d3 = (0 : Int32) then ((if d3 = (0 : Int32) then cv2_0 else (if d3 = (1 : Int32) then cv2_1 else cv2_2)) + (1 : Int32)) else cv2_0)) (hcv3_1 : cv3_1 = (if d3 = (1 : Int32) then ((if d3 = (0 : Int32) then cv2_0 else (if d3 = (1 : Int32) then cv2_1 else cv2_2)) + (1 : Int32)) else cv2_1)) (hcv3_2 : cv3_2 = (if d3 = (2 : Int32) then ((if d3 = (0 : Int32) then cv2_0 else (if d3 = (1 : Int32) then cv2_1 else cv2_2)) + (1 : Int32)) else cv2_2)) (hev3_0 : ev3_0 = (if (if d3 = (0 : Int32) then cv2_0 else (if d3 = (1 : Int32) then cv2_1 else cv2_2)) = (0 : Int32) then (if z2 = (0 : Int32) then d3 else ev2_0) else ev2_0)) (hev3_1 : ev3_1 = (if (if d3 = (0 : Int32) then cv2_0 else (if d3 = (1 : Int32) then cv2_1 else cv2_2)) = (0 : Int32) then (if z2 = (1 : Int32) then d3 else ev2_1) else ev2_1)) (hev3_2 : ev3_2 = (if (if d3 = (0 : Int32) then cv2_0 else (if d3 = (1 : Int32) then cv2_1 else cv2_2)) = (0 : Int32) then (if z2 = (2 : Int32) then d3 else ev2_2) else ev2_2)) (hz3 : z3 = (if (if d3 = (0 : Int32) then cv2_0 else (if d3 = (1 : Int32) then cv2_1 else cv2_2)) = (0 : Int32) then (z2 + (1 : Int32)) else z2)) : ev3_0 = d1 := (own_cases (own_three hd1) (own_three hd2) (own_three hd3) hcv1_0 hcv1_1 hcv1_2 hev1_0 hev1_1 hev1_2 hz1 hcv2_0 hcv2_1 hcv2_2 hev2_0 hev2_1 hev2_2 hz2 hcv3_0 hcv3_1 hcv3_2 hev3_0 hev3_1 hev3_2 hz3).2.1
theorem own_c3 {i0 d1 d2 d3 i1 i2 i3 z1 cv1_0 ev1_0 cv1_1 ev1_1 cv1_2 ev1_2 z2 cv2_0 ev2_0 cv2_1 ev2_1 cv2_2 ev2_2 z3 cv3_0 ev3_0 cv3_1 ev3_1 cv3_2 ev3_2 b1 b2 n ee : Int32} {sv1_0 sv1_1 sv1_2 sv2_0 sv2_1 sv2_2 sv3_0 sv3_1 sv3_2 : UInt64} (hd1 : ((i0 &&& (255 : Int32)) % (3 : Int32)) = d1) (hd2 : ((((i0.toUInt32 >>> ((8 : Int32) &&& 31).toUInt32).toInt32) &&& (255 : Int32)) % (3 : Int32)) = d2) (hd3 : ((((i0.toUInt32 >>> ((16 : Int32) &&& 31).toUInt32).toInt32) &&& (255 : Int32)) % (3 : Int32)) = d3) (hsv1_0 : sv1_0 = (if d1 = (0 : Int32) then (FP.dadd (if d1 = (0 : Int32) then (0 : UInt64) else (if d1 = (1 : Int32) then (0 : UInt64) else (0 : UInt64))) (FP.i2d i1)) else (0 : UInt64))) (hsv1_1 : sv1_1 = (if d1 = (1 : Int32) then (FP.dadd (if d1 = (0 : Int32) then (0 : UInt64) else (if d1 = (1 : Int32) then (0 : UInt64) else (0 : UInt64))) (FP.i2d i1)) else (0 : UInt64))) (hsv1_2 : sv1_2 = (if d1 = (2 : Int32) then (FP.dadd (if d1 = (0 : Int32) then (0 : UInt64) else (if d1 = (1 : Int32) then (0 : UInt64) else (0 : UInt64))) (FP.i2d i1)) else (0 : UInt64))) (hcv1_0 : cv1_0 = (if d1 = (0 : Int32) then ((if d1 = (0 : Int32) then (0 : Int32) else (if d1 = (1 : Int32) then (0 : Int32) else (0 : Int32))) + (1 : Int32)) else (0 : Int32))) (hcv1_1 : cv1_1 = (if d1 = (1 : Int32) then ((if d1 = (0 : Int32) then (0 : Int32) else (if d1 = (1 : Int32) then (0 : Int32) else (0 : Int32))) + (1 : Int32)) else (0 : Int32))) (hcv1_2 : cv1_2 = (if d1 = (2 : Int32) then ((if d1 = (0 : Int32) then (0 : Int32) else (if d1 = (1 : Int32) then (0 : Int32) else (0 : Int32))) + (1 : Int32)) else (0 : Int32))) (hev1_0 : ev1_0 = (if (if d1 = (0 : Int32) then (0 : Int32) else (if d1 = (1 : Int32) then (0 : Int32) else (0 : Int32))) = (0 : Int32) then (if (0 : Int32) = (0 : Int32) then d1 else (0 : Int32)) else (0 : Int32))) (hev1_1 : ev1_1 = (if (if d1 = (0 : Int32) then (0 : Int32) else (if d1 = (1 : Int32) then (0 : Int32) else (0 : Int32))) = (0 : Int32) then (if (0 : Int32) = (1 : Int32) then d1 else (0 : Int32)) else (0 : Int32))) (hev1_2 : ev1_2 = (if (if d1 = (0 : Int32) then (0 : Int32) else (if d1 = (1 : Int32) then (0 : Int32) else (0 : Int32))) = (0 : Int32) then (if (0 : Int32) = (2 : Int32) then d1 else (0 : Int32)) else (0 : Int32))) (hz1 : z1 = (if (if d1 = (0 : Int32) then (0 : Int32) else (if d1 = (1 : Int32) then (0 : Int32) else (0 : Int32))) = (0 : Int32) then ((0 : Int32) + (1 : Int32)) else (0 : Int32))) (hsv2_0 : sv2_0 = (if d2 = (0 : Int32) then (FP.dadd (if d2 = (0 : Int32) then sv1_0 else (if d2 = (1 : Int32) then sv1_1 else sv1_2)) (FP.i2d i2)) else sv1_0)) (hsv2_1 : sv2_1 = (if d2 = (1 : Int32) then (FP.dadd (if d2 = (0 : Int32) then sv1_0 else (if d2 = (1 : Int32) then sv1_1 else sv1_2)) (FP.i2d i2)) else sv1_1)) (hsv2_2 : sv2_2 = (if d2 = (2 : Int32) then (FP.dadd (if d2 = (0 : Int32) then sv1_0 else (if d2 = (1 : Int32) then sv1_1 else sv1_2)) (FP.i2d i2)) else sv1_2)) (hcv2_0 : cv2_0 = (if d2 = (0 : Int32) then ((if d2 = (0 : Int32) then cv1_0 else (if d2 = (1 : Int32) then cv1_1 else cv1_2)) + (1 : Int32)) else cv1_0)) (hcv2_1 : cv2_1 = (if d2 = (1 : Int32) then ((if d2 = (0 : Int32) then cv1_0 else (if d2 = (1 : Int32) then cv1_1 else cv1_2)) + (1 : Int32)) else cv1_1)) (hcv2_2 : cv2_2 = (if d2 = (2 : Int32) then ((if d2 = (0 : Int32) then cv1_0 else (if d2 = (1 : Int32) then cv1_1 else cv1_2)) + (1 : Int32)) else cv1_2)) (hev2_0 : ev2_0 = (if (if d2 = (0 : Int32) then cv1_0 else (if d2 = (1 : Int32) then cv1_1 else cv1_2)) = (0 : Int32) then (if z1 = (0 : Int32) then d2 else ev1_0) else ev1_0)) (hev2_1 : ev2_1 = (if (if d2 = (0 : Int32) then cv1_0 else (if d2 = (1 : Int32) then cv1_1 else cv1_2)) = (0 : Int32) then (if z1 = (1 : Int32) then d2 else ev1_1) else ev1_1)) (hev2_2 : ev2_2 = (if (if d2 = (0 : Int32) then cv1_0 else (if d2 = (1 : Int32) then cv1_1 else cv1_2)) = (0 : Int32) then (if z1 = (2 : Int32) then d2 else ev1_2) else ev1_2)) (hz2 : z2 = (if (if d2 = (0 : Int32) then cv1_0 else (if d2 = (1 : Int32) then cv1_1 else cv1_2)) = (0 : Int32) then (z1 + (1 : Int32)) else z1)) (hsv3_0 : sv3_0 = (if d3 = (0 : Int32) then (FP.dadd (if d3 = (0 : Int32) then sv2_0 else (if d3 = (1 : Int32) then sv2_1 else sv2_2)) (FP.i2d i3)) else sv2_0)) (hsv3_1 : sv3_1 = (if d3 = (1 : Int32) then (FP.dadd (if d3 = (0 : Int32) then sv2_0 else (if d3 = (1 : Int32) then sv2_1 else sv2_2)) (FP.i2d i3)) else sv2_1)) (hsv3_2 : sv3_2 = (if d3 = (2 : Int32) then (FP.dadd (if d3 = (0 : Int32) then sv2_0 else (if d3 = (1 : Int32) then sv2_1 else sv2_2)) (FP.i2d i3)) else sv2_2)) (hcv3_0 : cv3_0 = (if d3 = (0 : Int32) then ((if d3 = (0 : Int32) then cv2_0 else (if d3 = (1 : Int32) then cv2_1 else cv2_2)) + (1 : Int32)) else cv2_0)) (hcv3_1 : cv3_1 = (if d3 = (1 : Int32) then ((if d3 = (0 : Int32) then cv2_0 else (if d3 = (1 : Int32) then cv2_1 else cv2_2)) + (1 : Int32)) else cv2_1)) (hcv3_2 : cv3_2 = (if d3 = (2 : Int32) then ((if d3 = (0 : Int32) then cv2_0 else (if d3 = (1 : Int32) then cv2_1 else cv2_2)) + (1 : Int32)) else cv2_2)) (hev3_0 : ev3_0 = (if (if d3 = (0 : Int32) then cv2_0 else (if d3 = (1 : Int32) then cv2_1 else cv2_2)) = (0 : Int32) then (if z2 = (0 : Int32) then d3 else ev2_0) else ev2_0)) (hev3_1 : ev3_1 = (if (if d3 = (0 : Int32) then cv2_0 else (if d3 = (1 : Int32) then cv2_1 else cv2_2)) = (0 : Int32) then (if z2 = (1 : Int32) then d3 else ev2_1) else ev2_1)) (hev3_2 : ev3_2 = (if (if d3 = (0 : Int32) then cv2_0 else (if d3 = (1 : Int32) then cv2_1 else cv2_2)) = (0 : Int32) then (if z2 = (2 : Int32) then d3 else ev2_2) else ev2_2)) (hz3 : z3 = (if (if d3 = (0 : Int32) then cv2_0 else (if d3 = (1 : Int32) then cv2_1 else cv2_2)) = (0 : Int32) then (z2 + (1 : Int32)) else z2)) (hb1 : b1 = (if d2 = d1 then (0 : Int32) else (1 : Int32))) (hb2 : b2 = (if d3 = d1 then (0 : Int32) else (if d3 = d2 then (0 : Int32) else (1 : Int32)))) (hn : (((1 : Int32) + b1) + b2) = n) (hee : ee = (if d2 = d1 then d3 else d2)) (h : ¬ n < (2 : Int32)) : ev3_1 = ee := by
  rw [← own_c1 hd1 hd2 hd3 hsv1_0 hsv1_1 hsv1_2 hcv1_0 hcv1_1 hcv1_2 hev1_0 hev1_1 hev1_2 hz1 hsv2_0 hsv2_1 hsv2_2 hcv2_0 hcv2_1 hcv2_2 hev2_0 hev2_1 hev2_2 hz2 hsv3_0 hsv3_1 hsv3_2 hcv3_0 hcv3_1 hcv3_2 hev3_0 hev3_1 hev3_2 hz3 hb1 hb2 hn] at h; rw [hee]; exact (own_cases (own_three hd1) (own_three hd2) (own_three hd3) hcv1_0 hcv1_1 hcv1_2 hev1_0 hev1_1 hev1_2 hz1 hcv2_0 hcv2_1 hcv2_2 hev2_0 hev2_1 hev2_2 hz2 hcv3_0 hcv3_1 hcv3_2 hev3_0 hev3_1 hev3_2 hz3).2.2.1 h
theorem own_c4 {i0 d1 d2 d3 i1 i2 i3 z1 cv1_0 ev1_0 cv1_1 ev1_1 cv1_2 ev1_2 z2 cv2_0 ev2_0 cv2_1 ev2_1 cv2_2 ev2_2 z3 cv3_0 ev3_0 cv3_1 ev3_1 cv3_2 ev3_2 b1 b2 n : Int32} {sv1_0 sv1_1 sv1_2 sv2_0 sv2_1 sv2_2 sv3_0 sv3_1 sv3_2 : UInt64} (hd1 : ((i0 &&& (255 : Int32)) % (3 : Int32)) = d1) (hd2 : ((((i0.toUInt32 >>> ((8 : Int32) &&& 31).toUInt32).toInt32) &&& (255 : Int32)) % (3 : Int32)) = d2) (hd3 : ((((i0.toUInt32 >>> ((16 : Int32) &&& 31).toUInt32).toInt32) &&& (255 : Int32)) % (3 : Int32)) = d3) (hsv1_0 : sv1_0 = (if d1 = (0 : Int32) then (FP.dadd (if d1 = (0 : Int32) then (0 : UInt64) else (if d1 = (1 : Int32) then (0 : UInt64) else (0 : UInt64))) (FP.i2d i1)) else (0 : UInt64))) (hsv1_1 : sv1_1 = (if d1 = (1 : Int32) then (FP.dadd (if d1 = (0 : Int32) then (0 : UInt64) else (if d1 = (1 : Int32) then (0 : UInt64) else (0 : UInt64))) (FP.i2d i1)) else (0 : UInt64))) (hsv1_2 : sv1_2 = (if d1 = (2 : Int32) then (FP.dadd (if d1 = (0 : Int32) then (0 : UInt64) else (if d1 = (1 : Int32) then (0 : UInt64) else (0 : UInt64))) (FP.i2d i1)) else (0 : UInt64))) (hcv1_0 : cv1_0 = (if d1 = (0 : Int32) then ((if d1 = (0 : Int32) then (0 : Int32) else (if d1 = (1 : Int32) then (0 : Int32) else (0 : Int32))) + (1 : Int32)) else (0 : Int32))) (hcv1_1 : cv1_1 = (if d1 = (1 : Int32) then ((if d1 = (0 : Int32) then (0 : Int32) else (if d1 = (1 : Int32) then (0 : Int32) else (0 : Int32))) + (1 : Int32)) else (0 : Int32))) (hcv1_2 : cv1_2 = (if d1 = (2 : Int32) then ((if d1 = (0 : Int32) then (0 : Int32) else (if d1 = (1 : Int32) then (0 : Int32) else (0 : Int32))) + (1 : Int32)) else (0 : Int32))) (hev1_0 : ev1_0 = (if (if d1 = (0 : Int32) then (0 : Int32) else (if d1 = (1 : Int32) then (0 : Int32) else (0 : Int32))) = (0 : Int32) then (if (0 : Int32) = (0 : Int32) then d1 else (0 : Int32)) else (0 : Int32))) (hev1_1 : ev1_1 = (if (if d1 = (0 : Int32) then (0 : Int32) else (if d1 = (1 : Int32) then (0 : Int32) else (0 : Int32))) = (0 : Int32) then (if (0 : Int32) = (1 : Int32) then d1 else (0 : Int32)) else (0 : Int32))) (hev1_2 : ev1_2 = (if (if d1 = (0 : Int32) then (0 : Int32) else (if d1 = (1 : Int32) then (0 : Int32) else (0 : Int32))) = (0 : Int32) then (if (0 : Int32) = (2 : Int32) then d1 else (0 : Int32)) else (0 : Int32))) (hz1 : z1 = (if (if d1 = (0 : Int32) then (0 : Int32) else (if d1 = (1 : Int32) then (0 : Int32) else (0 : Int32))) = (0 : Int32) then ((0 : Int32) + (1 : Int32)) else (0 : Int32))) (hsv2_0 : sv2_0 = (if d2 = (0 : Int32) then (FP.dadd (if d2 = (0 : Int32) then sv1_0 else (if d2 = (1 : Int32) then sv1_1 else sv1_2)) (FP.i2d i2)) else sv1_0)) (hsv2_1 : sv2_1 = (if d2 = (1 : Int32) then (FP.dadd (if d2 = (0 : Int32) then sv1_0 else (if d2 = (1 : Int32) then sv1_1 else sv1_2)) (FP.i2d i2)) else sv1_1)) (hsv2_2 : sv2_2 = (if d2 = (2 : Int32) then (FP.dadd (if d2 = (0 : Int32) then sv1_0 else (if d2 = (1 : Int32) then sv1_1 else sv1_2)) (FP.i2d i2)) else sv1_2)) (hcv2_0 : cv2_0 = (if d2 = (0 : Int32) then ((if d2 = (0 : Int32) then cv1_0 else (if d2 = (1 : Int32) then cv1_1 else cv1_2)) + (1 : Int32)) else cv1_0)) (hcv2_1 : cv2_1 = (if d2 = (1 : Int32) then ((if d2 = (0 : Int32) then cv1_0 else (if d2 = (1 : Int32) then cv1_1 else cv1_2)) + (1 : Int32)) else cv1_1)) (hcv2_2 : cv2_2 = (if d2 = (2 : Int32) then ((if d2 = (0 : Int32) then cv1_0 else (if d2 = (1 : Int32) then cv1_1 else cv1_2)) + (1 : Int32)) else cv1_2)) (hev2_0 : ev2_0 = (if (if d2 = (0 : Int32) then cv1_0 else (if d2 = (1 : Int32) then cv1_1 else cv1_2)) = (0 : Int32) then (if z1 = (0 : Int32) then d2 else ev1_0) else ev1_0)) (hev2_1 : ev2_1 = (if (if d2 = (0 : Int32) then cv1_0 else (if d2 = (1 : Int32) then cv1_1 else cv1_2)) = (0 : Int32) then (if z1 = (1 : Int32) then d2 else ev1_1) else ev1_1)) (hev2_2 : ev2_2 = (if (if d2 = (0 : Int32) then cv1_0 else (if d2 = (1 : Int32) then cv1_1 else cv1_2)) = (0 : Int32) then (if z1 = (2 : Int32) then d2 else ev1_2) else ev1_2)) (hz2 : z2 = (if (if d2 = (0 : Int32) then cv1_0 else (if d2 = (1 : Int32) then cv1_1 else cv1_2)) = (0 : Int32) then (z1 + (1 : Int32)) else z1)) (hsv3_0 : sv3_0 = (if d3 = (0 : Int32) then (FP.dadd (if d3 = (0 : Int32) then sv2_0 else (if d3 = (1 : Int32) then sv2_1 else sv2_2)) (FP.i2d i3)) else sv2_0)) (hsv3_1 : sv3_1 = (if d3 = (1 : Int32) then (FP.dadd (if d3 = (0 : Int32) then sv2_0 else (if d3 = (1 : Int32) then sv2_1 else sv2_2)) (FP.i2d i3)) else sv2_1)) (hsv3_2 : sv3_2 = (if d3 = (2 : Int32) then (FP.dadd (if d3 = (0 : Int32) then sv2_0 else (if d3 = (1 : Int32) then sv2_1 else sv2_2)) (FP.i2d i3)) else sv2_2)) (hcv3_0 : cv3_0 = (if d3 = (0 : Int32) then ((if d3 = (0 : Int32) then cv2_0 else (if d3 = (1 : Int32) then cv2_1 else cv2_2)) + (1 : Int32)) else cv2_0)) (hcv3_1 : cv3_1 = (if d3 = (1 : Int32) then ((if d3 = (0 : Int32) then cv2_0 else (if d3 = (1 : Int32) then cv2_1 else cv2_2)) + (1 : Int32)) else cv2_1)) (hcv3_2 : cv3_2 = (if d3 = (2 : Int32) then ((if d3 = (0 : Int32) then cv2_0 else (if d3 = (1 : Int32) then cv2_1 else cv2_2)) + (1 : Int32)) else cv2_2)) (hev3_0 : ev3_0 = (if (if d3 = (0 : Int32) then cv2_0 else (if d3 = (1 : Int32) then cv2_1 else cv2_2)) = (0 : Int32) then (if z2 = (0 : Int32) then d3 else ev2_0) else ev2_0)) (hev3_1 : ev3_1 = (if (if d3 = (0 : Int32) then cv2_0 else (if d3 = (1 : Int32) then cv2_1 else cv2_2)) = (0 : Int32) then (if z2 = (1 : Int32) then d3 else ev2_1) else ev2_1)) (hev3_2 : ev3_2 = (if (if d3 = (0 : Int32) then cv2_0 else (if d3 = (1 : Int32) then cv2_1 else cv2_2)) = (0 : Int32) then (if z2 = (2 : Int32) then d3 else ev2_2) else ev2_2)) (hz3 : z3 = (if (if d3 = (0 : Int32) then cv2_0 else (if d3 = (1 : Int32) then cv2_1 else cv2_2)) = (0 : Int32) then (z2 + (1 : Int32)) else z2)) (hb1 : b1 = (if d2 = d1 then (0 : Int32) else (1 : Int32))) (hb2 : b2 = (if d3 = d1 then (0 : Int32) else (if d3 = d2 then (0 : Int32) else (1 : Int32)))) (hn : (((1 : Int32) + b1) + b2) = n) (h : ¬ n < (3 : Int32)) : ev3_2 = d3 := by
  rw [← own_c1 hd1 hd2 hd3 hsv1_0 hsv1_1 hsv1_2 hcv1_0 hcv1_1 hcv1_2 hev1_0 hev1_1 hev1_2 hz1 hsv2_0 hsv2_1 hsv2_2 hcv2_0 hcv2_1 hcv2_2 hev2_0 hev2_1 hev2_2 hz2 hsv3_0 hsv3_1 hsv3_2 hcv3_0 hcv3_1 hcv3_2 hev3_0 hev3_1 hev3_2 hz3 hb1 hb2 hn] at h; exact (own_cases (own_three hd1) (own_three hd2) (own_three hd3) hcv1_0 hcv1_1 hcv1_2 hev1_0 hev1_1 hev1_2 hz1 hcv2_0 hcv2_1 hcv2_2 hev2_0 hev2_1 hev2_2 hz2 hcv3_0 hcv3_1 hcv3_2 hev3_0 hev3_1 hev3_2 hz3).2.2.2.1 h
theorem own_lt3 {n : Int32} (h : n < (2 : Int32)) : n < (3 : Int32) := by
  rw [Int32.lt_iff_toInt_lt] at h ⊢
  have l2 : (2 : Int32).toInt = 2 := by decide
  have l3 : (3 : Int32).toInt = 3 := by decide
  omega
theorem own_wl (d k v : Int32) : (if d = k then (v.toInt64) else (0 : Int64)).toInt = own_w d k v := by
  unfold own_w; split
  · exact Int32.toInt_toInt64 v
  · decide
theorem own_es (d1 d2 d3 k a b c : Int32) : (((if d1 = k then (a.toInt64) else (0 : Int64)) + (if d2 = k then (b.toInt64) else (0 : Int64))) + (if d3 = k then (c.toInt64) else (0 : Int64))).toInt = 0 + own_w d1 k a + own_w d2 k b + own_w d3 k c := by
  have b1 := own_wb d1 k a
  have b2 := own_wb d2 k b
  have b3 := own_wb d3 k c
  have e1 := own_wl d1 k a
  have e2 := own_wl d2 k b
  have e3 := own_wl d3 k c
  have s1 := Jvm.Kit.i64_add (x := (if d1 = k then (a.toInt64) else (0 : Int64))) (y := (if d2 = k then (b.toInt64) else (0 : Int64))) (by rw [e1, e2]; omega) (by rw [e1, e2]; omega)
  rw [e1, e2] at s1
  rw [Jvm.Kit.i64_add (by rw [s1, e3]; omega) (by rw [s1, e3]; omega), s1, e3]; omega
theorem own_docV {cnt k d1 d2 d3 a b c : Int32} {sm : UInt64} (hc : cnt = (((if d1 = k then (1 : Int32) else (0 : Int32)) + (if d2 = k then (1 : Int32) else (0 : Int32))) + (if d3 = k then (1 : Int32) else (0 : Int32)))) (hs : DInt (0 + own_w d1 k a + own_w d2 k b + own_w d3 k c) sm) : ¬ (docV cnt sm k d1 d2 d3 a b c = (0 : Int32)) := by
  have b1 := own_wb d1 k a
  have b2 := own_wb d2 k b
  have b3 := own_wb d3 k c
  unfold docV
  rw [if_pos hc, if_pos]
  · decide
  · rw [own_c_eq]
    have e := own_es d1 d2 d3 k a b c
    generalize (((if d1 = k then (a.toInt64) else (0 : Int64)) + (if d2 = k then (b.toInt64) else (0 : Int64))) + (if d3 = k then (c.toInt64) else (0 : Int64))) = es at *
    rw [← e] at hs
    have := l2d_int (a := es) (by rw [e]; omega)
    rw [show FP.dcmp sm (FP.l2d es) = some (compare es.toInt es.toInt) from dcmp_int hs this, compare_self_int]
theorem own_doc0 {i0 d1 d2 d3 i1 i2 i3 z1 cv1_0 ev1_0 cv1_1 ev1_1 cv1_2 ev1_2 z2 cv2_0 ev2_0 cv2_1 ev2_1 cv2_2 ev2_2 z3 cv3_0 ev3_0 cv3_1 ev3_1 cv3_2 ev3_2 : Int32} {sv1_0 sv1_1 sv1_2 sv2_0 sv2_1 sv2_2 sv3_0 sv3_1 sv3_2 : UInt64} (hd1 : ((i0 &&& (255 : Int32)) % (3 : Int32)) = d1) (hd2 : ((((i0.toUInt32 >>> ((8 : Int32) &&& 31).toUInt32).toInt32) &&& (255 : Int32)) % (3 : Int32)) = d2) (hd3 : ((((i0.toUInt32 >>> ((16 : Int32) &&& 31).toUInt32).toInt32) &&& (255 : Int32)) % (3 : Int32)) = d3) (hsv1_0 : sv1_0 = (if d1 = (0 : Int32) then (FP.dadd (if d1 = (0 : Int32) then (0 : UInt64) else (if d1 = (1 : Int32) then (0 : UInt64) else (0 : UInt64))) (FP.i2d i1)) else (0 : UInt64))) (hsv1_1 : sv1_1 = (if d1 = (1 : Int32) then (FP.dadd (if d1 = (0 : Int32) then (0 : UInt64) else (if d1 = (1 : Int32) then (0 : UInt64) else (0 : UInt64))) (FP.i2d i1)) else (0 : UInt64))) (hsv1_2 : sv1_2 = (if d1 = (2 : Int32) then (FP.dadd (if d1 = (0 : Int32) then (0 : UInt64) else (if d1 = (1 : Int32) then (0 : UInt64) else (0 : UInt64))) (FP.i2d i1)) else (0 : UInt64))) (hcv1_0 : cv1_0 = (if d1 = (0 : Int32) then ((if d1 = (0 : Int32) then (0 : Int32) else (if d1 = (1 : Int32) then (0 : Int32) else (0 : Int32))) + (1 : Int32)) else (0 : Int32))) (hcv1_1 : cv1_1 = (if d1 = (1 : Int32) then ((if d1 = (0 : Int32) then (0 : Int32) else (if d1 = (1 : Int32) then (0 : Int32) else (0 : Int32))) + (1 : Int32)) else (0 : Int32))) (hcv1_2 : cv1_2 = (if d1 = (2 : Int32) then ((if d1 = (0 : Int32) then (0 : Int32) else (if d1 = (1 : Int32) then (0 : Int32) else (0 : Int32))) + (1 : Int32)) else (0 : Int32))) (hev1_0 : ev1_0 = (if (if d1 = (0 : Int32) then (0 : Int32) else (if d1 = (1 : Int32) then (0 : Int32) else (0 : Int32))) = (0 : Int32) then (if (0 : Int32) = (0 : Int32) then d1 else (0 : Int32)) else (0 : Int32))) (hev1_1 : ev1_1 = (if (if d1 = (0 : Int32) then (0 : Int32) else (if d1 = (1 : Int32) then (0 : Int32) else (0 : Int32))) = (0 : Int32) then (if (0 : Int32) = (1 : Int32) then d1 else (0 : Int32)) else (0 : Int32))) (hev1_2 : ev1_2 = (if (if d1 = (0 : Int32) then (0 : Int32) else (if d1 = (1 : Int32) then (0 : Int32) else (0 : Int32))) = (0 : Int32) then (if (0 : Int32) = (2 : Int32) then d1 else (0 : Int32)) else (0 : Int32))) (hz1 : z1 = (if (if d1 = (0 : Int32) then (0 : Int32) else (if d1 = (1 : Int32) then (0 : Int32) else (0 : Int32))) = (0 : Int32) then ((0 : Int32) + (1 : Int32)) else (0 : Int32))) (hsv2_0 : sv2_0 = (if d2 = (0 : Int32) then (FP.dadd (if d2 = (0 : Int32) then sv1_0 else (if d2 = (1 : Int32) then sv1_1 else sv1_2)) (FP.i2d i2)) else sv1_0)) (hsv2_1 : sv2_1 = (if d2 = (1 : Int32) then (FP.dadd (if d2 = (0 : Int32) then sv1_0 else (if d2 = (1 : Int32) then sv1_1 else sv1_2)) (FP.i2d i2)) else sv1_1)) (hsv2_2 : sv2_2 = (if d2 = (2 : Int32) then (FP.dadd (if d2 = (0 : Int32) then sv1_0 else (if d2 = (1 : Int32) then sv1_1 else sv1_2)) (FP.i2d i2)) else sv1_2)) (hcv2_0 : cv2_0 = (if d2 = (0 : Int32) then ((if d2 = (0 : Int32) then cv1_0 else (if d2 = (1 : Int32) then cv1_1 else cv1_2)) + (1 : Int32)) else cv1_0)) (hcv2_1 : cv2_1 = (if d2 = (1 : Int32) then ((if d2 = (0 : Int32) then cv1_0 else (if d2 = (1 : Int32) then cv1_1 else cv1_2)) + (1 : Int32)) else cv1_1)) (hcv2_2 : cv2_2 = (if d2 = (2 : Int32) then ((if d2 = (0 : Int32) then cv1_0 else (if d2 = (1 : Int32) then cv1_1 else cv1_2)) + (1 : Int32)) else cv1_2)) (hev2_0 : ev2_0 = (if (if d2 = (0 : Int32) then cv1_0 else (if d2 = (1 : Int32) then cv1_1 else cv1_2)) = (0 : Int32) then (if z1 = (0 : Int32) then d2 else ev1_0) else ev1_0)) (hev2_1 : ev2_1 = (if (if d2 = (0 : Int32) then cv1_0 else (if d2 = (1 : Int32) then cv1_1 else cv1_2)) = (0 : Int32) then (if z1 = (1 : Int32) then d2 else ev1_1) else ev1_1)) (hev2_2 : ev2_2 = (if (if d2 = (0 : Int32) then cv1_0 else (if d2 = (1 : Int32) then cv1_1 else cv1_2)) = (0 : Int32) then (if z1 = (2 : Int32) then d2 else ev1_2) else ev1_2)) (hz2 : z2 = (if (if d2 = (0 : Int32) then cv1_0 else (if d2 = (1 : Int32) then cv1_1 else cv1_2)) = (0 : Int32) then (z1 + (1 : Int32)) else z1)) (hsv3_0 : sv3_0 = (if d3 = (0 : Int32) then (FP.dadd (if d3 = (0 : Int32) then sv2_0 else (if d3 = (1 : Int32) then sv2_1 else sv2_2)) (FP.i2d i3)) else sv2_0)) (hsv3_1 : sv3_1 = (if d3 = (1 : Int32) then (FP.dadd (if d3 = (0 : Int32) then sv2_0 else (if d3 = (1 : Int32) then sv2_1 else sv2_2)) (FP.i2d i3)) else sv2_1)) (hsv3_2 : sv3_2 = (if d3 = (2 : Int32) then (FP.dadd (if d3 = (0 : Int32) then sv2_0 else (if d3 = (1 : Int32) then sv2_1 else sv2_2)) (FP.i2d i3)) else sv2_2)) (hcv3_0 : cv3_0 = (if d3 = (0 : Int32) then ((if d3 = (0 : Int32) then cv2_0 else (if d3 = (1 : Int32) then cv2_1 else cv2_2)) + (1 : Int32)) else cv2_0)) (hcv3_1 : cv3_1 = (if d3 = (1 : Int32) then ((if d3 = (0 : Int32) then cv2_0 else (if d3 = (1 : Int32) then cv2_1 else cv2_2)) + (1 : Int32)) else cv2_1)) (hcv3_2 : cv3_2 = (if d3 = (2 : Int32) then ((if d3 = (0 : Int32) then cv2_0 else (if d3 = (1 : Int32) then cv2_1 else cv2_2)) + (1 : Int32)) else cv2_2)) (hev3_0 : ev3_0 = (if (if d3 = (0 : Int32) then cv2_0 else (if d3 = (1 : Int32) then cv2_1 else cv2_2)) = (0 : Int32) then (if z2 = (0 : Int32) then d3 else ev2_0) else ev2_0)) (hev3_1 : ev3_1 = (if (if d3 = (0 : Int32) then cv2_0 else (if d3 = (1 : Int32) then cv2_1 else cv2_2)) = (0 : Int32) then (if z2 = (1 : Int32) then d3 else ev2_1) else ev2_1)) (hev3_2 : ev3_2 = (if (if d3 = (0 : Int32) then cv2_0 else (if d3 = (1 : Int32) then cv2_1 else cv2_2)) = (0 : Int32) then (if z2 = (2 : Int32) then d3 else ev2_2) else ev2_2)) (hz3 : z3 = (if (if d3 = (0 : Int32) then cv2_0 else (if d3 = (1 : Int32) then cv2_1 else cv2_2)) = (0 : Int32) then (z2 + (1 : Int32)) else z2)) (j1 j2 j3 : Int32) : ¬ (docV cv3_0 sv3_0 (0 : Int32) d1 d2 d3 i1 i2 i3 = (0 : Int32)) :=
  own_docV (own_cases (own_three hd1) (own_three hd2) (own_three hd3) hcv1_0 hcv1_1 hcv1_2 hev1_0 hev1_1 hev1_2 hz1 hcv2_0 hcv2_1 hcv2_2 hev2_0 hev2_1 hev2_2 hz2 hcv3_0 hcv3_1 hcv3_2 hev3_0 hev3_1 hev3_2 hz3).2.2.2.2.1 (own_S3 hsv1_0 hsv1_1 hsv1_2 hsv2_0 hsv2_1 hsv2_2 hsv3_0 hsv3_1 hsv3_2).1
theorem own_doc1 {i0 d1 d2 d3 i1 i2 i3 z1 cv1_0 ev1_0 cv1_1 ev1_1 cv1_2 ev1_2 z2 cv2_0 ev2_0 cv2_1 ev2_1 cv2_2 ev2_2 z3 cv3_0 ev3_0 cv3_1 ev3_1 cv3_2 ev3_2 : Int32} {sv1_0 sv1_1 sv1_2 sv2_0 sv2_1 sv2_2 sv3_0 sv3_1 sv3_2 : UInt64} (hd1 : ((i0 &&& (255 : Int32)) % (3 : Int32)) = d1) (hd2 : ((((i0.toUInt32 >>> ((8 : Int32) &&& 31).toUInt32).toInt32) &&& (255 : Int32)) % (3 : Int32)) = d2) (hd3 : ((((i0.toUInt32 >>> ((16 : Int32) &&& 31).toUInt32).toInt32) &&& (255 : Int32)) % (3 : Int32)) = d3) (hsv1_0 : sv1_0 = (if d1 = (0 : Int32) then (FP.dadd (if d1 = (0 : Int32) then (0 : UInt64) else (if d1 = (1 : Int32) then (0 : UInt64) else (0 : UInt64))) (FP.i2d i1)) else (0 : UInt64))) (hsv1_1 : sv1_1 = (if d1 = (1 : Int32) then (FP.dadd (if d1 = (0 : Int32) then (0 : UInt64) else (if d1 = (1 : Int32) then (0 : UInt64) else (0 : UInt64))) (FP.i2d i1)) else (0 : UInt64))) (hsv1_2 : sv1_2 = (if d1 = (2 : Int32) then (FP.dadd (if d1 = (0 : Int32) then (0 : UInt64) else (if d1 = (1 : Int32) then (0 : UInt64) else (0 : UInt64))) (FP.i2d i1)) else (0 : UInt64))) (hcv1_0 : cv1_0 = (if d1 = (0 : Int32) then ((if d1 = (0 : Int32) then (0 : Int32) else (if d1 = (1 : Int32) then (0 : Int32) else (0 : Int32))) + (1 : Int32)) else (0 : Int32))) (hcv1_1 : cv1_1 = (if d1 = (1 : Int32) then ((if d1 = (0 : Int32) then (0 : Int32) else (if d1 = (1 : Int32) then (0 : Int32) else (0 : Int32))) + (1 : Int32)) else (0 : Int32))) (hcv1_2 : cv1_2 = (if d1 = (2 : Int32) then ((if d1 = (0 : Int32) then (0 : Int32) else (if d1 = (1 : Int32) then (0 : Int32) else (0 : Int32))) + (1 : Int32)) else (0 : Int32))) (hev1_0 : ev1_0 = (if (if d1 = (0 : Int32) then (0 : Int32) else (if d1 = (1 : Int32) then (0 : Int32) else (0 : Int32))) = (0 : Int32) then (if (0 : Int32) = (0 : Int32) then d1 else (0 : Int32)) else (0 : Int32))) (hev1_1 : ev1_1 = (if (if d1 = (0 : Int32) then (0 : Int32) else (if d1 = (1 : Int32) then (0 : Int32) else (0 : Int32))) = (0 : Int32) then (if (0 : Int32) = (1 : Int32) then d1 else (0 : Int32)) else (0 : Int32))) (hev1_2 : ev1_2 = (if (if d1 = (0 : Int32) then (0 : Int32) else (if d1 = (1 : Int32) then (0 : Int32) else (0 : Int32))) = (0 : Int32) then (if (0 : Int32) = (2 : Int32) then d1 else (0 : Int32)) else (0 : Int32))) (hz1 : z1 = (if (if d1 = (0 : Int32) then (0 : Int32) else (if d1 = (1 : Int32) then (0 : Int32) else (0 : Int32))) = (0 : Int32) then ((0 : Int32) + (1 : Int32)) else (0 : Int32))) (hsv2_0 : sv2_0 = (if d2 = (0 : Int32) then (FP.dadd (if d2 = (0 : Int32) then sv1_0 else (if d2 = (1 : Int32) then sv1_1 else sv1_2)) (FP.i2d i2)) else sv1_0)) (hsv2_1 : sv2_1 = (if d2 = (1 : Int32) then (FP.dadd (if d2 = (0 : Int32) then sv1_0 else (if d2 = (1 : Int32) then sv1_1 else sv1_2)) (FP.i2d i2)) else sv1_1)) (hsv2_2 : sv2_2 = (if d2 = (2 : Int32) then (FP.dadd (if d2 = (0 : Int32) then sv1_0 else (if d2 = (1 : Int32) then sv1_1 else sv1_2)) (FP.i2d i2)) else sv1_2)) (hcv2_0 : cv2_0 = (if d2 = (0 : Int32) then ((if d2 = (0 : Int32) then cv1_0 else (if d2 = (1 : Int32) then cv1_1 else cv1_2)) + (1 : Int32)) else cv1_0)) (hcv2_1 : cv2_1 = (if d2 = (1 : Int32) then ((if d2 = (0 : Int32) then cv1_0 else (if d2 = (1 : Int32) then cv1_1 else cv1_2)) + (1 : Int32)) else cv1_1)) (hcv2_2 : cv2_2 = (if d2 = (2 : Int32) then ((if d2 = (0 : Int32) then cv1_0 else (if d2 = (1 : Int32) then cv1_1 else cv1_2)) + (1 : Int32)) else cv1_2)) (hev2_0 : ev2_0 = (if (if d2 = (0 : Int32) then cv1_0 else (if d2 = (1 : Int32) then cv1_1 else cv1_2)) = (0 : Int32) then (if z1 = (0 : Int32) then d2 else ev1_0) else ev1_0)) (hev2_1 : ev2_1 = (if (if d2 = (0 : Int32) then cv1_0 else (if d2 = (1 : Int32) then cv1_1 else cv1_2)) = (0 : Int32) then (if z1 = (1 : Int32) then d2 else ev1_1) else ev1_1)) (hev2_2 : ev2_2 = (if (if d2 = (0 : Int32) then cv1_0 else (if d2 = (1 : Int32) then cv1_1 else cv1_2)) = (0 : Int32) then (if z1 = (2 : Int32) then d2 else ev1_2) else ev1_2)) (hz2 : z2 = (if (if d2 = (0 : Int32) then cv1_0 else (if d2 = (1 : Int32) then cv1_1 else cv1_2)) = (0 : Int32) then (z1 + (1 : Int32)) else z1)) (hsv3_0 : sv3_0 = (if d3 = (0 : Int32) then (FP.dadd (if d3 = (0 : Int32) then sv2_0 else (if d3 = (1 : Int32) then sv2_1 else sv2_2)) (FP.i2d i3)) else sv2_0)) (hsv3_1 : sv3_1 = (if d3 = (1 : Int32) then (FP.dadd (if d3 = (0 : Int32) then sv2_0 else (if d3 = (1 : Int32) then sv2_1 else sv2_2)) (FP.i2d i3)) else sv2_1)) (hsv3_2 : sv3_2 = (if d3 = (2 : Int32) then (FP.dadd (if d3 = (0 : Int32) then sv2_0 else (if d3 = (1 : Int32) then sv2_1 else sv2_2)) (FP.i2d i3)) else sv2_2)) (hcv3_0 : cv3_0 = (if d3 = (0 : Int32) then ((if d3 = (0 : Int32) then cv2_0 else (if d3 = (1 : Int32) then cv2_1 else cv2_2)) + (1 : Int32)) else cv2_0)) (hcv3_1 : cv3_1 = (if d3 = (1 : Int32) then ((if d3 = (0 : Int32) then cv2_0 else (if d3 = (1 : Int32) then cv2_1 else cv2_2)) + (1 : Int32)) else cv2_1)) (hcv3_2 : cv3_2 = (if d3 = (2 : Int32) then ((if d3 = (0 : Int32) then cv2_0 else (if d3 = (1 : Int32) then cv2_1 else cv2_2)) + (1 : Int32)) else cv2_2)) (hev3_0 : ev3_0 = (if (if d3 = (0 : Int32) then cv2_0 else (if d3 = (1 : Int32) then cv2_1 else cv2_2)) = (0 : Int32) then (if z2 = (0 : Int32) then d3 else ev2_0) else ev2_0)) (hev3_1 : ev3_1 = (if (if d3 = (0 : Int32) then cv2_0 else (if d3 = (1 : Int32) then cv2_1 else cv2_2)) = (0 : Int32) then (if z2 = (1 : Int32) then d3 else ev2_1) else ev2_1)) (hev3_2 : ev3_2 = (if (if d3 = (0 : Int32) then cv2_0 else (if d3 = (1 : Int32) then cv2_1 else cv2_2)) = (0 : Int32) then (if z2 = (2 : Int32) then d3 else ev2_2) else ev2_2)) (hz3 : z3 = (if (if d3 = (0 : Int32) then cv2_0 else (if d3 = (1 : Int32) then cv2_1 else cv2_2)) = (0 : Int32) then (z2 + (1 : Int32)) else z2)) (j1 j2 j3 : Int32) : ¬ (docV cv3_1 sv3_1 (1 : Int32) d1 d2 d3 i1 i2 i3 = (0 : Int32)) :=
  own_docV (own_cases (own_three hd1) (own_three hd2) (own_three hd3) hcv1_0 hcv1_1 hcv1_2 hev1_0 hev1_1 hev1_2 hz1 hcv2_0 hcv2_1 hcv2_2 hev2_0 hev2_1 hev2_2 hz2 hcv3_0 hcv3_1 hcv3_2 hev3_0 hev3_1 hev3_2 hz3).2.2.2.2.2.1 (own_S3 hsv1_0 hsv1_1 hsv1_2 hsv2_0 hsv2_1 hsv2_2 hsv3_0 hsv3_1 hsv3_2).2.1
theorem own_doc2 {i0 d1 d2 d3 i1 i2 i3 z1 cv1_0 ev1_0 cv1_1 ev1_1 cv1_2 ev1_2 z2 cv2_0 ev2_0 cv2_1 ev2_1 cv2_2 ev2_2 z3 cv3_0 ev3_0 cv3_1 ev3_1 cv3_2 ev3_2 : Int32} {sv1_0 sv1_1 sv1_2 sv2_0 sv2_1 sv2_2 sv3_0 sv3_1 sv3_2 : UInt64} (hd1 : ((i0 &&& (255 : Int32)) % (3 : Int32)) = d1) (hd2 : ((((i0.toUInt32 >>> ((8 : Int32) &&& 31).toUInt32).toInt32) &&& (255 : Int32)) % (3 : Int32)) = d2) (hd3 : ((((i0.toUInt32 >>> ((16 : Int32) &&& 31).toUInt32).toInt32) &&& (255 : Int32)) % (3 : Int32)) = d3) (hsv1_0 : sv1_0 = (if d1 = (0 : Int32) then (FP.dadd (if d1 = (0 : Int32) then (0 : UInt64) else (if d1 = (1 : Int32) then (0 : UInt64) else (0 : UInt64))) (FP.i2d i1)) else (0 : UInt64))) (hsv1_1 : sv1_1 = (if d1 = (1 : Int32) then (FP.dadd (if d1 = (0 : Int32) then (0 : UInt64) else (if d1 = (1 : Int32) then (0 : UInt64) else (0 : UInt64))) (FP.i2d i1)) else (0 : UInt64))) (hsv1_2 : sv1_2 = (if d1 = (2 : Int32) then (FP.dadd (if d1 = (0 : Int32) then (0 : UInt64) else (if d1 = (1 : Int32) then (0 : UInt64) else (0 : UInt64))) (FP.i2d i1)) else (0 : UInt64))) (hcv1_0 : cv1_0 = (if d1 = (0 : Int32) then ((if d1 = (0 : Int32) then (0 : Int32) else (if d1 = (1 : Int32) then (0 : Int32) else (0 : Int32))) + (1 : Int32)) else (0 : Int32))) (hcv1_1 : cv1_1 = (if d1 = (1 : Int32) then ((if d1 = (0 : Int32) then (0 : Int32) else (if d1 = (1 : Int32) then (0 : Int32) else (0 : Int32))) + (1 : Int32)) else (0 : Int32))) (hcv1_2 : cv1_2 = (if d1 = (2 : Int32) then ((if d1 = (0 : Int32) then (0 : Int32) else (if d1 = (1 : Int32) then (0 : Int32) else (0 : Int32))) + (1 : Int32)) else (0 : Int32))) (hev1_0 : ev1_0 = (if (if d1 = (0 : Int32) then (0 : Int32) else (if d1 = (1 : Int32) then (0 : Int32) else (0 : Int32))) = (0 : Int32) then (if (0 : Int32) = (0 : Int32) then d1 else (0 : Int32)) else (0 : Int32))) (hev1_1 : ev1_1 = (if (if d1 = (0 : Int32) then (0 : Int32) else (if d1 = (1 : Int32) then (0 : Int32) else (0 : Int32))) = (0 : Int32) then (if (0 : Int32) = (1 : Int32) then d1 else (0 : Int32)) else (0 : Int32))) (hev1_2 : ev1_2 = (if (if d1 = (0 : Int32) then (0 : Int32) else (if d1 = (1 : Int32) then (0 : Int32) else (0 : Int32))) = (0 : Int32) then (if (0 : Int32) = (2 : Int32) then d1 else (0 : Int32)) else (0 : Int32))) (hz1 : z1 = (if (if d1 = (0 : Int32) then (0 : Int32) else (if d1 = (1 : Int32) then (0 : Int32) else (0 : Int32))) = (0 : Int32) then ((0 : Int32) + (1 : Int32)) else (0 : Int32))) (hsv2_0 : sv2_0 = (if d2 = (0 : Int32) then (FP.dadd (if d2 = (0 : Int32) then sv1_0 else (if d2 = (1 : Int32) then sv1_1 else sv1_2)) (FP.i2d i2)) else sv1_0)) (hsv2_1 : sv2_1 = (if d2 = (1 : Int32) then (FP.dadd (if d2 = (0 : Int32) then sv1_0 else (if d2 = (1 : Int32) then sv1_1 else sv1_2)) (FP.i2d i2)) else sv1_1)) (hsv2_2 : sv2_2 = (if d2 = (2 : Int32) then (FP.dadd (if d2 = (0 : Int32) then sv1_0 else (if d2 = (1 : Int32) then sv1_1 else sv1_2)) (FP.i2d i2)) else sv1_2)) (hcv2_0 : cv2_0 = (if d2 = (0 : Int32) then ((if d2 = (0 : Int32) then cv1_0 else (if d2 = (1 : Int32) then cv1_1 else cv1_2)) + (1 : Int32)) else cv1_0)) (hcv2_1 : cv2_1 = (if d2 = (1 : Int32) then ((if d2 = (0 : Int32) then cv1_0 else (if d2 = (1 : Int32) then cv1_1 else cv1_2)) + (1 : Int32)) else cv1_1)) (hcv2_2 : cv2_2 = (if d2 = (2 : Int32) then ((if d2 = (0 : Int32) then cv1_0 else (if d2 = (1 : Int32) then cv1_1 else cv1_2)) + (1 : Int32)) else cv1_2)) (hev2_0 : ev2_0 = (if (if d2 = (0 : Int32) then cv1_0 else (if d2 = (1 : Int32) then cv1_1 else cv1_2)) = (0 : Int32) then (if z1 = (0 : Int32) then d2 else ev1_0) else ev1_0)) (hev2_1 : ev2_1 = (if (if d2 = (0 : Int32) then cv1_0 else (if d2 = (1 : Int32) then cv1_1 else cv1_2)) = (0 : Int32) then (if z1 = (1 : Int32) then d2 else ev1_1) else ev1_1)) (hev2_2 : ev2_2 = (if (if d2 = (0 : Int32) then cv1_0 else (if d2 = (1 : Int32) then cv1_1 else cv1_2)) = (0 : Int32) then (if z1 = (2 : Int32) then d2 else ev1_2) else ev1_2)) (hz2 : z2 = (if (if d2 = (0 : Int32) then cv1_0 else (if d2 = (1 : Int32) then cv1_1 else cv1_2)) = (0 : Int32) then (z1 + (1 : Int32)) else z1)) (hsv3_0 : sv3_0 = (if d3 = (0 : Int32) then (FP.dadd (if d3 = (0 : Int32) then sv2_0 else (if d3 = (1 : Int32) then sv2_1 else sv2_2)) (FP.i2d i3)) else sv2_0)) (hsv3_1 : sv3_1 = (if d3 = (1 : Int32) then (FP.dadd (if d3 = (0 : Int32) then sv2_0 else (if d3 = (1 : Int32) then sv2_1 else sv2_2)) (FP.i2d i3)) else sv2_1)) (hsv3_2 : sv3_2 = (if d3 = (2 : Int32) then (FP.dadd (if d3 = (0 : Int32) then sv2_0 else (if d3 = (1 : Int32) then sv2_1 else sv2_2)) (FP.i2d i3)) else sv2_2)) (hcv3_0 : cv3_0 = (if d3 = (0 : Int32) then ((if d3 = (0 : Int32) then cv2_0 else (if d3 = (1 : Int32) then cv2_1 else cv2_2)) + (1 : Int32)) else cv2_0)) (hcv3_1 : cv3_1 = (if d3 = (1 : Int32) then ((if d3 = (0 : Int32) then cv2_0 else (if d3 = (1 : Int32) then cv2_1 else cv2_2)) + (1 : Int32)) else cv2_1)) (hcv3_2 : cv3_2 = (if d3 = (2 : Int32) then ((if d3 = (0 : Int32) then cv2_0 else (if d3 = (1 : Int32) then cv2_1 else cv2_2)) + (1 : Int32)) else cv2_2)) (hev3_0 : ev3_0 = (if (if d3 = (0 : Int32) then cv2_0 else (if d3 = (1 : Int32) then cv2_1 else cv2_2)) = (0 : Int32) then (if z2 = (0 : Int32) then d3 else ev2_0) else ev2_0)) (hev3_1 : ev3_1 = (if (if d3 = (0 : Int32) then cv2_0 else (if d3 = (1 : Int32) then cv2_1 else cv2_2)) = (0 : Int32) then (if z2 = (1 : Int32) then d3 else ev2_1) else ev2_1)) (hev3_2 : ev3_2 = (if (if d3 = (0 : Int32) then cv2_0 else (if d3 = (1 : Int32) then cv2_1 else cv2_2)) = (0 : Int32) then (if z2 = (2 : Int32) then d3 else ev2_2) else ev2_2)) (hz3 : z3 = (if (if d3 = (0 : Int32) then cv2_0 else (if d3 = (1 : Int32) then cv2_1 else cv2_2)) = (0 : Int32) then (z2 + (1 : Int32)) else z2)) (j1 j2 j3 : Int32) : ¬ (docV cv3_2 sv3_2 (2 : Int32) d1 d2 d3 i1 i2 i3 = (0 : Int32)) :=
  own_docV (own_cases (own_three hd1) (own_three hd2) (own_three hd3) hcv1_0 hcv1_1 hcv1_2 hev1_0 hev1_1 hev1_2 hz1 hcv2_0 hcv2_1 hcv2_2 hev2_0 hev2_1 hev2_2 hz2 hcv3_0 hcv3_1 hcv3_2 hev3_0 hev3_1 hev3_2 hz3).2.2.2.2.2.2 (own_S3 hsv1_0 hsv1_1 hsv1_2 hsv2_0 hsv2_1 hsv2_2 hsv3_0 hsv3_1 hsv3_2).2.2
end PureLaw

def clrD (sz k a b c : Int32) (s : UInt64) : UInt64 :=
  if (2 : Int32) < sz then (if c = k then (0 : UInt64) else (if b = k then (0 : UInt64) else (if a = k then (0 : UInt64) else s))) else (if (1 : Int32) < sz then (if b = k then (0 : UInt64) else (if a = k then (0 : UInt64) else s)) else (if (0 : Int32) < sz then (if a = k then (0 : UInt64) else s) else s))
def clrI (sz k a b c : Int32) (s : Int32) : Int32 :=
  if (2 : Int32) < sz then (if c = k then (0 : Int32) else (if b = k then (0 : Int32) else (if a = k then (0 : Int32) else s))) else (if (1 : Int32) < sz then (if b = k then (0 : Int32) else (if a = k then (0 : Int32) else s)) else (if (0 : Int32) < sz then (if a = k then (0 : Int32) else s) else s))
theorem d3_0 : decode prog_10_method_7_code 0 = .ok (.iconst 0, 1) := by decide +kernel
theorem d3_1 : decode prog_10_method_7_code 1 = .ok (.istore_n 1, 1) := by decide +kernel
theorem d3_2 : decode prog_10_method_7_code 2 = .ok (.iload_n 1, 1) := by decide +kernel
theorem d3_3 : decode prog_10_method_7_code 3 = .ok (.aload_n 0, 1) := by decide +kernel
theorem d3_4 : decode prog_10_method_7_code 4 = .ok (.getfield 20, 3) := by decide +kernel
theorem d3_7 : decode prog_10_method_7_code 7 = .ok (.if_icmp .ge 30, 3) := by decide +kernel
theorem d3_10 : decode prog_10_method_7_code 10 = .ok (.aload_n 0, 1) := by decide +kernel
theorem d3_11 : decode prog_10_method_7_code 11 = .ok (.getfield 17, 3) := by decide +kernel
theorem d3_14 : decode prog_10_method_7_code 14 = .ok (.iload_n 1, 1) := by decide +kernel
theorem d3_15 : decode prog_10_method_7_code 15 = .ok (.iaload, 1) := by decide +kernel
theorem d3_16 : decode prog_10_method_7_code 16 = .ok (.istore_n 2, 1) := by decide +kernel
theorem d3_17 : decode prog_10_method_7_code 17 = .ok (.aload_n 0, 1) := by decide +kernel
theorem d3_18 : decode prog_10_method_7_code 18 = .ok (.getfield 7, 3) := by decide +kernel
theorem d3_21 : decode prog_10_method_7_code 21 = .ok (.iload_n 2, 1) := by decide +kernel
theorem d3_22 : decode prog_10_method_7_code 22 = .ok (.dconst 0, 1) := by decide +kernel
theorem d3_23 : decode prog_10_method_7_code 23 = .ok (.dastore, 1) := by decide +kernel
theorem d3_24 : decode prog_10_method_7_code 24 = .ok (.aload_n 0, 1) := by decide +kernel
theorem d3_25 : decode prog_10_method_7_code 25 = .ok (.getfield 13, 3) := by decide +kernel
theorem d3_28 : decode prog_10_method_7_code 28 = .ok (.iload_n 2, 1) := by decide +kernel
theorem d3_29 : decode prog_10_method_7_code 29 = .ok (.iconst 0, 1) := by decide +kernel
theorem d3_30 : decode prog_10_method_7_code 30 = .ok (.iastore, 1) := by decide +kernel
theorem d3_31 : decode prog_10_method_7_code 31 = .ok (.iinc 1 1, 3) := by decide +kernel
theorem d3_34 : decode prog_10_method_7_code 34 = .ok (.goto (-32), 3) := by decide +kernel
theorem d3_37 : decode prog_10_method_7_code 37 = .ok (.aload_n 0, 1) := by decide +kernel
theorem d3_38 : decode prog_10_method_7_code 38 = .ok (.iconst 0, 1) := by decide +kernel
theorem d3_39 : decode prog_10_method_7_code 39 = .ok (.putfield 20, 3) := by decide +kernel
theorem d3_42 : decode prog_10_method_7_code 42 = .ok (.return_, 1) := by decide +kernel
theorem ef_rm3 (m : MethodId) (a0 : Addr) : entryFrame m #[(.ref a0)] 3 = mkF m 0 #[.val (.ref a0), .unset, .unset] [] := by first | (simp [entryFrame, mkF, argsToLocals, Value.category]; done) | rfl
def Q_rm3 (Z : State) (a0 : Addr) (as : Addr) (ac : Addr) (ad : Addr) (sz : Int32) (k_as : ClassId) (s0 : UInt64) (s1 : UInt64) (s2 : UInt64) (k_ac : ClassId) (c0 : Int32) (c1 : Int32) (c2 : Int32) (k_ad : ClassId) (dc0 : Int32) (dc1 : Int32) (dc2 : Int32) (h0 : Heap) (n0 : Nat) (v : Option Value) (h : Heap) (L : List Loc) : Prop := v = none ∧ Fr n0 L ∧ Keep h0 h [a0, as, ac] ∧ Exa Z h a0 "com/example/clirtools/clirtools/DocumentSums" ∧ Fld Z h a0 "com/example/clirtools/clirtools/DocumentSums" "sums" "[D" (.ref as) ∧ Fld Z h a0 "com/example/clirtools/clirtools/DocumentSums" "counts" "[I" (.ref ac) ∧ Fld Z h a0 "com/example/clirtools/clirtools/DocumentSums" "documents" "[I" (.ref ad) ∧ Fld Z h a0 "com/example/clirtools/clirtools/DocumentSums" "size" "I" (.int (0 : Int32)) ∧ Arv Z h as k_as .double (3 : Int32) [(.double (clrD sz (0 : Int32) dc0 dc1 dc2 s0)), (.double (clrD sz (1 : Int32) dc0 dc1 dc2 s1)), (.double (clrD sz (2 : Int32) dc0 dc1 dc2 s2))] (.double (0 : UInt64)) ∧ Arv Z h ac k_ac .int (3 : Int32) [(.int (clrI sz (0 : Int32) dc0 dc1 dc2 c0)), (.int (clrI sz (1 : Int32) dc0 dc1 dc2 c1)), (.int (clrI sz (2 : Int32) dc0 dc1 dc2 c2))] (.int (0 : Int32))
set_option maxRecDepth 65536 in
set_option maxHeartbeats 40000000 in
theorem rm3 (l : Launch) (Z : State) (aw : Array Value) (hw : ∀ d ∈ tables_1, d.before aw Z = true) (ws : List Jvm.Cond) (a0 : Addr) (as : Addr) (ac : Addr) (ad : Addr) (sz : Int32) (k_as : ClassId) (s0 : UInt64) (s1 : UInt64) (s2 : UInt64) (k_ac : ClassId) (c0 : Int32) (c1 : Int32) (c2 : Int32) (k_ad : ClassId) (dc0 : Int32) (dc1 : Int32) (dc2 : Int32) (h0 : Heap) (n0 : Nat) (Z0 : n0 ≤ h0.size) (E_a0 : Exa Z h0 a0 "com/example/clirtools/clirtools/DocumentSums") (F_sums_a0 : Fld Z h0 a0 "com/example/clirtools/clirtools/DocumentSums" "sums" "[D" (.ref as)) (F_counts_a0 : Fld Z h0 a0 "com/example/clirtools/clirtools/DocumentSums" "counts" "[I" (.ref ac)) (F_documents_a0 : Fld Z h0 a0 "com/example/clirtools/clirtools/DocumentSums" "documents" "[I" (.ref ad)) (F_size_a0 : Fld Z h0 a0 "com/example/clirtools/clirtools/DocumentSums" "size" "I" (.int sz)) (V_as : Arv Z h0 as k_as .double (3 : Int32) [(.double s0), (.double s1), (.double s2)] (.double (0 : UInt64))) (V_ac : Arv Z h0 ac k_ac .int (3 : Int32) [(.int c0), (.int c1), (.int c2)] (.int (0 : Int32))) (V_ad : Arv Z h0 ad k_ad .int (3 : Int32) [(.int dc0), (.int dc1), (.int dc2)] (.int (0 : Int32))) (g_a0 : n0 ≤ a0) (g_as : n0 ≤ as) (g_ac : n0 ≤ ac) (ne_a0_as : a0 ≠ as) (ne_a0_ac : a0 ≠ ac) (ne_a0_ad : a0 ≠ ad) (ne_as_ac : as ≠ ac) (ne_as_ad : as ≠ ad) (ne_ac_ad : ac ≠ ad) (hsz : sz = (0 : Int32) ∨ sz = (1 : Int32) ∨ sz = (2 : Int32) ∨ sz = (3 : Int32)) (hd0 : (0 : Int32) < sz → Three dc0) (hd1 : (1 : Int32) < sz → Three dc1) (hd2 : (2 : Int32) < sz → Three dc2) :
    MetFree l (⟨"com/example/clirtools/clirtools/DocumentSums", "clear", "()V"⟩ : MethodName) (head1 (Jvm.Cond.code (⟨"com/example/clirtools/clirtools/DocumentSums", "clear", "()V"⟩ : MethodName) prog_10_method_7_code 3 none :: ws) ({ frames := 0, cells := 0, slots := 0, locals := 0 } : Room)) (fun a U => a = #[(.ref a0)] ∧ Z.Warmed39 U.vm ∧ U.heap = h0) (fun _ _ _ _ _ => True) (fun _ U o U' => ∃ v L, o = .returned v ∧ Q_rm3 Z a0 as ac ad sz k_as s0 s1 s2 k_ac c0 c1 c2 k_ad dc0 dc1 dc2 h0 n0 v U'.heap L ∧ FrameEnd U o U' L ({ frames := 0, cells := 0, slots := 0, locals := 0 } : Room).cells ({ frames := 0, cells := 0, slots := 0, locals := 0 } : Room).slots) := by
  refine MetFree.of_bodySF (plainFor_of_name pn_0) hisR ?_
  intro p e s m args below meth c s₁ Bd hml0 hP hK
  obtain ⟨rfl, hZ, hh⟩ := hP
  have hx := Bd.exec
  have hby := Bd.bytes
  have hml : c.maxLocals = 3 := hml0
  have hown : s.vm.findClass "com/example/clirtools/clirtools/DocumentSums" = some m.cls := findClass_of_methodNamed Bd.named
  have hnm := (name_of_methodNamed Bd.named Bd.method).1
  have hlk : meth.locks = false := BodyLoose.notSynchronized Bd
  have X0 : Stand p l e ({ frames := 0, cells := 0, slots := 0, locals := 0 } : Room) s m #[(.ref a0)] below meth c s₁ [] 0 0 := Stand.of_body Bd
  have e0 : s₁.heap = h0 := by rw [← hh, Bd.state]; rfl
  have N0 := Fr.nil n0
  have ZZ := Z0
  show Go p e below s ({ frames := 0, cells := 0, slots := 0, locals := 0 } : Room).cells ({ frames := 0, cells := 0, slots := 0, locals := 0 } : Room).slots (fun v h L => Q_rm3 Z a0 as ac ad sz k_as s0 s1 s2 k_ac c0 c1 c2 k_ad dc0 dc1 dc2 h0 n0 v h L) s₁ (entryFrame m #[(.ref a0)] 3)
  refine Go.cast (ef_rm3 m a0) ?_
  refine Go.gen ?_
  intro K1 K2 QQ hK1 hK2 hQQ
  have KP : Keep h0 h0 [a0, as, ac] := Keep.refl _ _
  refine Go.on (fun _ k => XS.iconst X0.here hx rfl (hb hby d3_0) k) ?_
  show Go _ _ _ _ _ _ _ _ (mkF m 1 #[.val (.ref a0), .unset, .unset] [(.int (0 : Int32))])
  refine Go.on (fun _ k => XS.istoreN X0.here hx rfl (hb hby d3_1) rfl (l' := #[.val (.ref a0), .val (.int (0 : Int32)), .unset]) rfl k) ?_
  show Go _ _ _ _ _ _ _ _ (mkF m 2 #[.val (.ref a0), .val (.int (0 : Int32)), .unset] [])
  rcases hsz with hq | hq | hq | hq
  · -- size 0
    subst hq
    show Go _ _ _ _ _ _ _ _ (mkF m 2 #[.val (.ref a0), .val (.int (0 : Int32)), .unset] [])
    refine Go.on (fun _ k => XS.iloadN X0.here hx rfl (hb hby d3_2) rfl k) ?_
    show Go _ _ _ _ _ _ _ _ (mkF m 3 #[.val (.ref a0), .val (.int (0 : Int32)), .unset] [(.int (0 : Int32))])
    refine Go.on (fun _ k => XS.aloadN X0.here hx rfl (hb hby d3_3) rfl rfl k) ?_
    show Go _ _ _ _ _ _ _ _ (mkF m 4 #[.val (.ref a0), .val (.int (0 : Int32)), .unset] [(.ref a0), (.int (0 : Int32))])
    obtain ⟨T1, X1, e1, st1⟩ := getF X0 hx hZ hown (host := "") (Or.inl (hw _ (List.mem_of_getElem? (i := 22) rfl))) Via.refl e0 F_size_a0 (g := (mkF m 4 #[.val (.ref a0), .val (.int (0 : Int32)), .unset] [(.ref a0), (.int (0 : Int32))])) rfl rfl (hb hby d3_4)
    refine Go.on st1 ?_
    show Go _ _ _ _ _ _ _ _ (mkF m 7 #[.val (.ref a0), .val (.int (0 : Int32)), .unset] [(.int (0 : Int32)), (.int (0 : Int32))])
    have hc2 : ¬ ((0 : Int32) < (0 : Int32)) := by decide
    refine Go.on (fun _ k => XS.icmpYes X1.here hx rfl (pc0 := 7) (pc' := 37) rfl (hb hby d3_7) rfl (flt hc2).2.1 (by decide) (by decide) k) ?_
    show Go _ _ _ _ _ _ _ _ (mkF m 37 #[.val (.ref a0), .val (.int (0 : Int32)), .unset] [])
    refine Go.on (fun _ k => XS.aloadN X1.here hx rfl (hb hby d3_37) rfl rfl k) ?_
    show Go _ _ _ _ _ _ _ _ (mkF m 38 #[.val (.ref a0), .val (.int (0 : Int32)), .unset] [(.ref a0)])
    refine Go.on (fun _ k => XS.iconst X1.here hx rfl (hb hby d3_38) k) ?_
    show Go _ _ _ _ _ _ _ _ (mkF m 39 #[.val (.ref a0), .val (.int (0 : Int32)), .unset] [(.int (0 : Int32)), (.ref a0)])
    obtain ⟨T3, h3, X3, e3, W3, st3⟩ := putF X1 hx hZ hown (host := "") (Or.inl (hw _ (List.mem_of_getElem? (i := 22) rfl))) Via.refl e1 F_size_a0 E_a0 (Or.inl (hw _ (List.mem_of_getElem? (i := 23) rfl))) (hw _ (List.mem_of_getElem? (i := 1) rfl)) (ty := .int) (by decide) rfl rfl (g := (mkF m 39 #[.val (.ref a0), .val (.int (0 : Int32)), .unset] [(.int (0 : Int32)), (.ref a0)])) rfl rfl (hb hby d3_39)
    refine Go.on st3 ?_
    replace F_size_a0 := F_size_a0.same W3
    replace E_a0 := E_a0.wr W3
    replace F_sums_a0 := F_sums_a0.other W3 (Or.inr (slot_ne (Or.inr (hw _ (List.mem_of_getElem? (i := 11) rfl))) (Or.inl (hw _ (List.mem_of_getElem? (i := 23) rfl))) (by decide) (t := (.array .double)) (t' := .int) (by decide) (by decide)))
    replace F_counts_a0 := F_counts_a0.other W3 (Or.inr (slot_ne (Or.inr (hw _ (List.mem_of_getElem? (i := 14) rfl))) (Or.inl (hw _ (List.mem_of_getElem? (i := 23) rfl))) (by decide) (t := (.array .int)) (t' := .int) (by decide) (by decide)))
    replace F_documents_a0 := F_documents_a0.other W3 (Or.inr (slot_ne (Or.inr (hw _ (List.mem_of_getElem? (i := 16) rfl))) (Or.inl (hw _ (List.mem_of_getElem? (i := 23) rfl))) (by decide) (t := (.array .int)) (t' := .int) (by decide) (by decide)))
    replace V_as := V_as.other W3 (Ne.symm ne_a0_as)
    replace V_ac := V_ac.other W3 (Ne.symm ne_a0_ac)
    replace V_ad := V_ad.other W3 (Ne.symm ne_a0_ad)
    have N3 := Fr.snoc X3 N0 g_a0
    replace ZZ := Nat.le_trans ZZ (Keep.of_wr W3).1
    replace KP := KP.wr W3 (Or.inl (List.mem_of_getElem? (i := 0) rfl))
    show Go _ _ _ _ _ _ _ _ (mkF m 42 #[.val (.ref a0), .val (.int (0 : Int32)), .unset] [])
    refine Go.ret0 X3 hx Bd.returns (hb hby d3_42) ?_ (by rw [hK1]; decide) (by rw [hK2]; decide)
    rw [e3, ← hQQ]
    exact ⟨rfl, N3, KP, E_a0, F_sums_a0, F_counts_a0, F_documents_a0, F_size_a0, V_as, V_ac⟩
  · -- size 1
    subst hq
    show Go _ _ _ _ _ _ _ _ (mkF m 2 #[.val (.ref a0), .val (.int (0 : Int32)), .unset] [])
    refine Go.on (fun _ k => XS.iloadN X0.here hx rfl (hb hby d3_2) rfl k) ?_
    show Go _ _ _ _ _ _ _ _ (mkF m 3 #[.val (.ref a0), .val (.int (0 : Int32)), .unset] [(.int (0 : Int32))])
    refine Go.on (fun _ k => XS.aloadN X0.here hx rfl (hb hby d3_3) rfl rfl k) ?_
    show Go _ _ _ _ _ _ _ _ (mkF m 4 #[.val (.ref a0), .val (.int (0 : Int32)), .unset] [(.ref a0), (.int (0 : Int32))])
    obtain ⟨T4, X4, e4, st4⟩ := getF X0 hx hZ hown (host := "") (Or.inl (hw _ (List.mem_of_getElem? (i := 22) rfl))) Via.refl e0 F_size_a0 (g := (mkF m 4 #[.val (.ref a0), .val (.int (0 : Int32)), .unset] [(.ref a0), (.int (0 : Int32))])) rfl rfl (hb hby d3_4)
    refine Go.on st4 ?_
    show Go _ _ _ _ _ _ _ _ (mkF m 7 #[.val (.ref a0), .val (.int (0 : Int32)), .unset] [(.int (1 : Int32)), (.int (0 : Int32))])
    have hc5 : (0 : Int32) < (1 : Int32) := by decide
    refine Go.on (fun _ k => XS.icmpNo X4.here hx rfl (hb hby d3_7) rfl (tlt hc5).2.1 k) ?_
    show Go _ _ _ _ _ _ _ _ (mkF m 10 #[.val (.ref a0), .val (.int (0 : Int32)), .unset] [])
    refine Go.on (fun _ k => XS.aloadN X4.here hx rfl (hb hby d3_10) rfl rfl k) ?_
    show Go _ _ _ _ _ _ _ _ (mkF m 11 #[.val (.ref a0), .val (.int (0 : Int32)), .unset] [(.ref a0)])
    obtain ⟨T6, X6, e6, st6⟩ := getF X4 hx hZ hown (host := "") (Or.inl (hw _ (List.mem_of_getElem? (i := 15) rfl))) Via.refl e4 F_documents_a0 (g := (mkF m 11 #[.val (.ref a0), .val (.int (0 : Int32)), .unset] [(.ref a0)])) rfl rfl (hb hby d3_11)
    refine Go.on st6 ?_
    show Go _ _ _ _ _ _ _ _ (mkF m 14 #[.val (.ref a0), .val (.int (0 : Int32)), .unset] [(.ref ad)])
    refine Go.on (fun _ k => XS.iloadN X6.here hx rfl (hb hby d3_14) rfl k) ?_
    show Go _ _ _ _ _ _ _ _ (mkF m 15 #[.val (.ref a0), .val (.int (0 : Int32)), .unset] [(.int (0 : Int32)), (.ref ad)])
    obtain ⟨cl7, Ar7, -, S7, -, H7, -⟩ := id V_ad
    have hin7 : ¬ ((0 : Int32) < 0 ∨ cl7.slots.size ≤ ((0 : Int32)).toNatClampNeg) := inb_of S7 ⟨by decide, by decide⟩
    refine Go.on (X6.iaload hx (j := (0 : Int32)) (v := (.int dc0)) (by rw [e6]; exact Ar7.1) (State.isArrayOf_alike hZ.alike Ar7.2.1) Ar7.2.2 hin7 (H7.at hin7 (rfl)) (g := (mkF m 15 #[.val (.ref a0), .val (.int (0 : Int32)), .unset] [(.int (0 : Int32)), (.ref ad)])) rfl rfl (hb hby d3_15)) ?_
    show Go _ _ _ _ _ _ _ _ (mkF m 16 #[.val (.ref a0), .val (.int (0 : Int32)), .unset] [(.int dc0)])
    refine Go.on (fun _ k => XS.istoreN X6.here hx rfl (hb hby d3_16) rfl (l' := #[.val (.ref a0), .val (.int (0 : Int32)), .val (.int dc0)]) rfl k) ?_
    show Go _ _ _ _ _ _ _ _ (mkF m 17 #[.val (.ref a0), .val (.int (0 : Int32)), .val (.int dc0)] [])
    refine Go.on (fun _ k => XS.aloadN X6.here hx rfl (hb hby d3_17) rfl rfl k) ?_
    show Go _ _ _ _ _ _ _ _ (mkF m 18 #[.val (.ref a0), .val (.int (0 : Int32)), .val (.int dc0)] [(.ref a0)])
    obtain ⟨T8, X8, e8, st8⟩ := getF X6 hx hZ hown (host := "") (Or.inl (hw _ (List.mem_of_getElem? (i := 10) rfl))) Via.refl e6 F_sums_a0 (g := (mkF m 18 #[.val (.ref a0), .val (.int (0 : Int32)), .val (.int dc0)] [(.ref a0)])) rfl rfl (hb hby d3_18)
    refine Go.on st8 ?_
    show Go _ _ _ _ _ _ _ _ (mkF m 21 #[.val (.ref a0), .val (.int (0 : Int32)), .val (.int dc0)] [(.ref as)])
    refine Go.on (fun _ k => XS.iloadN X8.here hx rfl (hb hby d3_21) rfl k) ?_
    show Go _ _ _ _ _ _ _ _ (mkF m 22 #[.val (.ref a0), .val (.int (0 : Int32)), .val (.int dc0)] [(.int dc0), (.ref as)])
    refine Go.on (fun _ k => XS.dconst0 X8.here hx rfl (v := (0 : UInt64)) (hb hby d3_22) rfl k) ?_
    show Go _ _ _ _ _ _ _ _ (mkF m 23 #[.val (.ref a0), .val (.int (0 : Int32)), .val (.int dc0)] [(.double (0 : UInt64)), (.int dc0), (.ref as)])
    obtain ⟨cl9, Ar9, q9, S9, N9n, H9, G9⟩ := id V_as
    have hin9 : ¬ (dc0 < 0 ∨ cl9.slots.size ≤ (dc0).toNatClampNeg) := inb_of S9 (hd0 (by decide)).inb
    obtain ⟨T9, h9, X9, e9, W9, st9⟩ := stD X8 hx hZ e8 Ar9 (j := dc0) hin9 (g := (mkF m 23 #[.val (.ref a0), .val (.int (0 : Int32)), .val (.int dc0)] [(.double (0 : UInt64)), (.int dc0), (.ref as)])) rfl rfl (hb hby d3_23)
    replace V_as := Arv.set Ar9 q9 S9 N9n H9 G9 rfl W9 _ rfl (hd0 (by decide)).lt
    replace E_a0 := E_a0.wr W9
    replace F_sums_a0 := F_sums_a0.other W9 (Or.inl ne_a0_as)
    replace F_counts_a0 := F_counts_a0.other W9 (Or.inl ne_a0_as)
    replace F_documents_a0 := F_documents_a0.other W9 (Or.inl ne_a0_as)
    replace F_size_a0 := F_size_a0.other W9 (Or.inl ne_a0_as)
    replace V_ac := V_ac.other W9 (Ne.symm ne_as_ac)
    replace V_ad := V_ad.other W9 (Ne.symm ne_as_ad)
    refine Go.on st9 ?_
    have N9 := Fr.snoc X9 N0 g_as
    replace ZZ := Nat.le_trans ZZ (Keep.of_wr W9).1
    replace KP := KP.wr W9 (Or.inl (List.mem_of_getElem? (i := 1) rfl))
    rw [own_setD (hd0 (by decide))] at V_as
    show Go _ _ _ _ _ _ _ _ (mkF m 24 #[.val (.ref a0), .val (.int (0 : Int32)), .val (.int dc0)] [])
    refine Go.on (fun _ k => XS.aloadN X9.here hx rfl (hb hby d3_24) rfl rfl k) ?_
    show Go _ _ _ _ _ _ _ _ (mkF m 25 #[.val (.ref a0), .val (.int (0 : Int32)), .val (.int dc0)] [(.ref a0)])
    obtain ⟨T10, X10, e10, st10⟩ := getF X9 hx hZ hown (host := "") (Or.inl (hw _ (List.mem_of_getElem? (i := 13) rfl))) Via.refl e9 F_counts_a0 (g := (mkF m 25 #[.val (.ref a0), .val (.int (0 : Int32)), .val (.int dc0)] [(.ref a0)])) rfl rfl (hb hby d3_25)
    refine Go.on st10 ?_
    show Go _ _ _ _ _ _ _ _ (mkF m 28 #[.val (.ref a0), .val (.int (0 : Int32)), .val (.int dc0)] [(.ref ac)])
    refine Go.on (fun _ k => XS.iloadN X10.here hx rfl (hb hby d3_28) rfl k) ?_
    show Go _ _ _ _ _ _ _ _ (mkF m 29 #[.val (.ref a0), .val (.int (0 : Int32)), .val (.int dc0)] [(.int dc0), (.ref ac)])
    refine Go.on (fun _ k => XS.iconst X10.here hx rfl (hb hby d3_29) k) ?_
    show Go _ _ _ _ _ _ _ _ (mkF m 30 #[.val (.ref a0), .val (.int (0 : Int32)), .val (.int dc0)] [(.int (0 : Int32)), (.int dc0), (.ref ac)])
    obtain ⟨cl11, Ar11, q11, S11, N11n, H11, G11⟩ := id V_ac
    have hin11 : ¬ (dc0 < 0 ∨ cl11.slots.size ≤ (dc0).toNatClampNeg) := inb_of S11 (hd0 (by decide)).inb
    obtain ⟨T11, h11, X11, e11, W11, st11⟩ := stI X10 hx hZ e10 Ar11 (j := dc0) hin11 (g := (mkF m 30 #[.val (.ref a0), .val (.int (0 : Int32)), .val (.int dc0)] [(.int (0 : Int32)), (.int dc0), (.ref ac)])) rfl rfl (hb hby d3_30)
    replace V_ac := Arv.set Ar11 q11 S11 N11n H11 G11 rfl W11 _ rfl (hd0 (by decide)).lt
    replace E_a0 := E_a0.wr W11
    replace F_sums_a0 := F_sums_a0.other W11 (Or.inl ne_a0_ac)
    replace F_counts_a0 := F_counts_a0.other W11 (Or.inl ne_a0_ac)
    replace F_documents_a0 := F_documents_a0.other W11 (Or.inl ne_a0_ac)
    replace F_size_a0 := F_size_a0.other W11 (Or.inl ne_a0_ac)
    replace V_as := V_as.other W11 ne_as_ac
    replace V_ad := V_ad.other W11 (Ne.symm ne_ac_ad)
    refine Go.on st11 ?_
    have N11 := Fr.snoc X11 N9 g_ac
    replace ZZ := Nat.le_trans ZZ (Keep.of_wr W11).1
    replace KP := KP.wr W11 (Or.inl (List.mem_of_getElem? (i := 2) rfl))
    rw [own_setI (hd0 (by decide))] at V_ac
    show Go _ _ _ _ _ _ _ _ (mkF m 31 #[.val (.ref a0), .val (.int (0 : Int32)), .val (.int dc0)] [])
    refine Go.on (fun _ k => XS.iinc X11.here hx rfl (hb hby d3_31) rfl (l' := #[.val (.ref a0), .val (.int (1 : Int32)), .val (.int dc0)]) rfl k) ?_
    show Go _ _ _ _ _ _ _ _ (mkF m 34 #[.val (.ref a0), .val (.int (1 : Int32)), .val (.int dc0)] [])
    refine Go.on (fun _ k => XS.goto X11.here hx rfl (pc0 := 34) (pc' := 2) rfl (hb hby d3_34) (by decide) (by decide) k) ?_
    show Go _ _ _ _ _ _ _ _ (mkF m 2 #[.val (.ref a0), .val (.int (1 : Int32)), .val (.int dc0)] [])
    refine Go.on (fun _ k => XS.iloadN X11.here hx rfl (hb hby d3_2) rfl k) ?_
    show Go _ _ _ _ _ _ _ _ (mkF m 3 #[.val (.ref a0), .val (.int (1 : Int32)), .val (.int dc0)] [(.int (1 : Int32))])
    refine Go.on (fun _ k => XS.aloadN X11.here hx rfl (hb hby d3_3) rfl rfl k) ?_
    show Go _ _ _ _ _ _ _ _ (mkF m 4 #[.val (.ref a0), .val (.int (1 : Int32)), .val (.int dc0)] [(.ref a0), (.int (1 : Int32))])
    obtain ⟨T12, X12, e12, st12⟩ := getF X11 hx hZ hown (host := "") (Or.inl (hw _ (List.mem_of_getElem? (i := 22) rfl))) Via.refl e11 F_size_a0 (g := (mkF m 4 #[.val (.ref a0), .val (.int (1 : Int32)), .val (.int dc0)] [(.ref a0), (.int (1 : Int32))])) rfl rfl (hb hby d3_4)
    refine Go.on st12 ?_
    show Go _ _ _ _ _ _ _ _ (mkF m 7 #[.val (.ref a0), .val (.int (1 : Int32)), .val (.int dc0)] [(.int (1 : Int32)), (.int (1 : Int32))])
    have hc13 : ¬ ((1 : Int32) < (1 : Int32)) := by decide
    refine Go.on (fun _ k => XS.icmpYes X12.here hx rfl (pc0 := 7) (pc' := 37) rfl (hb hby d3_7) rfl (flt hc13).2.1 (by decide) (by decide) k) ?_
    show Go _ _ _ _ _ _ _ _ (mkF m 37 #[.val (.ref a0), .val (.int (1 : Int32)), .val (.int dc0)] [])
    refine Go.on (fun _ k => XS.aloadN X12.here hx rfl (hb hby d3_37) rfl rfl k) ?_
    show Go _ _ _ _ _ _ _ _ (mkF m 38 #[.val (.ref a0), .val (.int (1 : Int32)), .val (.int dc0)] [(.ref a0)])
    refine Go.on (fun _ k => XS.iconst X12.here hx rfl (hb hby d3_38) k) ?_
    show Go _ _ _ _ _ _ _ _ (mkF m 39 #[.val (.ref a0), .val (.int (1 : Int32)), .val (.int dc0)] [(.int (0 : Int32)), (.ref a0)])
    obtain ⟨T14, h14, X14, e14, W14, st14⟩ := putF X12 hx hZ hown (host := "") (Or.inl (hw _ (List.mem_of_getElem? (i := 22) rfl))) Via.refl e12 F_size_a0 E_a0 (Or.inl (hw _ (List.mem_of_getElem? (i := 23) rfl))) (hw _ (List.mem_of_getElem? (i := 1) rfl)) (ty := .int) (by decide) rfl rfl (g := (mkF m 39 #[.val (.ref a0), .val (.int (1 : Int32)), .val (.int dc0)] [(.int (0 : Int32)), (.ref a0)])) rfl rfl (hb hby d3_39)
    refine Go.on st14 ?_
    replace F_size_a0 := F_size_a0.same W14
    replace E_a0 := E_a0.wr W14
    replace F_sums_a0 := F_sums_a0.other W14 (Or.inr (slot_ne (Or.inr (hw _ (List.mem_of_getElem? (i := 11) rfl))) (Or.inl (hw _ (List.mem_of_getElem? (i := 23) rfl))) (by decide) (t := (.array .double)) (t' := .int) (by decide) (by decide)))
    replace F_counts_a0 := F_counts_a0.other W14 (Or.inr (slot_ne (Or.inr (hw _ (List.mem_of_getElem? (i := 14) rfl))) (Or.inl (hw _ (List.mem_of_getElem? (i := 23) rfl))) (by decide) (t := (.array .int)) (t' := .int) (by decide) (by decide)))
    replace F_documents_a0 := F_documents_a0.other W14 (Or.inr (slot_ne (Or.inr (hw _ (List.mem_of_getElem? (i := 16) rfl))) (Or.inl (hw _ (List.mem_of_getElem? (i := 23) rfl))) (by decide) (t := (.array .int)) (t' := .int) (by decide) (by decide)))
    replace V_as := V_as.other W14 (Ne.symm ne_a0_as)
    replace V_ac := V_ac.other W14 (Ne.symm ne_a0_ac)
    replace V_ad := V_ad.other W14 (Ne.symm ne_a0_ad)
    have N14 := Fr.snoc X14 N11 g_a0
    replace ZZ := Nat.le_trans ZZ (Keep.of_wr W14).1
    replace KP := KP.wr W14 (Or.inl (List.mem_of_getElem? (i := 0) rfl))
    show Go _ _ _ _ _ _ _ _ (mkF m 42 #[.val (.ref a0), .val (.int (1 : Int32)), .val (.int dc0)] [])
    refine Go.ret0 X14 hx Bd.returns (hb hby d3_42) ?_ (by rw [hK1]; decide) (by rw [hK2]; decide)
    rw [e14, ← hQQ]
    exact ⟨rfl, N14, KP, E_a0, F_sums_a0, F_counts_a0, F_documents_a0, F_size_a0, V_as, V_ac⟩
  · -- size 2
    subst hq
    show Go _ _ _ _ _ _ _ _ (mkF m 2 #[.val (.ref a0), .val (.int (0 : Int32)), .unset] [])
    refine Go.on (fun _ k => XS.iloadN X0.here hx rfl (hb hby d3_2) rfl k) ?_
    show Go _ _ _ _ _ _ _ _ (mkF m 3 #[.val (.ref a0), .val (.int (0 : Int32)), .unset] [(.int (0 : Int32))])
    refine Go.on (fun _ k => XS.aloadN X0.here hx rfl (hb hby d3_3) rfl rfl k) ?_
    show Go _ _ _ _ _ _ _ _ (mkF m 4 #[.val (.ref a0), .val (.int (0 : Int32)), .unset] [(.ref a0), (.int (0 : Int32))])
    obtain ⟨T15, X15, e15, st15⟩ := getF X0 hx hZ hown (host := "") (Or.inl (hw _ (List.mem_of_getElem? (i := 22) rfl))) Via.refl e0 F_size_a0 (g := (mkF m 4 #[.val (.ref a0), .val (.int (0 : Int32)), .unset] [(.ref a0), (.int (0 : Int32))])) rfl rfl (hb hby d3_4)
    refine Go.on st15 ?_
    show Go _ _ _ _ _ _ _ _ (mkF m 7 #[.val (.ref a0), .val (.int (0 : Int32)), .unset] [(.int (2 : Int32)), (.int (0 : Int32))])
    have hc16 : (0 : Int32) < (2 : Int32) := by decide
    refine Go.on (fun _ k => XS.icmpNo X15.here hx rfl (hb hby d3_7) rfl (tlt hc16).2.1 k) ?_
    show Go _ _ _ _ _ _ _ _ (mkF m 10 #[.val (.ref a0), .val (.int (0 : Int32)), .unset] [])
    refine Go.on (fun _ k => XS.aloadN X15.here hx rfl (hb hby d3_10) rfl rfl k) ?_
    show Go _ _ _ _ _ _ _ _ (mkF m 11 #[.val (.ref a0), .val (.int (0 : Int32)), .unset] [(.ref a0)])
    obtain ⟨T17, X17, e17, st17⟩ := getF X15 hx hZ hown (host := "") (Or.inl (hw _ (List.mem_of_getElem? (i := 15) rfl))) Via.refl e15 F_documents_a0 (g := (mkF m 11 #[.val (.ref a0), .val (.int (0 : Int32)), .unset] [(.ref a0)])) rfl rfl (hb hby d3_11)
    refine Go.on st17 ?_
    show Go _ _ _ _ _ _ _ _ (mkF m 14 #[.val (.ref a0), .val (.int (0 : Int32)), .unset] [(.ref ad)])
    refine Go.on (fun _ k => XS.iloadN X17.here hx rfl (hb hby d3_14) rfl k) ?_
    show Go _ _ _ _ _ _ _ _ (mkF m 15 #[.val (.ref a0), .val (.int (0 : Int32)), .unset] [(.int (0 : Int32)), (.ref ad)])
    obtain ⟨cl18, Ar18, -, S18, -, H18, -⟩ := id V_ad
    have hin18 : ¬ ((0 : Int32) < 0 ∨ cl18.slots.size ≤ ((0 : Int32)).toNatClampNeg) := inb_of S18 ⟨by decide, by decide⟩
    refine Go.on (X17.iaload hx (j := (0 : Int32)) (v := (.int dc0)) (by rw [e17]; exact Ar18.1) (State.isArrayOf_alike hZ.alike Ar18.2.1) Ar18.2.2 hin18 (H18.at hin18 (rfl)) (g := (mkF m 15 #[.val (.ref a0), .val (.int (0 : Int32)), .unset] [(.int (0 : Int32)), (.ref ad)])) rfl rfl (hb hby d3_15)) ?_
    show Go _ _ _ _ _ _ _ _ (mkF m 16 #[.val (.ref a0), .val (.int (0 : Int32)), .unset] [(.int dc0)])
    refine Go.on (fun _ k => XS.istoreN X17.here hx rfl (hb hby d3_16) rfl (l' := #[.val (.ref a0), .val (.int (0 : Int32)), .val (.int dc0)]) rfl k) ?_
    show Go _ _ _ _ _ _ _ _ (mkF m 17 #[.val (.ref a0), .val (.int (0 : Int32)), .val (.int dc0)] [])
    refine Go.on (fun _ k => XS.aloadN X17.here hx rfl (hb hby d3_17) rfl rfl k) ?_
    show Go _ _ _ _ _ _ _ _ (mkF m 18 #[.val (.ref a0), .val (.int (0 : Int32)), .val (.int dc0)] [(.ref a0)])
    obtain ⟨T19, X19, e19, st19⟩ := getF X17 hx hZ hown (host := "") (Or.inl (hw _ (List.mem_of_getElem? (i := 10) rfl))) Via.refl e17 F_sums_a0 (g := (mkF m 18 #[.val (.ref a0), .val (.int (0 : Int32)), .val (.int dc0)] [(.ref a0)])) rfl rfl (hb hby d3_18)
    refine Go.on st19 ?_
    show Go _ _ _ _ _ _ _ _ (mkF m 21 #[.val (.ref a0), .val (.int (0 : Int32)), .val (.int dc0)] [(.ref as)])
    refine Go.on (fun _ k => XS.iloadN X19.here hx rfl (hb hby d3_21) rfl k) ?_
    show Go _ _ _ _ _ _ _ _ (mkF m 22 #[.val (.ref a0), .val (.int (0 : Int32)), .val (.int dc0)] [(.int dc0), (.ref as)])
    refine Go.on (fun _ k => XS.dconst0 X19.here hx rfl (v := (0 : UInt64)) (hb hby d3_22) rfl k) ?_
    show Go _ _ _ _ _ _ _ _ (mkF m 23 #[.val (.ref a0), .val (.int (0 : Int32)), .val (.int dc0)] [(.double (0 : UInt64)), (.int dc0), (.ref as)])
    obtain ⟨cl20, Ar20, q20, S20, N20n, H20, G20⟩ := id V_as
    have hin20 : ¬ (dc0 < 0 ∨ cl20.slots.size ≤ (dc0).toNatClampNeg) := inb_of S20 (hd0 (by decide)).inb
    obtain ⟨T20, h20, X20, e20, W20, st20⟩ := stD X19 hx hZ e19 Ar20 (j := dc0) hin20 (g := (mkF m 23 #[.val (.ref a0), .val (.int (0 : Int32)), .val (.int dc0)] [(.double (0 : UInt64)), (.int dc0), (.ref as)])) rfl rfl (hb hby d3_23)
    replace V_as := Arv.set Ar20 q20 S20 N20n H20 G20 rfl W20 _ rfl (hd0 (by decide)).lt
    replace E_a0 := E_a0.wr W20
    replace F_sums_a0 := F_sums_a0.other W20 (Or.inl ne_a0_as)
    replace F_counts_a0 := F_counts_a0.other W20 (Or.inl ne_a0_as)
    replace F_documents_a0 := F_documents_a0.other W20 (Or.inl ne_a0_as)
    replace F_size_a0 := F_size_a0.other W20 (Or.inl ne_a0_as)
    replace V_ac := V_ac.other W20 (Ne.symm ne_as_ac)
    replace V_ad := V_ad.other W20 (Ne.symm ne_as_ad)
    refine Go.on st20 ?_
    have N20 := Fr.snoc X20 N0 g_as
    replace ZZ := Nat.le_trans ZZ (Keep.of_wr W20).1
    replace KP := KP.wr W20 (Or.inl (List.mem_of_getElem? (i := 1) rfl))
    rw [own_setD (hd0 (by decide))] at V_as
    show Go _ _ _ _ _ _ _ _ (mkF m 24 #[.val (.ref a0), .val (.int (0 : Int32)), .val (.int dc0)] [])
    refine Go.on (fun _ k => XS.aloadN X20.here hx rfl (hb hby d3_24) rfl rfl k) ?_
    show Go _ _ _ _ _ _ _ _ (mkF m 25 #[.val (.ref a0), .val (.int (0 : Int32)), .val (.int dc0)] [(.ref a0)])
    obtain ⟨T21, X21, e21, st21⟩ := getF X20 hx hZ hown (host := "") (Or.inl (hw _ (List.mem_of_getElem? (i := 13) rfl))) Via.refl e20 F_counts_a0 (g := (mkF m 25 #[.val (.ref a0), .val (.int (0 : Int32)), .val (.int dc0)] [(.ref a0)])) rfl rfl (hb hby d3_25)
    refine Go.on st21 ?_
    show Go _ _ _ _ _ _ _ _ (mkF m 28 #[.val (.ref a0), .val (.int (0 : Int32)), .val (.int dc0)] [(.ref ac)])
    refine Go.on (fun _ k => XS.iloadN X21.here hx rfl (hb hby d3_28) rfl k) ?_
    show Go _ _ _ _ _ _ _ _ (mkF m 29 #[.val (.ref a0), .val (.int (0 : Int32)), .val (.int dc0)] [(.int dc0), (.ref ac)])
    refine Go.on (fun _ k => XS.iconst X21.here hx rfl (hb hby d3_29) k) ?_
    show Go _ _ _ _ _ _ _ _ (mkF m 30 #[.val (.ref a0), .val (.int (0 : Int32)), .val (.int dc0)] [(.int (0 : Int32)), (.int dc0), (.ref ac)])
    obtain ⟨cl22, Ar22, q22, S22, N22n, H22, G22⟩ := id V_ac
    have hin22 : ¬ (dc0 < 0 ∨ cl22.slots.size ≤ (dc0).toNatClampNeg) := inb_of S22 (hd0 (by decide)).inb
    obtain ⟨T22, h22, X22, e22, W22, st22⟩ := stI X21 hx hZ e21 Ar22 (j := dc0) hin22 (g := (mkF m 30 #[.val (.ref a0), .val (.int (0 : Int32)), .val (.int dc0)] [(.int (0 : Int32)), (.int dc0), (.ref ac)])) rfl rfl (hb hby d3_30)
    replace V_ac := Arv.set Ar22 q22 S22 N22n H22 G22 rfl W22 _ rfl (hd0 (by decide)).lt
    replace E_a0 := E_a0.wr W22
    replace F_sums_a0 := F_sums_a0.other W22 (Or.inl ne_a0_ac)
    replace F_counts_a0 := F_counts_a0.other W22 (Or.inl ne_a0_ac)
    replace F_documents_a0 := F_documents_a0.other W22 (Or.inl ne_a0_ac)
    replace F_size_a0 := F_size_a0.other W22 (Or.inl ne_a0_ac)
    replace V_as := V_as.other W22 ne_as_ac
    replace V_ad := V_ad.other W22 (Ne.symm ne_ac_ad)
    refine Go.on st22 ?_
    have N22 := Fr.snoc X22 N20 g_ac
    replace ZZ := Nat.le_trans ZZ (Keep.of_wr W22).1
    replace KP := KP.wr W22 (Or.inl (List.mem_of_getElem? (i := 2) rfl))
    rw [own_setI (hd0 (by decide))] at V_ac
    show Go _ _ _ _ _ _ _ _ (mkF m 31 #[.val (.ref a0), .val (.int (0 : Int32)), .val (.int dc0)] [])
    refine Go.on (fun _ k => XS.iinc X22.here hx rfl (hb hby d3_31) rfl (l' := #[.val (.ref a0), .val (.int (1 : Int32)), .val (.int dc0)]) rfl k) ?_
    show Go _ _ _ _ _ _ _ _ (mkF m 34 #[.val (.ref a0), .val (.int (1 : Int32)), .val (.int dc0)] [])
    refine Go.on (fun _ k => XS.goto X22.here hx rfl (pc0 := 34) (pc' := 2) rfl (hb hby d3_34) (by decide) (by decide) k) ?_
    show Go _ _ _ _ _ _ _ _ (mkF m 2 #[.val (.ref a0), .val (.int (1 : Int32)), .val (.int dc0)] [])
    refine Go.on (fun _ k => XS.iloadN X22.here hx rfl (hb hby d3_2) rfl k) ?_
    show Go _ _ _ _ _ _ _ _ (mkF m 3 #[.val (.ref a0), .val (.int (1 : Int32)), .val (.int dc0)] [(.int (1 : Int32))])
    refine Go.on (fun _ k => XS.aloadN X22.here hx rfl (hb hby d3_3) rfl rfl k) ?_
    show Go _ _ _ _ _ _ _ _ (mkF m 4 #[.val (.ref a0), .val (.int (1 : Int32)), .val (.int dc0)] [(.ref a0), (.int (1 : Int32))])
    obtain ⟨T23, X23, e23, st23⟩ := getF X22 hx hZ hown (host := "") (Or.inl (hw _ (List.mem_of_getElem? (i := 22) rfl))) Via.refl e22 F_size_a0 (g := (mkF m 4 #[.val (.ref a0), .val (.int (1 : Int32)), .val (.int dc0)] [(.ref a0), (.int (1 : Int32))])) rfl rfl (hb hby d3_4)
    refine Go.on st23 ?_
    show Go _ _ _ _ _ _ _ _ (mkF m 7 #[.val (.ref a0), .val (.int (1 : Int32)), .val (.int dc0)] [(.int (2 : Int32)), (.int (1 : Int32))])
    have hc24 : (1 : Int32) < (2 : Int32) := by decide
    refine Go.on (fun _ k => XS.icmpNo X23.here hx rfl (hb hby d3_7) rfl (tlt hc24).2.1 k) ?_
    show Go _ _ _ _ _ _ _ _ (mkF m 10 #[.val (.ref a0), .val (.int (1 : Int32)), .val (.int dc0)] [])
    refine Go.on (fun _ k => XS.aloadN X23.here hx rfl (hb hby d3_10) rfl rfl k) ?_
    show Go _ _ _ _ _ _ _ _ (mkF m 11 #[.val (.ref a0), .val (.int (1 : Int32)), .val (.int dc0)] [(.ref a0)])
    obtain ⟨T25, X25, e25, st25⟩ := getF X23 hx hZ hown (host := "") (Or.inl (hw _ (List.mem_of_getElem? (i := 15) rfl))) Via.refl e23 F_documents_a0 (g := (mkF m 11 #[.val (.ref a0), .val (.int (1 : Int32)), .val (.int dc0)] [(.ref a0)])) rfl rfl (hb hby d3_11)
    refine Go.on st25 ?_
    show Go _ _ _ _ _ _ _ _ (mkF m 14 #[.val (.ref a0), .val (.int (1 : Int32)), .val (.int dc0)] [(.ref ad)])
    refine Go.on (fun _ k => XS.iloadN X25.here hx rfl (hb hby d3_14) rfl k) ?_
    show Go _ _ _ _ _ _ _ _ (mkF m 15 #[.val (.ref a0), .val (.int (1 : Int32)), .val (.int dc0)] [(.int (1 : Int32)), (.ref ad)])
    obtain ⟨cl26, Ar26, -, S26, -, H26, -⟩ := id V_ad
    have hin26 : ¬ ((1 : Int32) < 0 ∨ cl26.slots.size ≤ ((1 : Int32)).toNatClampNeg) := inb_of S26 ⟨by decide, by decide⟩
    refine Go.on (X25.iaload hx (j := (1 : Int32)) (v := (.int dc1)) (by rw [e25]; exact Ar26.1) (State.isArrayOf_alike hZ.alike Ar26.2.1) Ar26.2.2 hin26 (H26.at hin26 (rfl)) (g := (mkF m 15 #[.val (.ref a0), .val (.int (1 : Int32)), .val (.int dc0)] [(.int (1 : Int32)), (.ref ad)])) rfl rfl (hb hby d3_15)) ?_
    show Go _ _ _ _ _ _ _ _ (mkF m 16 #[.val (.ref a0), .val (.int (1 : Int32)), .val (.int dc0)] [(.int dc1)])
    refine Go.on (fun _ k => XS.istoreN X25.here hx rfl (hb hby d3_16) rfl (l' := #[.val (.ref a0), .val (.int (1 : Int32)), .val (.int dc1)]) rfl k) ?_
    show Go _ _ _ _ _ _ _ _ (mkF m 17 #[.val (.ref a0), .val (.int (1 : Int32)), .val (.int dc1)] [])
    refine Go.on (fun _ k => XS.aloadN X25.here hx rfl (hb hby d3_17) rfl rfl k) ?_
    show Go _ _ _ _ _ _ _ _ (mkF m 18 #[.val (.ref a0), .val (.int (1 : Int32)), .val (.int dc1)] [(.ref a0)])
    obtain ⟨T27, X27, e27, st27⟩ := getF X25 hx hZ hown (host := "") (Or.inl (hw _ (List.mem_of_getElem? (i := 10) rfl))) Via.refl e25 F_sums_a0 (g := (mkF m 18 #[.val (.ref a0), .val (.int (1 : Int32)), .val (.int dc1)] [(.ref a0)])) rfl rfl (hb hby d3_18)
    refine Go.on st27 ?_
    show Go _ _ _ _ _ _ _ _ (mkF m 21 #[.val (.ref a0), .val (.int (1 : Int32)), .val (.int dc1)] [(.ref as)])
    refine Go.on (fun _ k => XS.iloadN X27.here hx rfl (hb hby d3_21) rfl k) ?_
    show Go _ _ _ _ _ _ _ _ (mkF m 22 #[.val (.ref a0), .val (.int (1 : Int32)), .val (.int dc1)] [(.int dc1), (.ref as)])
    refine Go.on (fun _ k => XS.dconst0 X27.here hx rfl (v := (0 : UInt64)) (hb hby d3_22) rfl k) ?_
    show Go _ _ _ _ _ _ _ _ (mkF m 23 #[.val (.ref a0), .val (.int (1 : Int32)), .val (.int dc1)] [(.double (0 : UInt64)), (.int dc1), (.ref as)])
    obtain ⟨cl28, Ar28, q28, S28, N28n, H28, G28⟩ := id V_as
    have hin28 : ¬ (dc1 < 0 ∨ cl28.slots.size ≤ (dc1).toNatClampNeg) := inb_of S28 (hd1 (by decide)).inb
    obtain ⟨T28, h28, X28, e28, W28, st28⟩ := stD X27 hx hZ e27 Ar28 (j := dc1) hin28 (g := (mkF m 23 #[.val (.ref a0), .val (.int (1 : Int32)), .val (.int dc1)] [(.double (0 : UInt64)), (.int dc1), (.ref as)])) rfl rfl (hb hby d3_23)
    replace V_as := Arv.set Ar28 q28 S28 N28n H28 G28 rfl W28 _ rfl (hd1 (by decide)).lt
    replace E_a0 := E_a0.wr W28
    replace F_sums_a0 := F_sums_a0.other W28 (Or.inl ne_a0_as)
    replace F_counts_a0 := F_counts_a0.other W28 (Or.inl ne_a0_as)
    replace F_documents_a0 := F_documents_a0.other W28 (Or.inl ne_a0_as)
    replace F_size_a0 := F_size_a0.other W28 (Or.inl ne_a0_as)
    replace V_ac := V_ac.other W28 (Ne.symm ne_as_ac)
    replace V_ad := V_ad.other W28 (Ne.symm ne_as_ad)
    refine Go.on st28 ?_
    have N28 := Fr.snoc X28 N22 g_as
    replace ZZ := Nat.le_trans ZZ (Keep.of_wr W28).1
    replace KP := KP.wr W28 (Or.inl (List.mem_of_getElem? (i := 1) rfl))
    rw [own_setD (hd1 (by decide))] at V_as
    show Go _ _ _ _ _ _ _ _ (mkF m 24 #[.val (.ref a0), .val (.int (1 : Int32)), .val (.int dc1)] [])
    refine Go.on (fun _ k => XS.aloadN X28.here hx rfl (hb hby d3_24) rfl rfl k) ?_
    show Go _ _ _ _ _ _ _ _ (mkF m 25 #[.val (.ref a0), .val (.int (1 : Int32)), .val (.int dc1)] [(.ref a0)])
    obtain ⟨T29, X29, e29, st29⟩ := getF X28 hx hZ hown (host := "") (Or.inl (hw _ (List.mem_of_getElem? (i := 13) rfl))) Via.refl e28 F_counts_a0 (g := (mkF m 25 #[.val (.ref a0), .val (.int (1 : Int32)), .val (.int dc1)] [(.ref a0)])) rfl rfl (hb hby d3_25)
    refine Go.on st29 ?_
    show Go _ _ _ _ _ _ _ _ (mkF m 28 #[.val (.ref a0), .val (.int (1 : Int32)), .val (.int dc1)] [(.ref ac)])
    refine Go.on (fun _ k => XS.iloadN X29.here hx rfl (hb hby d3_28) rfl k) ?_
    show Go _ _ _ _ _ _ _ _ (mkF m 29 #[.val (.ref a0), .val (.int (1 : Int32)), .val (.int dc1)] [(.int dc1), (.ref ac)])
    refine Go.on (fun _ k => XS.iconst X29.here hx rfl (hb hby d3_29) k) ?_
    show Go _ _ _ _ _ _ _ _ (mkF m 30 #[.val (.ref a0), .val (.int (1 : Int32)), .val (.int dc1)] [(.int (0 : Int32)), (.int dc1), (.ref ac)])
    obtain ⟨cl30, Ar30, q30, S30, N30n, H30, G30⟩ := id V_ac
    have hin30 : ¬ (dc1 < 0 ∨ cl30.slots.size ≤ (dc1).toNatClampNeg) := inb_of S30 (hd1 (by decide)).inb
    obtain ⟨T30, h30, X30, e30, W30, st30⟩ := stI X29 hx hZ e29 Ar30 (j := dc1) hin30 (g := (mkF m 30 #[.val (.ref a0), .val (.int (1 : Int32)), .val (.int dc1)] [(.int (0 : Int32)), (.int dc1), (.ref ac)])) rfl rfl (hb hby d3_30)
    replace V_ac := Arv.set Ar30 q30 S30 N30n H30 G30 rfl W30 _ rfl (hd1 (by decide)).lt
    replace E_a0 := E_a0.wr W30
    replace F_sums_a0 := F_sums_a0.other W30 (Or.inl ne_a0_ac)
    replace F_counts_a0 := F_counts_a0.other W30 (Or.inl ne_a0_ac)
    replace F_documents_a0 := F_documents_a0.other W30 (Or.inl ne_a0_ac)
    replace F_size_a0 := F_size_a0.other W30 (Or.inl ne_a0_ac)
    replace V_as := V_as.other W30 ne_as_ac
    replace V_ad := V_ad.other W30 (Ne.symm ne_ac_ad)
    refine Go.on st30 ?_
    have N30 := Fr.snoc X30 N28 g_ac
    replace ZZ := Nat.le_trans ZZ (Keep.of_wr W30).1
    replace KP := KP.wr W30 (Or.inl (List.mem_of_getElem? (i := 2) rfl))
    rw [own_setI (hd1 (by decide))] at V_ac
    show Go _ _ _ _ _ _ _ _ (mkF m 31 #[.val (.ref a0), .val (.int (1 : Int32)), .val (.int dc1)] [])
    refine Go.on (fun _ k => XS.iinc X30.here hx rfl (hb hby d3_31) rfl (l' := #[.val (.ref a0), .val (.int (2 : Int32)), .val (.int dc1)]) rfl k) ?_
    show Go _ _ _ _ _ _ _ _ (mkF m 34 #[.val (.ref a0), .val (.int (2 : Int32)), .val (.int dc1)] [])
    refine Go.on (fun _ k => XS.goto X30.here hx rfl (pc0 := 34) (pc' := 2) rfl (hb hby d3_34) (by decide) (by decide) k) ?_
    show Go _ _ _ _ _ _ _ _ (mkF m 2 #[.val (.ref a0), .val (.int (2 : Int32)), .val (.int dc1)] [])
    refine Go.on (fun _ k => XS.iloadN X30.here hx rfl (hb hby d3_2) rfl k) ?_
    show Go _ _ _ _ _ _ _ _ (mkF m 3 #[.val (.ref a0), .val (.int (2 : Int32)), .val (.int dc1)] [(.int (2 : Int32))])
    refine Go.on (fun _ k => XS.aloadN X30.here hx rfl (hb hby d3_3) rfl rfl k) ?_
    show Go _ _ _ _ _ _ _ _ (mkF m 4 #[.val (.ref a0), .val (.int (2 : Int32)), .val (.int dc1)] [(.ref a0), (.int (2 : Int32))])
    obtain ⟨T31, X31, e31, st31⟩ := getF X30 hx hZ hown (host := "") (Or.inl (hw _ (List.mem_of_getElem? (i := 22) rfl))) Via.refl e30 F_size_a0 (g := (mkF m 4 #[.val (.ref a0), .val (.int (2 : Int32)), .val (.int dc1)] [(.ref a0), (.int (2 : Int32))])) rfl rfl (hb hby d3_4)
    refine Go.on st31 ?_
    show Go _ _ _ _ _ _ _ _ (mkF m 7 #[.val (.ref a0), .val (.int (2 : Int32)), .val (.int dc1)] [(.int (2 : Int32)), (.int (2 : Int32))])
    have hc32 : ¬ ((2 : Int32) < (2 : Int32)) := by decide
    refine Go.on (fun _ k => XS.icmpYes X31.here hx rfl (pc0 := 7) (pc' := 37) rfl (hb hby d3_7) rfl (flt hc32).2.1 (by decide) (by decide) k) ?_
    show Go _ _ _ _ _ _ _ _ (mkF m 37 #[.val (.ref a0), .val (.int (2 : Int32)), .val (.int dc1)] [])
    refine Go.on (fun _ k => XS.aloadN X31.here hx rfl (hb hby d3_37) rfl rfl k) ?_
    show Go _ _ _ _ _ _ _ _ (mkF m 38 #[.val (.ref a0), .val (.int (2 : Int32)), .val (.int dc1)] [(.ref a0)])
    refine Go.on (fun _ k => XS.iconst X31.here hx rfl (hb hby d3_38) k) ?_
    show Go _ _ _ _ _ _ _ _ (mkF m 39 #[.val (.ref a0), .val (.int (2 : Int32)), .val (.int dc1)] [(.int (0 : Int32)), (.ref a0)])
    obtain ⟨T33, h33, X33, e33, W33, st33⟩ := putF X31 hx hZ hown (host := "") (Or.inl (hw _ (List.mem_of_getElem? (i := 22) rfl))) Via.refl e31 F_size_a0 E_a0 (Or.inl (hw _ (List.mem_of_getElem? (i := 23) rfl))) (hw _ (List.mem_of_getElem? (i := 1) rfl)) (ty := .int) (by decide) rfl rfl (g := (mkF m 39 #[.val (.ref a0), .val (.int (2 : Int32)), .val (.int dc1)] [(.int (0 : Int32)), (.ref a0)])) rfl rfl (hb hby d3_39)
    refine Go.on st33 ?_
    replace F_size_a0 := F_size_a0.same W33
    replace E_a0 := E_a0.wr W33
    replace F_sums_a0 := F_sums_a0.other W33 (Or.inr (slot_ne (Or.inr (hw _ (List.mem_of_getElem? (i := 11) rfl))) (Or.inl (hw _ (List.mem_of_getElem? (i := 23) rfl))) (by decide) (t := (.array .double)) (t' := .int) (by decide) (by decide)))
    replace F_counts_a0 := F_counts_a0.other W33 (Or.inr (slot_ne (Or.inr (hw _ (List.mem_of_getElem? (i := 14) rfl))) (Or.inl (hw _ (List.mem_of_getElem? (i := 23) rfl))) (by decide) (t := (.array .int)) (t' := .int) (by decide) (by decide)))
    replace F_documents_a0 := F_documents_a0.other W33 (Or.inr (slot_ne (Or.inr (hw _ (List.mem_of_getElem? (i := 16) rfl))) (Or.inl (hw _ (List.mem_of_getElem? (i := 23) rfl))) (by decide) (t := (.array .int)) (t' := .int) (by decide) (by decide)))
    replace V_as := V_as.other W33 (Ne.symm ne_a0_as)
    replace V_ac := V_ac.other W33 (Ne.symm ne_a0_ac)
    replace V_ad := V_ad.other W33 (Ne.symm ne_a0_ad)
    have N33 := Fr.snoc X33 N30 g_a0
    replace ZZ := Nat.le_trans ZZ (Keep.of_wr W33).1
    replace KP := KP.wr W33 (Or.inl (List.mem_of_getElem? (i := 0) rfl))
    show Go _ _ _ _ _ _ _ _ (mkF m 42 #[.val (.ref a0), .val (.int (2 : Int32)), .val (.int dc1)] [])
    refine Go.ret0 X33 hx Bd.returns (hb hby d3_42) ?_ (by rw [hK1]; decide) (by rw [hK2]; decide)
    rw [e33, ← hQQ]
    exact ⟨rfl, N33, KP, E_a0, F_sums_a0, F_counts_a0, F_documents_a0, F_size_a0, V_as, V_ac⟩
  · -- size 3
    subst hq
    show Go _ _ _ _ _ _ _ _ (mkF m 2 #[.val (.ref a0), .val (.int (0 : Int32)), .unset] [])
    refine Go.on (fun _ k => XS.iloadN X0.here hx rfl (hb hby d3_2) rfl k) ?_
    show Go _ _ _ _ _ _ _ _ (mkF m 3 #[.val (.ref a0), .val (.int (0 : Int32)), .unset] [(.int (0 : Int32))])
    refine Go.on (fun _ k => XS.aloadN X0.here hx rfl (hb hby d3_3) rfl rfl k) ?_
    show Go _ _ _ _ _ _ _ _ (mkF m 4 #[.val (.ref a0), .val (.int (0 : Int32)), .unset] [(.ref a0), (.int (0 : Int32))])
    obtain ⟨T34, X34, e34, st34⟩ := getF X0 hx hZ hown (host := "") (Or.inl (hw _ (List.mem_of_getElem? (i := 22) rfl))) Via.refl e0 F_size_a0 (g := (mkF m 4 #[.val (.ref a0), .val (.int (0 : Int32)), .unset] [(.ref a0), (.int (0 : Int32))])) rfl rfl (hb hby d3_4)
    refine Go.on st34 ?_
    show Go _ _ _ _ _ _ _ _ (mkF m 7 #[.val (.ref a0), .val (.int (0 : Int32)), .unset] [(.int (3 : Int32)), (.int (0 : Int32))])
    have hc35 : (0 : Int32) < (3 : Int32) := by decide
    refine Go.on (fun _ k => XS.icmpNo X34.here hx rfl (hb hby d3_7) rfl (tlt hc35).2.1 k) ?_
    show Go _ _ _ _ _ _ _ _ (mkF m 10 #[.val (.ref a0), .val (.int (0 : Int32)), .unset] [])
    refine Go.on (fun _ k => XS.aloadN X34.here hx rfl (hb hby d3_10) rfl rfl k) ?_
    show Go _ _ _ _ _ _ _ _ (mkF m 11 #[.val (.ref a0), .val (.int (0 : Int32)), .unset] [(.ref a0)])
    obtain ⟨T36, X36, e36, st36⟩ := getF X34 hx hZ hown (host := "") (Or.inl (hw _ (List.mem_of_getElem? (i := 15) rfl))) Via.refl e34 F_documents_a0 (g := (mkF m 11 #[.val (.ref a0), .val (.int (0 : Int32)), .unset] [(.ref a0)])) rfl rfl (hb hby d3_11)
    refine Go.on st36 ?_
    show Go _ _ _ _ _ _ _ _ (mkF m 14 #[.val (.ref a0), .val (.int (0 : Int32)), .unset] [(.ref ad)])
    refine Go.on (fun _ k => XS.iloadN X36.here hx rfl (hb hby d3_14) rfl k) ?_
    show Go _ _ _ _ _ _ _ _ (mkF m 15 #[.val (.ref a0), .val (.int (0 : Int32)), .unset] [(.int (0 : Int32)), (.ref ad)])
    obtain ⟨cl37, Ar37, -, S37, -, H37, -⟩ := id V_ad
    have hin37 : ¬ ((0 : Int32) < 0 ∨ cl37.slots.size ≤ ((0 : Int32)).toNatClampNeg) := inb_of S37 ⟨by decide, by decide⟩
    refine Go.on (X36.iaload hx (j := (0 : Int32)) (v := (.int dc0)) (by rw [e36]; exact Ar37.1) (State.isArrayOf_alike hZ.alike Ar37.2.1) Ar37.2.2 hin37 (H37.at hin37 (rfl)) (g := (mkF m 15 #[.val (.ref a0), .val (.int (0 : Int32)), .unset] [(.int (0 : Int32)), (.ref ad)])) rfl rfl (hb hby d3_15)) ?_
    show Go _ _ _ _ _ _ _ _ (mkF m 16 #[.val (.ref a0), .val (.int (0 : Int32)), .unset] [(.int dc0)])
    refine Go.on (fun _ k => XS.istoreN X36.here hx rfl (hb hby d3_16) rfl (l' := #[.val (.ref a0), .val (.int (0 : Int32)), .val (.int dc0)]) rfl k) ?_
    show Go _ _ _ _ _ _ _ _ (mkF m 17 #[.val (.ref a0), .val (.int (0 : Int32)), .val (.int dc0)] [])
    refine Go.on (fun _ k => XS.aloadN X36.here hx rfl (hb hby d3_17) rfl rfl k) ?_
    show Go _ _ _ _ _ _ _ _ (mkF m 18 #[.val (.ref a0), .val (.int (0 : Int32)), .val (.int dc0)] [(.ref a0)])
    obtain ⟨T38, X38, e38, st38⟩ := getF X36 hx hZ hown (host := "") (Or.inl (hw _ (List.mem_of_getElem? (i := 10) rfl))) Via.refl e36 F_sums_a0 (g := (mkF m 18 #[.val (.ref a0), .val (.int (0 : Int32)), .val (.int dc0)] [(.ref a0)])) rfl rfl (hb hby d3_18)
    refine Go.on st38 ?_
    show Go _ _ _ _ _ _ _ _ (mkF m 21 #[.val (.ref a0), .val (.int (0 : Int32)), .val (.int dc0)] [(.ref as)])
    refine Go.on (fun _ k => XS.iloadN X38.here hx rfl (hb hby d3_21) rfl k) ?_
    show Go _ _ _ _ _ _ _ _ (mkF m 22 #[.val (.ref a0), .val (.int (0 : Int32)), .val (.int dc0)] [(.int dc0), (.ref as)])
    refine Go.on (fun _ k => XS.dconst0 X38.here hx rfl (v := (0 : UInt64)) (hb hby d3_22) rfl k) ?_
    show Go _ _ _ _ _ _ _ _ (mkF m 23 #[.val (.ref a0), .val (.int (0 : Int32)), .val (.int dc0)] [(.double (0 : UInt64)), (.int dc0), (.ref as)])
    obtain ⟨cl39, Ar39, q39, S39, N39n, H39, G39⟩ := id V_as
    have hin39 : ¬ (dc0 < 0 ∨ cl39.slots.size ≤ (dc0).toNatClampNeg) := inb_of S39 (hd0 (by decide)).inb
    obtain ⟨T39, h39, X39, e39, W39, st39⟩ := stD X38 hx hZ e38 Ar39 (j := dc0) hin39 (g := (mkF m 23 #[.val (.ref a0), .val (.int (0 : Int32)), .val (.int dc0)] [(.double (0 : UInt64)), (.int dc0), (.ref as)])) rfl rfl (hb hby d3_23)
    replace V_as := Arv.set Ar39 q39 S39 N39n H39 G39 rfl W39 _ rfl (hd0 (by decide)).lt
    replace E_a0 := E_a0.wr W39
    replace F_sums_a0 := F_sums_a0.other W39 (Or.inl ne_a0_as)
    replace F_counts_a0 := F_counts_a0.other W39 (Or.inl ne_a0_as)
    replace F_documents_a0 := F_documents_a0.other W39 (Or.inl ne_a0_as)
    replace F_size_a0 := F_size_a0.other W39 (Or.inl ne_a0_as)
    replace V_ac := V_ac.other W39 (Ne.symm ne_as_ac)
    replace V_ad := V_ad.other W39 (Ne.symm ne_as_ad)
    refine Go.on st39 ?_
    have N39 := Fr.snoc X39 N0 g_as
    replace ZZ := Nat.le_trans ZZ (Keep.of_wr W39).1
    replace KP := KP.wr W39 (Or.inl (List.mem_of_getElem? (i := 1) rfl))
    rw [own_setD (hd0 (by decide))] at V_as
    show Go _ _ _ _ _ _ _ _ (mkF m 24 #[.val (.ref a0), .val (.int (0 : Int32)), .val (.int dc0)] [])
    refine Go.on (fun _ k => XS.aloadN X39.here hx rfl (hb hby d3_24) rfl rfl k) ?_
    show Go _ _ _ _ _ _ _ _ (mkF m 25 #[.val (.ref a0), .val (.int (0 : Int32)), .val (.int dc0)] [(.ref a0)])
    obtain ⟨T40, X40, e40, st40⟩ := getF X39 hx hZ hown (host := "") (Or.inl (hw _ (List.mem_of_getElem? (i := 13) rfl))) Via.refl e39 F_counts_a0 (g := (mkF m 25 #[.val (.ref a0), .val (.int (0 : Int32)), .val (.int dc0)] [(.ref a0)])) rfl rfl (hb hby d3_25)
    refine Go.on st40 ?_
    show Go _ _ _ _ _ _ _ _ (mkF m 28 #[.val (.ref a0), .val (.int (0 : Int32)), .val (.int dc0)] [(.ref ac)])
    refine Go.on (fun _ k => XS.iloadN X40.here hx rfl (hb hby d3_28) rfl k) ?_
    show Go _ _ _ _ _ _ _ _ (mkF m 29 #[.val (.ref a0), .val (.int (0 : Int32)), .val (.int dc0)] [(.int dc0), (.ref ac)])
    refine Go.on (fun _ k => XS.iconst X40.here hx rfl (hb hby d3_29) k) ?_
    show Go _ _ _ _ _ _ _ _ (mkF m 30 #[.val (.ref a0), .val (.int (0 : Int32)), .val (.int dc0)] [(.int (0 : Int32)), (.int dc0), (.ref ac)])
    obtain ⟨cl41, Ar41, q41, S41, N41n, H41, G41⟩ := id V_ac
    have hin41 : ¬ (dc0 < 0 ∨ cl41.slots.size ≤ (dc0).toNatClampNeg) := inb_of S41 (hd0 (by decide)).inb
    obtain ⟨T41, h41, X41, e41, W41, st41⟩ := stI X40 hx hZ e40 Ar41 (j := dc0) hin41 (g := (mkF m 30 #[.val (.ref a0), .val (.int (0 : Int32)), .val (.int dc0)] [(.int (0 : Int32)), (.int dc0), (.ref ac)])) rfl rfl (hb hby d3_30)
    replace V_ac := Arv.set Ar41 q41 S41 N41n H41 G41 rfl W41 _ rfl (hd0 (by decide)).lt
    replace E_a0 := E_a0.wr W41
    replace F_sums_a0 := F_sums_a0.other W41 (Or.inl ne_a0_ac)
    replace F_counts_a0 := F_counts_a0.other W41 (Or.inl ne_a0_ac)
    replace F_documents_a0 := F_documents_a0.other W41 (Or.inl ne_a0_ac)
    replace F_size_a0 := F_size_a0.other W41 (Or.inl ne_a0_ac)
    replace V_as := V_as.other W41 ne_as_ac
    replace V_ad := V_ad.other W41 (Ne.symm ne_ac_ad)
    refine Go.on st41 ?_
    have N41 := Fr.snoc X41 N39 g_ac
    replace ZZ := Nat.le_trans ZZ (Keep.of_wr W41).1
    replace KP := KP.wr W41 (Or.inl (List.mem_of_getElem? (i := 2) rfl))
    rw [own_setI (hd0 (by decide))] at V_ac
    show Go _ _ _ _ _ _ _ _ (mkF m 31 #[.val (.ref a0), .val (.int (0 : Int32)), .val (.int dc0)] [])
    refine Go.on (fun _ k => XS.iinc X41.here hx rfl (hb hby d3_31) rfl (l' := #[.val (.ref a0), .val (.int (1 : Int32)), .val (.int dc0)]) rfl k) ?_
    show Go _ _ _ _ _ _ _ _ (mkF m 34 #[.val (.ref a0), .val (.int (1 : Int32)), .val (.int dc0)] [])
    refine Go.on (fun _ k => XS.goto X41.here hx rfl (pc0 := 34) (pc' := 2) rfl (hb hby d3_34) (by decide) (by decide) k) ?_
    show Go _ _ _ _ _ _ _ _ (mkF m 2 #[.val (.ref a0), .val (.int (1 : Int32)), .val (.int dc0)] [])
    refine Go.on (fun _ k => XS.iloadN X41.here hx rfl (hb hby d3_2) rfl k) ?_
    show Go _ _ _ _ _ _ _ _ (mkF m 3 #[.val (.ref a0), .val (.int (1 : Int32)), .val (.int dc0)] [(.int (1 : Int32))])
    refine Go.on (fun _ k => XS.aloadN X41.here hx rfl (hb hby d3_3) rfl rfl k) ?_
    show Go _ _ _ _ _ _ _ _ (mkF m 4 #[.val (.ref a0), .val (.int (1 : Int32)), .val (.int dc0)] [(.ref a0), (.int (1 : Int32))])
    obtain ⟨T42, X42, e42, st42⟩ := getF X41 hx hZ hown (host := "") (Or.inl (hw _ (List.mem_of_getElem? (i := 22) rfl))) Via.refl e41 F_size_a0 (g := (mkF m 4 #[.val (.ref a0), .val (.int (1 : Int32)), .val (.int dc0)] [(.ref a0), (.int (1 : Int32))])) rfl rfl (hb hby d3_4)
    refine Go.on st42 ?_
    show Go _ _ _ _ _ _ _ _ (mkF m 7 #[.val (.ref a0), .val (.int (1 : Int32)), .val (.int dc0)] [(.int (3 : Int32)), (.int (1 : Int32))])
    have hc43 : (1 : Int32) < (3 : Int32) := by decide
    refine Go.on (fun _ k => XS.icmpNo X42.here hx rfl (hb hby d3_7) rfl (tlt hc43).2.1 k) ?_
    show Go _ _ _ _ _ _ _ _ (mkF m 10 #[.val (.ref a0), .val (.int (1 : Int32)), .val (.int dc0)] [])
    refine Go.on (fun _ k => XS.aloadN X42.here hx rfl (hb hby d3_10) rfl rfl k) ?_
    show Go _ _ _ _ _ _ _ _ (mkF m 11 #[.val (.ref a0), .val (.int (1 : Int32)), .val (.int dc0)] [(.ref a0)])
    obtain ⟨T44, X44, e44, st44⟩ := getF X42 hx hZ hown (host := "") (Or.inl (hw _ (List.mem_of_getElem? (i := 15) rfl))) Via.refl e42 F_documents_a0 (g := (mkF m 11 #[.val (.ref a0), .val (.int (1 : Int32)), .val (.int dc0)] [(.ref a0)])) rfl rfl (hb hby d3_11)
    refine Go.on st44 ?_
    show Go _ _ _ _ _ _ _ _ (mkF m 14 #[.val (.ref a0), .val (.int (1 : Int32)), .val (.int dc0)] [(.ref ad)])
    refine Go.on (fun _ k => XS.iloadN X44.here hx rfl (hb hby d3_14) rfl k) ?_
    show Go _ _ _ _ _ _ _ _ (mkF m 15 #[.val (.ref a0), .val (.int (1 : Int32)), .val (.int dc0)] [(.int (1 : Int32)), (.ref ad)])
    obtain ⟨cl45, Ar45, -, S45, -, H45, -⟩ := id V_ad
    have hin45 : ¬ ((1 : Int32) < 0 ∨ cl45.slots.size ≤ ((1 : Int32)).toNatClampNeg) := inb_of S45 ⟨by decide, by decide⟩
    refine Go.on (X44.iaload hx (j := (1 : Int32)) (v := (.int dc1)) (by rw [e44]; exact Ar45.1) (State.isArrayOf_alike hZ.alike Ar45.2.1) Ar45.2.2 hin45 (H45.at hin45 (rfl)) (g := (mkF m 15 #[.val (.ref a0), .val (.int (1 : Int32)), .val (.int dc0)] [(.int (1 : Int32)), (.ref ad)])) rfl rfl (hb hby d3_15)) ?_
    show Go _ _ _ _ _ _ _ _ (mkF m 16 #[.val (.ref a0), .val (.int (1 : Int32)), .val (.int dc0)] [(.int dc1)])
    refine Go.on (fun _ k => XS.istoreN X44.here hx rfl (hb hby d3_16) rfl (l' := #[.val (.ref a0), .val (.int (1 : Int32)), .val (.int dc1)]) rfl k) ?_
    show Go _ _ _ _ _ _ _ _ (mkF m 17 #[.val (.ref a0), .val (.int (1 : Int32)), .val (.int dc1)] [])
    refine Go.on (fun _ k => XS.aloadN X44.here hx rfl (hb hby d3_17) rfl rfl k) ?_
    show Go _ _ _ _ _ _ _ _ (mkF m 18 #[.val (.ref a0), .val (.int (1 : Int32)), .val (.int dc1)] [(.ref a0)])
    obtain ⟨T46, X46, e46, st46⟩ := getF X44 hx hZ hown (host := "") (Or.inl (hw _ (List.mem_of_getElem? (i := 10) rfl))) Via.refl e44 F_sums_a0 (g := (mkF m 18 #[.val (.ref a0), .val (.int (1 : Int32)), .val (.int dc1)] [(.ref a0)])) rfl rfl (hb hby d3_18)
    refine Go.on st46 ?_
    show Go _ _ _ _ _ _ _ _ (mkF m 21 #[.val (.ref a0), .val (.int (1 : Int32)), .val (.int dc1)] [(.ref as)])
    refine Go.on (fun _ k => XS.iloadN X46.here hx rfl (hb hby d3_21) rfl k) ?_
    show Go _ _ _ _ _ _ _ _ (mkF m 22 #[.val (.ref a0), .val (.int (1 : Int32)), .val (.int dc1)] [(.int dc1), (.ref as)])
    refine Go.on (fun _ k => XS.dconst0 X46.here hx rfl (v := (0 : UInt64)) (hb hby d3_22) rfl k) ?_
    show Go _ _ _ _ _ _ _ _ (mkF m 23 #[.val (.ref a0), .val (.int (1 : Int32)), .val (.int dc1)] [(.double (0 : UInt64)), (.int dc1), (.ref as)])
    obtain ⟨cl47, Ar47, q47, S47, N47n, H47, G47⟩ := id V_as
    have hin47 : ¬ (dc1 < 0 ∨ cl47.slots.size ≤ (dc1).toNatClampNeg) := inb_of S47 (hd1 (by decide)).inb
    obtain ⟨T47, h47, X47, e47, W47, st47⟩ := stD X46 hx hZ e46 Ar47 (j := dc1) hin47 (g := (mkF m 23 #[.val (.ref a0), .val (.int (1 : Int32)), .val (.int dc1)] [(.double (0 : UInt64)), (.int dc1), (.ref as)])) rfl rfl (hb hby d3_23)
    replace V_as := Arv.set Ar47 q47 S47 N47n H47 G47 rfl W47 _ rfl (hd1 (by decide)).lt
    replace E_a0 := E_a0.wr W47
    replace F_sums_a0 := F_sums_a0.other W47 (Or.inl ne_a0_as)
    replace F_counts_a0 := F_counts_a0.other W47 (Or.inl ne_a0_as)
    replace F_documents_a0 := F_documents_a0.other W47 (Or.inl ne_a0_as)
    replace F_size_a0 := F_size_a0.other W47 (Or.inl ne_a0_as)
    replace V_ac := V_ac.other W47 (Ne.symm ne_as_ac)
    replace V_ad := V_ad.other W47 (Ne.symm ne_as_ad)
    refine Go.on st47 ?_
    have N47 := Fr.snoc X47 N41 g_as
    replace ZZ := Nat.le_trans ZZ (Keep.of_wr W47).1
    replace KP := KP.wr W47 (Or.inl (List.mem_of_getElem? (i := 1) rfl))
    rw [own_setD (hd1 (by decide))] at V_as
    show Go _ _ _ _ _ _ _ _ (mkF m 24 #[.val (.ref a0), .val (.int (1 : Int32)), .val (.int dc1)] [])
    refine Go.on (fun _ k => XS.aloadN X47.here hx rfl (hb hby d3_24) rfl rfl k) ?_
    show Go _ _ _ _ _ _ _ _ (mkF m 25 #[.val (.ref a0), .val (.int (1 : Int32)), .val (.int dc1)] [(.ref a0)])
    obtain ⟨T48, X48, e48, st48⟩ := getF X47 hx hZ hown (host := "") (Or.inl (hw _ (List.mem_of_getElem? (i := 13) rfl))) Via.refl e47 F_counts_a0 (g := (mkF m 25 #[.val (.ref a0), .val (.int (1 : Int32)), .val (.int dc1)] [(.ref a0)])) rfl rfl (hb hby d3_25)
    refine Go.on st48 ?_
    show Go _ _ _ _ _ _ _ _ (mkF m 28 #[.val (.ref a0), .val (.int (1 : Int32)), .val (.int dc1)] [(.ref ac)])
    refine Go.on (fun _ k => XS.iloadN X48.here hx rfl (hb hby d3_28) rfl k) ?_
    show Go _ _ _ _ _ _ _ _ (mkF m 29 #[.val (.ref a0), .val (.int (1 : Int32)), .val (.int dc1)] [(.int dc1), (.ref ac)])
    refine Go.on (fun _ k => XS.iconst X48.here hx rfl (hb hby d3_29) k) ?_
    show Go _ _ _ _ _ _ _ _ (mkF m 30 #[.val (.ref a0), .val (.int (1 : Int32)), .val (.int dc1)] [(.int (0 : Int32)), (.int dc1), (.ref ac)])
    obtain ⟨cl49, Ar49, q49, S49, N49n, H49, G49⟩ := id V_ac
    have hin49 : ¬ (dc1 < 0 ∨ cl49.slots.size ≤ (dc1).toNatClampNeg) := inb_of S49 (hd1 (by decide)).inb
    obtain ⟨T49, h49, X49, e49, W49, st49⟩ := stI X48 hx hZ e48 Ar49 (j := dc1) hin49 (g := (mkF m 30 #[.val (.ref a0), .val (.int (1 : Int32)), .val (.int dc1)] [(.int (0 : Int32)), (.int dc1), (.ref ac)])) rfl rfl (hb hby d3_30)
    replace V_ac := Arv.set Ar49 q49 S49 N49n H49 G49 rfl W49 _ rfl (hd1 (by decide)).lt
    replace E_a0 := E_a0.wr W49
    replace F_sums_a0 := F_sums_a0.other W49 (Or.inl ne_a0_ac)
    replace F_counts_a0 := F_counts_a0.other W49 (Or.inl ne_a0_ac)
    replace F_documents_a0 := F_documents_a0.other W49 (Or.inl ne_a0_ac)
    replace F_size_a0 := F_size_a0.other W49 (Or.inl ne_a0_ac)
    replace V_as := V_as.other W49 ne_as_ac
    replace V_ad := V_ad.other W49 (Ne.symm ne_ac_ad)
    refine Go.on st49 ?_
    have N49 := Fr.snoc X49 N47 g_ac
    replace ZZ := Nat.le_trans ZZ (Keep.of_wr W49).1
    replace KP := KP.wr W49 (Or.inl (List.mem_of_getElem? (i := 2) rfl))
    rw [own_setI (hd1 (by decide))] at V_ac
    show Go _ _ _ _ _ _ _ _ (mkF m 31 #[.val (.ref a0), .val (.int (1 : Int32)), .val (.int dc1)] [])
    refine Go.on (fun _ k => XS.iinc X49.here hx rfl (hb hby d3_31) rfl (l' := #[.val (.ref a0), .val (.int (2 : Int32)), .val (.int dc1)]) rfl k) ?_
    show Go _ _ _ _ _ _ _ _ (mkF m 34 #[.val (.ref a0), .val (.int (2 : Int32)), .val (.int dc1)] [])
    refine Go.on (fun _ k => XS.goto X49.here hx rfl (pc0 := 34) (pc' := 2) rfl (hb hby d3_34) (by decide) (by decide) k) ?_
    show Go _ _ _ _ _ _ _ _ (mkF m 2 #[.val (.ref a0), .val (.int (2 : Int32)), .val (.int dc1)] [])
    refine Go.on (fun _ k => XS.iloadN X49.here hx rfl (hb hby d3_2) rfl k) ?_
    show Go _ _ _ _ _ _ _ _ (mkF m 3 #[.val (.ref a0), .val (.int (2 : Int32)), .val (.int dc1)] [(.int (2 : Int32))])
    refine Go.on (fun _ k => XS.aloadN X49.here hx rfl (hb hby d3_3) rfl rfl k) ?_
    show Go _ _ _ _ _ _ _ _ (mkF m 4 #[.val (.ref a0), .val (.int (2 : Int32)), .val (.int dc1)] [(.ref a0), (.int (2 : Int32))])
    obtain ⟨T50, X50, e50, st50⟩ := getF X49 hx hZ hown (host := "") (Or.inl (hw _ (List.mem_of_getElem? (i := 22) rfl))) Via.refl e49 F_size_a0 (g := (mkF m 4 #[.val (.ref a0), .val (.int (2 : Int32)), .val (.int dc1)] [(.ref a0), (.int (2 : Int32))])) rfl rfl (hb hby d3_4)
    refine Go.on st50 ?_
    show Go _ _ _ _ _ _ _ _ (mkF m 7 #[.val (.ref a0), .val (.int (2 : Int32)), .val (.int dc1)] [(.int (3 : Int32)), (.int (2 : Int32))])
    have hc51 : (2 : Int32) < (3 : Int32) := by decide
    refine Go.on (fun _ k => XS.icmpNo X50.here hx rfl (hb hby d3_7) rfl (tlt hc51).2.1 k) ?_
    show Go _ _ _ _ _ _ _ _ (mkF m 10 #[.val (.ref a0), .val (.int (2 : Int32)), .val (.int dc1)] [])
    refine Go.on (fun _ k => XS.aloadN X50.here hx rfl (hb hby d3_10) rfl rfl k) ?_
    show Go _ _ _ _ _ _ _ _ (mkF m 11 #[.val (.ref a0), .val (.int (2 : Int32)), .val (.int dc1)] [(.ref a0)])
    obtain ⟨T52, X52, e52, st52⟩ := getF X50 hx hZ hown (host := "") (Or.inl (hw _ (List.mem_of_getElem? (i := 15) rfl))) Via.refl e50 F_documents_a0 (g := (mkF m 11 #[.val (.ref a0), .val (.int (2 : Int32)), .val (.int dc1)] [(.ref a0)])) rfl rfl (hb hby d3_11)
    refine Go.on st52 ?_
    show Go _ _ _ _ _ _ _ _ (mkF m 14 #[.val (.ref a0), .val (.int (2 : Int32)), .val (.int dc1)] [(.ref ad)])
    refine Go.on (fun _ k => XS.iloadN X52.here hx rfl (hb hby d3_14) rfl k) ?_
    show Go _ _ _ _ _ _ _ _ (mkF m 15 #[.val (.ref a0), .val (.int (2 : Int32)), .val (.int dc1)] [(.int (2 : Int32)), (.ref ad)])
    obtain ⟨cl53, Ar53, -, S53, -, H53, -⟩ := id V_ad
    have hin53 : ¬ ((2 : Int32) < 0 ∨ cl53.slots.size ≤ ((2 : Int32)).toNatClampNeg) := inb_of S53 ⟨by decide, by decide⟩
    refine Go.on (X52.iaload hx (j := (2 : Int32)) (v := (.int dc2)) (by rw [e52]; exact Ar53.1) (State.isArrayOf_alike hZ.alike Ar53.2.1) Ar53.2.2 hin53 (H53.at hin53 (rfl)) (g := (mkF m 15 #[.val (.ref a0), .val (.int (2 : Int32)), .val (.int dc1)] [(.int (2 : Int32)), (.ref ad)])) rfl rfl (hb hby d3_15)) ?_
    show Go _ _ _ _ _ _ _ _ (mkF m 16 #[.val (.ref a0), .val (.int (2 : Int32)), .val (.int dc1)] [(.int dc2)])
    refine Go.on (fun _ k => XS.istoreN X52.here hx rfl (hb hby d3_16) rfl (l' := #[.val (.ref a0), .val (.int (2 : Int32)), .val (.int dc2)]) rfl k) ?_
    show Go _ _ _ _ _ _ _ _ (mkF m 17 #[.val (.ref a0), .val (.int (2 : Int32)), .val (.int dc2)] [])
    refine Go.on (fun _ k => XS.aloadN X52.here hx rfl (hb hby d3_17) rfl rfl k) ?_
    show Go _ _ _ _ _ _ _ _ (mkF m 18 #[.val (.ref a0), .val (.int (2 : Int32)), .val (.int dc2)] [(.ref a0)])
    obtain ⟨T54, X54, e54, st54⟩ := getF X52 hx hZ hown (host := "") (Or.inl (hw _ (List.mem_of_getElem? (i := 10) rfl))) Via.refl e52 F_sums_a0 (g := (mkF m 18 #[.val (.ref a0), .val (.int (2 : Int32)), .val (.int dc2)] [(.ref a0)])) rfl rfl (hb hby d3_18)
    refine Go.on st54 ?_
    show Go _ _ _ _ _ _ _ _ (mkF m 21 #[.val (.ref a0), .val (.int (2 : Int32)), .val (.int dc2)] [(.ref as)])
    refine Go.on (fun _ k => XS.iloadN X54.here hx rfl (hb hby d3_21) rfl k) ?_
    show Go _ _ _ _ _ _ _ _ (mkF m 22 #[.val (.ref a0), .val (.int (2 : Int32)), .val (.int dc2)] [(.int dc2), (.ref as)])
    refine Go.on (fun _ k => XS.dconst0 X54.here hx rfl (v := (0 : UInt64)) (hb hby d3_22) rfl k) ?_
    show Go _ _ _ _ _ _ _ _ (mkF m 23 #[.val (.ref a0), .val (.int (2 : Int32)), .val (.int dc2)] [(.double (0 : UInt64)), (.int dc2), (.ref as)])
    obtain ⟨cl55, Ar55, q55, S55, N55n, H55, G55⟩ := id V_as
    have hin55 : ¬ (dc2 < 0 ∨ cl55.slots.size ≤ (dc2).toNatClampNeg) := inb_of S55 (hd2 (by decide)).inb
    obtain ⟨T55, h55, X55, e55, W55, st55⟩ := stD X54 hx hZ e54 Ar55 (j := dc2) hin55 (g := (mkF m 23 #[.val (.ref a0), .val (.int (2 : Int32)), .val (.int dc2)] [(.double (0 : UInt64)), (.int dc2), (.ref as)])) rfl rfl (hb hby d3_23)
    replace V_as := Arv.set Ar55 q55 S55 N55n H55 G55 rfl W55 _ rfl (hd2 (by decide)).lt
    replace E_a0 := E_a0.wr W55
    replace F_sums_a0 := F_sums_a0.other W55 (Or.inl ne_a0_as)
    replace F_counts_a0 := F_counts_a0.other W55 (Or.inl ne_a0_as)
    replace F_documents_a0 := F_documents_a0.other W55 (Or.inl ne_a0_as)
    replace F_size_a0 := F_size_a0.other W55 (Or.inl ne_a0_as)
    replace V_ac := V_ac.other W55 (Ne.symm ne_as_ac)
    replace V_ad := V_ad.other W55 (Ne.symm ne_as_ad)
    refine Go.on st55 ?_
    have N55 := Fr.snoc X55 N49 g_as
    replace ZZ := Nat.le_trans ZZ (Keep.of_wr W55).1
    replace KP := KP.wr W55 (Or.inl (List.mem_of_getElem? (i := 1) rfl))
    rw [own_setD (hd2 (by decide))] at V_as
    show Go _ _ _ _ _ _ _ _ (mkF m 24 #[.val (.ref a0), .val (.int (2 : Int32)), .val (.int dc2)] [])
    refine Go.on (fun _ k => XS.aloadN X55.here hx rfl (hb hby d3_24) rfl rfl k) ?_
    show Go _ _ _ _ _ _ _ _ (mkF m 25 #[.val (.ref a0), .val (.int (2 : Int32)), .val (.int dc2)] [(.ref a0)])
    obtain ⟨T56, X56, e56, st56⟩ := getF X55 hx hZ hown (host := "") (Or.inl (hw _ (List.mem_of_getElem? (i := 13) rfl))) Via.refl e55 F_counts_a0 (g := (mkF m 25 #[.val (.ref a0), .val (.int (2 : Int32)), .val (.int dc2)] [(.ref a0)])) rfl rfl (hb hby d3_25)
    refine Go.on st56 ?_
    show Go _ _ _ _ _ _ _ _ (mkF m 28 #[.val (.ref a0), .val (.int (2 : Int32)), .val (.int dc2)] [(.ref ac)])
    refine Go.on (fun _ k => XS.iloadN X56.here hx rfl (hb hby d3_28) rfl k) ?_
    show Go _ _ _ _ _ _ _ _ (mkF m 29 #[.val (.ref a0), .val (.int (2 : Int32)), .val (.int dc2)] [(.int dc2), (.ref ac)])
    refine Go.on (fun _ k => XS.iconst X56.here hx rfl (hb hby d3_29) k) ?_
    show Go _ _ _ _ _ _ _ _ (mkF m 30 #[.val (.ref a0), .val (.int (2 : Int32)), .val (.int dc2)] [(.int (0 : Int32)), (.int dc2), (.ref ac)])
    obtain ⟨cl57, Ar57, q57, S57, N57n, H57, G57⟩ := id V_ac
    have hin57 : ¬ (dc2 < 0 ∨ cl57.slots.size ≤ (dc2).toNatClampNeg) := inb_of S57 (hd2 (by decide)).inb
    obtain ⟨T57, h57, X57, e57, W57, st57⟩ := stI X56 hx hZ e56 Ar57 (j := dc2) hin57 (g := (mkF m 30 #[.val (.ref a0), .val (.int (2 : Int32)), .val (.int dc2)] [(.int (0 : Int32)), (.int dc2), (.ref ac)])) rfl rfl (hb hby d3_30)
    replace V_ac := Arv.set Ar57 q57 S57 N57n H57 G57 rfl W57 _ rfl (hd2 (by decide)).lt
    replace E_a0 := E_a0.wr W57
    replace F_sums_a0 := F_sums_a0.other W57 (Or.inl ne_a0_ac)
    replace F_counts_a0 := F_counts_a0.other W57 (Or.inl ne_a0_ac)
    replace F_documents_a0 := F_documents_a0.other W57 (Or.inl ne_a0_ac)
    replace F_size_a0 := F_size_a0.other W57 (Or.inl ne_a0_ac)
    replace V_as := V_as.other W57 ne_as_ac
    replace V_ad := V_ad.other W57 (Ne.symm ne_ac_ad)
    refine Go.on st57 ?_
    have N57 := Fr.snoc X57 N55 g_ac
    replace ZZ := Nat.le_trans ZZ (Keep.of_wr W57).1
    replace KP := KP.wr W57 (Or.inl (List.mem_of_getElem? (i := 2) rfl))
    rw [own_setI (hd2 (by decide))] at V_ac
    show Go _ _ _ _ _ _ _ _ (mkF m 31 #[.val (.ref a0), .val (.int (2 : Int32)), .val (.int dc2)] [])
    refine Go.on (fun _ k => XS.iinc X57.here hx rfl (hb hby d3_31) rfl (l' := #[.val (.ref a0), .val (.int (3 : Int32)), .val (.int dc2)]) rfl k) ?_
    show Go _ _ _ _ _ _ _ _ (mkF m 34 #[.val (.ref a0), .val (.int (3 : Int32)), .val (.int dc2)] [])
    refine Go.on (fun _ k => XS.goto X57.here hx rfl (pc0 := 34) (pc' := 2) rfl (hb hby d3_34) (by decide) (by decide) k) ?_
    show Go _ _ _ _ _ _ _ _ (mkF m 2 #[.val (.ref a0), .val (.int (3 : Int32)), .val (.int dc2)] [])
    refine Go.on (fun _ k => XS.iloadN X57.here hx rfl (hb hby d3_2) rfl k) ?_
    show Go _ _ _ _ _ _ _ _ (mkF m 3 #[.val (.ref a0), .val (.int (3 : Int32)), .val (.int dc2)] [(.int (3 : Int32))])
    refine Go.on (fun _ k => XS.aloadN X57.here hx rfl (hb hby d3_3) rfl rfl k) ?_
    show Go _ _ _ _ _ _ _ _ (mkF m 4 #[.val (.ref a0), .val (.int (3 : Int32)), .val (.int dc2)] [(.ref a0), (.int (3 : Int32))])
    obtain ⟨T58, X58, e58, st58⟩ := getF X57 hx hZ hown (host := "") (Or.inl (hw _ (List.mem_of_getElem? (i := 22) rfl))) Via.refl e57 F_size_a0 (g := (mkF m 4 #[.val (.ref a0), .val (.int (3 : Int32)), .val (.int dc2)] [(.ref a0), (.int (3 : Int32))])) rfl rfl (hb hby d3_4)
    refine Go.on st58 ?_
    show Go _ _ _ _ _ _ _ _ (mkF m 7 #[.val (.ref a0), .val (.int (3 : Int32)), .val (.int dc2)] [(.int (3 : Int32)), (.int (3 : Int32))])
    have hc59 : ¬ ((3 : Int32) < (3 : Int32)) := by decide
    refine Go.on (fun _ k => XS.icmpYes X58.here hx rfl (pc0 := 7) (pc' := 37) rfl (hb hby d3_7) rfl (flt hc59).2.1 (by decide) (by decide) k) ?_
    show Go _ _ _ _ _ _ _ _ (mkF m 37 #[.val (.ref a0), .val (.int (3 : Int32)), .val (.int dc2)] [])
    refine Go.on (fun _ k => XS.aloadN X58.here hx rfl (hb hby d3_37) rfl rfl k) ?_
    show Go _ _ _ _ _ _ _ _ (mkF m 38 #[.val (.ref a0), .val (.int (3 : Int32)), .val (.int dc2)] [(.ref a0)])
    refine Go.on (fun _ k => XS.iconst X58.here hx rfl (hb hby d3_38) k) ?_
    show Go _ _ _ _ _ _ _ _ (mkF m 39 #[.val (.ref a0), .val (.int (3 : Int32)), .val (.int dc2)] [(.int (0 : Int32)), (.ref a0)])
    obtain ⟨T60, h60, X60, e60, W60, st60⟩ := putF X58 hx hZ hown (host := "") (Or.inl (hw _ (List.mem_of_getElem? (i := 22) rfl))) Via.refl e58 F_size_a0 E_a0 (Or.inl (hw _ (List.mem_of_getElem? (i := 23) rfl))) (hw _ (List.mem_of_getElem? (i := 1) rfl)) (ty := .int) (by decide) rfl rfl (g := (mkF m 39 #[.val (.ref a0), .val (.int (3 : Int32)), .val (.int dc2)] [(.int (0 : Int32)), (.ref a0)])) rfl rfl (hb hby d3_39)
    refine Go.on st60 ?_
    replace F_size_a0 := F_size_a0.same W60
    replace E_a0 := E_a0.wr W60
    replace F_sums_a0 := F_sums_a0.other W60 (Or.inr (slot_ne (Or.inr (hw _ (List.mem_of_getElem? (i := 11) rfl))) (Or.inl (hw _ (List.mem_of_getElem? (i := 23) rfl))) (by decide) (t := (.array .double)) (t' := .int) (by decide) (by decide)))
    replace F_counts_a0 := F_counts_a0.other W60 (Or.inr (slot_ne (Or.inr (hw _ (List.mem_of_getElem? (i := 14) rfl))) (Or.inl (hw _ (List.mem_of_getElem? (i := 23) rfl))) (by decide) (t := (.array .int)) (t' := .int) (by decide) (by decide)))
    replace F_documents_a0 := F_documents_a0.other W60 (Or.inr (slot_ne (Or.inr (hw _ (List.mem_of_getElem? (i := 16) rfl))) (Or.inl (hw _ (List.mem_of_getElem? (i := 23) rfl))) (by decide) (t := (.array .int)) (t' := .int) (by decide) (by decide)))
    replace V_as := V_as.other W60 (Ne.symm ne_a0_as)
    replace V_ac := V_ac.other W60 (Ne.symm ne_a0_ac)
    replace V_ad := V_ad.other W60 (Ne.symm ne_a0_ad)
    have N60 := Fr.snoc X60 N57 g_a0
    replace ZZ := Nat.le_trans ZZ (Keep.of_wr W60).1
    replace KP := KP.wr W60 (Or.inl (List.mem_of_getElem? (i := 0) rfl))
    show Go _ _ _ _ _ _ _ _ (mkF m 42 #[.val (.ref a0), .val (.int (3 : Int32)), .val (.int dc2)] [])
    refine Go.ret0 X60 hx Bd.returns (hb hby d3_42) ?_ (by rw [hK1]; decide) (by rw [hK2]; decide)
    rw [e60, ← hQQ]
    exact ⟨rfl, N60, KP, E_a0, F_sums_a0, F_counts_a0, F_documents_a0, F_size_a0, V_as, V_ac⟩
section PureClear
open Jvm.FP.Core
theorem own_n {i n : Int32} (h : (i &&& (3 : Int32)) = n) : n = 0 ∨ n = 1 ∨ n = 2 ∨ n = 3 := by
  have e1 : n.toInt = i.toInt % 2 ^ 2 := by rw [← h]; exact Jvm.Kit.i32_mask i 3 (k := 2) (by decide) (by decide)
  have k0 : (0 : Int32).toInt = 0 := by decide
  have k1 : (1 : Int32).toInt = 1 := by decide
  have k2 : (2 : Int32).toInt = 2 := by decide
  have k3 : (3 : Int32).toInt = 3 := by decide
  simp only [← Int32.toInt_inj, k0, k1, k2, k3]; omega
theorem own_q0 : (cmpValue (FP.dcmp (0 : UInt64) (0 : UInt64)) .l) = (0 : Int32) := by decide +kernel
set_option maxHeartbeats 4000000 in
theorem own_E1 {d1 z1 cv1_0 ev1_0 cv1_1 ev1_1 cv1_2 ev1_2 : Int32} (t1 : Three d1) (hcv1_0 : cv1_0 = (if d1 = (0 : Int32) then ((if d1 = (0 : Int32) then (0 : Int32) else (if d1 = (1 : Int32) then (0 : Int32) else (0 : Int32))) + (1 : Int32)) else (0 : Int32))) (hcv1_1 : cv1_1 = (if d1 = (1 : Int32) then ((if d1 = (0 : Int32) then (0 : Int32) else (if d1 = (1 : Int32) then (0 : Int32) else (0 : Int32))) + (1 : Int32)) else (0 : Int32))) (hcv1_2 : cv1_2 = (if d1 = (2 : Int32) then ((if d1 = (0 : Int32) then (0 : Int32) else (if d1 = (1 : Int32) then (0 : Int32) else (0 : Int32))) + (1 : Int32)) else (0 : Int32))) (hev1_0 : ev1_0 = (if (if d1 = (0 : Int32) then (0 : Int32) else (if d1 = (1 : Int32) then (0 : Int32) else (0 : Int32))) = (0 : Int32) then (if (0 : Int32) = (0 : Int32) then d1 else (0 : Int32)) else (0 : Int32))) (hev1_1 : ev1_1 = (if (if d1 = (0 : Int32) then (0 : Int32) else (if d1 = (1 : Int32) then (0 : Int32) else (0 : Int32))) = (0 : Int32) then (if (0 : Int32) = (1 : Int32) then d1 else (0 : Int32)) else (0 : Int32))) (hev1_2 : ev1_2 = (if (if d1 = (0 : Int32) then (0 : Int32) else (if d1 = (1 : Int32) then (0 : Int32) else (0 : Int32))) = (0 : Int32) then (if (0 : Int32) = (2 : Int32) then d1 else (0 : Int32)) else (0 : Int32))) (hz1 : z1 = (if (if d1 = (0 : Int32) then (0 : Int32) else (if d1 = (1 : Int32) then (0 : Int32) else (0 : Int32))) = (0 : Int32) then ((0 : Int32) + (1 : Int32)) else (0 : Int32))) : (z1 = (0 : Int32) ∨ z1 = (1 : Int32) ∨ z1 = (2 : Int32) ∨ z1 = (3 : Int32)) ∧ ((0 : Int32) < z1 → (ev1_0 = 0 ∨ ev1_0 = 1 ∨ ev1_0 = 2)) ∧ ((1 : Int32) < z1 → (ev1_1 = 0 ∨ ev1_1 = 1 ∨ ev1_1 = 2)) ∧ ((2 : Int32) < z1 → (ev1_2 = 0 ∨ ev1_2 = 1 ∨ ev1_2 = 2)) ∧ clrI z1 (0 : Int32) ev1_0 ev1_1 ev1_2 cv1_0 = 0 ∧ clrI z1 (1 : Int32) ev1_0 ev1_1 ev1_2 cv1_1 = 0 ∧ clrI z1 (2 : Int32) ev1_0 ev1_1 ev1_2 cv1_2 = 0 := by
  rcases t1 with rfl | rfl | rfl <;> subst hz1 hev1_2 hev1_1 hev1_0 hcv1_2 hcv1_1 hcv1_0 <;> decide
theorem own_e1_s {i0 d1 d2 d3 i1 z1 cv1_0 ev1_0 cv1_1 ev1_1 cv1_2 ev1_2 : Int32} {sv1_0 sv1_1 sv1_2 : UInt64} (hd1 : ((i0 &&& (255 : Int32)) % (3 : Int32)) = d1) (hd2 : ((((i0.toUInt32 >>> ((8 : Int32) &&& 31).toUInt32).toInt32) &&& (255 : Int32)) % (3 : Int32)) = d2) (hd3 : ((((i0.toUInt32 >>> ((16 : Int32) &&& 31).toUInt32).toInt32) &&& (255 : Int32)) % (3 : Int32)) = d3) (hsv1_0 : sv1_0 = (if d1 = (0 : Int32) then (FP.dadd (if d1 = (0 : Int32) then (0 : UInt64) else (if d1 = (1 : Int32) then (0 : UInt64) else (0 : UInt64))) (FP.i2d i1)) else (0 : UInt64))) (hsv1_1 : sv1_1 = (if d1 = (1 : Int32) then (FP.dadd (if d1 = (0 : Int32) then (0 : UInt64) else (if d1 = (1 : Int32) then (0 : UInt64) else (0 : UInt64))) (FP.i2d i1)) else (0 : UInt64))) (hsv1_2 : sv1_2 = (if d1 = (2 : Int32) then (FP.dadd (if d1 = (0 : Int32) then (0 : UInt64) else (if d1 = (1 : Int32) then (0 : UInt64) else (0 : UInt64))) (FP.i2d i1)) else (0 : UInt64))) (hcv1_0 : cv1_0 = (if d1 = (0 : Int32) then ((if d1 = (0 : Int32) then (0 : Int32) else (if d1 = (1 : Int32) then (0 : Int32) else (0 : Int32))) + (1 : Int32)) else (0 : Int32))) (hcv1_1 : cv1_1 = (if d1 = (1 : Int32) then ((if d1 = (0 : Int32) then (0 : Int32) else (if d1 = (1 : Int32) then (0 : Int32) else (0 : Int32))) + (1 : Int32)) else (0 : Int32))) (hcv1_2 : cv1_2 = (if d1 = (2 : Int32) then ((if d1 = (0 : Int32) then (0 : Int32) else (if d1 = (1 : Int32) then (0 : Int32) else (0 : Int32))) + (1 : Int32)) else (0 : Int32))) (hev1_0 : ev1_0 = (if (if d1 = (0 : Int32) then (0 : Int32) else (if d1 = (1 : Int32) then (0 : Int32) else (0 : Int32))) = (0 : Int32) then (if (0 : Int32) = (0 : Int32) then d1 else (0 : Int32)) else (0 : Int32))) (hev1_1 : ev1_1 = (if (if d1 = (0 : Int32) then (0 : Int32) else (if d1 = (1 : Int32) then (0 : Int32) else (0 : Int32))) = (0 : Int32) then (if (0 : Int32) = (1 : Int32) then d1 else (0 : Int32)) else (0 : Int32))) (hev1_2 : ev1_2 = (if (if d1 = (0 : Int32) then (0 : Int32) else (if d1 = (1 : Int32) then (0 : Int32) else (0 : Int32))) = (0 : Int32) then (if (0 : Int32) = (2 : Int32) then d1 else (0 : Int32)) else (0 : Int32))) (hz1 : z1 = (if (if d1 = (0 : Int32) then (0 : Int32) else (if d1 = (1 : Int32) then (0 : Int32) else (0 : Int32))) = (0 : Int32) then ((0 : Int32) + (1 : Int32)) else (0 : Int32))) : (z1 = (0 : Int32) ∨ z1 = (1 : Int32) ∨ z1 = (2 : Int32) ∨ z1 = (3 : Int32)) := (own_E1 (own_three hd1) hcv1_0 hcv1_1 hcv1_2 hev1_0 hev1_1 hev1_2 hz1).1
theorem own_e1_0 {i0 d1 d2 d3 i1 z1 cv1_0 ev1_0 cv1_1 ev1_1 cv1_2 ev1_2 : Int32} {sv1_0 sv1_1 sv1_2 : UInt64} (hd1 : ((i0 &&& (255 : Int32)) % (3 : Int32)) = d1) (hd2 : ((((i0.toUInt32 >>> ((8 : Int32) &&& 31).toUInt32).toInt32) &&& (255 : Int32)) % (3 : Int32)) = d2) (hd3 : ((((i0.toUInt32 >>> ((16 : Int32) &&& 31).toUInt32).toInt32) &&& (255 : Int32)) % (3 : Int32)) = d3) (hsv1_0 : sv1_0 = (if d1 = (0 : Int32) then (FP.dadd (if d1 = (0 : Int32) then (0 : UInt64) else (if d1 = (1 : Int32) then (0 : UInt64) else (0 : UInt64))) (FP.i2d i1)) else (0 : UInt64))) (hsv1_1 : sv1_1 = (if d1 = (1 : Int32) then (FP.dadd (if d1 = (0 : Int32) then (0 : UInt64) else (if d1 = (1 : Int32) then (0 : UInt64) else (0 : UInt64))) (FP.i2d i1)) else (0 : UInt64))) (hsv1_2 : sv1_2 = (if d1 = (2 : Int32) then (FP.dadd (if d1 = (0 : Int32) then (0 : UInt64) else (if d1 = (1 : Int32) then (0 : UInt64) else (0 : UInt64))) (FP.i2d i1)) else (0 : UInt64))) (hcv1_0 : cv1_0 = (if d1 = (0 : Int32) then ((if d1 = (0 : Int32) then (0 : Int32) else (if d1 = (1 : Int32) then (0 : Int32) else (0 : Int32))) + (1 : Int32)) else (0 : Int32))) (hcv1_1 : cv1_1 = (if d1 = (1 : Int32) then ((if d1 = (0 : Int32) then (0 : Int32) else (if d1 = (1 : Int32) then (0 : Int32) else (0 : Int32))) + (1 : Int32)) else (0 : Int32))) (hcv1_2 : cv1_2 = (if d1 = (2 : Int32) then ((if d1 = (0 : Int32) then (0 : Int32) else (if d1 = (1 : Int32) then (0 : Int32) else (0 : Int32))) + (1 : Int32)) else (0 : Int32))) (hev1_0 : ev1_0 = (if (if d1 = (0 : Int32) then (0 : Int32) else (if d1 = (1 : Int32) then (0 : Int32) else (0 : Int32))) = (0 : Int32) then (if (0 : Int32) = (0 : Int32) then d1 else (0 : Int32)) else (0 : Int32))) (hev1_1 : ev1_1 = (if (if d1 = (0 : Int32) then (0 : Int32) else (if d1 = (1 : Int32) then (0 : Int32) else (0 : Int32))) = (0 : Int32) then (if (0 : Int32) = (1 : Int32) then d1 else (0 : Int32)) else (0 : Int32))) (hev1_2 : ev1_2 = (if (if d1 = (0 : Int32) then (0 : Int32) else (if d1 = (1 : Int32) then (0 : Int32) else (0 : Int32))) = (0 : Int32) then (if (0 : Int32) = (2 : Int32) then d1 else (0 : Int32)) else (0 : Int32))) (hz1 : z1 = (if (if d1 = (0 : Int32) then (0 : Int32) else (if d1 = (1 : Int32) then (0 : Int32) else (0 : Int32))) = (0 : Int32) then ((0 : Int32) + (1 : Int32)) else (0 : Int32))) : (0 : Int32) < z1 → Three ev1_0 := (own_E1 (own_three hd1) hcv1_0 hcv1_1 hcv1_2 hev1_0 hev1_1 hev1_2 hz1).2.1
theorem own_e1_1 {i0 d1 d2 d3 i1 z1 cv1_0 ev1_0 cv1_1 ev1_1 cv1_2 ev1_2 : Int32} {sv1_0 sv1_1 sv1_2 : UInt64} (hd1 : ((i0 &&& (255 : Int32)) % (3 : Int32)) = d1) (hd2 : ((((i0.toUInt32 >>> ((8 : Int32) &&& 31).toUInt32).toInt32) &&& (255 : Int32)) % (3 : Int32)) = d2) (hd3 : ((((i0.toUInt32 >>> ((16 : Int32) &&& 31).toUInt32).toInt32) &&& (255 : Int32)) % (3 : Int32)) = d3) (hsv1_0 : sv1_0 = (if d1 = (0 : Int32) then (FP.dadd (if d1 = (0 : Int32) then (0 : UInt64) else (if d1 = (1 : Int32) then (0 : UInt64) else (0 : UInt64))) (FP.i2d i1)) else (0 : UInt64))) (hsv1_1 : sv1_1 = (if d1 = (1 : Int32) then (FP.dadd (if d1 = (0 : Int32) then (0 : UInt64) else (if d1 = (1 : Int32) then (0 : UInt64) else (0 : UInt64))) (FP.i2d i1)) else (0 : UInt64))) (hsv1_2 : sv1_2 = (if d1 = (2 : Int32) then (FP.dadd (if d1 = (0 : Int32) then (0 : UInt64) else (if d1 = (1 : Int32) then (0 : UInt64) else (0 : UInt64))) (FP.i2d i1)) else (0 : UInt64))) (hcv1_0 : cv1_0 = (if d1 = (0 : Int32) then ((if d1 = (0 : Int32) then (0 : Int32) else (if d1 = (1 : Int32) then (0 : Int32) else (0 : Int32))) + (1 : Int32)) else (0 : Int32))) (hcv1_1 : cv1_1 = (if d1 = (1 : Int32) then ((if d1 = (0 : Int32) then (0 : Int32) else (if d1 = (1 : Int32) then (0 : Int32) else (0 : Int32))) + (1 : Int32)) else (0 : Int32))) (hcv1_2 : cv1_2 = (if d1 = (2 : Int32) then ((if d1 = (0 : Int32) then (0 : Int32) else (if d1 = (1 : Int32) then (0 : Int32) else (0 : Int32))) + (1 : Int32)) else (0 : Int32))) (hev1_0 : ev1_0 = (if (if d1 = (0 : Int32) then (0 : Int32) else (if d1 = (1 : Int32) then (0 : Int32) else (0 : Int32))) = (0 : Int32) then (if (0 : Int32) = (0 : Int32) then d1 else (0 : Int32)) else (0 : Int32))) (hev1_1 : ev1_1 = (if (if d1 = (0 : Int32) then (0 : Int32) else (if d1 = (1 : Int32) then (0 : Int32) else (0 : Int32))) = (0 : Int32) then (if (0 : Int32) = (1 : Int32) then d1 else (0 : Int32)) else (0 : Int32))) (hev1_2 : ev1_2 = (if (if d1 = (0 : Int32) then (0 : Int32) else (if d1 = (1 : Int32) then (0 : Int32) else (0 : Int32))) = (0 : Int32) then (if (0 : Int32) = (2 : Int32) then d1 else (0 : Int32)) else (0 : Int32))) (hz1 : z1 = (if (if d1 = (0 : Int32) then (0 : Int32) else (if d1 = (1 : Int32) then (0 : Int32) else (0 : Int32))) = (0 : Int32) then ((0 : Int32) + (1 : Int32)) else (0 : Int32))) : (1 : Int32) < z1 → Three ev1_1 := (own_E1 (own_three hd1) hcv1_0 hcv1_1 hcv1_2 hev1_0 hev1_1 hev1_2 hz1).2.2.1
theorem own_e1_2 {i0 d1 d2 d3 i1 z1 cv1_0 ev1_0 cv1_1 ev1_1 cv1_2 ev1_2 : Int32} {sv1_0 sv1_1 sv1_2 : UInt64} (hd1 : ((i0 &&& (255 : Int32)) % (3 : Int32)) = d1) (hd2 : ((((i0.toUInt32 >>> ((8 : Int32) &&& 31).toUInt32).toInt32) &&& (255 : Int32)) % (3 : Int32)) = d2) (hd3 : ((((i0.toUInt32 >>> ((16 : Int32) &&& 31).toUInt32).toInt32) &&& (255 : Int32)) % (3 : Int32)) = d3) (hsv1_0 : sv1_0 = (if d1 = (0 : Int32) then (FP.dadd (if d1 = (0 : Int32) then (0 : UInt64) else (if d1 = (1 : Int32) then (0 : UInt64) else (0 : UInt64))) (FP.i2d i1)) else (0 : UInt64))) (hsv1_1 : sv1_1 = (if d1 = (1 : Int32) then (FP.dadd (if d1 = (0 : Int32) then (0 : UInt64) else (if d1 = (1 : Int32) then (0 : UInt64) else (0 : UInt64))) (FP.i2d i1)) else (0 : UInt64))) (hsv1_2 : sv1_2 = (if d1 = (2 : Int32) then (FP.dadd (if d1 = (0 : Int32) then (0 : UInt64) else (if d1 = (1 : Int32) then (0 : UInt64) else (0 : UInt64))) (FP.i2d i1)) else (0 : UInt64))) (hcv1_0 : cv1_0 = (if d1 = (0 : Int32) then ((if d1 = (0 : Int32) then (0 : Int32) else (if d1 = (1 : Int32) then (0 : Int32) else (0 : Int32))) + (1 : Int32)) else (0 : Int32))) (hcv1_1 : cv1_1 = (if d1 = (1 : Int32) then ((if d1 = (0 : Int32) then (0 : Int32) else (if d1 = (1 : Int32) then (0 : Int32) else (0 : Int32))) + (1 : Int32)) else (0 : Int32))) (hcv1_2 : cv1_2 = (if d1 = (2 : Int32) then ((if d1 = (0 : Int32) then (0 : Int32) else (if d1 = (1 : Int32) then (0 : Int32) else (0 : Int32))) + (1 : Int32)) else (0 : Int32))) (hev1_0 : ev1_0 = (if (if d1 = (0 : Int32) then (0 : Int32) else (if d1 = (1 : Int32) then (0 : Int32) else (0 : Int32))) = (0 : Int32) then (if (0 : Int32) = (0 : Int32) then d1 else (0 : Int32)) else (0 : Int32))) (hev1_1 : ev1_1 = (if (if d1 = (0 : Int32) then (0 : Int32) else (if d1 = (1 : Int32) then (0 : Int32) else (0 : Int32))) = (0 : Int32) then (if (0 : Int32) = (1 : Int32) then d1 else (0 : Int32)) else (0 : Int32))) (hev1_2 : ev1_2 = (if (if d1 = (0 : Int32) then (0 : Int32) else (if d1 = (1 : Int32) then (0 : Int32) else (0 : Int32))) = (0 : Int32) then (if (0 : Int32) = (2 : Int32) then d1 else (0 : Int32)) else (0 : Int32))) (hz1 : z1 = (if (if d1 = (0 : Int32) then (0 : Int32) else (if d1 = (1 : Int32) then (0 : Int32) else (0 : Int32))) = (0 : Int32) then ((0 : Int32) + (1 : Int32)) else (0 : Int32))) : (2 : Int32) < z1 → Three ev1_2 := (own_E1 (own_three hd1) hcv1_0 hcv1_1 hcv1_2 hev1_0 hev1_1 hev1_2 hz1).2.2.2.1
theorem own_k1_0 {i0 d1 d2 d3 i1 z1 cv1_0 ev1_0 cv1_1 ev1_1 cv1_2 ev1_2 : Int32} {sv1_0 sv1_1 sv1_2 : UInt64} (hd1 : ((i0 &&& (255 : Int32)) % (3 : Int32)) = d1) (hd2 : ((((i0.toUInt32 >>> ((8 : Int32) &&& 31).toUInt32).toInt32) &&& (255 : Int32)) % (3 : Int32)) = d2) (hd3 : ((((i0.toUInt32 >>> ((16 : Int32) &&& 31).toUInt32).toInt32) &&& (255 : Int32)) % (3 : Int32)) = d3) (hsv1_0 : sv1_0 = (if d1 = (0 : Int32) then (FP.dadd (if d1 = (0 : Int32) then (0 : UInt64) else (if d1 = (1 : Int32) then (0 : UInt64) else (0 : UInt64))) (FP.i2d i1)) else (0 : UInt64))) (hsv1_1 : sv1_1 = (if d1 = (1 : Int32) then (FP.dadd (if d1 = (0 : Int32) then (0 : UInt64) else (if d1 = (1 : Int32) then (0 : UInt64) else (0 : UInt64))) (FP.i2d i1)) else (0 : UInt64))) (hsv1_2 : sv1_2 = (if d1 = (2 : Int32) then (FP.dadd (if d1 = (0 : Int32) then (0 : UInt64) else (if d1 = (1 : Int32) then (0 : UInt64) else (0 : UInt64))) (FP.i2d i1)) else (0 : UInt64))) (hcv1_0 : cv1_0 = (if d1 = (0 : Int32) then ((if d1 = (0 : Int32) then (0 : Int32) else (if d1 = (1 : Int32) then (0 : Int32) else (0 : Int32))) + (1 : Int32)) else (0 : Int32))) (hcv1_1 : cv1_1 = (if d1 = (1 : Int32) then ((if d1 = (0 : Int32) then (0 : Int32) else (if d1 = (1 : Int32) then (0 : Int32) else (0 : Int32))) + (1 : Int32)) else (0 : Int32))) (hcv1_2 : cv1_2 = (if d1 = (2 : Int32) then ((if d1 = (0 : Int32) then (0 : Int32) else (if d1 = (1 : Int32) then (0 : Int32) else (0 : Int32))) + (1 : Int32)) else (0 : Int32))) (hev1_0 : ev1_0 = (if (if d1 = (0 : Int32) then (0 : Int32) else (if d1 = (1 : Int32) then (0 : Int32) else (0 : Int32))) = (0 : Int32) then (if (0 : Int32) = (0 : Int32) then d1 else (0 : Int32)) else (0 : Int32))) (hev1_1 : ev1_1 = (if (if d1 = (0 : Int32) then (0 : Int32) else (if d1 = (1 : Int32) then (0 : Int32) else (0 : Int32))) = (0 : Int32) then (if (0 : Int32) = (1 : Int32) then d1 else (0 : Int32)) else (0 : Int32))) (hev1_2 : ev1_2 = (if (if d1 = (0 : Int32) then (0 : Int32) else (if d1 = (1 : Int32) then (0 : Int32) else (0 : Int32))) = (0 : Int32) then (if (0 : Int32) = (2 : Int32) then d1 else (0 : Int32)) else (0 : Int32))) (hz1 : z1 = (if (if d1 = (0 : Int32) then (0 : Int32) else (if d1 = (1 : Int32) then (0 : Int32) else (0 : Int32))) = (0 : Int32) then ((0 : Int32) + (1 : Int32)) else (0 : Int32))) : clrI z1 (0 : Int32) ev1_0 ev1_1 ev1_2 cv1_0 = (0 : Int32) := (own_E1 (own_three hd1) hcv1_0 hcv1_1 hcv1_2 hev1_0 hev1_1 hev1_2 hz1).2.2.2.2.1
theorem own_k1_1 {i0 d1 d2 d3 i1 z1 cv1_0 ev1_0 cv1_1 ev1_1 cv1_2 ev1_2 : Int32} {sv1_0 sv1_1 sv1_2 : UInt64} (hd1 : ((i0 &&& (255 : Int32)) % (3 : Int32)) = d1) (hd2 : ((((i0.toUInt32 >>> ((8 : Int32) &&& 31).toUInt32).toInt32) &&& (255 : Int32)) % (3 : Int32)) = d2) (hd3 : ((((i0.toUInt32 >>> ((16 : Int32) &&& 31).toUInt32).toInt32) &&& (255 : Int32)) % (3 : Int32)) = d3) (hsv1_0 : sv1_0 = (if d1 = (0 : Int32) then (FP.dadd (if d1 = (0 : Int32) then (0 : UInt64) else (if d1 = (1 : Int32) then (0 : UInt64) else (0 : UInt64))) (FP.i2d i1)) else (0 : UInt64))) (hsv1_1 : sv1_1 = (if d1 = (1 : Int32) then (FP.dadd (if d1 = (0 : Int32) then (0 : UInt64) else (if d1 = (1 : Int32) then (0 : UInt64) else (0 : UInt64))) (FP.i2d i1)) else (0 : UInt64))) (hsv1_2 : sv1_2 = (if d1 = (2 : Int32) then (FP.dadd (if d1 = (0 : Int32) then (0 : UInt64) else (if d1 = (1 : Int32) then (0 : UInt64) else (0 : UInt64))) (FP.i2d i1)) else (0 : UInt64))) (hcv1_0 : cv1_0 = (if d1 = (0 : Int32) then ((if d1 = (0 : Int32) then (0 : Int32) else (if d1 = (1 : Int32) then (0 : Int32) else (0 : Int32))) + (1 : Int32)) else (0 : Int32))) (hcv1_1 : cv1_1 = (if d1 = (1 : Int32) then ((if d1 = (0 : Int32) then (0 : Int32) else (if d1 = (1 : Int32) then (0 : Int32) else (0 : Int32))) + (1 : Int32)) else (0 : Int32))) (hcv1_2 : cv1_2 = (if d1 = (2 : Int32) then ((if d1 = (0 : Int32) then (0 : Int32) else (if d1 = (1 : Int32) then (0 : Int32) else (0 : Int32))) + (1 : Int32)) else (0 : Int32))) (hev1_0 : ev1_0 = (if (if d1 = (0 : Int32) then (0 : Int32) else (if d1 = (1 : Int32) then (0 : Int32) else (0 : Int32))) = (0 : Int32) then (if (0 : Int32) = (0 : Int32) then d1 else (0 : Int32)) else (0 : Int32))) (hev1_1 : ev1_1 = (if (if d1 = (0 : Int32) then (0 : Int32) else (if d1 = (1 : Int32) then (0 : Int32) else (0 : Int32))) = (0 : Int32) then (if (0 : Int32) = (1 : Int32) then d1 else (0 : Int32)) else (0 : Int32))) (hev1_2 : ev1_2 = (if (if d1 = (0 : Int32) then (0 : Int32) else (if d1 = (1 : Int32) then (0 : Int32) else (0 : Int32))) = (0 : Int32) then (if (0 : Int32) = (2 : Int32) then d1 else (0 : Int32)) else (0 : Int32))) (hz1 : z1 = (if (if d1 = (0 : Int32) then (0 : Int32) else (if d1 = (1 : Int32) then (0 : Int32) else (0 : Int32))) = (0 : Int32) then ((0 : Int32) + (1 : Int32)) else (0 : Int32))) : clrI z1 (1 : Int32) ev1_0 ev1_1 ev1_2 cv1_1 = (0 : Int32) := (own_E1 (own_three hd1) hcv1_0 hcv1_1 hcv1_2 hev1_0 hev1_1 hev1_2 hz1).2.2.2.2.2.1
theorem own_k1_2 {i0 d1 d2 d3 i1 z1 cv1_0 ev1_0 cv1_1 ev1_1 cv1_2 ev1_2 : Int32} {sv1_0 sv1_1 sv1_2 : UInt64} (hd1 : ((i0 &&& (255 : Int32)) % (3 : Int32)) = d1) (hd2 : ((((i0.toUInt32 >>> ((8 : Int32) &&& 31).toUInt32).toInt32) &&& (255 : Int32)) % (3 : Int32)) = d2) (hd3 : ((((i0.toUInt32 >>> ((16 : Int32) &&& 31).toUInt32).toInt32) &&& (255 : Int32)) % (3 : Int32)) = d3) (hsv1_0 : sv1_0 = (if d1 = (0 : Int32) then (FP.dadd (if d1 = (0 : Int32) then (0 : UInt64) else (if d1 = (1 : Int32) then (0 : UInt64) else (0 : UInt64))) (FP.i2d i1)) else (0 : UInt64))) (hsv1_1 : sv1_1 = (if d1 = (1 : Int32) then (FP.dadd (if d1 = (0 : Int32) then (0 : UInt64) else (if d1 = (1 : Int32) then (0 : UInt64) else (0 : UInt64))) (FP.i2d i1)) else (0 : UInt64))) (hsv1_2 : sv1_2 = (if d1 = (2 : Int32) then (FP.dadd (if d1 = (0 : Int32) then (0 : UInt64) else (if d1 = (1 : Int32) then (0 : UInt64) else (0 : UInt64))) (FP.i2d i1)) else (0 : UInt64))) (hcv1_0 : cv1_0 = (if d1 = (0 : Int32) then ((if d1 = (0 : Int32) then (0 : Int32) else (if d1 = (1 : Int32) then (0 : Int32) else (0 : Int32))) + (1 : Int32)) else (0 : Int32))) (hcv1_1 : cv1_1 = (if d1 = (1 : Int32) then ((if d1 = (0 : Int32) then (0 : Int32) else (if d1 = (1 : Int32) then (0 : Int32) else (0 : Int32))) + (1 : Int32)) else (0 : Int32))) (hcv1_2 : cv1_2 = (if d1 = (2 : Int32) then ((if d1 = (0 : Int32) then (0 : Int32) else (if d1 = (1 : Int32) then (0 : Int32) else (0 : Int32))) + (1 : Int32)) else (0 : Int32))) (hev1_0 : ev1_0 = (if (if d1 = (0 : Int32) then (0 : Int32) else (if d1 = (1 : Int32) then (0 : Int32) else (0 : Int32))) = (0 : Int32) then (if (0 : Int32) = (0 : Int32) then d1 else (0 : Int32)) else (0 : Int32))) (hev1_1 : ev1_1 = (if (if d1 = (0 : Int32) then (0 : Int32) else (if d1 = (1 : Int32) then (0 : Int32) else (0 : Int32))) = (0 : Int32) then (if (0 : Int32) = (1 : Int32) then d1 else (0 : Int32)) else (0 : Int32))) (hev1_2 : ev1_2 = (if (if d1 = (0 : Int32) then (0 : Int32) else (if d1 = (1 : Int32) then (0 : Int32) else (0 : Int32))) = (0 : Int32) then (if (0 : Int32) = (2 : Int32) then d1 else (0 : Int32)) else (0 : Int32))) (hz1 : z1 = (if (if d1 = (0 : Int32) then (0 : Int32) else (if d1 = (1 : Int32) then (0 : Int32) else (0 : Int32))) = (0 : Int32) then ((0 : Int32) + (1 : Int32)) else (0 : Int32))) : clrI z1 (2 : Int32) ev1_0 ev1_1 ev1_2 cv1_2 = (0 : Int32) := (own_E1 (own_three hd1) hcv1_0 hcv1_1 hcv1_2 hev1_0 hev1_1 hev1_2 hz1).2.2.2.2.2.2
set_option maxHeartbeats 4000000 in
theorem own_Z1 {d1 z1 cv1_0 ev1_0 cv1_1 ev1_1 cv1_2 ev1_2 i1 : Int32} {sv1_0 sv1_1 sv1_2 : UInt64} (t1 : Three d1) (hsv1_0 : sv1_0 = (if d1 = (0 : Int32) then (FP.dadd (if d1 = (0 : Int32) then (0 : UInt64) else (if d1 = (1 : Int32) then (0 : UInt64) else (0 : UInt64))) (FP.i2d i1)) else (0 : UInt64))) (hsv1_1 : sv1_1 = (if d1 = (1 : Int32) then (FP.dadd (if d1 = (0 : Int32) then (0 : UInt64) else (if d1 = (1 : Int32) then (0 : UInt64) else (0 : UInt64))) (FP.i2d i1)) else (0 : UInt64))) (hsv1_2 : sv1_2 = (if d1 = (2 : Int32) then (FP.dadd (if d1 = (0 : Int32) then (0 : UInt64) else (if d1 = (1 : Int32) then (0 : UInt64) else (0 : UInt64))) (FP.i2d i1)) else (0 : UInt64))) (hcv1_0 : cv1_0 = (if d1 = (0 : Int32) then ((if d1 = (0 : Int32) then (0 : Int32) else (if d1 = (1 : Int32) then (0 : Int32) else (0 : Int32))) + (1 : Int32)) else (0 : Int32))) (hcv1_1 : cv1_1 = (if d1 = (1 : Int32) then ((if d1 = (0 : Int32) then (0 : Int32) else (if d1 = (1 : Int32) then (0 : Int32) else (0 : Int32))) + (1 : Int32)) else (0 : Int32))) (hcv1_2 : cv1_2 = (if d1 = (2 : Int32) then ((if d1 = (0 : Int32) then (0 : Int32) else (if d1 = (1 : Int32) then (0 : Int32) else (0 : Int32))) + (1 : Int32)) else (0 : Int32))) (hev1_0 : ev1_0 = (if (if d1 = (0 : Int32) then (0 : Int32) else (if d1 = (1 : Int32) then (0 : Int32) else (0 : Int32))) = (0 : Int32) then (if (0 : Int32) = (0 : Int32) then d1 else (0 : Int32)) else (0 : Int32))) (hev1_1 : ev1_1 = (if (if d1 = (0 : Int32) then (0 : Int32) else (if d1 = (1 : Int32) then (0 : Int32) else (0 : Int32))) = (0 : Int32) then (if (0 : Int32) = (1 : Int32) then d1 else (0 : Int32)) else (0 : Int32))) (hev1_2 : ev1_2 = (if (if d1 = (0 : Int32) then (0 : Int32) else (if d1 = (1 : Int32) then (0 : Int32) else (0 : Int32))) = (0 : Int32) then (if (0 : Int32) = (2 : Int32) then d1 else (0 : Int32)) else (0 : Int32))) (hz1 : z1 = (if (if d1 = (0 : Int32) then (0 : Int32) else (if d1 = (1 : Int32) then (0 : Int32) else (0 : Int32))) = (0 : Int32) then ((0 : Int32) + (1 : Int32)) else (0 : Int32))) : clrD z1 (0 : Int32) ev1_0 ev1_1 ev1_2 sv1_0 = 0 ∧ clrD z1 (1 : Int32) ev1_0 ev1_1 ev1_2 sv1_1 = 0 ∧ clrD z1 (2 : Int32) ev1_0 ev1_1 ev1_2 sv1_2 = 0 := by
  rcases t1 with rfl | rfl | rfl <;> subst hz1 hev1_2 hev1_1 hev1_0 hcv1_2 hcv1_1 hcv1_0 hsv1_2 hsv1_1 hsv1_0 <;> exact ⟨rfl, rfl, rfl⟩
theorem own_q1_0 {i0 d1 d2 d3 i1 z1 cv1_0 ev1_0 cv1_1 ev1_1 cv1_2 ev1_2 : Int32} {sv1_0 sv1_1 sv1_2 : UInt64} (hd1 : ((i0 &&& (255 : Int32)) % (3 : Int32)) = d1) (hd2 : ((((i0.toUInt32 >>> ((8 : Int32) &&& 31).toUInt32).toInt32) &&& (255 : Int32)) % (3 : Int32)) = d2) (hd3 : ((((i0.toUInt32 >>> ((16 : Int32) &&& 31).toUInt32).toInt32) &&& (255 : Int32)) % (3 : Int32)) = d3) (hsv1_0 : sv1_0 = (if d1 = (0 : Int32) then (FP.dadd (if d1 = (0 : Int32) then (0 : UInt64) else (if d1 = (1 : Int32) then (0 : UInt64) else (0 : UInt64))) (FP.i2d i1)) else (0 : UInt64))) (hsv1_1 : sv1_1 = (if d1 = (1 : Int32) then (FP.dadd (if d1 = (0 : Int32) then (0 : UInt64) else (if d1 = (1 : Int32) then (0 : UInt64) else (0 : UInt64))) (FP.i2d i1)) else (0 : UInt64))) (hsv1_2 : sv1_2 = (if d1 = (2 : Int32) then (FP.dadd (if d1 = (0 : Int32) then (0 : UInt64) else (if d1 = (1 : Int32) then (0 : UInt64) else (0 : UInt64))) (FP.i2d i1)) else (0 : UInt64))) (hcv1_0 : cv1_0 = (if d1 = (0 : Int32) then ((if d1 = (0 : Int32) then (0 : Int32) else (if d1 = (1 : Int32) then (0 : Int32) else (0 : Int32))) + (1 : Int32)) else (0 : Int32))) (hcv1_1 : cv1_1 = (if d1 = (1 : Int32) then ((if d1 = (0 : Int32) then (0 : Int32) else (if d1 = (1 : Int32) then (0 : Int32) else (0 : Int32))) + (1 : Int32)) else (0 : Int32))) (hcv1_2 : cv1_2 = (if d1 = (2 : Int32) then ((if d1 = (0 : Int32) then (0 : Int32) else (if d1 = (1 : Int32) then (0 : Int32) else (0 : Int32))) + (1 : Int32)) else (0 : Int32))) (hev1_0 : ev1_0 = (if (if d1 = (0 : Int32) then (0 : Int32) else (if d1 = (1 : Int32) then (0 : Int32) else (0 : Int32))) = (0 : Int32) then (if (0 : Int32) = (0 : Int32) then d1 else (0 : Int32)) else (0 : Int32))) (hev1_1 : ev1_1 = (if (if d1 = (0 : Int32) then (0 : Int32) else (if d1 = (1 : Int32) then (0 : Int32) else (0 : Int32))) = (0 : Int32) then (if (0 : Int32) = (1 : Int32) then d1 else (0 : Int32)) else (0 : Int32))) (hev1_2 : ev1_2 = (if (if d1 = (0 : Int32) then (0 : Int32) else (if d1 = (1 : Int32) then (0 : Int32) else (0 : Int32))) = (0 : Int32) then (if (0 : Int32) = (2 : Int32) then d1 else (0 : Int32)) else (0 : Int32))) (hz1 : z1 = (if (if d1 = (0 : Int32) then (0 : Int32) else (if d1 = (1 : Int32) then (0 : Int32) else (0 : Int32))) = (0 : Int32) then ((0 : Int32) + (1 : Int32)) else (0 : Int32))) : (cmpValue (FP.dcmp (clrD z1 (0 : Int32) ev1_0 ev1_1 ev1_2 sv1_0) (0 : UInt64)) .l) = (0 : Int32) := by
  rw [(own_Z1 (own_three hd1) hsv1_0 hsv1_1 hsv1_2 hcv1_0 hcv1_1 hcv1_2 hev1_0 hev1_1 hev1_2 hz1).1]; exact own_q0
theorem own_q1_1 {i0 d1 d2 d3 i1 z1 cv1_0 ev1_0 cv1_1 ev1_1 cv1_2 ev1_2 : Int32} {sv1_0 sv1_1 sv1_2 : UInt64} (hd1 : ((i0 &&& (255 : Int32)) % (3 : Int32)) = d1) (hd2 : ((((i0.toUInt32 >>> ((8 : Int32) &&& 31).toUInt32).toInt32) &&& (255 : Int32)) % (3 : Int32)) = d2) (hd3 : ((((i0.toUInt32 >>> ((16 : Int32) &&& 31).toUInt32).toInt32) &&& (255 : Int32)) % (3 : Int32)) = d3) (hsv1_0 : sv1_0 = (if d1 = (0 : Int32) then (FP.dadd (if d1 = (0 : Int32) then (0 : UInt64) else (if d1 = (1 : Int32) then (0 : UInt64) else (0 : UInt64))) (FP.i2d i1)) else (0 : UInt64))) (hsv1_1 : sv1_1 = (if d1 = (1 : Int32) then (FP.dadd (if d1 = (0 : Int32) then (0 : UInt64) else (if d1 = (1 : Int32) then (0 : UInt64) else (0 : UInt64))) (FP.i2d i1)) else (0 : UInt64))) (hsv1_2 : sv1_2 = (if d1 = (2 : Int32) then (FP.dadd (if d1 = (0 : Int32) then (0 : UInt64) else (if d1 = (1 : Int32) then (0 : UInt64) else (0 : UInt64))) (FP.i2d i1)) else (0 : UInt64))) (hcv1_0 : cv1_0 = (if d1 = (0 : Int32) then ((if d1 = (0 : Int32) then (0 : Int32) else (if d1 = (1 : Int32) then (0 : Int32) else (0 : Int32))) + (1 : Int32)) else (0 : Int32))) (hcv1_1 : cv1_1 = (if d1 = (1 : Int32) then ((if d1 = (0 : Int32) then (0 : Int32) else (if d1 = (1 : Int32) then (0 : Int32) else (0 : Int32))) + (1 : Int32)) else (0 : Int32))) (hcv1_2 : cv1_2 = (if d1 = (2 : Int32) then ((if d1 = (0 : Int32) then (0 : Int32) else (if d1 = (1 : Int32) then (0 : Int32) else (0 : Int32))) + (1 : Int32)) else (0 : Int32))) (hev1_0 : ev1_0 = (if (if d1 = (0 : Int32) then (0 : Int32) else (if d1 = (1 : Int32) then (0 : Int32) else (0 : Int32))) = (0 : Int32) then (if (0 : Int32) = (0 : Int32) then d1 else (0 : Int32)) else (0 : Int32))) (hev1_1 : ev1_1 = (if (if d1 = (0 : Int32) then (0 : Int32) else (if d1 = (1 : Int32) then (0 : Int32) else (0 : Int32))) = (0 : Int32) then (if (0 : Int32) = (1 : Int32) then d1 else (0 : Int32)) else (0 : Int32))) (hev1_2 : ev1_2 = (if (if d1 = (0 : Int32) then (0 : Int32) else (if d1 = (1 : Int32) then (0 : Int32) else (0 : Int32))) = (0 : Int32) then (if (0 : Int32) = (2 : Int32) then d1 else (0 : Int32)) else (0 : Int32))) (hz1 : z1 = (if (if d1 = (0 : Int32) then (0 : Int32) else (if d1 = (1 : Int32) then (0 : Int32) else (0 : Int32))) = (0 : Int32) then ((0 : Int32) + (1 : Int32)) else (0 : Int32))) : (cmpValue (FP.dcmp (clrD z1 (1 : Int32) ev1_0 ev1_1 ev1_2 sv1_1) (0 : UInt64)) .l) = (0 : Int32) := by
  rw [(own_Z1 (own_three hd1) hsv1_0 hsv1_1 hsv1_2 hcv1_0 hcv1_1 hcv1_2 hev1_0 hev1_1 hev1_2 hz1).2.1]; exact own_q0
theorem own_q1_2 {i0 d1 d2 d3 i1 z1 cv1_0 ev1_0 cv1_1 ev1_1 cv1_2 ev1_2 : Int32} {sv1_0 sv1_1 sv1_2 : UInt64} (hd1 : ((i0 &&& (255 : Int32)) % (3 : Int32)) = d1) (hd2 : ((((i0.toUInt32 >>> ((8 : Int32) &&& 31).toUInt32).toInt32) &&& (255 : Int32)) % (3 : Int32)) = d2) (hd3 : ((((i0.toUInt32 >>> ((16 : Int32) &&& 31).toUInt32).toInt32) &&& (255 : Int32)) % (3 : Int32)) = d3) (hsv1_0 : sv1_0 = (if d1 = (0 : Int32) then (FP.dadd (if d1 = (0 : Int32) then (0 : UInt64) else (if d1 = (1 : Int32) then (0 : UInt64) else (0 : UInt64))) (FP.i2d i1)) else (0 : UInt64))) (hsv1_1 : sv1_1 = (if d1 = (1 : Int32) then (FP.dadd (if d1 = (0 : Int32) then (0 : UInt64) else (if d1 = (1 : Int32) then (0 : UInt64) else (0 : UInt64))) (FP.i2d i1)) else (0 : UInt64))) (hsv1_2 : sv1_2 = (if d1 = (2 : Int32) then (FP.dadd (if d1 = (0 : Int32) then (0 : UInt64) else (if d1 = (1 : Int32) then (0 : UInt64) else (0 : UInt64))) (FP.i2d i1)) else (0 : UInt64))) (hcv1_0 : cv1_0 = (if d1 = (0 : Int32) then ((if d1 = (0 : Int32) then (0 : Int32) else (if d1 = (1 : Int32) then (0 : Int32) else (0 : Int32))) + (1 : Int32)) else (0 : Int32))) (hcv1_1 : cv1_1 = (if d1 = (1 : Int32) then ((if d1 = (0 : Int32) then (0 : Int32) else (if d1 = (1 : Int32) then (0 : Int32) else (0 : Int32))) + (1 : Int32)) else (0 : Int32))) (hcv1_2 : cv1_2 = (if d1 = (2 : Int32) then ((if d1 = (0 : Int32) then (0 : Int32) else (if d1 = (1 : Int32) then (0 : Int32) else (0 : Int32))) + (1 : Int32)) else (0 : Int32))) (hev1_0 : ev1_0 = (if (if d1 = (0 : Int32) then (0 : Int32) else (if d1 = (1 : Int32) then (0 : Int32) else (0 : Int32))) = (0 : Int32) then (if (0 : Int32) = (0 : Int32) then d1 else (0 : Int32)) else (0 : Int32))) (hev1_1 : ev1_1 = (if (if d1 = (0 : Int32) then (0 : Int32) else (if d1 = (1 : Int32) then (0 : Int32) else (0 : Int32))) = (0 : Int32) then (if (0 : Int32) = (1 : Int32) then d1 else (0 : Int32)) else (0 : Int32))) (hev1_2 : ev1_2 = (if (if d1 = (0 : Int32) then (0 : Int32) else (if d1 = (1 : Int32) then (0 : Int32) else (0 : Int32))) = (0 : Int32) then (if (0 : Int32) = (2 : Int32) then d1 else (0 : Int32)) else (0 : Int32))) (hz1 : z1 = (if (if d1 = (0 : Int32) then (0 : Int32) else (if d1 = (1 : Int32) then (0 : Int32) else (0 : Int32))) = (0 : Int32) then ((0 : Int32) + (1 : Int32)) else (0 : Int32))) : (cmpValue (FP.dcmp (clrD z1 (2 : Int32) ev1_0 ev1_1 ev1_2 sv1_2) (0 : UInt64)) .l) = (0 : Int32) := by
  rw [(own_Z1 (own_three hd1) hsv1_0 hsv1_1 hsv1_2 hcv1_0 hcv1_1 hcv1_2 hev1_0 hev1_1 hev1_2 hz1).2.2]; exact own_q0
set_option maxHeartbeats 4000000 in
theorem own_E2 {d1 d2 z1 cv1_0 ev1_0 cv1_1 ev1_1 cv1_2 ev1_2 z2 cv2_0 ev2_0 cv2_1 ev2_1 cv2_2 ev2_2 : Int32} (t1 : Three d1) (t2 : Three d2) (hcv1_0 : cv1_0 = (if d1 = (0 : Int32) then ((if d1 = (0 : Int32) then (0 : Int32) else (if d1 = (1 : Int32) then (0 : Int32) else (0 : Int32))) + (1 : Int32)) else (0 : Int32))) (hcv1_1 : cv1_1 = (if d1 = (1 : Int32) then ((if d1 = (0 : Int32) then (0 : Int32) else (if d1 = (1 : Int32) then (0 : Int32) else (0 : Int32))) + (1 : Int32)) else (0 : Int32))) (hcv1_2 : cv1_2 = (if d1 = (2 : Int32) then ((if d1 = (0 : Int32) then (0 : Int32) else (if d1 = (1 : Int32) then (0 : Int32) else (0 : Int32))) + (1 : Int32)) else (0 : Int32))) (hev1_0 : ev1_0 = (if (if d1 = (0 : Int32) then (0 : Int32) else (if d1 = (1 : Int32) then (0 : Int32) else (0 : Int32))) = (0 : Int32) then (if (0 : Int32) = (0 : Int32) then d1 else (0 : Int32)) else (0 : Int32))) (hev1_1 : ev1_1 = (if (if d1 = (0 : Int32) then (0 : Int32) else (if d1 = (1 : Int32) then (0 : Int32) else (0 : Int32))) = (0 : Int32) then (if (0 : Int32) = (1 : Int32) then d1 else (0 : Int32)) else (0 : Int32))) (hev1_2 : ev1_2 = (if (if d1 = (0 : Int32) then (0 : Int32) else (if d1 = (1 : Int32) then (0 : Int32) else (0 : Int32))) = (0 : Int32) then (if (0 : Int32) = (2 : Int32) then d1 else (0 : Int32)) else (0 : Int32))) (hz1 : z1 = (if (if d1 = (0 : Int32) then (0 : Int32) else (if d1 = (1 : Int32) then (0 : Int32) else (0 : Int32))) = (0 : Int32) then ((0 : Int32) + (1 : Int32)) else (0 : Int32))) (hcv2_0 : cv2_0 = (if d2 = (0 : Int32) then ((if d2 = (0 : Int32) then cv1_0 else (if d2 = (1 : Int32) then cv1_1 else cv1_2)) + (1 : Int32)) else cv1_0)) (hcv2_1 : cv2_1 = (if d2 = (1 : Int32) then ((if d2 = (0 : Int32) then cv1_0 else (if d2 = (1 : Int32) then cv1_1 else cv1_2)) + (1 : Int32)) else cv1_1)) (hcv2_2 : cv2_2 = (if d2 = (2 : Int32) then ((if d2 = (0 : Int32) then cv1_0 else (if d2 = (1 : Int32) then cv1_1 else cv1_2)) + (1 : Int32)) else cv1_2)) (hev2_0 : ev2_0 = (if (if d2 = (0 : Int32) then cv1_0 else (if d2 = (1 : Int32) then cv1_1 else cv1_2)) = (0 : Int32) then (if z1 = (0 : Int32) then d2 else ev1_0) else ev1_0)) (hev2_1 : ev2_1 = (if (if d2 = (0 : Int32) then cv1_0 else (if d2 = (1 : Int32) then cv1_1 else cv1_2)) = (0 : Int32) then (if z1 = (1 : Int32) then d2 else ev1_1) else ev1_1)) (hev2_2 : ev2_2 = (if (if d2 = (0 : Int32) then cv1_0 else (if d2 = (1 : Int32) then cv1_1 else cv1_2)) = (0 : Int32) then (if z1 = (2 : Int32) then d2 else ev1_2) else ev1_2)) (hz2 : z2 = (if (if d2 = (0 : Int32) then cv1_0 else (if d2 = (1 : Int32) then cv1_1 else cv1_2)) = (0 : Int32) then (z1 + (1 : Int32)) else z1)) : (z2 = (0 : Int32) ∨ z2 = (1 : Int32) ∨ z2 = (2 : Int32) ∨ z2 = (3 : Int32)) ∧ ((0 : Int32) < z2 → (ev2_0 = 0 ∨ ev2_0 = 1 ∨ ev2_0 = 2)) ∧ ((1 : Int32) < z2 → (ev2_1 = 0 ∨ ev2_1 = 1 ∨ ev2_1 = 2)) ∧ ((2 : Int32) < z2 → (ev2_2 = 0 ∨ ev2_2 = 1 ∨ ev2_2 = 2)) ∧ clrI z2 (0 : Int32) ev2_0 ev2_1 ev2_2 cv2_0 = 0 ∧ clrI z2 (1 : Int32) ev2_0 ev2_1 ev2_2 cv2_1 = 0 ∧ clrI z2 (2 : Int32) ev2_0 ev2_1 ev2_2 cv2_2 = 0 := by
  rcases t1 with rfl | rfl | rfl <;> rcases t2 with rfl | rfl | rfl <;> subst hz2 hev2_2 hev2_1 hev2_0 hcv2_2 hcv2_1 hcv2_0 hz1 hev1_2 hev1_1 hev1_0 hcv1_2 hcv1_1 hcv1_0 <;> decide
theorem own_e2_s {i0 d1 d2 d3 i1 i2 z1 cv1_0 ev1_0 cv1_1 ev1_1 cv1_2 ev1_2 z2 cv2_0 ev2_0 cv2_1 ev2_1 cv2_2 ev2_2 : Int32} {sv1_0 sv1_1 sv1_2 sv2_0 sv2_1 sv2_2 : UInt64} (hd1 : ((i0 &&& (255 : Int32)) % (3 : Int32)) = d1) (hd2 : ((((i0.toUInt32 >>> ((8 : Int32) &&& 31).toUInt32).toInt32) &&& (255 : Int32)) % (3 : Int32)) = d2) (hd3 : ((((i0.toUInt32 >>> ((16 : Int32) &&& 31).toUInt32).toInt32) &&& (255 : Int32)) % (3 : Int32)) = d3) (hsv1_0 : sv1_0 = (if d1 = (0 : Int32) then (FP.dadd (if d1 = (0 : Int32) then (0 : UInt64) else (if d1 = (1 : Int32) then (0 : UInt64) else (0 : UInt64))) (FP.i2d i1)) else (0 : UInt64))) (hsv1_1 : sv1_1 = (if d1 = (1 : Int32) then (FP.dadd (if d1 = (0 : Int32) then (0 : UInt64) else (if d1 = (1 : Int32) then (0 : UInt64) else (0 : UInt64))) (FP.i2d i1)) else (0 : UInt64))) (hsv1_2 : sv1_2 = (if d1 = (2 : Int32) then (FP.dadd (if d1 = (0 : Int32) then (0 : UInt64) else (if d1 = (1 : Int32) then (0 : UInt64) else (0 : UInt64))) (FP.i2d i1)) else (0 : UInt64))) (hcv1_0 : cv1_0 = (if d1 = (0 : Int32) then ((if d1 = (0 : Int32) then (0 : Int32) else (if d1 = (1 : Int32) then (0 : Int32) else (0 : Int32))) + (1 : Int32)) else (0 : Int32))) (hcv1_1 : cv1_1 = (if d1 = (1 : Int32) then ((if d1 = (0 : Int32) then (0 : Int32) else (if d1 = (1 : Int32) then (0 : Int32) else (0 : Int32))) + (1 : Int32)) else (0 : Int32))) (hcv1_2 : cv1_2 = (if d1 = (2 : Int32) then ((if d1 = (0 : Int32) then (0 : Int32) else (if d1 = (1 : Int32) then (0 : Int32) else (0 : Int32))) + (1 : Int32)) else (0 : Int32))) (hev1_0 : ev1_0 = (if (if d1 = (0 : Int32) then (0 : Int32) else (if d1 = (1 : Int32) then (0 : Int32) else (0 : Int32))) = (0 : Int32) then (if (0 : Int32) = (0 : Int32) then d1 else (0 : Int32)) else (0 : Int32))) (hev1_1 : ev1_1 = (if (if d1 = (0 : Int32) then (0 : Int32) else (if d1 = (1 : Int32) then (0 : Int32) else (0 : Int32))) = (0 : Int32) then (if (0 : Int32) = (1 : Int32) then d1 else (0 : Int32)) else (0 : Int32))) (hev1_2 : ev1_2 = (if (if d1 = (0 : Int32) then (0 : Int32) else (if d1 = (1 : Int32) then (0 : Int32) else (0 : Int32))) = (0 : Int32) then (if (0 : Int32) = (2 : Int32) then d1 else (0 : Int32)) else (0 : Int32))) (hz1 : z1 = (if (if d1 = (0 : Int32) then (0 : Int32) else (if d1 = (1 : Int32) then (0 : Int32) else (0 : Int32))) = (0 : Int32) then ((0 : Int32) + (1 : Int32)) else (0 : Int32))) (hsv2_0 : sv2_0 = (if d2 = (0 : Int32) then (FP.dadd (if d2 = (0 : Int32) then sv1_0 else (if d2 = (1 : Int32) then sv1_1 else sv1_2)) (FP.i2d i2)) else sv1_0)) (hsv2_1 : sv2_1 = (if d2 = (1 : Int32) then (FP.dadd (if d2 = (0 : Int32) then sv1_0 else (if d2 = (1 : Int32) then sv1_1 else sv1_2)) (FP.i2d i2)) else sv1_1)) (hsv2_2 : sv2_2 = (if d2 = (2 : Int32) then (FP.dadd (if d2 = (0 : Int32) then sv1_0 else (if d2 = (1 : Int32) then sv1_1 else sv1_2)) (FP.i2d i2)) else sv1_2)) (hcv2_0 : cv2_0 = (if d2 = (0 : Int32) then ((if d2 = (0 : Int32) then cv1_0 else (if d2 = (1 : Int32) then cv1_1 else cv1_2)) + (1 : Int32)) else cv1_0)) (hcv2_1 : cv2_1 = (if d2 = (1 : Int32) then ((if d2 = (0 : Int32) then cv1_0 else (if d2 = (1 : Int32) then cv1_1 else cv1_2)) + (1 : Int32)) else cv1_1)) (hcv2_2 : cv2_2 = (if d2 = (2 : Int32) then ((if d2 = (0 : Int32) then cv1_0 else (if d2 = (1 : Int32) then cv1_1 else cv1_2)) + (1 : Int32)) else cv1_2)) (hev2_0 : ev2_0 = (if (if d2 = (0 : Int32) then cv1_0 else (if d2 = (1 : Int32) then cv1_1 else cv1_2)) = (0 : Int32) then (if z1 = (0 : Int32) then d2 else ev1_0) else ev1_0)) (hev2_1 : ev2_1 = (if (if d2 = (0 : Int32) then cv1_0 else (if d2 = (1 : Int32) then cv1_1 else cv1_2)) = (0 : Int32) then (if z1 = (1 : Int32) then d2 else ev1_1) else ev1_1)) (hev2_2 : ev2_2 = (if (if d2 = (0 : Int32) then cv1_0 else (if d2 = (1 : Int32) then cv1_1 else cv1_2)) = (0 : Int32) then (if z1 = (2 : Int32) then d2 else ev1_2) else ev1_2)) (hz2 : z2 = (if (if d2 = (0 : Int32) then cv1_0 else (if d2 = (1 : Int32) then cv1_1 else cv1_2)) = (0 : Int32) then (z1 + (1 : Int32)) else z1)) : (z2 = (0 : Int32) ∨ z2 = (1 : Int32) ∨ z2 = (2 : Int32) ∨ z2 = (3 : Int32)) := (own_E2 (own_three hd1) (own_three hd2) hcv1_0 hcv1_1 hcv1_2 hev1_0 hev1_1 hev1_2 hz1 hcv2_0 hcv2_1 hcv2_2 hev2_0 hev2_1 hev2_2 hz2).1
theorem own_e2_0 {i0 d1 d2 d3 i1 i2 z1 cv1_0 ev1_0 cv1_1 ev1_1 cv1_2 ev1_2 z2 cv2_0 ev2_0 cv2_1 ev2_1 cv2_2 ev2_2 : Int32} {sv1_0 sv1_1 sv1_2 sv2_0 sv2_1 sv2_2 : UInt64} (hd1 : ((i0 &&& (255 : Int32)) % (3 : Int32)) = d1) (hd2 : ((((i0.toUInt32 >>> ((8 : Int32) &&& 31).toUInt32).toInt32) &&& (255 : Int32)) % (3 : Int32)) = d2) (hd3 : ((((i0.toUInt32 >>> ((16 : Int32) &&& 31).toUInt32).toInt32) &&& (255 : Int32)) % (3 : Int32)) = d3) (hsv1_0 : sv1_0 = (if d1 = (0 : Int32) then (FP.dadd (if d1 = (0 : Int32) then (0 : UInt64) else (if d1 = (1 : Int32) then (0 : UInt64) else (0 : UInt64))) (FP.i2d i1)) else (0 : UInt64))) (hsv1_1 : sv1_1 = (if d1 = (1 : Int32) then (FP.dadd (if d1 = (0 : Int32) then (0 : UInt64) else (if d1 = (1 : Int32) then (0 : UInt64) else (0 : UInt64))) (FP.i2d i1)) else (0 : UInt64))) (hsv1_2 : sv1_2 = (if d1 = (2 : Int32) then (FP.dadd (if d1 = (0 : Int32) then (0 : UInt64) else (if d1 = (1 : Int32) then (0 : UInt64) else (0 : UInt64))) (FP.i2d i1)) else (0 : UInt64))) (hcv1_0 : cv1_0 = (if d1 = (0 : Int32) then ((if d1 = (0 : Int32) then (0 : Int32) else (if d1 = (1 : Int32) then (0 : Int32) else (0 : Int32))) + (1 : Int32)) else (0 : Int32))) (hcv1_1 : cv1_1 = (if d1 = (1 : Int32) then ((if d1 = (0 : Int32) then (0 : Int32) else (if d1 = (1 : Int32) then (0 : Int32) else (0 : Int32))) + (1 : Int32)) else (0 : Int32))) (hcv1_2 : cv1_2 = (if d1 = (2 : Int32) then ((if d1 = (0 : Int32) then (0 : Int32) else (if d1 = (1 : Int32) then (0 : Int32) else (0 : Int32))) + (1 : Int32)) else (0 : Int32))) (hev1_0 : ev1_0 = (if (if d1 = (0 : Int32) then (0 : Int32) else (if d1 = (1 : Int32) then (0 : Int32) else (0 : Int32))) = (0 : Int32) then (if (0 : Int32) = (0 : Int32) then d1 else (0 : Int32)) else (0 : Int32))) (hev1_1 : ev1_1 = (if (if d1 = (0 : Int32) then (0 : Int32) else (if d1 = (1 : Int32) then (0 : Int32) else (0 : Int32))) = (0 : Int32) then (if (0 : Int32) = (1 : Int32) then d1 else (0 : Int32)) else (0 : Int32))) (hev1_2 : ev1_2 = (if (if d1 = (0 : Int32) then (0 : Int32) else (if d1 = (1 : Int32) then (0 : Int32) else (0 : Int32))) = (0 : Int32) then (if (0 : Int32) = (2 : Int32) then d1 else (0 : Int32)) else (0 : Int32))) (hz1 : z1 = (if (if d1 = (0 : Int32) then (0 : Int32) else (if d1 = (1 : Int32) then (0 : Int32) else (0 : Int32))) = (0 : Int32) then ((0 : Int32) + (1 : Int32)) else (0 : Int32))) (hsv2_0 : sv2_0 = (if d2 = (0 : Int32) then (FP.dadd (if d2 = (0 : Int32) then sv1_0 else (if d2 = (1 : Int32) then sv1_1 else sv1_2)) (FP.i2d i2)) else sv1_0)) (hsv2_1 : sv2_1 = (if d2 = (1 : Int32) then (FP.dadd (if d2 = (0 : Int32) then sv1_0 else (if d2 = (1 : Int32) then sv1_1 else sv1_2)) (FP.i2d i2)) else sv1_1)) (hsv2_2 : sv2_2 = (if d2 = (2 : Int32) then (FP.dadd (if d2 = (0 : Int32) then sv1_0 else (if d2 = (1 : Int32) then sv1_1 else sv1_2)) (FP.i2d i2)) else sv1_2)) (hcv2_0 : cv2_0 = (if d2 = (0 : Int32) then ((if d2 = (0 : Int32) then cv1_0 else (if d2 = (1 : Int32) then cv1_1 else cv1_2)) + (1 : Int32)) else cv1_0)) (hcv2_1 : cv2_1 = (if d2 = (1 : Int32) then ((if d2 = (0 : Int32) then cv1_0 else (if d2 = (1 : Int32) then cv1_1 else cv1_2)) + (1 : Int32)) else cv1_1)) (hcv2_2 : cv2_2 = (if d2 = (2 : Int32) then ((if d2 = (0 : Int32) then cv1_0 else (if d2 = (1 : Int32) then cv1_1 else cv1_2)) + (1 : Int32)) else cv1_2)) (hev2_0 : ev2_0 = (if (if d2 = (0 : Int32) then cv1_0 else (if d2 = (1 : Int32) then cv1_1 else cv1_2)) = (0 : Int32) then (if z1 = (0 : Int32) then d2 else ev1_0) else ev1_0)) (hev2_1 : ev2_1 = (if (if d2 = (0 : Int32) then cv1_0 else (if d2 = (1 : Int32) then cv1_1 else cv1_2)) = (0 : Int32) then (if z1 = (1 : Int32) then d2 else ev1_1) else ev1_1)) (hev2_2 : ev2_2 = (if (if d2 = (0 : Int32) then cv1_0 else (if d2 = (1 : Int32) then cv1_1 else cv1_2)) = (0 : Int32) then (if z1 = (2 : Int32) then d2 else ev1_2) else ev1_2)) (hz2 : z2 = (if (if d2 = (0 : Int32) then cv1_0 else (if d2 = (1 : Int32) then cv1_1 else cv1_2)) = (0 : Int32) then (z1 + (1 : Int32)) else z1)) : (0 : Int32) < z2 → Three ev2_0 := (own_E2 (own_three hd1) (own_three hd2) hcv1_0 hcv1_1 hcv1_2 hev1_0 hev1_1 hev1_2 hz1 hcv2_0 hcv2_1 hcv2_2 hev2_0 hev2_1 hev2_2 hz2).2.1
theorem own_e2_1 {i0 d1 d2 d3 i1 i2 z1 cv1_0 ev1_0 cv1_1 ev1_1 cv1_2 ev1_2 z2 cv2_0 ev2_0 cv2_1 ev2_1 cv2_2 ev2_2 : Int32} {sv1_0 sv1_1 sv1_2 sv2_0 sv2_1 sv2_2 : UInt64} (hd1 : ((i0 &&& (255 : Int32)) % (3 : Int32)) = d1) (hd2 : ((((i0.toUInt32 >>> ((8 : Int32) &&& 31).toUInt32).toInt32) &&& (255 : Int32)) % (3 : Int32)) = d2) (hd3 : ((((i0.toUInt32 >>> ((16 : Int32) &&& 31).toUInt32).toInt32) &&& (255 : Int32)) % (3 : Int32)) = d3) (hsv1_0 : sv1_0 = (if d1 = (0 : Int32) then (FP.dadd (if d1 = (0 : Int32) then (0 : UInt64) else (if d1 = (1 : Int32) then (0 : UInt64) else (0 : UInt64))) (FP.i2d i1)) else (0 : UInt64))) (hsv1_1 : sv1_1 = (if d1 = (1 : Int32) then (FP.dadd (if d1 = (0 : Int32) then (0 : UInt64) else (if d1 = (1 : Int32) then (0 : UInt64) else (0 : UInt64))) (FP.i2d i1)) else (0 : UInt64))) (hsv1_2 : sv1_2 = (if d1 = (2 : Int32) then (FP.dadd (if d1 = (0 : Int32) then (0 : UInt64) else (if d1 = (1 : Int32) then (0 : UInt64) else (0 : UInt64))) (FP.i2d i1)) else (0 : UInt64))) (hcv1_0 : cv1_0 = (if d1 = (0 : Int32) then ((if d1 = (0 : Int32) then (0 : Int32) else (if d1 = (1 : Int32) then (0 : Int32) else (0 : Int32))) + (1 : Int32)) else (0 : Int32))) (hcv1_1 : cv1_1 = (if d1 = (1 : Int32) then ((if d1 = (0 : Int32) then (0 : Int32) else (if d1 = (1 : Int32) then (0 : Int32) else (0 : Int32))) + (1 : Int32)) else (0 : Int32))) (hcv1_2 : cv1_2 = (if d1 = (2 : Int32) then ((if d1 = (0 : Int32) then (0 : Int32) else (if d1 = (1 : Int32) then (0 : Int32) else (0 : Int32))) + (1 : Int32)) else (0 : Int32))) (hev1_0 : ev1_0 = (if (if d1 = (0 : Int32) then (0 : Int32) else (if d1 = (1 : Int32) then (0 : Int32) else (0 : Int32))) = (0 : Int32) then (if (0 : Int32) = (0 : Int32) then d1 else (0 : Int32)) else (0 : Int32))) (hev1_1 : ev1_1 = (if (if d1 = (0 : Int32) then (0 : Int32) else (if d1 = (1 : Int32) then (0 : Int32) else (0 : Int32))) = (0 : Int32) then (if (0 : Int32) = (1 : Int32) then d1 else (0 : Int32)) else (0 : Int32))) (hev1_2 : ev1_2 = (if (if d1 = (0 : Int32) then (0 : Int32) else (if d1 = (1 : Int32) then (0 : Int32) else (0 : Int32))) = (0 : Int32) then (if (0 : Int32) = (2 : Int32) then d1 else (0 : Int32)) else (0 : Int32))) (hz1 : z1 = (if (if d1 = (0 : Int32) then (0 : Int32) else (if d1 = (1 : Int32) then (0 : Int32) else (0 : Int32))) = (0 : Int32) then ((0 : Int32) + (1 : Int32)) else (0 : Int32))) (hsv2_0 : sv2_0 = (if d2 = (0 : Int32) then (FP.dadd (if d2 = (0 : Int32) then sv1_0 else (if d2 = (1 : Int32) then sv1_1 else sv1_2)) (FP.i2d i2)) else sv1_0)) (hsv2_1 : sv2_1 = (if d2 = (1 : Int32) then (FP.dadd (if d2 = (0 : Int32) then sv1_0 else (if d2 = (1 : Int32) then sv1_1 else sv1_2)) (FP.i2d i2)) else sv1_1)) (hsv2_2 : sv2_2 = (if d2 = (2 : Int32) then (FP.dadd (if d2 = (0 : Int32) then sv1_0 else (if d2 = (1 : Int32) then sv1_1 else sv1_2)) (FP.i2d i2)) else sv1_2)) (hcv2_0 : cv2_0 = (if d2 = (0 : Int32) then ((if d2 = (0 : Int32) then cv1_0 else (if d2 = (1 : Int32) then cv1_1 else cv1_2)) + (1 : Int32)) else cv1_0)) (hcv2_1 : cv2_1 = (if d2 = (1 : Int32) then ((if d2 = (0 : Int32) then cv1_0 else (if d2 = (1 : Int32) then cv1_1 else cv1_2)) + (1 : Int32)) else cv1_1)) (hcv2_2 : cv2_2 = (if d2 = (2 : Int32) then ((if d2 = (0 : Int32) then cv1_0 else (if d2 = (1 : Int32) then cv1_1 else cv1_2)) + (1 : Int32)) else cv1_2)) (hev2_0 : ev2_0 = (if (if d2 = (0 : Int32) then cv1_0 else (if d2 = (1 : Int32) then cv1_1 else cv1_2)) = (0 : Int32) then (if z1 = (0 : Int32) then d2 else ev1_0) else ev1_0)) (hev2_1 : ev2_1 = (if (if d2 = (0 : Int32) then cv1_0 else (if d2 = (1 : Int32) then cv1_1 else cv1_2)) = (0 : Int32) then (if z1 = (1 : Int32) then d2 else ev1_1) else ev1_1)) (hev2_2 : ev2_2 = (if (if d2 = (0 : Int32) then cv1_0 else (if d2 = (1 : Int32) then cv1_1 else cv1_2)) = (0 : Int32) then (if z1 = (2 : Int32) then d2 else ev1_2) else ev1_2)) (hz2 : z2 = (if (if d2 = (0 : Int32) then cv1_0 else (if d2 = (1 : Int32) then cv1_1 else cv1_2)) = (0 : Int32) then (z1 + (1 : Int32)) else z1)) : (1 : Int32) < z2 → Three ev2_1 := (own_E2 (own_three hd1) (own_three hd2) hcv1_0 hcv1_1 hcv1_2 hev1_0 hev1_1 hev1_2 hz1 hcv2_0 hcv2_1 hcv2_2 hev2_0 hev2_1 hev2_2 hz2).2.2.1
theorem own_e2_2 {i0 d1 d2 d3 i1 i2 z1 cv1_0 ev1_0 cv1_1 ev1_1 cv1_2 ev1_2 z2 cv2_0 ev2_0 cv2_1 ev2_1 cv2_2 ev2_2 : Int32} {sv1_0 sv1_1 sv1_2 sv2_0 sv2_1 sv2_2 : UInt64} (hd1 : ((i0 &&& (255 : Int32)) % (3 : Int32)) = d1) (hd2 : ((((i0.toUInt32 >>> ((8 : Int32) &&& 31).toUInt32).toInt32) &&& (255 : Int32)) % (3 : Int32)) = d2) (hd3 : ((((i0.toUInt32 >>> ((16 : Int32) &&& 31).toUInt32).toInt32) &&& (255 : Int32)) % (3 : Int32)) = d3) (hsv1_0 : sv1_0 = (if d1 = (0 : Int32) then (FP.dadd (if d1 = (0 : Int32) then (0 : UInt64) else (if d1 = (1 : Int32) then (0 : UInt64) else (0 : UInt64))) (FP.i2d i1)) else (0 : UInt64))) (hsv1_1 : sv1_1 = (if d1 = (1 : Int32) then (FP.dadd (if d1 = (0 : Int32) then (0 : UInt64) else (if d1 = (1 : Int32) then (0 : UInt64) else (0 : UInt64))) (FP.i2d i1)) else (0 : UInt64))) (hsv1_2 : sv1_2 = (if d1 = (2 : Int32) then (FP.dadd (if d1 = (0 : Int32) then (0 : UInt64) else (if d1 = (1 : Int32) then (0 : UInt64) else (0 : UInt64))) (FP.i2d i1)) else (0 : UInt64))) (hcv1_0 : cv1_0 = (if d1 = (0 : Int32) then ((if d1 = (0 : Int32) then (0 : Int32) else (if d1 = (1 : Int32) then (0 : Int32) else (0 : Int32))) + (1 : Int32)) else (0 : Int32))) (hcv1_1 : cv1_1 = (if d1 = (1 : Int32) then ((if d1 = (0 : Int32) then (0 : Int32) else (if d1 = (1 : Int32) then (0 : Int32) else (0 : Int32))) + (1 : Int32)) else (0 : Int32))) (hcv1_2 : cv1_2 = (if d1 = (2 : Int32) then ((if d1 = (0 : Int32) then (0 : Int32) else (if d1 = (1 : Int32) then (0 : Int32) else (0 : Int32))) + (1 : Int32)) else (0 : Int32))) (hev1_0 : ev1_0 = (if (if d1 = (0 : Int32) then (0 : Int32) else (if d1 = (1 : Int32) then (0 : Int32) else (0 : Int32))) = (0 : Int32) then (if (0 : Int32) = (0 : Int32) then d1 else (0 : Int32)) else (0 : Int32))) (hev1_1 : ev1_1 = (if (if d1 = (0 : Int32) then (0 : Int32) else (if d1 = (1 : Int32) then (0 : Int32) else (0 : Int32))) = (0 : Int32) then (if (0 : Int32) = (1 : Int32) then d1 else (0 : Int32)) else (0 : Int32))) (hev1_2 : ev1_2 = (if (if d1 = (0 : Int32) then (0 : Int32) else (if d1 = (1 : Int32) then (0 : Int32) else (0 : Int32))) = (0 : Int32) then (if (0 : Int32) = (2 : Int32) then d1 else (0 : Int32)) else (0 : Int32))) (hz1 : z1 = (if (if d1 = (0 : Int32) then (0 : Int32) else (if d1 = (1 : Int32) then (0 : Int32) else (0 : Int32))) = (0 : Int32) then ((0 : Int32) + (1 : Int32)) else (0 : Int32))) (hsv2_0 : sv2_0 = (if d2 = (0 : Int32) then (FP.dadd (if d2 = (0 : Int32) then sv1_0 else (if d2 = (1 : Int32) then sv1_1 else sv1_2)) (FP.i2d i2)) else sv1_0)) (hsv2_1 : sv2_1 = (if d2 = (1 : Int32) then (FP.dadd (if d2 = (0 : Int32) then sv1_0 else (if d2 = (1 : Int32) then sv1_1 else sv1_2)) (FP.i2d i2)) else sv1_1)) (hsv2_2 : sv2_2 = (if d2 = (2 : Int32) then (FP.dadd (if d2 = (0 : Int32) then sv1_0 else (if d2 = (1 : Int32) then sv1_1 else sv1_2)) (FP.i2d i2)) else sv1_2)) (hcv2_0 : cv2_0 = (if d2 = (0 : Int32) then ((if d2 = (0 : Int32) then cv1_0 else (if d2 = (1 : Int32) then cv1_1 else cv1_2)) + (1 : Int32)) else cv1_0)) (hcv2_1 : cv2_1 = (if d2 = (1 : Int32) then ((if d2 = (0 : Int32) then cv1_0 else (if d2 = (1 : Int32) then cv1_1 else cv1_2)) + (1 : Int32)) else cv1_1)) (hcv2_2 : cv2_2 = (if d2 = (2 : Int32) then ((if d2 = (0 : Int32) then cv1_0 else (if d2 = (1 : Int32) then cv1_1 else cv1_2)) + (1 : Int32)) else cv1_2)) (hev2_0 : ev2_0 = (if (if d2 = (0 : Int32) then cv1_0 else (if d2 = (1 : Int32) then cv1_1 else cv1_2)) = (0 : Int32) then (if z1 = (0 : Int32) then d2 else ev1_0) else ev1_0)) (hev2_1 : ev2_1 = (if (if d2 = (0 : Int32) then cv1_0 else (if d2 = (1 : Int32) then cv1_1 else cv1_2)) = (0 : Int32) then (if z1 = (1 : Int32) then d2 else ev1_1) else ev1_1)) (hev2_2 : ev2_2 = (if (if d2 = (0 : Int32) then cv1_0 else (if d2 = (1 : Int32) then cv1_1 else cv1_2)) = (0 : Int32) then (if z1 = (2 : Int32) then d2 else ev1_2) else ev1_2)) (hz2 : z2 = (if (if d2 = (0 : Int32) then cv1_0 else (if d2 = (1 : Int32) then cv1_1 else cv1_2)) = (0 : Int32) then (z1 + (1 : Int32)) else z1)) : (2 : Int32) < z2 → Three ev2_2 := (own_E2 (own_three hd1) (own_three hd2) hcv1_0 hcv1_1 hcv1_2 hev1_0 hev1_1 hev1_2 hz1 hcv2_0 hcv2_1 hcv2_2 hev2_0 hev2_1 hev2_2 hz2).2.2.2.1
theorem own_k2_0 {i0 d1 d2 d3 i1 i2 z1 cv1_0 ev1_0 cv1_1 ev1_1 cv1_2 ev1_2 z2 cv2_0 ev2_0 cv2_1 ev2_1 cv2_2 ev2_2 : Int32} {sv1_0 sv1_1 sv1_2 sv2_0 sv2_1 sv2_2 : UInt64} (hd1 : ((i0 &&& (255 : Int32)) % (3 : Int32)) = d1) (hd2 : ((((i0.toUInt32 >>> ((8 : Int32) &&& 31).toUInt32).toInt32) &&& (255 : Int32)) % (3 : Int32)) = d2) (hd3 : ((((i0.toUInt32 >>> ((16 : Int32) &&& 31).toUInt32).toInt32) &&& (255 : Int32)) % (3 : Int32)) = d3) (hsv1_0 : sv1_0 = (if d1 = (0 : Int32) then (FP.dadd (if d1 = (0 : Int32) then (0 : UInt64) else (if d1 = (1 : Int32) then (0 : UInt64) else (0 : UInt64))) (FP.i2d i1)) else (0 : UInt64))) (hsv1_1 : sv1_1 = (if d1 = (1 : Int32) then (FP.dadd (if d1 = (0 : Int32) then (0 : UInt64) else (if d1 = (1 : Int32) then (0 : UInt64) else (0 : UInt64))) (FP.i2d i1)) else (0 : UInt64))) (hsv1_2 : sv1_2 = (if d1 = (2 : Int32) then (FP.dadd (if d1 = (0 : Int32) then (0 : UInt64) else (if d1 = (1 : Int32) then (0 : UInt64) else (0 : UInt64))) (FP.i2d i1)) else (0 : UInt64))) (hcv1_0 : cv1_0 = (if d1 = (0 : Int32) then ((if d1 = (0 : Int32) then (0 : Int32) else (if d1 = (1 : Int32) then (0 : Int32) else (0 : Int32))) + (1 : Int32)) else (0 : Int32))) (hcv1_1 : cv1_1 = (if d1 = (1 : Int32) then ((if d1 = (0 : Int32) then (0 : Int32) else (if d1 = (1 : Int32) then (0 : Int32) else (0 : Int32))) + (1 : Int32)) else (0 : Int32))) (hcv1_2 : cv1_2 = (if d1 = (2 : Int32) then ((if d1 = (0 : Int32) then (0 : Int32) else (if d1 = (1 : Int32) then (0 : Int32) else (0 : Int32))) + (1 : Int32)) else (0 : Int32))) (hev1_0 : ev1_0 = (if (if d1 = (0 : Int32) then (0 : Int32) else (if d1 = (1 : Int32) then (0 : Int32) else (0 : Int32))) = (0 : Int32) then (if (0 : Int32) = (0 : Int32) then d1 else (0 : Int32)) else (0 : Int32))) (hev1_1 : ev1_1 = (if (if d1 = (0 : Int32) then (0 : Int32) else (if d1 = (1 : Int32) then (0 : Int32) else (0 : Int32))) = (0 : Int32) then (if (0 : Int32) = (1 : Int32) then d1 else (0 : Int32)) else (0 : Int32))) (hev1_2 : ev1_2 = (if (if d1 = (0 : Int32) then (0 : Int32) else (if d1 = (1 : Int32) then (0 : Int32) else (0 : Int32))) = (0 : Int32) then (if (0 : Int32) = (2 : Int32) then d1 else (0 : Int32)) else (0 : Int32))) (hz1 : z1 = (if (if d1 = (0 : Int32) then (0 : Int32) else (if d1 = (1 : Int32) then (0 : Int32) else (0 : Int32))) = (0 : Int32) then ((0 : Int32) + (1 : Int32)) else (0 : Int32))) (hsv2_0 : sv2_0 = (if d2 = (0 : Int32) then (FP.dadd (if d2 = (0 : Int32) then sv1_0 else (if d2 = (1 : Int32) then sv1_1 else sv1_2)) (FP.i2d i2)) else sv1_0)) (hsv2_1 : sv2_1 = (if d2 = (1 : Int32) then (FP.dadd (if d2 = (0 : Int32) then sv1_0 else (if d2 = (1 : Int32) then sv1_1 else sv1_2)) (FP.i2d i2)) else sv1_1)) (hsv2_2 : sv2_2 = (if d2 = (2 : Int32) then (FP.dadd (if d2 = (0 : Int32) then sv1_0 else (if d2 = (1 : Int32) then sv1_1 else sv1_2)) (FP.i2d i2)) else sv1_2)) (hcv2_0 : cv2_0 = (if d2 = (0 : Int32) then ((if d2 = (0 : Int32) then cv1_0 else (if d2 = (1 : Int32) then cv1_1 else cv1_2)) + (1 : Int32)) else cv1_0)) (hcv2_1 : cv2_1 = (if d2 = (1 : Int32) then ((if d2 = (0 : Int32) then cv1_0 else (if d2 = (1 : Int32) then cv1_1 else cv1_2)) + (1 : Int32)) else cv1_1)) (hcv2_2 : cv2_2 = (if d2 = (2 : Int32) then ((if d2 = (0 : Int32) then cv1_0 else (if d2 = (1 : Int32) then cv1_1 else cv1_2)) + (1 : Int32)) else cv1_2)) (hev2_0 : ev2_0 = (if (if d2 = (0 : Int32) then cv1_0 else (if d2 = (1 : Int32) then cv1_1 else cv1_2)) = (0 : Int32) then (if z1 = (0 : Int32) then d2 else ev1_0) else ev1_0)) (hev2_1 : ev2_1 = (if (if d2 = (0 : Int32) then cv1_0 else (if d2 = (1 : Int32) then cv1_1 else cv1_2)) = (0 : Int32) then (if z1 = (1 : Int32) then d2 else ev1_1) else ev1_1)) (hev2_2 : ev2_2 = (if (if d2 = (0 : Int32) then cv1_0 else (if d2 = (1 : Int32) then cv1_1 else cv1_2)) = (0 : Int32) then (if z1 = (2 : Int32) then d2 else ev1_2) else ev1_2)) (hz2 : z2 = (if (if d2 = (0 : Int32) then cv1_0 else (if d2 = (1 : Int32) then cv1_1 else cv1_2)) = (0 : Int32) then (z1 + (1 : Int32)) else z1)) : clrI z2 (0 : Int32) ev2_0 ev2_1 ev2_2 cv2_0 = (0 : Int32) := (own_E2 (own_three hd1) (own_three hd2) hcv1_0 hcv1_1 hcv1_2 hev1_0 hev1_1 hev1_2 hz1 hcv2_0 hcv2_1 hcv2_2 hev2_0 hev2_1 hev2_2 hz2).2.2.2.2.1
theorem own_k2_1 {i0 d1 d2 d3 i1 i2 z1 cv1_0 ev1_0 cv1_1 ev1_1 cv1_2 ev1_2 z2 cv2_0 ev2_0 cv2_1 ev2_1 cv2_2 ev2_2 : Int32} {sv1_0 sv1_1 sv1_2 sv2_0 sv2_1 sv2_2 : UInt64} (hd1 : ((i0 &&& (255 : Int32)) % (3 : Int32)) = d1) (hd2 : ((((i0.toUInt32 >>> ((8 : Int32) &&& 31).toUInt32).toInt32) &&& (255 : Int32)) % (3 : Int32)) = d2) (hd3 : ((((i0.toUInt32 >>> ((16 : Int32) &&& 31).toUInt32).toInt32) &&& (255 : Int32)) % (3 : Int32)) = d3) (hsv1_0 : sv1_0 = (if d1 = (0 : Int32) then (FP.dadd (if d1 = (0 : Int32) then (0 : UInt64) else (if d1 = (1 : Int32) then (0 : UInt64) else (0 : UInt64))) (FP.i2d i1)) else (0 : UInt64))) (hsv1_1 : sv1_1 = (if d1 = (1 : Int32) then (FP.dadd (if d1 = (0 : Int32) then (0 : UInt64) else (if d1 = (1 : Int32) then (0 : UInt64) else (0 : UInt64))) (FP.i2d i1)) else (0 : UInt64))) (hsv1_2 : sv1_2 = (if d1 = (2 : Int32) then (FP.dadd (if d1 = (0 : Int32) then (0 : UInt64) else (if d1 = (1 : Int32) then (0 : UInt64) else (0 : UInt64))) (FP.i2d i1)) else (0 : UInt64))) (hcv1_0 : cv1_0 = (if d1 = (0 : Int32) then ((if d1 = (0 : Int32) then (0 : Int32) else (if d1 = (1 : Int32) then (0 : Int32) else (0 : Int32))) + (1 : Int32)) else (0 : Int32))) (hcv1_1 : cv1_1 = (if d1 = (1 : Int32) then ((if d1 = (0 : Int32) then (0 : Int32) else (if d1 = (1 : Int32) then (0 : Int32) else (0 : Int32))) + (1 : Int32)) else (0 : Int32))) (hcv1_2 : cv1_2 = (if d1 = (2 : Int32) then ((if d1 = (0 : Int32) then (0 : Int32) else (if d1 = (1 : Int32) then (0 : Int32) else (0 : Int32))) + (1 : Int32)) else (0 : Int32))) (hev1_0 : ev1_0 = (if (if d1 = (0 : Int32) then (0 : Int32) else (if d1 = (1 : Int32) then (0 : Int32) else (0 : Int32))) = (0 : Int32) then (if (0 : Int32) = (0 : Int32) then d1 else (0 : Int32)) else (0 : Int32))) (hev1_1 : ev1_1 = (if (if d1 = (0 : Int32) then (0 : Int32) else (if d1 = (1 : Int32) then (0 : Int32) else (0 : Int32))) = (0 : Int32) then (if (0 : Int32) = (1 : Int32) then d1 else (0 : Int32)) else (0 : Int32))) (hev1_2 : ev1_2 = (if (if d1 = (0 : Int32) then (0 : Int32) else (if d1 = (1 : Int32) then (0 : Int32) else (0 : Int32))) = (0 : Int32) then (if (0 : Int32) = (2 : Int32) then d1 else (0 : Int32)) else (0 : Int32))) (hz1 : z1 = (if (if d1 = (0 : Int32) then (0 : Int32) else (if d1 = (1 : Int32) then (0 : Int32) else (0 : Int32))) = (0 : Int32) then ((0 : Int32) + (1 : Int32)) else (0 : Int32))) (hsv2_0 : sv2_0 = (if d2 = (0 : Int32) then (FP.dadd (if d2 = (0 : Int32) then sv1_0 else (if d2 = (1 : Int32) then sv1_1 else sv1_2)) (FP.i2d i2)) else sv1_0)) (hsv2_1 : sv2_1 = (if d2 = (1 : Int32) then (FP.dadd (if d2 = (0 : Int32) then sv1_0 else (if d2 = (1 : Int32) then sv1_1 else sv1_2)) (FP.i2d i2)) else sv1_1)) (hsv2_2 : sv2_2 = (if d2 = (2 : Int32) then (FP.dadd (if d2 = (0 : Int32) then sv1_0 else (if d2 = (1 : Int32) then sv1_1 else sv1_2)) (FP.i2d i2)) else sv1_2)) (hcv2_0 : cv2_0 = (if d2 = (0 : Int32) then ((if d2 = (0 : Int32) then cv1_0 else (if d2 = (1 : Int32) then cv1_1 else cv1_2)) + (1 : Int32)) else cv1_0)) (hcv2_1 : cv2_1 = (if d2 = (1 : Int32) then ((if d2 = (0 : Int32) then cv1_0 else (if d2 = (1 : Int32) then cv1_1 else cv1_2)) + (1 : Int32)) else cv1_1)) (hcv2_2 : cv2_2 = (if d2 = (2 : Int32) then ((if d2 = (0 : Int32) then cv1_0 else (if d2 = (1 : Int32) then cv1_1 else cv1_2)) + (1 : Int32)) else cv1_2)) (hev2_0 : ev2_0 = (if (if d2 = (0 : Int32) then cv1_0 else (if d2 = (1 : Int32) then cv1_1 else cv1_2)) = (0 : Int32) then (if z1 = (0 : Int32) then d2 else ev1_0) else ev1_0)) (hev2_1 : ev2_1 = (if (if d2 = (0 : Int32) then cv1_0 else (if d2 = (1 : Int32) then cv1_1 else cv1_2)) = (0 : Int32) then (if z1 = (1 : Int32) then d2 else ev1_1) else ev1_1)) (hev2_2 : ev2_2 = (if (if d2 = (0 : Int32) then cv1_0 else (if d2 = (1 : Int32) then cv1_1 else cv1_2)) = (0 : Int32) then (if z1 = (2 : Int32) then d2 else ev1_2) else ev1_2)) (hz2 : z2 = (if (if d2 = (0 : Int32) then cv1_0 else (if d2 = (1 : Int32) then cv1_1 else cv1_2)) = (0 : Int32) then (z1 + (1 : Int32)) else z1)) : clrI z2 (1 : Int32) ev2_0 ev2_1 ev2_2 cv2_1 = (0 : Int32) := (own_E2 (own_three hd1) (own_three hd2) hcv1_0 hcv1_1 hcv1_2 hev1_0 hev1_1 hev1_2 hz1 hcv2_0 hcv2_1 hcv2_2 hev2_0 hev2_1 hev2_2 hz2).2.2.2.2.2.1
theorem own_k2_2 {i0 d1 d2 d3 i1 i2 z1 cv1_0 ev1_0 cv1_1 ev1_1 cv1_2 ev1_2 z2 cv2_0 ev2_0 cv2_1 ev2_1 cv2_2 ev2_2 : Int32} {sv1_0 sv1_1 sv1_2 sv2_0 sv2_1 sv2_2 : UInt64} (hd1 : ((i0 &&& (255 : Int32)) % (3 : Int32)) = d1) (hd2 : ((((i0.toUInt32 >>> ((8 : Int32) &&& 31).toUInt32).toInt32) &&& (255 : Int32)) % (3 : Int32)) = d2) (hd3 : ((((i0.toUInt32 >>> ((16 : Int32) &&& 31).toUInt32).toInt32) &&& (255 : Int32)) % (3 : Int32)) = d3) (hsv1_0 : sv1_0 = (if d1 = (0 : Int32) then (FP.dadd (if d1 = (0 : Int32) then (0 : UInt64) else (if d1 = (1 : Int32) then (0 : UInt64) else (0 : UInt64))) (FP.i2d i1)) else (0 : UInt64))) (hsv1_1 : sv1_1 = (if d1 = (1 : Int32) then (FP.dadd (if d1 = (0 : Int32) then (0 : UInt64) else (if d1 = (1 : Int32) then (0 : UInt64) else (0 : UInt64))) (FP.i2d i1)) else (0 : UInt64))) (hsv1_2 : sv1_2 = (if d1 = (2 : Int32) then (FP.dadd (if d1 = (0 : Int32) then (0 : UInt64) else (if d1 = (1 : Int32) then (0 : UInt64) else (0 : UInt64))) (FP.i2d i1)) else (0 : UInt64))) (hcv1_0 : cv1_0 = (if d1 = (0 : Int32) then ((if d1 = (0 : Int32) then (0 : Int32) else (if d1 = (1 : Int32) then (0 : Int32) else (0 : Int32))) + (1 : Int32)) else (0 : Int32))) (hcv1_1 : cv1_1 = (if d1 = (1 : Int32) then ((if d1 = (0 : Int32) then (0 : Int32) else (if d1 = (1 : Int32) then (0 : Int32) else (0 : Int32))) + (1 : Int32)) else (0 : Int32))) (hcv1_2 : cv1_2 = (if d1 = (2 : Int32) then ((if d1 = (0 : Int32) then (0 : Int32) else (if d1 = (1 : Int32) then (0 : Int32) else (0 : Int32))) + (1 : Int32)) else (0 : Int32))) (hev1_0 : ev1_0 = (if (if d1 = (0 : Int32) then (0 : Int32) else (if d1 = (1 : Int32) then (0 : Int32) else (0 : Int32))) = (0 : Int32) then (if (0 : Int32) = (0 : Int32) then d1 else (0 : Int32)) else (0 : Int32))) (hev1_1 : ev1_1 = (if (if d1 = (0 : Int32) then (0 : Int32) else (if d1 = (1 : Int32) then (0 : Int32) else (0 : Int32))) = (0 : Int32) then (if (0 : Int32) = (1 : Int32) then d1 else (0 : Int32)) else (0 : Int32))) (hev1_2 : ev1_2 = (if (if d1 = (0 : Int32) then (0 : Int32) else (if d1 = (1 : Int32) then (0 : Int32) else (0 : Int32))) = (0 : Int32) then (if (0 : Int32) = (2 : Int32) then d1 else (0 : Int32)) else (0 : Int32))) (hz1 : z1 = (if (if d1 = (0 : Int32) then (0 : Int32) else (if d1 = (1 : Int32) then (0 : Int32) else (0 : Int32))) = (0 : Int32) then ((0 : Int32) + (1 : Int32)) else (0 : Int32))) (hsv2_0 : sv2_0 = (if d2 = (0 : Int32) then (FP.dadd (if d2 = (0 : Int32) then sv1_0 else (if d2 = (1 : Int32) then sv1_1 else sv1_2)) (FP.i2d i2)) else sv1_0)) (hsv2_1 : sv2_1 = (if d2 = (1 : Int32) then (FP.dadd (if d2 = (0 : Int32) then sv1_0 else (if d2 = (1 : Int32) then sv1_1 else sv1_2)) (FP.i2d i2)) else sv1_1)) (hsv2_2 : sv2_2 = (if d2 = (2 : Int32) then (FP.dadd (if d2 = (0 : Int32) then sv1_0 else (if d2 = (1 : Int32) then sv1_1 else sv1_2)) (FP.i2d i2)) else sv1_2)) (hcv2_0 : cv2_0 = (if d2 = (0 : Int32) then ((if d2 = (0 : Int32) then cv1_0 else (if d2 = (1 : Int32) then cv1_1 else cv1_2)) + (1 : Int32)) else cv1_0)) (hcv2_1 : cv2_1 = (if d2 = (1 : Int32) then ((if d2 = (0 : Int32) then cv1_0 else (if d2 = (1 : Int32) then cv1_1 else cv1_2)) + (1 : Int32)) else cv1_1)) (hcv2_2 : cv2_2 = (if d2 = (2 : Int32) then ((if d2 = (0 : Int32) then cv1_0 else (if d2 = (1 : Int32) then cv1_1 else cv1_2)) + (1 : Int32)) else cv1_2)) (hev2_0 : ev2_0 = (if (if d2 = (0 : Int32) then cv1_0 else (if d2 = (1 : Int32) then cv1_1 else cv1_2)) = (0 : Int32) then (if z1 = (0 : Int32) then d2 else ev1_0) else ev1_0)) (hev2_1 : ev2_1 = (if (if d2 = (0 : Int32) then cv1_0 else (if d2 = (1 : Int32) then cv1_1 else cv1_2)) = (0 : Int32) then (if z1 = (1 : Int32) then d2 else ev1_1) else ev1_1)) (hev2_2 : ev2_2 = (if (if d2 = (0 : Int32) then cv1_0 else (if d2 = (1 : Int32) then cv1_1 else cv1_2)) = (0 : Int32) then (if z1 = (2 : Int32) then d2 else ev1_2) else ev1_2)) (hz2 : z2 = (if (if d2 = (0 : Int32) then cv1_0 else (if d2 = (1 : Int32) then cv1_1 else cv1_2)) = (0 : Int32) then (z1 + (1 : Int32)) else z1)) : clrI z2 (2 : Int32) ev2_0 ev2_1 ev2_2 cv2_2 = (0 : Int32) := (own_E2 (own_three hd1) (own_three hd2) hcv1_0 hcv1_1 hcv1_2 hev1_0 hev1_1 hev1_2 hz1 hcv2_0 hcv2_1 hcv2_2 hev2_0 hev2_1 hev2_2 hz2).2.2.2.2.2.2
set_option maxHeartbeats 4000000 in
theorem own_Z2 {d1 d2 z1 cv1_0 ev1_0 cv1_1 ev1_1 cv1_2 ev1_2 z2 cv2_0 ev2_0 cv2_1 ev2_1 cv2_2 ev2_2 i1 i2 : Int32} {sv1_0 sv1_1 sv1_2 sv2_0 sv2_1 sv2_2 : UInt64} (t1 : Three d1) (t2 : Three d2) (hsv1_0 : sv1_0 = (if d1 = (0 : Int32) then (FP.dadd (if d1 = (0 : Int32) then (0 : UInt64) else (if d1 = (1 : Int32) then (0 : UInt64) else (0 : UInt64))) (FP.i2d i1)) else (0 : UInt64))) (hsv1_1 : sv1_1 = (if d1 = (1 : Int32) then (FP.dadd (if d1 = (0 : Int32) then (0 : UInt64) else (if d1 = (1 : Int32) then (0 : UInt64) else (0 : UInt64))) (FP.i2d i1)) else (0 : UInt64))) (hsv1_2 : sv1_2 = (if d1 = (2 : Int32) then (FP.dadd (if d1 = (0 : Int32) then (0 : UInt64) else (if d1 = (1 : Int32) then (0 : UInt64) else (0 : UInt64))) (FP.i2d i1)) else (0 : UInt64))) (hcv1_0 : cv1_0 = (if d1 = (0 : Int32) then ((if d1 = (0 : Int32) then (0 : Int32) else (if d1 = (1 : Int32) then (0 : Int32) else (0 : Int32))) + (1 : Int32)) else (0 : Int32))) (hcv1_1 : cv1_1 = (if d1 = (1 : Int32) then ((if d1 = (0 : Int32) then (0 : Int32) else (if d1 = (1 : Int32) then (0 : Int32) else (0 : Int32))) + (1 : Int32)) else (0 : Int32))) (hcv1_2 : cv1_2 = (if d1 = (2 : Int32) then ((if d1 = (0 : Int32) then (0 : Int32) else (if d1 = (1 : Int32) then (0 : Int32) else (0 : Int32))) + (1 : Int32)) else (0 : Int32))) (hev1_0 : ev1_0 = (if (if d1 = (0 : Int32) then (0 : Int32) else (if d1 = (1 : Int32) then (0 : Int32) else (0 : Int32))) = (0 : Int32) then (if (0 : Int32) = (0 : Int32) then d1 else (0 : Int32)) else (0 : Int32))) (hev1_1 : ev1_1 = (if (if d1 = (0 : Int32) then (0 : Int32) else (if d1 = (1 : Int32) then (0 : Int32) else (0 : Int32))) = (0 : Int32) then (if (0 : Int32) = (1 : Int32) then d1 else (0 : Int32)) else (0 : Int32))) (hev1_2 : ev1_2 = (if (if d1 = (0 : Int32) then (0 : Int32) else (if d1 = (1 : Int32) then (0 : Int32) else (0 : Int32))) = (0 : Int32) then (if (0 : Int32) = (2 : Int32) then d1 else (0 : Int32)) else (0 : Int32))) (hz1 : z1 = (if (if d1 = (0 : Int32) then (0 : Int32) else (if d1 = (1 : Int32) then (0 : Int32) else (0 : Int32))) = (0 : Int32) then ((0 : Int32) + (1 : Int32)) else (0 : Int32))) (hsv2_0 : sv2_0 = (if d2 = (0 : Int32) then (FP.dadd (if d2 = (0 : Int32) then sv1_0 else (if d2 = (1 : Int32) then sv1_1 else sv1_2)) (FP.i2d i2)) else sv1_0)) (hsv2_1 : sv2_1 = (if d2 = (1 : Int32) then (FP.dadd (if d2 = (0 : Int32) then sv1_0 else (if d2 = (1 : Int32) then sv1_1 else sv1_2)) (FP.i2d i2)) else sv1_1)) (hsv2_2 : sv2_2 = (if d2 = (2 : Int32) then (FP.dadd (if d2 = (0 : Int32) then sv1_0 else (if d2 = (1 : Int32) then sv1_1 else sv1_2)) (FP.i2d i2)) else sv1_2)) (hcv2_0 : cv2_0 = (if d2 = (0 : Int32) then ((if d2 = (0 : Int32) then cv1_0 else (if d2 = (1 : Int32) then cv1_1 else cv1_2)) + (1 : Int32)) else cv1_0)) (hcv2_1 : cv2_1 = (if d2 = (1 : Int32) then ((if d2 = (0 : Int32) then cv1_0 else (if d2 = (1 : Int32) then cv1_1 else cv1_2)) + (1 : Int32)) else cv1_1)) (hcv2_2 : cv2_2 = (if d2 = (2 : Int32) then ((if d2 = (0 : Int32) then cv1_0 else (if d2 = (1 : Int32) then cv1_1 else cv1_2)) + (1 : Int32)) else cv1_2)) (hev2_0 : ev2_0 = (if (if d2 = (0 : Int32) then cv1_0 else (if d2 = (1 : Int32) then cv1_1 else cv1_2)) = (0 : Int32) then (if z1 = (0 : Int32) then d2 else ev1_0) else ev1_0)) (hev2_1 : ev2_1 = (if (if d2 = (0 : Int32) then cv1_0 else (if d2 = (1 : Int32) then cv1_1 else cv1_2)) = (0 : Int32) then (if z1 = (1 : Int32) then d2 else ev1_1) else ev1_1)) (hev2_2 : ev2_2 = (if (if d2 = (0 : Int32) then cv1_0 else (if d2 = (1 : Int32) then cv1_1 else cv1_2)) = (0 : Int32) then (if z1 = (2 : Int32) then d2 else ev1_2) else ev1_2)) (hz2 : z2 = (if (if d2 = (0 : Int32) then cv1_0 else (if d2 = (1 : Int32) then cv1_1 else cv1_2)) = (0 : Int32) then (z1 + (1 : Int32)) else z1)) : clrD z2 (0 : Int32) ev2_0 ev2_1 ev2_2 sv2_0 = 0 ∧ clrD z2 (1 : Int32) ev2_0 ev2_1 ev2_2 sv2_1 = 0 ∧ clrD z2 (2 : Int32) ev2_0 ev2_1 ev2_2 sv2_2 = 0 := by
  rcases t1 with rfl | rfl | rfl <;> rcases t2 with rfl | rfl | rfl <;> subst hz2 hev2_2 hev2_1 hev2_0 hcv2_2 hcv2_1 hcv2_0 hsv2_2 hsv2_1 hsv2_0 hz1 hev1_2 hev1_1 hev1_0 hcv1_2 hcv1_1 hcv1_0 hsv1_2 hsv1_1 hsv1_0 <;> exact ⟨rfl, rfl, rfl⟩
theorem own_q2_0 {i0 d1 d2 d3 i1 i2 z1 cv1_0 ev1_0 cv1_1 ev1_1 cv1_2 ev1_2 z2 cv2_0 ev2_0 cv2_1 ev2_1 cv2_2 ev2_2 : Int32} {sv1_0 sv1_1 sv1_2 sv2_0 sv2_1 sv2_2 : UInt64} (hd1 : ((i0 &&& (255 : Int32)) % (3 : Int32)) = d1) (hd2 : ((((i0.toUInt32 >>> ((8 : Int32) &&& 31).toUInt32).toInt32) &&& (255 : Int32)) % (3 : Int32)) = d2) (hd3 : ((((i0.toUInt32 >>> ((16 : Int32) &&& 31).toUInt32).toInt32) &&& (255 : Int32)) % (3 : Int32)) = d3) (hsv1_0 : sv1_0 = (if d1 = (0 : Int32) then (FP.dadd (if d1 = (0 : Int32) then (0 : UInt64) else (if d1 = (1 : Int32) then (0 : UInt64) else (0 : UInt64))) (FP.i2d i1)) else (0 : UInt64))) (hsv1_1 : sv1_1 = (if d1 = (1 : Int32) then (FP.dadd (if d1 = (0 : Int32) then (0 : UInt64) else (if d1 = (1 : Int32) then (0 : UInt64) else (0 : UInt64))) (FP.i2d i1)) else (0 : UInt64))) (hsv1_2 : sv1_2 = (if d1 = (2 : Int32) then (FP.dadd (if d1 = (0 : Int32) then (0 : UInt64) else (if d1 = (1 : Int32) then (0 : UInt64) else (0 : UInt64))) (FP.i2d i1)) else (0 : UInt64))) (hcv1_0 : cv1_0 = (if d1 = (0 : Int32) then ((if d1 = (0 : Int32) then (0 : Int32) else (if d1 = (1 : Int32) then (0 : Int32) else (0 : Int32))) + (1 : Int32)) else (0 : Int32))) (hcv1_1 : cv1_1 = (if d1 = (1 : Int32) then ((if d1 = (0 : Int32) then (0 : Int32) else (if d1 = (1 : Int32) then (0 : Int32) else (0 : Int32))) + (1 : Int32)) else (0 : Int32))) (hcv1_2 : cv1_2 = (if d1 = (2 : Int32) then ((if d1 = (0 : Int32) then (0 : Int32) else (if d1 = (1 : Int32) then (0 : Int32) else (0 : Int32))) + (1 : Int32)) else (0 : Int32))) (hev1_0 : ev1_0 = (if (if d1 = (0 : Int32) then (0 : Int32) else (if d1 = (1 : Int32) then (0 : Int32) else (0 : Int32))) = (0 : Int32) then (if (0 : Int32) = (0 : Int32) then d1 else (0 : Int32)) else (0 : Int32))) (hev1_1 : ev1_1 = (if (if d1 = (0 : Int32) then (0 : Int32) else (if d1 = (1 : Int32) then (0 : Int32) else (0 : Int32))) = (0 : Int32) then (if (0 : Int32) = (1 : Int32) then d1 else (0 : Int32)) else (0 : Int32))) (hev1_2 : ev1_2 = (if (if d1 = (0 : Int32) then (0 : Int32) else (if d1 = (1 : Int32) then (0 : Int32) else (0 : Int32))) = (0 : Int32) then (if (0 : Int32) = (2 : Int32) then d1 else (0 : Int32)) else (0 : Int32))) (hz1 : z1 = (if (if d1 = (0 : Int32) then (0 : Int32) else (if d1 = (1 : Int32) then (0 : Int32) else (0 : Int32))) = (0 : Int32) then ((0 : Int32) + (1 : Int32)) else (0 : Int32))) (hsv2_0 : sv2_0 = (if d2 = (0 : Int32) then (FP.dadd (if d2 = (0 : Int32) then sv1_0 else (if d2 = (1 : Int32) then sv1_1 else sv1_2)) (FP.i2d i2)) else sv1_0)) (hsv2_1 : sv2_1 = (if d2 = (1 : Int32) then (FP.dadd (if d2 = (0 : Int32) then sv1_0 else (if d2 = (1 : Int32) then sv1_1 else sv1_2)) (FP.i2d i2)) else sv1_1)) (hsv2_2 : sv2_2 = (if d2 = (2 : Int32) then (FP.dadd (if d2 = (0 : Int32) then sv1_0 else (if d2 = (1 : Int32) then sv1_1 else sv1_2)) (FP.i2d i2)) else sv1_2)) (hcv2_0 : cv2_0 = (if d2 = (0 : Int32) then ((if d2 = (0 : Int32) then cv1_0 else (if d2 = (1 : Int32) then cv1_1 else cv1_2)) + (1 : Int32)) else cv1_0)) (hcv2_1 : cv2_1 = (if d2 = (1 : Int32) then ((if d2 = (0 : Int32) then cv1_0 else (if d2 = (1 : Int32) then cv1_1 else cv1_2)) + (1 : Int32)) else cv1_1)) (hcv2_2 : cv2_2 = (if d2 = (2 : Int32) then ((if d2 = (0 : Int32) then cv1_0 else (if d2 = (1 : Int32) then cv1_1 else cv1_2)) + (1 : Int32)) else cv1_2)) (hev2_0 : ev2_0 = (if (if d2 = (0 : Int32) then cv1_0 else (if d2 = (1 : Int32) then cv1_1 else cv1_2)) = (0 : Int32) then (if z1 = (0 : Int32) then d2 else ev1_0) else ev1_0)) (hev2_1 : ev2_1 = (if (if d2 = (0 : Int32) then cv1_0 else (if d2 = (1 : Int32) then cv1_1 else cv1_2)) = (0 : Int32) then (if z1 = (1 : Int32) then d2 else ev1_1) else ev1_1)) (hev2_2 : ev2_2 = (if (if d2 = (0 : Int32) then cv1_0 else (if d2 = (1 : Int32) then cv1_1 else cv1_2)) = (0 : Int32) then (if z1 = (2 : Int32) then d2 else ev1_2) else ev1_2)) (hz2 : z2 = (if (if d2 = (0 : Int32) then cv1_0 else (if d2 = (1 : Int32) then cv1_1 else cv1_2)) = (0 : Int32) then (z1 + (1 : Int32)) else z1)) : (cmpValue (FP.dcmp (clrD z2 (0 : Int32) ev2_0 ev2_1 ev2_2 sv2_0) (0 : UInt64)) .l) = (0 : Int32) := by
  rw [(own_Z2 (own_three hd1) (own_three hd2) hsv1_0 hsv1_1 hsv1_2 hcv1_0 hcv1_1 hcv1_2 hev1_0 hev1_1 hev1_2 hz1 hsv2_0 hsv2_1 hsv2_2 hcv2_0 hcv2_1 hcv2_2 hev2_0 hev2_1 hev2_2 hz2).1]; exact own_q0
theorem own_q2_1 {i0 d1 d2 d3 i1 i2 z1 cv1_0 ev1_0 cv1_1 ev1_1 cv1_2 ev1_2 z2 cv2_0 ev2_0 cv2_1 ev2_1 cv2_2 ev2_2 : Int32} {sv1_0 sv1_1 sv1_2 sv2_0 sv2_1 sv2_2 : UInt64} (hd1 : ((i0 &&& (255 : Int32)) % (3 : Int32)) = d1) (hd2 : ((((i0.toUInt32 >>> ((8 : Int32) &&& 31).toUInt32).toInt32) &&& (255 : Int32)) % (3 : Int32)) = d2) (hd3 : ((((i0.toUInt32 >>> ((16 : Int32) &&& 31).toUInt32).toInt32) &&& (255 : Int32)) % (3 : Int32)) = d3) (hsv1_0 : sv1_0 = (if d1 = (0 : Int32) then (FP.dadd (if d1 = (0 : Int32) then (0 : UInt64) else (if d1 = (1 : Int32) then (0 : UInt64) else (0 : UInt64))) (FP.i2d i1)) else (0 : UInt64))) (hsv1_1 : sv1_1 = (if d1 = (1 : Int32) then (FP.dadd (if d1 = (0 : Int32) then (0 : UInt64) else (if d1 = (1 : Int32) then (0 : UInt64) else (0 : UInt64))) (FP.i2d i1)) else (0 : UInt64))) (hsv1_2 : sv1_2 = (if d1 = (2 : Int32) then (FP.dadd (if d1 = (0 : Int32) then (0 : UInt64) else (if d1 = (1 : Int32) then (0 : UInt64) else (0 : UInt64))) (FP.i2d i1)) else (0 : UInt64))) (hcv1_0 : cv1_0 = (if d1 = (0 : Int32) then ((if d1 = (0 : Int32) then (0 : Int32) else (if d1 = (1 : Int32) then (0 : Int32) else (0 : Int32))) + (1 : Int32)) else (0 : Int32))) (hcv1_1 : cv1_1 = (if d1 = (1 : Int32) then ((if d1 = (0 : Int32) then (0 : Int32) else (if d1 = (1 : Int32) then (0 : Int32) else (0 : Int32))) + (1 : Int32)) else (0 : Int32))) (hcv1_2 : cv1_2 = (if d1 = (2 : Int32) then ((if d1 = (0 : Int32) then (0 : Int32) else (if d1 = (1 : Int32) then (0 : Int32) else (0 : Int32))) + (1 : Int32)) else (0 : Int32))) (hev1_0 : ev1_0 = (if (if d1 = (0 : Int32) then (0 : Int32) else (if d1 = (1 : Int32) then (0 : Int32) else (0 : Int32))) = (0 : Int32) then (if (0 : Int32) = (0 : Int32) then d1 else (0 : Int32)) else (0 : Int32))) (hev1_1 : ev1_1 = (if (if d1 = (0 : Int32) then (0 : Int32) else (if d1 = (1 : Int32) then (0 : Int32) else (0 : Int32))) = (0 : Int32) then (if (0 : Int32) = (1 : Int32) then d1 else (0 : Int32)) else (0 : Int32))) (hev1_2 : ev1_2 = (if (if d1 = (0 : Int32) then (0 : Int32) else (if d1 = (1 : Int32) then (0 : Int32) else (0 : Int32))) = (0 : Int32) then (if (0 : Int32) = (2 : Int32) then d1 else (0 : Int32)) else (0 : Int32))) (hz1 : z1 = (if (if d1 = (0 : Int32) then (0 : Int32) else (if d1 = (1 : Int32) then (0 : Int32) else (0 : Int32))) = (0 : Int32) then ((0 : Int32) + (1 : Int32)) else (0 : Int32))) (hsv2_0 : sv2_0 = (if d2 = (0 : Int32) then (FP.dadd (if d2 = (0 : Int32) then sv1_0 else (if d2 = (1 : Int32) then sv1_1 else sv1_2)) (FP.i2d i2)) else sv1_0)) (hsv2_1 : sv2_1 = (if d2 = (1 : Int32) then (FP.dadd (if d2 = (0 : Int32) then sv1_0 else (if d2 = (1 : Int32) then sv1_1 else sv1_2)) (FP.i2d i2)) else sv1_1)) (hsv2_2 : sv2_2 = (if d2 = (2 : Int32) then (FP.dadd (if d2 = (0 : Int32) then sv1_0 else (if d2 = (1 : Int32) then sv1_1 else sv1_2)) (FP.i2d i2)) else sv1_2)) (hcv2_0 : cv2_0 = (if d2 = (0 : Int32) then ((if d2 = (0 : Int32) then cv1_0 else (if d2 = (1 : Int32) then cv1_1 else cv1_2)) + (1 : Int32)) else cv1_0)) (hcv2_1 : cv2_1 = (if d2 = (1 : Int32) then ((if d2 = (0 : Int32) then cv1_0 else (if d2 = (1 : Int32) then cv1_1 else cv1_2)) + (1 : Int32)) else cv1_1)) (hcv2_2 : cv2_2 = (if d2 = (2 : Int32) then ((if d2 = (0 : Int32) then cv1_0 else (if d2 = (1 : Int32) then cv1_1 else cv1_2)) + (1 : Int32)) else cv1_2)) (hev2_0 : ev2_0 = (if (if d2 = (0 : Int32) then cv1_0 else (if d2 = (1 : Int32) then cv1_1 else cv1_2)) = (0 : Int32) then (if z1 = (0 : Int32) then d2 else ev1_0) else ev1_0)) (hev2_1 : ev2_1 = (if (if d2 = (0 : Int32) then cv1_0 else (if d2 = (1 : Int32) then cv1_1 else cv1_2)) = (0 : Int32) then (if z1 = (1 : Int32) then d2 else ev1_1) else ev1_1)) (hev2_2 : ev2_2 = (if (if d2 = (0 : Int32) then cv1_0 else (if d2 = (1 : Int32) then cv1_1 else cv1_2)) = (0 : Int32) then (if z1 = (2 : Int32) then d2 else ev1_2) else ev1_2)) (hz2 : z2 = (if (if d2 = (0 : Int32) then cv1_0 else (if d2 = (1 : Int32) then cv1_1 else cv1_2)) = (0 : Int32) then (z1 + (1 : Int32)) else z1)) : (cmpValue (FP.dcmp (clrD z2 (1 : Int32) ev2_0 ev2_1 ev2_2 sv2_1) (0 : UInt64)) .l) = (0 : Int32) := by
  rw [(own_Z2 (own_three hd1) (own_three hd2) hsv1_0 hsv1_1 hsv1_2 hcv1_0 hcv1_1 hcv1_2 hev1_0 hev1_1 hev1_2 hz1 hsv2_0 hsv2_1 hsv2_2 hcv2_0 hcv2_1 hcv2_2 hev2_0 hev2_1 hev2_2 hz2).2.1]; exact own_q0
theorem own_q2_2 {i0 d1 d2 d3 i1 i2 z1 cv1_0 ev1_0 cv1_1 ev1_1 cv1_2 ev1_2 z2 cv2_0 ev2_0 cv2_1 ev2_1 cv2_2 ev2_2 : Int32} {sv1_0 sv1_1 sv1_2 sv2_0 sv2_1 sv2_2 : UInt64} (hd1 : ((i0 &&& (255 : Int32)) % (3 : Int32)) = d1) (hd2 : ((((i0.toUInt32 >>> ((8 : Int32) &&& 31).toUInt32).toInt32) &&& (255 : Int32)) % (3 : Int32)) = d2) (hd3 : ((((i0.toUInt32 >>> ((16 : Int32) &&& 31).toUInt32).toInt32) &&& (255 : Int32)) % (3 : Int32)) = d3) (hsv1_0 : sv1_0 = (if d1 = (0 : Int32) then (FP.dadd (if d1 = (0 : Int32) then (0 : UInt64) else (if d1 = (1 : Int32) then (0 : UInt64) else (0 : UInt64))) (FP.i2d i1)) else (0 : UInt64))) (hsv1_1 : sv1_1 = (if d1 = (1 : Int32) then (FP.dadd (if d1 = (0 : Int32) then (0 : UInt64) else (if d1 = (1 : Int32) then (0 : UInt64) else (0 : UInt64))) (FP.i2d i1)) else (0 : UInt64))) (hsv1_2 : sv1_2 = (if d1 = (2 : Int32) then (FP.dadd (if d1 = (0 : Int32) then (0 : UInt64) else (if d1 = (1 : Int32) then (0 : UInt64) else (0 : UInt64))) (FP.i2d i1)) else (0 : UInt64))) (hcv1_0 : cv1_0 = (if d1 = (0 : Int32) then ((if d1 = (0 : Int32) then (0 : Int32) else (if d1 = (1 : Int32) then (0 : Int32) else (0 : Int32))) + (1 : Int32)) else (0 : Int32))) (hcv1_1 : cv1_1 = (if d1 = (1 : Int32) then ((if d1 = (0 : Int32) then (0 : Int32) else (if d1 = (1 : Int32) then (0 : Int32) else (0 : Int32))) + (1 : Int32)) else (0 : Int32))) (hcv1_2 : cv1_2 = (if d1 = (2 : Int32) then ((if d1 = (0 : Int32) then (0 : Int32) else (if d1 = (1 : Int32) then (0 : Int32) else (0 : Int32))) + (1 : Int32)) else (0 : Int32))) (hev1_0 : ev1_0 = (if (if d1 = (0 : Int32) then (0 : Int32) else (if d1 = (1 : Int32) then (0 : Int32) else (0 : Int32))) = (0 : Int32) then (if (0 : Int32) = (0 : Int32) then d1 else (0 : Int32)) else (0 : Int32))) (hev1_1 : ev1_1 = (if (if d1 = (0 : Int32) then (0 : Int32) else (if d1 = (1 : Int32) then (0 : Int32) else (0 : Int32))) = (0 : Int32) then (if (0 : Int32) = (1 : Int32) then d1 else (0 : Int32)) else (0 : Int32))) (hev1_2 : ev1_2 = (if (if d1 = (0 : Int32) then (0 : Int32) else (if d1 = (1 : Int32) then (0 : Int32) else (0 : Int32))) = (0 : Int32) then (if (0 : Int32) = (2 : Int32) then d1 else (0 : Int32)) else (0 : Int32))) (hz1 : z1 = (if (if d1 = (0 : Int32) then (0 : Int32) else (if d1 = (1 : Int32) then (0 : Int32) else (0 : Int32))) = (0 : Int32) then ((0 : Int32) + (1 : Int32)) else (0 : Int32))) (hsv2_0 : sv2_0 = (if d2 = (0 : Int32) then (FP.dadd (if d2 = (0 : Int32) then sv1_0 else (if d2 = (1 : Int32) then sv1_1 else sv1_2)) (FP.i2d i2)) else sv1_0)) (hsv2_1 : sv2_1 = (if d2 = (1 : Int32) then (FP.dadd (if d2 = (0 : Int32) then sv1_0 else (if d2 = (1 : Int32) then sv1_1 else sv1_2)) (FP.i2d i2)) else sv1_1)) (hsv2_2 : sv2_2 = (if d2 = (2 : Int32) then (FP.dadd (if d2 = (0 : Int32) then sv1_0 else (if d2 = (1 : Int32) then sv1_1 else sv1_2)) (FP.i2d i2)) else sv1_2)) (hcv2_0 : cv2_0 = (if d2 = (0 : Int32) then ((if d2 = (0 : Int32) then cv1_0 else (if d2 = (1 : Int32) then cv1_1 else cv1_2)) + (1 : Int32)) else cv1_0)) (hcv2_1 : cv2_1 = (if d2 = (1 : Int32) then ((if d2 = (0 : Int32) then cv1_0 else (if d2 = (1 : Int32) then cv1_1 else cv1_2)) + (1 : Int32)) else cv1_1)) (hcv2_2 : cv2_2 = (if d2 = (2 : Int32) then ((if d2 = (0 : Int32) then cv1_0 else (if d2 = (1 : Int32) then cv1_1 else cv1_2)) + (1 : Int32)) else cv1_2)) (hev2_0 : ev2_0 = (if (if d2 = (0 : Int32) then cv1_0 else (if d2 = (1 : Int32) then cv1_1 else cv1_2)) = (0 : Int32) then (if z1 = (0 : Int32) then d2 else ev1_0) else ev1_0)) (hev2_1 : ev2_1 = (if (if d2 = (0 : Int32) then cv1_0 else (if d2 = (1 : Int32) then cv1_1 else cv1_2)) = (0 : Int32) then (if z1 = (1 : Int32) then d2 else ev1_1) else ev1_1)) (hev2_2 : ev2_2 = (if (if d2 = (0 : Int32) then cv1_0 else (if d2 = (1 : Int32) then cv1_1 else cv1_2)) = (0 : Int32) then (if z1 = (2 : Int32) then d2 else ev1_2) else ev1_2)) (hz2 : z2 = (if (if d2 = (0 : Int32) then cv1_0 else (if d2 = (1 : Int32) then cv1_1 else cv1_2)) = (0 : Int32) then (z1 + (1 : Int32)) else z1)) : (cmpValue (FP.dcmp (clrD z2 (2 : Int32) ev2_0 ev2_1 ev2_2 sv2_2) (0 : UInt64)) .l) = (0 : Int32) := by
  rw [(own_Z2 (own_three hd1) (own_three hd2) hsv1_0 hsv1_1 hsv1_2 hcv1_0 hcv1_1 hcv1_2 hev1_0 hev1_1 hev1_2 hz1 hsv2_0 hsv2_1 hsv2_2 hcv2_0 hcv2_1 hcv2_2 hev2_0 hev2_1 hev2_2 hz2).2.2]; exact own_q0
set_option maxHeartbeats 4000000 in
theorem own_E3 {d1 d2 d3 z1 cv1_0 ev1_0 cv1_1 ev1_1 cv1_2 ev1_2 z2 cv2_0 ev2_0 cv2_1 ev2_1 cv2_2 ev2_2 z3 cv3_0 ev3_0 cv3_1 ev3_1 cv3_2 ev3_2 : Int32} (t1 : Three d1) (t2 : Three d2) (t3 : Three d3) (hcv1_0 : cv1_0 = (if d1 = (0 : Int32) then ((if d1 = (0 : Int32) then (0 : Int32) else (if d1 = (1 : Int32) then (0 : Int32) else (0 : Int32))) + (1 : Int32)) else (0 : Int32))) (hcv1_1 : cv1_1 = (if d1 = (1 : Int32) then ((if d1 = (0 : Int32) then (0 : Int32) else (if d1 = (1 : Int32) then (0 : Int32) else (0 : Int32))) + (1 : Int32)) else (0 : Int32))) (hcv1_2 : cv1_2 = (if d1 = (2 : Int32) then ((if d1 = (0 : Int32) then (0 : Int32) else (if d1 = (1 : Int32) then (0 : Int32) else (0 : Int32))) + (1 : Int32)) else (0 : Int32))) (hev1_0 : ev1_0 = (if (if d1 = (0 : Int32) then (0 : Int32) else (if d1 = (1 : Int32) then (0 : Int32) else (0 : Int32))) = (0 : Int32) then (if (0 : Int32) = (0 : Int32) then d1 else (0 : Int32)) else (0 : Int32))) (hev1_1 : ev1_1 = (if (if d1 = (0 : Int32) then (0 : Int32) else (if d1 = (1 : Int32) then (0 : Int32) else (0 : Int32))) = (0 : Int32) then (if (0 : Int32) = (1 : Int32) then d1 else (0 : Int32)) else (0 : Int32))) (hev1_2 : ev1_2 = (if (if d1 = (0 : Int32) then (0 : Int32) else (if d1 = (1 : Int32) then (0 : Int32) else (0 : Int32))) = (0 : Int32) then (if (0 : Int32) = (2 : Int32) then d1 else (0 : Int32)) else (0 : Int32))) (hz1 : z1 = (if (if d1 = (0 : Int32) then (0 : Int32) else (if d1 = (1 : Int32) then (0 : Int32) else (0 : Int32))) = (0 : Int32) then ((0 : Int32) + (1 : Int32)) else (0 : Int32))) (hcv2_0 : cv2_0 = (if d2 = (0 : Int32) then ((if d2 = (0 : Int32) then cv1_0 else (if d2 = (1 : Int32) then cv1_1 else cv1_2)) + (1 : Int32)) else cv1_0)) (hcv2_1 : cv2_1 = (if d2 = (1 : Int32) then ((if d2 = (0 : Int32) then cv1_0 else (if d2 = (1 : Int32) then cv1_1 else cv1_2)) + (1 : Int32)) else cv1_1)) (hcv2_2 : cv2_2 = (if d2 = (2 : Int32) then ((if d2 = (0 : Int32) then cv1_0 else (if d2 = (1 : Int32) then cv1_1 else cv1_2)) + (1 : Int32)) else cv1_2)) (hev2_0 : ev2_0 = (if (if d2 = (0 : Int32) then cv1_0 else (if d2 = (1 : Int32) then cv1_1 else cv1_2)) = (0 : Int32) then (if z1 = (0 : Int32) then d2 else ev1_0) else ev1_0)) (hev2_1 : ev2_1 = (if (if d2 = (0 : Int32) then cv1_0 else (if d2 = (1 : Int32) then cv1_1 else cv1_2)) = (0 : Int32) then (if z1 = (1 : Int32) then d2 else ev1_1) else ev1_1)) (hev2_2 : ev2_2 = (if (if d2 = (0 : Int32) then cv1_0 else (if d2 = (1 : Int32) then cv1_1 else cv1_2)) = (0 : Int32) then (if z1 = (2 : Int32) then d2 else ev1_2) else ev1_2)) (hz2 : z2 = (if (if d2 = (0 : Int32) then cv1_0 else (if d2 = (1 : Int32) then cv1_1 else cv1_2)) = (0 : Int32) then (z1 + (1 : Int32)) else z1)) (hcv3_0 : cv3_0 = (if d3 = (0 : Int32) then ((if d3 = (0 : Int32) then cv2_0 else (if d3 = (1 : Int32) then cv2_1 else cv2_2)) + (1 : Int32)) else cv2_0)) (hcv3_1 : cv3_1 = (if d3 = (1 : Int32) then ((if d3 = (0 : Int32) then cv2_0 else (if d3 = (1 : Int32) then cv2_1 else cv2_2)) + (1 : Int32)) else cv2_1)) (hcv3_2 : cv3_2 = (if d3 = (2 : Int32) then ((if d3 = (0 : Int32) then cv2_0 else (if d3 = (1 : Int32) then cv2_1 else cv2_2)) + (1 : Int32)) else cv2_2)) (hev3_0 : ev3_0 = (if (if d3 = (0 : Int32) then cv2_0 else (if d3 = (1 : Int32) then cv2_1 else cv2_2)) = (0 : Int32) then (if z2 = (0 : Int32) then d3 else ev2_0) else ev2_0)) (hev3_1 : ev3_1 = (if (if d3 = (0 : Int32) then cv2_0 else (if d3 = (1 : Int32) then cv2_1 else cv2_2)) = (0 : Int32) then (if z2 = (1 : Int32) then d3 else ev2_1) else ev2_1)) (hev3_2 : ev3_2 = (if (if d3 = (0 : Int32) then cv2_0 else (if d3 = (1 : Int32) then cv2_1 else cv2_2)) = (0 : Int32) then (if z2 = (2 : Int32) then d3 else ev2_2) else ev2_2)) (hz3 : z3 = (if (if d3 = (0 : Int32) then cv2_0 else (if d3 = (1 : Int32) then cv2_1 else cv2_2)) = (0 : Int32) then (z2 + (1 : Int32)) else z2)) : (z3 = (0 : Int32) ∨ z3 = (1 : Int32) ∨ z3 = (2 : Int32) ∨ z3 = (3 : Int32)) ∧ ((0 : Int32) < z3 → (ev3_0 = 0 ∨ ev3_0 = 1 ∨ ev3_0 = 2)) ∧ ((1 : Int32) < z3 → (ev3_1 = 0 ∨ ev3_1 = 1 ∨ ev3_1 = 2)) ∧ ((2 : Int32) < z3 → (ev3_2 = 0 ∨ ev3_2 = 1 ∨ ev3_2 = 2)) ∧ clrI z3 (0 : Int32) ev3_0 ev3_1 ev3_2 cv3_0 = 0 ∧ clrI z3 (1 : Int32) ev3_0 ev3_1 ev3_2 cv3_1 = 0 ∧ clrI z3 (2 : Int32) ev3_0 ev3_1 ev3_2 cv3_2 = 0 := by
  rcases t1 with rfl | rfl | rfl <;> rcases t2 with rfl | rfl | rfl <;> rcases t3 with rfl | rfl | rfl <;> subst hz3 hev3_2 hev3_1 hev3_0 hcv3_2 hcv3_1 hcv3_0 hz2 hev2_2 hev2_1 hev2_0 hcv2_2 hcv2_1 hcv2_0 hz1 hev1_2 hev1_1 hev1_0 hcv1_2 hcv1_1 hcv1_0 <;> decide
theorem own_e3_s {i0 d1 d2 d3 i1 i2 i3 z1 cv1_0 ev1_0 cv1_1 ev1_1 cv1_2 ev1_2 z2 cv2_0 ev2_0 cv2_1 ev2_1 cv2_2 ev2_2 z3 cv3_0 ev3_0 cv3_1 ev3_1 cv3_2 ev3_2 : Int32} {sv1_0 sv1_1 sv1_2 sv2_0 sv2_1 sv2_2 sv3_0 sv3_1 sv3_2 : UInt64} (hd1 : ((i0 &&& (255 : Int32)) % (3 : Int32)) = d1) (hd2 : ((((i0.toUInt32 >>> ((8 : Int32) &&& 31).toUInt32).toInt32) &&& (255 : Int32)) % (3 : Int32)) = d2) (hd3 : ((((i0.toUInt32 >>> ((16 : Int32) &&& 31).toUInt32).toInt32) &&& (255 : Int32)) % (3 : Int32)) = d3) (hsv1_0 : sv1_0 = (if d1 = (0 : Int32) then (FP.dadd (if d1 = (0 : Int32) then (0 : UInt64) else (if d1 = (1 : Int32) then (0 : UInt64) else (0 : UInt64))) (FP.i2d i1)) else (0 : UInt64))) (hsv1_1 : sv1_1 = (if d1 = (1 : Int32) then (FP.dadd (if d1 = (0 : Int32) then (0 : UInt64) else (if d1 = (1 : Int32) then (0 : UInt64) else (0 : UInt64))) (FP.i2d i1)) else (0 : UInt64))) (hsv1_2 : sv1_2 = (if d1 = (2 : Int32) then (FP.dadd (if d1 = (0 : Int32) then (0 : UInt64) else (if d1 = (1 : Int32) then (0 : UInt64) else (0 : UInt64))) (FP.i2d i1)) else (0 : UInt64))) (hcv1_0 : cv1_0 = (if d1 = (0 : Int32) then ((if d1 = (0 : Int32) then (0 : Int32) else (if d1 = (1 : Int32) then (0 : Int32) else (0 : Int32))) + (1 : Int32)) else (0 : Int32))) (hcv1_1 : cv1_1 = (if d1 = (1 : Int32) then ((if d1 = (0 : Int32) then (0 : Int32) else (if d1 = (1 : Int32) then (0 : Int32) else (0 : Int32))) + (1 : Int32)) else (0 : Int32))) (hcv1_2 : cv1_2 = (if d1 = (2 : Int32) then ((if d1 = (0 : Int32) then (0 : Int32) else (if d1 = (1 : Int32) then (0 : Int32) else (0 : Int32))) + (1 : Int32)) else (0 : Int32))) (hev1_0 : ev1_0 = (if (if d1 = (0 : Int32) then (0 : Int32) else (if d1 = (1 : Int32) then (0 : Int32) else (0 : Int32))) = (0 : Int32) then (if (0 : Int32) = (0 : Int32) then d1 else (0 : Int32)) else (0 : Int32))) (hev1_1 : ev1_1 = (if (if d1 = (0 : Int32) then (0 : Int32) else (if d1 = (1 : Int32) then (0 : Int32) else (0 : Int32))) = (0 : Int32) then (if (0 : Int32) = (1 : Int32) then d1 else (0 : Int32)) else (0 : Int32))) (hev1_2 : ev1_2 = (if (if d1 = (0 : Int32) then (0 : Int32) else (if d1 = (1 : Int32) then (0 : Int32) else (0 : Int32))) = (0 : Int32) then (if (0 : Int32) = (2 : Int32) then d1 else (0 : Int32)) else (0 : Int32))) (hz1 : z1 = (if (if d1 = (0 : Int32) then (0 : Int32) else (if d1 = (1 : Int32) then (0 : Int32) else (0 : Int32))) = (0 : Int32) then ((0 : Int32) + (1 : Int32)) else (0 : Int32))) (hsv2_0 : sv2_0 = (if d2 = (0 : Int32) then (FP.dadd (if d2 = (0 : Int32) then sv1_0 else (if d2 = (1 : Int32) then sv1_1 else sv1_2)) (FP.i2d i2)) else sv1_0)) (hsv2_1 : sv2_1 = (if d2 = (1 : Int32) then (FP.dadd (if d2 = (0 : Int32) then sv1_0 else (if d2 = (1 : Int32) then sv1_1 else sv1_2)) (FP.i2d i2)) else sv1_1)) (hsv2_2 : sv2_2 = (if d2 = (2 : Int32) then (FP.dadd (if d2 = (0 : Int32) then sv1_0 else (if d2 = (1 : Int32) then sv1_1 else sv1_2)) (FP.i2d i2)) else sv1_2)) (hcv2_0 : cv2_0 = (if d2 = (0 : Int32) then ((if d2 = (0 : Int32) then cv1_0 else (if d2 = (1 : Int32) then cv1_1 else cv1_2)) + (1 : Int32)) else cv1_0)) (hcv2_1 : cv2_1 = (if d2 = (1 : Int32) then ((if d2 = (0 : Int32) then cv1_0 else (if d2 = (1 : Int32) then cv1_1 else cv1_2)) + (1 : Int32)) else cv1_1)) (hcv2_2 : cv2_2 = (if d2 = (2 : Int32) then ((if d2 = (0 : Int32) then cv1_0 else (if d2 = (1 : Int32) then cv1_1 else cv1_2)) + (1 : Int32)) else cv1_2)) (hev2_0 : ev2_0 = (if (if d2 = (0 : Int32) then cv1_0 else (if d2 = (1 : Int32) then cv1_1 else cv1_2)) = (0 : Int32) then (if z1 = (0 : Int32) then d2 else ev1_0) else ev1_0)) (hev2_1 : ev2_1 = (if (if d2 = (0 : Int32) then cv1_0 else (if d2 = (1 : Int32) then cv1_1 else cv1_2)) = (0 : Int32) then (if z1 = (1 : Int32) then d2 else ev1_1) else ev1_1)) (hev2_2 : ev2_2 = (if (if d2 = (0 : Int32) then cv1_0 else (if d2 = (1 : Int32) then cv1_1 else cv1_2)) = (0 : Int32) then (if z1 = (2 : Int32) then d2 else ev1_2) else ev1_2)) (hz2 : z2 = (if (if d2 = (0 : Int32) then cv1_0 else (if d2 = (1 : Int32) then cv1_1 else cv1_2)) = (0 : Int32) then (z1 + (1 : Int32)) else z1)) (hsv3_0 : sv3_0 = (if d3 = (0 : Int32) then (FP.dadd (if d3 = (0 : Int32) then sv2_0 else (if d3 = (1 : Int32) then sv2_1 else sv2_2)) (FP.i2d i3)) else sv2_0)) (hsv3_1 : sv3_1 = (if d3 = (1 : Int32) then (FP.dadd (if d3 = (0 : Int32) then sv2_0 else (if d3 = (1 : Int32) then sv2_1 else sv2_2)) (FP.i2d i3)) else sv2_1)) (hsv3_2 : sv3_2 = (if d3 = (2 : Int32) then (FP.dadd (if d3 = (0 : Int32) then sv2_0 else (if d3 = (1 : Int32) then sv2_1 else sv2_2)) (FP.i2d i3)) else sv2_2)) (hcv3_0 : cv3_0 = (if d3 = (0 : Int32) then ((if d3 = (0 : Int32) then cv2_0 else (if d3 = (1 : Int32) then cv2_1 else cv2_2)) + (1 : Int32)) else cv2_0)) (hcv3_1 : cv3_1 = (if d3 = (1 : Int32) then ((if d3 = (0 : Int32) then cv2_0 else (if d3 = (1 : Int32) then cv2_1 else cv2_2)) + (1 : Int32)) else cv2_1)) (hcv3_2 : cv3_2 = (if d3 = (2 : Int32) then ((if d3 = (0 : Int32) then cv2_0 else (if d3 = (1 : Int32) then cv2_1 else cv2_2)) + (1 : Int32)) else cv2_2)) (hev3_0 : ev3_0 = (if (if d3 = (0 : Int32) then cv2_0 else (if d3 = (1 : Int32) then cv2_1 else cv2_2)) = (0 : Int32) then (if z2 = (0 : Int32) then d3 else ev2_0) else ev2_0)) (hev3_1 : ev3_1 = (if (if d3 = (0 : Int32) then cv2_0 else (if d3 = (1 : Int32) then cv2_1 else cv2_2)) = (0 : Int32) then (if z2 = (1 : Int32) then d3 else ev2_1) else ev2_1)) (hev3_2 : ev3_2 = (if (if d3 = (0 : Int32) then cv2_0 else (if d3 = (1 : Int32) then cv2_1 else cv2_2)) = (0 : Int32) then (if z2 = (2 : Int32) then d3 else ev2_2) else ev2_2)) (hz3 : z3 = (if (if d3 = (0 : Int32) then cv2_0 else (if d3 = (1 : Int32) then cv2_1 else cv2_2)) = (0 : Int32) then (z2 + (1 : Int32)) else z2)) : (z3 = (0 : Int32) ∨ z3 = (1 : Int32) ∨ z3 = (2 : Int32) ∨ z3 = (3 : Int32)) := (own_E3 (own_three hd1) (own_three hd2) (own_three hd3) hcv1_0 hcv1_1 hcv1_2 hev1_0 hev1_1 hev1_2 hz1 hcv2_0 hcv2_1 hcv2_2 hev2_0 hev2_1 hev2_2 hz2 hcv3_0 hcv3_1 hcv3_2 hev3_0 hev3_1 hev3_2 hz3).1
theorem own_e3_0 {i0 d1 d2 d3 i1 i2 i3 z1 cv1_0 ev1_0 cv1_1 ev1_1 cv1_2 ev1_2 z2 cv2_0 ev2_0 cv2_1 ev2_1 cv2_2 ev2_2 z3 cv3_0 ev3_0 cv3_1 ev3_1 cv3_2 ev3_2 : Int32} {sv1_0 sv1_1 sv1_2 sv2_0 sv2_1 sv2_2 sv3_0 sv3_1 sv3_2 : UInt64} (hd1 : ((i0 &&& (255 : Int32)) % (3 : Int32)) = d1) (hd2 : ((((i0.toUInt32 >>> ((8 : Int32) &&& 31).toUInt32).toInt32) &&& (255 : Int32)) % (3 : Int32)) = d2) (hd3 : ((((i0.toUInt32 >>> ((16 : Int32) &&& 31).toUInt32).toInt32) &&& (255 : Int32)) % (3 : Int32)) = d3) (hsv1_0 : sv1_0 = (if d1 = (0 : Int32) then (FP.dadd (if d1 = (0 : Int32) then (0 : UInt64) else (if d1 = (1 : Int32) then (0 : UInt64) else (0 : UInt64))) (FP.i2d i1)) else (0 : UInt64))) (hsv1_1 : sv1_1 = (if d1 = (1 : Int32) then (FP.dadd (if d1 = (0 : Int32) then (0 : UInt64) else (if d1 = (1 : Int32) then (0 : UInt64) else (0 : UInt64))) (FP.i2d i1)) else (0 : UInt64))) (hsv1_2 : sv1_2 = (if d1 = (2 : Int32) then (FP.dadd (if d1 = (0 : Int32) then (0 : UInt64) else (if d1 = (1 : Int32) then (0 : UInt64) else (0 : UInt64))) (FP.i2d i1)) else (0 : UInt64))) (hcv1_0 : cv1_0 = (if d1 = (0 : Int32) then ((if d1 = (0 : Int32) then (0 : Int32) else (if d1 = (1 : Int32) then (0 : Int32) else (0 : Int32))) + (1 : Int32)) else (0 : Int32))) (hcv1_1 : cv1_1 = (if d1 = (1 : Int32) then ((if d1 = (0 : Int32) then (0 : Int32) else (if d1 = (1 : Int32) then (0 : Int32) else (0 : Int32))) + (1 : Int32)) else (0 : Int32))) (hcv1_2 : cv1_2 = (if d1 = (2 : Int32) then ((if d1 = (0 : Int32) then (0 : Int32) else (if d1 = (1 : Int32) then (0 : Int32) else (0 : Int32))) + (1 : Int32)) else (0 : Int32))) (hev1_0 : ev1_0 = (if (if d1 = (0 : Int32) then (0 : Int32) else (if d1 = (1 : Int32) then (0 : Int32) else (0 : Int32))) = (0 : Int32) then (if (0 : Int32) = (0 : Int32) then d1 else (0 : Int32)) else (0 : Int32))) (hev1_1 : ev1_1 = (if (if d1 = (0 : Int32) then (0 : Int32) else (if d1 = (1 : Int32) then (0 : Int32) else (0 : Int32))) = (0 : Int32) then (if (0 : Int32) = (1 : Int32) then d1 else (0 : Int32)) else (0 : Int32))) (hev1_2 : ev1_2 = (if (if d1 = (0 : Int32) then (0 : Int32) else (if d1 = (1 : Int32) then (0 : Int32) else (0 : Int32))) = (0 : Int32) then (if (0 : Int32) = (2 : Int32) then d1 else (0 : Int32)) else (0 : Int32))) (hz1 : z1 = (if (if d1 = (0 : Int32) then (0 : Int32) else (if d1 = (1 : Int32) then (0 : Int32) else (0 : Int32))) = (0 : Int32) then ((0 : Int32) + (1 : Int32)) else (0 : Int32))) (hsv2_0 : sv2_0 = (if d2 = (0 : Int32) then (FP.dadd (if d2 = (0 : Int32) then sv1_0 else (if d2 = (1 : Int32) then sv1_1 else sv1_2)) (FP.i2d i2)) else sv1_0)) (hsv2_1 : sv2_1 = (if d2 = (1 : Int32) then (FP.dadd (if d2 = (0 : Int32) then sv1_0 else (if d2 = (1 : Int32) then sv1_1 else sv1_2)) (FP.i2d i2)) else sv1_1)) (hsv2_2 : sv2_2 = (if d2 = (2 : Int32) then (FP.dadd (if d2 = (0 : Int32) then sv1_0 else (if d2 = (1 : Int32) then sv1_1 else sv1_2)) (FP.i2d i2)) else sv1_2)) (hcv2_0 : cv2_0 = (if d2 = (0 : Int32) then ((if d2 = (0 : Int32) then cv1_0 else (if d2 = (1 : Int32) then cv1_1 else cv1_2)) + (1 : Int32)) else cv1_0)) (hcv2_1 : cv2_1 = (if d2 = (1 : Int32) then ((if d2 = (0 : Int32) then cv1_0 else (if d2 = (1 : Int32) then cv1_1 else cv1_2)) + (1 : Int32)) else cv1_1)) (hcv2_2 : cv2_2 = (if d2 = (2 : Int32) then ((if d2 = (0 : Int32) then cv1_0 else (if d2 = (1 : Int32) then cv1_1 else cv1_2)) + (1 : Int32)) else cv1_2)) (hev2_0 : ev2_0 = (if (if d2 = (0 : Int32) then cv1_0 else (if d2 = (1 : Int32) then cv1_1 else cv1_2)) = (0 : Int32) then (if z1 = (0 : Int32) then d2 else ev1_0) else ev1_0)) (hev2_1 : ev2_1 = (if (if d2 = (0 : Int32) then cv1_0 else (if d2 = (1 : Int32) then cv1_1 else cv1_2)) = (0 : Int32) then (if z1 = (1 : Int32) then d2 else ev1_1) else ev1_1)) (hev2_2 : ev2_2 = (if (if d2 = (0 : Int32) then cv1_0 else (if d2 = (1 : Int32) then cv1_1 else cv1_2)) = (0 : Int32) then (if z1 = (2 : Int32) then d2 else ev1_2) else ev1_2)) (hz2 : z2 = (if (if d2 = (0 : Int32) then cv1_0 else (if d2 = (1 : Int32) then cv1_1 else cv1_2)) = (0 : Int32) then (z1 + (1 : Int32)) else z1)) (hsv3_0 : sv3_0 = (if d3 = (0 : Int32) then (FP.dadd (if d3 = (0 : Int32) then sv2_0 else (if d3 = (1 : Int32) then sv2_1 else sv2_2)) (FP.i2d i3)) else sv2_0)) (hsv3_1 : sv3_1 = (if d3 = (1 : Int32) then (FP.dadd (if d3 = (0 : Int32) then sv2_0 else (if d3 = (1 : Int32) then sv2_1 else sv2_2)) (FP.i2d i3)) else sv2_1)) (hsv3_2 : sv3_2 = (if d3 = (2 : Int32) then (FP.dadd (if d3 = (0 : Int32) then sv2_0 else (if d3 = (1 : Int32) then sv2_1 else sv2_2)) (FP.i2d i3)) else sv2_2)) (hcv3_0 : cv3_0 = (if d3 = (0 : Int32) then ((if d3 = (0 : Int32) then cv2_0 else (if d3 = (1 : Int32) then cv2_1 else cv2_2)) + (1 : Int32)) else cv2_0)) (hcv3_1 : cv3_1 = (if d3 = (1 : Int32) then ((if d3 = (0 : Int32) then cv2_0 else (if d3 = (1 : Int32) then cv2_1 else cv2_2)) + (1 : Int32)) else cv2_1)) (hcv3_2 : cv3_2 = (if d3 = (2 : Int32) then ((if d3 = (0 : Int32) then cv2_0 else (if d3 = (1 : Int32) then cv2_1 else cv2_2)) + (1 : Int32)) else cv2_2)) (hev3_0 : ev3_0 = (if (if d3 = (0 : Int32) then cv2_0 else (if d3 = (1 : Int32) then cv2_1 else cv2_2)) = (0 : Int32) then (if z2 = (0 : Int32) then d3 else ev2_0) else ev2_0)) (hev3_1 : ev3_1 = (if (if d3 = (0 : Int32) then cv2_0 else (if d3 = (1 : Int32) then cv2_1 else cv2_2)) = (0 : Int32) then (if z2 = (1 : Int32) then d3 else ev2_1) else ev2_1)) (hev3_2 : ev3_2 = (if (if d3 = (0 : Int32) then cv2_0 else (if d3 = (1 : Int32) then cv2_1 else cv2_2)) = (0 : Int32) then (if z2 = (2 : Int32) then d3 else ev2_2) else ev2_2)) (hz3 : z3 = (if (if d3 = (0 : Int32) then cv2_0 else (if d3 = (1 : Int32) then cv2_1 else cv2_2)) = (0 : Int32) then (z2 + (1 : Int32)) else z2)) : (0 : Int32) < z3 → Three ev3_0 := (own_E3 (own_three hd1) (own_three hd2) (own_three hd3) hcv1_0 hcv1_1 hcv1_2 hev1_0 hev1_1 hev1_2 hz1 hcv2_0 hcv2_1 hcv2_2 hev2_0 hev2_1 hev2_2 hz2 hcv3_0 hcv3_1 hcv3_2 hev3_0 hev3_1 hev3_2 hz3).2.1
theorem own_e3_1 {i0 d1 d2 d3 i1 i2 i3 z1 cv1_0 ev1_0 cv1_1 ev1_1 cv1_2 ev1_2 z2 cv2_0 ev2_0 cv2_1 ev2_1 cv2_2 ev2_2 z3 cv3_0 ev3_0 cv3_1 ev3_1 cv3_2 ev3_2 : Int32} {sv1_0 sv1_1 sv1_2 sv2_0 sv2_1 sv2_2 sv3_0 sv3_1 sv3_2 : UInt64} (hd1 : ((i0 &&& (255 : Int32)) % (3 : Int32)) = d1) (hd2 : ((((i0.toUInt32 >>> ((8 : Int32) &&& 31).toUInt32).toInt32) &&& (255 : Int32)) % (3 : Int32)) = d2) (hd3 : ((((i0.toUInt32 >>> ((16 : Int32) &&& 31).toUInt32).toInt32) &&& (255 : Int32)) % (3 : Int32)) = d3) (hsv1_0 : sv1_0 = (if d1 = (0 : Int32) then (FP.dadd (if d1 = (0 : Int32) then (0 : UInt64) else (if d1 = (1 : Int32) then (0 : UInt64) else (0 : UInt64))) (FP.i2d i1)) else (0 : UInt64))) (hsv1_1 : sv1_1 = (if d1 = (1 : Int32) then (FP.dadd (if d1 = (0 : Int32) then (0 : UInt64) else (if d1 = (1 : Int32) then (0 : UInt64) else (0 : UInt64))) (FP.i2d i1)) else (0 : UInt64))) (hsv1_2 : sv1_2 = (if d1 = (2 : Int32) then (FP.dadd (if d1 = (0 : Int32) then (0 : UInt64) else (if d1 = (1 : Int32) then (0 : UInt64) else (0 : UInt64))) (FP.i2d i1)) else (0 : UInt64))) (hcv1_0 : cv1_0 = (if d1 = (0 : Int32) then ((if d1 = (0 : Int32) then (0 : Int32) else (if d1 = (1 : Int32) then (0 : Int32) else (0 : Int32))) + (1 : Int32)) else (0 : Int32))) (hcv1_1 : cv1_1 = (if d1 = (1 : Int32) then ((if d1 = (0 : Int32) then (0 : Int32) else (if d1 = (1 : Int32) then (0 : Int32) else (0 : Int32))) + (1 : Int32)) else (0 : Int32))) (hcv1_2 : cv1_2 = (if d1 = (2 : Int32) then ((if d1 = (0 : Int32) then (0 : Int32) else (if d1 = (1 : Int32) then (0 : Int32) else (0 : Int32))) + (1 : Int32)) else (0 : Int32))) (hev1_0 : ev1_0 = (if (if d1 = (0 : Int32) then (0 : Int32) else (if d1 = (1 : Int32) then (0 : Int32) else (0 : Int32))) = (0 : Int32) then (if (0 : Int32) = (0 : Int32) then d1 else (0 : Int32)) else (0 : Int32))) (hev1_1 : ev1_1 = (if (if d1 = (0 : Int32) then (0 : Int32) else (if d1 = (1 : Int32) then (0 : Int32) else (0 : Int32))) = (0 : Int32) then (if (0 : Int32) = (1 : Int32) then d1 else (0 : Int32)) else (0 : Int32))) (hev1_2 : ev1_2 = (if (if d1 = (0 : Int32) then (0 : Int32) else (if d1 = (1 : Int32) then (0 : Int32) else (0 : Int32))) = (0 : Int32) then (if (0 : Int32) = (2 : Int32) then d1 else (0 : Int32)) else (0 : Int32))) (hz1 : z1 = (if (if d1 = (0 : Int32) then (0 : Int32) else (if d1 = (1 : Int32) then (0 : Int32) else (0 : Int32))) = (0 : Int32) then ((0 : Int32) + (1 : Int32)) else (0 : Int32))) (hsv2_0 : sv2_0 = (if d2 = (0 : Int32) then (FP.dadd (if d2 = (0 : Int32) then sv1_0 else (if d2 = (1 : Int32) then sv1_1 else sv1_2)) (FP.i2d i2)) else sv1_0)) (hsv2_1 : sv2_1 = (if d2 = (1 : Int32) then (FP.dadd (if d2 = (0 : Int32) then sv1_0 else (if d2 = (1 : Int32) then sv1_1 else sv1_2)) (FP.i2d i2)) else sv1_1)) (hsv2_2 : sv2_2 = (if d2 = (2 : Int32) then (FP.dadd (if d2 = (0 : Int32) then sv1_0 else (if d2 = (1 : Int32) then sv1_1 else sv1_2)) (FP.i2d i2)) else sv1_2)) (hcv2_0 : cv2_0 = (if d2 = (0 : Int32) then ((if d2 = (0 : Int32) then cv1_0 else (if d2 = (1 : Int32) then cv1_1 else cv1_2)) + (1 : Int32)) else cv1_0)) (hcv2_1 : cv2_1 = (if d2 = (1 : Int32) then ((if d2 = (0 : Int32) then cv1_0 else (if d2 = (1 : Int32) then cv1_1 else cv1_2)) + (1 : Int32)) else cv1_1)) (hcv2_2 : cv2_2 = (if d2 = (2 : Int32) then ((if d2 = (0 : Int32) then cv1_0 else (if d2 = (1 : Int32) then cv1_1 else cv1_2)) + (1 : Int32)) else cv1_2)) (hev2_0 : ev2_0 = (if (if d2 = (0 : Int32) then cv1_0 else (if d2 = (1 : Int32) then cv1_1 else cv1_2)) = (0 : Int32) then (if z1 = (0 : Int32) then d2 else ev1_0) else ev1_0)) (hev2_1 : ev2_1 = (if (if d2 = (0 : Int32) then cv1_0 else (if d2 = (1 : Int32) then cv1_1 else cv1_2)) = (0 : Int32) then (if z1 = (1 : Int32) then d2 else ev1_1) else ev1_1)) (hev2_2 : ev2_2 = (if (if d2 = (0 : Int32) then cv1_0 else (if d2 = (1 : Int32) then cv1_1 else cv1_2)) = (0 : Int32) then (if z1 = (2 : Int32) then d2 else ev1_2) else ev1_2)) (hz2 : z2 = (if (if d2 = (0 : Int32) then cv1_0 else (if d2 = (1 : Int32) then cv1_1 else cv1_2)) = (0 : Int32) then (z1 + (1 : Int32)) else z1)) (hsv3_0 : sv3_0 = (if d3 = (0 : Int32) then (FP.dadd (if d3 = (0 : Int32) then sv2_0 else (if d3 = (1 : Int32) then sv2_1 else sv2_2)) (FP.i2d i3)) else sv2_0)) (hsv3_1 : sv3_1 = (if d3 = (1 : Int32) then (FP.dadd (if d3 = (0 : Int32) then sv2_0 else (if d3 = (1 : Int32) then sv2_1 else sv2_2)) (FP.i2d i3)) else sv2_1)) (hsv3_2 : sv3_2 = (if d3 = (2 : Int32) then (FP.dadd (if d3 = (0 : Int32) then sv2_0 else (if d3 = (1 : Int32) then sv2_1 else sv2_2)) (FP.i2d i3)) else sv2_2)) (hcv3_0 : cv3_0 = (if d3 = (0 : Int32) then ((if d3 = (0 : Int32) then cv2_0 else (if d3 = (1 : Int32) then cv2_1 else cv2_2)) + (1 : Int32)) else cv2_0)) (hcv3_1 : cv3_1 = (if d3 = (1 : Int32) then ((if d3 = (0 : Int32) then cv2_0 else (if d3 = (1 : Int32) then cv2_1 else cv2_2)) + (1 : Int32)) else cv2_1)) (hcv3_2 : cv3_2 = (if d3 = (2 : Int32) then ((if d3 = (0 : Int32) then cv2_0 else (if d3 = (1 : Int32) then cv2_1 else cv2_2)) + (1 : Int32)) else cv2_2)) (hev3_0 : ev3_0 = (if (if d3 = (0 : Int32) then cv2_0 else (if d3 = (1 : Int32) then cv2_1 else cv2_2)) = (0 : Int32) then (if z2 = (0 : Int32) then d3 else ev2_0) else ev2_0)) (hev3_1 : ev3_1 = (if (if d3 = (0 : Int32) then cv2_0 else (if d3 = (1 : Int32) then cv2_1 else cv2_2)) = (0 : Int32) then (if z2 = (1 : Int32) then d3 else ev2_1) else ev2_1)) (hev3_2 : ev3_2 = (if (if d3 = (0 : Int32) then cv2_0 else (if d3 = (1 : Int32) then cv2_1 else cv2_2)) = (0 : Int32) then (if z2 = (2 : Int32) then d3 else ev2_2) else ev2_2)) (hz3 : z3 = (if (if d3 = (0 : Int32) then cv2_0 else (if d3 = (1 : Int32) then cv2_1 else cv2_2)) = (0 : Int32) then (z2 + (1 : Int32)) else z2)) : (1 : Int32) < z3 → Three ev3_1 := (own_E3 (own_three hd1) (own_three hd2) (own_three hd3) hcv1_0 hcv1_1 hcv1_2 hev1_0 hev1_1 hev1_2 hz1 hcv2_0 hcv2_1 hcv2_2 hev2_0 hev2_1 hev2_2 hz2 hcv3_0 hcv3_1 hcv3_2 hev3_0 hev3_1 hev3_2 hz3).2.2.1
theorem own_e3_2 {i0 d1 d2 d3 i1 i2 i3 z1 cv1_0 ev1_0 cv1_1 ev1_1 cv1_2 ev1_2 z2 cv2_0 ev2_0 cv2_1 ev2_1 cv2_2 ev2_2 z3 cv3_0 ev3_0 cv3_1 ev3_1 cv3_2 ev3_2 : Int32} {sv1_0 sv1_1 sv1_2 sv2_0 sv2_1 sv2_2 sv3_0 sv3_1 sv3_2 : UInt64} (hd1 : ((i0 &&& (255 : Int32)) % (3 : Int32)) = d1) (hd2 : ((((i0.toUInt32 >>> ((8 : Int32) &&& 31).toUInt32).toInt32) &&& (255 : Int32)) % (3 : Int32)) = d2) (hd3 : ((((i0.toUInt32 >>> ((16 : Int32) &&& 31).toUInt32).toInt32) &&& (255 : Int32)) % (3 : Int32)) = d3) (hsv1_0 : sv1_0 = (if d1 = (0 : Int32) then (FP.dadd (if d1 = (0 : Int32) then (0 : UInt64) else (if d1 = (1 : Int32) then (0 : UInt64) else (0 : UInt64))) (FP.i2d i1)) else (0 : UInt64))) (hsv1_1 : sv1_1 = (if d1 = (1 : Int32) then (FP.dadd (if d1 = (0 : Int32) then (0 : UInt64) else (if d1 = (1 : Int32) then (0 : UInt64) else (0 : UInt64))) (FP.i2d i1)) else (0 : UInt64))) (hsv1_2 : sv1_2 = (if d1 = (2 : Int32) then (FP.dadd (if d1 = (0 : Int32) then (0 : UInt64) else (if d1 = (1 : Int32) then (0 : UInt64) else (0 : UInt64))) (FP.i2d i1)) else (0 : UInt64))) (hcv1_0 : cv1_0 = (if d1 = (0 : Int32) then ((if d1 = (0 : Int32) then (0 : Int32) else (if d1 = (1 : Int32) then (0 : Int32) else (0 : Int32))) + (1 : Int32)) else (0 : Int32))) (hcv1_1 : cv1_1 = (if d1 = (1 : Int32) then ((if d1 = (0 : Int32) then (0 : Int32) else (if d1 = (1 : Int32) then (0 : Int32) else (0 : Int32))) + (1 : Int32)) else (0 : Int32))) (hcv1_2 : cv1_2 = (if d1 = (2 : Int32) then ((if d1 = (0 : Int32) then (0 : Int32) else (if d1 = (1 : Int32) then (0 : Int32) else (0 : Int32))) + (1 : Int32)) else (0 : Int32))) (hev1_0 : ev1_0 = (if (if d1 = (0 : Int32) then (0 : Int32) else (if d1 = (1 : Int32) then (0 : Int32) else (0 : Int32))) = (0 : Int32) then (if (0 : Int32) = (0 : Int32) then d1 else (0 : Int32)) else (0 : Int32))) (hev1_1 : ev1_1 = (if (if d1 = (0 : Int32) then (0 : Int32) else (if d1 = (1 : Int32) then (0 : Int32) else (0 : Int32))) = (0 : Int32) then (if (0 : Int32) = (1 : Int32) then d1 else (0 : Int32)) else (0 : Int32))) (hev1_2 : ev1_2 = (if (if d1 = (0 : Int32) then (0 : Int32) else (if d1 = (1 : Int32) then (0 : Int32) else (0 : Int32))) = (0 : Int32) then (if (0 : Int32) = (2 : Int32) then d1 else (0 : Int32)) else (0 : Int32))) (hz1 : z1 = (if (if d1 = (0 : Int32) then (0 : Int32) else (if d1 = (1 : Int32) then (0 : Int32) else (0 : Int32))) = (0 : Int32) then ((0 : Int32) + (1 : Int32)) else (0 : Int32))) (hsv2_0 : sv2_0 = (if d2 = (0 : Int32) then (FP.dadd (if d2 = (0 : Int32) then sv1_0 else (if d2 = (1 : Int32) then sv1_1 else sv1_2)) (FP.i2d i2)) else sv1_0)) (hsv2_1 : sv2_1 = (if d2 = (1 : Int32) then (FP.dadd (if d2 = (0 : Int32) then sv1_0 else (if d2 = (1 : Int32) then sv1_1 else sv1_2)) (FP.i2d i2)) else sv1_1)) (hsv2_2 : sv2_2 = (if d2 = (2 : Int32) then (FP.dadd (if d2 = (0 : Int32) then sv1_0 else (if d2 = (1 : Int32) then sv1_1 else sv1_2)) (FP.i2d i2)) else sv1_2)) (hcv2_0 : cv2_0 = (if d2 = (0 : Int32) then ((if d2 = (0 : Int32) then cv1_0 else (if d2 = (1 : Int32) then cv1_1 else cv1_2)) + (1 : Int32)) else cv1_0)) (hcv2_1 : cv2_1 = (if d2 = (1 : Int32) then ((if d2 = (0 : Int32) then cv1_0 else (if d2 = (1 : Int32) then cv1_1 else cv1_2)) + (1 : Int32)) else cv1_1)) (hcv2_2 : cv2_2 = (if d2 = (2 : Int32) then ((if d2 = (0 : Int32) then cv1_0 else (if d2 = (1 : Int32) then cv1_1 else cv1_2)) + (1 : Int32)) else cv1_2)) (hev2_0 : ev2_0 = (if (if d2 = (0 : Int32) then cv1_0 else (if d2 = (1 : Int32) then cv1_1 else cv1_2)) = (0 : Int32) then (if z1 = (0 : Int32) then d2 else ev1_0) else ev1_0)) (hev2_1 : ev2_1 = (if (if d2 = (0 : Int32) then cv1_0 else (if d2 = (1 : Int32) then cv1_1 else cv1_2)) = (0 : Int32) then (if z1 = (1 : Int32) then d2 else ev1_1) else ev1_1)) (hev2_2 : ev2_2 = (if (if d2 = (0 : Int32) then cv1_0 else (if d2 = (1 : Int32) then cv1_1 else cv1_2)) = (0 : Int32) then (if z1 = (2 : Int32) then d2 else ev1_2) else ev1_2)) (hz2 : z2 = (if (if d2 = (0 : Int32) then cv1_0 else (if d2 = (1 : Int32) then cv1_1 else cv1_2)) = (0 : Int32) then (z1 + (1 : Int32)) else z1)) (hsv3_0 : sv3_0 = (if d3 = (0 : Int32) then (FP.dadd (if d3 = (0 : Int32) then sv2_0 else (if d3 = (1 : Int32) then sv2_1 else sv2_2)) (FP.i2d i3)) else sv2_0)) (hsv3_1 : sv3_1 = (if d3 = (1 : Int32) then (FP.dadd (if d3 = (0 : Int32) then sv2_0 else (if d3 = (1 : Int32) then sv2_1 else sv2_2)) (FP.i2d i3)) else sv2_1)) (hsv3_2 : sv3_2 = (if d3 = (2 : Int32) then (FP.dadd (if d3 = (0 : Int32) then sv2_0 else (if d3 = (1 : Int32) then sv2_1 else sv2_2)) (FP.i2d i3)) else sv2_2)) (hcv3_0 : cv3_0 = (if d3 = (0 : Int32) then ((if d3 = (0 : Int32) then cv2_0 else (if d3 = (1 : Int32) then cv2_1 else cv2_2)) + (1 : Int32)) else cv2_0)) (hcv3_1 : cv3_1 = (if d3 = (1 : Int32) then ((if d3 = (0 : Int32) then cv2_0 else (if d3 = (1 : Int32) then cv2_1 else cv2_2)) + (1 : Int32)) else cv2_1)) (hcv3_2 : cv3_2 = (if d3 = (2 : Int32) then ((if d3 = (0 : Int32) then cv2_0 else (if d3 = (1 : Int32) then cv2_1 else cv2_2)) + (1 : Int32)) else cv2_2)) (hev3_0 : ev3_0 = (if (if d3 = (0 : Int32) then cv2_0 else (if d3 = (1 : Int32) then cv2_1 else cv2_2)) = (0 : Int32) then (if z2 = (0 : Int32) then d3 else ev2_0) else ev2_0)) (hev3_1 : ev3_1 = (if (if d3 = (0 : Int32) then cv2_0 else (if d3 = (1 : Int32) then cv2_1 else cv2_2)) = (0 : Int32) then (if z2 = (1 : Int32) then d3 else ev2_1) else ev2_1)) (hev3_2 : ev3_2 = (if (if d3 = (0 : Int32) then cv2_0 else (if d3 = (1 : Int32) then cv2_1 else cv2_2)) = (0 : Int32) then (if z2 = (2 : Int32) then d3 else ev2_2) else ev2_2)) (hz3 : z3 = (if (if d3 = (0 : Int32) then cv2_0 else (if d3 = (1 : Int32) then cv2_1 else cv2_2)) = (0 : Int32) then (z2 + (1 : Int32)) else z2)) : (2 : Int32) < z3 → Three ev3_2 := (own_E3 (own_three hd1) (own_three hd2) (own_three hd3) hcv1_0 hcv1_1 hcv1_2 hev1_0 hev1_1 hev1_2 hz1 hcv2_0 hcv2_1 hcv2_2 hev2_0 hev2_1 hev2_2 hz2 hcv3_0 hcv3_1 hcv3_2 hev3_0 hev3_1 hev3_2 hz3).2.2.2.1
theorem own_k3_0 {i0 d1 d2 d3 i1 i2 i3 z1 cv1_0 ev1_0 cv1_1 ev1_1 cv1_2 ev1_2 z2 cv2_0 ev2_0 cv2_1 ev2_1 cv2_2 ev2_2 z3 cv3_0 ev3_0 cv3_1 ev3_1 cv3_2 ev3_2 : Int32} {sv1_0 sv1_1 sv1_2 sv2_0 sv2_1 sv2_2 sv3_0 sv3_1 sv3_2 : UInt64} (hd1 : ((i0 &&& (255 : Int32)) % (3 : Int32)) = d1) (hd2 : ((((i0.toUInt32 >>> ((8 : Int32) &&& 31).toUInt32).toInt32) &&& (255 : Int32)) % (3 : Int32)) = d2) (hd3 : ((((i0.toUInt32 >>> ((16 : Int32) &&& 31).toUInt32).toInt32) &&& (255 : Int32)) % (3 : Int32)) = d3) (hsv1_0 : sv1_0 = (if d1 = (0 : Int32) then (FP.dadd (if d1 = (0 : Int32) then (0 : UInt64) else (if d1 = (1 : Int32) then (0 : UInt64) else (0 : UInt64))) (FP.i2d i1)) else (0 : UInt64))) (hsv1_1 : sv1_1 = (if d1 = (1 : Int32) then (FP.dadd (if d1 = (0 : Int32) then (0 : UInt64) else (if d1 = (1 : Int32) then (0 : UInt64) else (0 : UInt64))) (FP.i2d i1)) else (0 : UInt64))) (hsv1_2 : sv1_2 = (if d1 = (2 : Int32) then (FP.dadd (if d1 = (0 : Int32) then (0 : UInt64) else (if d1 = (1 : Int32) then (0 : UInt64) else (0 : UInt64))) (FP.i2d i1)) else (0 : UInt64))) (hcv1_0 : cv1_0 = (if d1 = (0 : Int32) then ((if d1 = (0 : Int32) then (0 : Int32) else (if d1 = (1 : Int32) then (0 : Int32) else (0 : Int32))) + (1 : Int32)) else (0 : Int32))) (hcv1_1 : cv1_1 = (if d1 = (1 : Int32) then ((if d1 = (0 : Int32) then (0 : Int32) else (if d1 = (1 : Int32) then (0 : Int32) else (0 : Int32))) + (1 : Int32)) else (0 : Int32))) (hcv1_2 : cv1_2 = (if d1 = (2 : Int32) then ((if d1 = (0 : Int32) then (0 : Int32) else (if d1 = (1 : Int32) then (0 : Int32) else (0 : Int32))) + (1 : Int32)) else (0 : Int32))) (hev1_0 : ev1_0 = (if (if d1 = (0 : Int32) then (0 : Int32) else (if d1 = (1 : Int32) then (0 : Int32) else (0 : Int32))) = (0 : Int32) then (if (0 : Int32) = (0 : Int32) then d1 else (0 : Int32)) else (0 : Int32))) (hev1_1 : ev1_1 = (if (if d1 = (0 : Int32) then (0 : Int32) else (if d1 = (1 : Int32) then (0 : Int32) else (0 : Int32))) = (0 : Int32) then (if (0 : Int32) = (1 : Int32) then d1 else (0 : Int32)) else (0 : Int32))) (hev1_2 : ev1_2 = (if (if d1 = (0 : Int32) then (0 : Int32) else (if d1 = (1 : Int32) then (0 : Int32) else (0 : Int32))) = (0 : Int32) then (if (0 : Int32) = (2 : Int32) then d1 else (0 : Int32)) else (0 : Int32))) (hz1 : z1 = (if (if d1 = (0 : Int32) then (0 : Int32) else (if d1 = (1 : Int32) then (0 : Int32) else (0 : Int32))) = (0 : Int32) then ((0 : Int32) + (1 : Int32)) else (0 : Int32))) (hsv2_0 : sv2_0 = (if d2 = (0 : Int32) then (FP.dadd (if d2 = (0 : Int32) then sv1_0 else (if d2 = (1 : Int32) then sv1_1 else sv1_2)) (FP.i2d i2)) else sv1_0)) (hsv2_1 : sv2_1 = (if d2 = (1 : Int32) then (FP.dadd (if d2 = (0 : Int32) then sv1_0 else (if d2 = (1 : Int32) then sv1_1 else sv1_2)) (FP.i2d i2)) else sv1_1)) (hsv2_2 : sv2_2 = (if d2 = (2 : Int32) then (FP.dadd (if d2 = (0 : Int32) then sv1_0 else (if d2 = (1 : Int32) then sv1_1 else sv1_2)) (FP.i2d i2)) else sv1_2)) (hcv2_0 : cv2_0 = (if d2 = (0 : Int32) then ((if d2 = (0 : Int32) then cv1_0 else (if d2 = (1 : Int32) then cv1_1 else cv1_2)) + (1 : Int32)) else cv1_0)) (hcv2_1 : cv2_1 = (if d2 = (1 : Int32) then ((if d2 = (0 : Int32) then cv1_0 else (if d2 = (1 : Int32) then cv1_1 else cv1_2)) + (1 : Int32)) else cv1_1)) (hcv2_2 : cv2_2 = (if d2 = (2 : Int32) then ((if d2 = (0 : Int32) then cv1_0 else (if d2 = (1 : Int32) then cv1_1 else cv1_2)) + (1 : Int32)) else cv1_2)) (hev2_0 : ev2_0 = (if (if d2 = (0 : Int32) then cv1_0 else (if d2 = (1 : Int32) then cv1_1 else cv1_2)) = (0 : Int32) then (if z1 = (0 : Int32) then d2 else ev1_0) else ev1_0)) (hev2_1 : ev2_1 = (if (if d2 = (0 : Int32) then cv1_0 else (if d2 = (1 : Int32) then cv1_1 else cv1_2)) = (0 : Int32) then (if z1 = (1 : Int32) then d2 else ev1_1) else ev1_1)) (hev2_2 : ev2_2 = (if (if d2 = (0 : Int32) then cv1_0 else (if d2 = (1 : Int32) then cv1_1 else cv1_2)) = (0 : Int32) then (if z1 = (2 : Int32) then d2 else ev1_2) else ev1_2)) (hz2 : z2 = (if (if d2 = (0 : Int32) then cv1_0 else (if d2 = (1 : Int32) then cv1_1 else cv1_2)) = (0 : Int32) then (z1 + (1 : Int32)) else z1)) (hsv3_0 : sv3_0 = (if d3 = (0 : Int32) then (FP.dadd (if d3 = (0 : Int32) then sv2_0 else (if d3 = (1 : Int32) then sv2_1 else sv2_2)) (FP.i2d i3)) else sv2_0)) (hsv3_1 : sv3_1 = (if d3 = (1 : Int32) then (FP.dadd (if d3 = (0 : Int32) then sv2_0 else (if d3 = (1 : Int32) then sv2_1 else sv2_2)) (FP.i2d i3)) else sv2_1)) (hsv3_2 : sv3_2 = (if d3 = (2 : Int32) then (FP.dadd (if d3 = (0 : Int32) then sv2_0 else (if d3 = (1 : Int32) then sv2_1 else sv2_2)) (FP.i2d i3)) else sv2_2)) (hcv3_0 : cv3_0 = (if d3 = (0 : Int32) then ((if d3 = (0 : Int32) then cv2_0 else (if d3 = (1 : Int32) then cv2_1 else cv2_2)) + (1 : Int32)) else cv2_0)) (hcv3_1 : cv3_1 = (if d3 = (1 : Int32) then ((if d3 = (0 : Int32) then cv2_0 else (if d3 = (1 : Int32) then cv2_1 else cv2_2)) + (1 : Int32)) else cv2_1)) (hcv3_2 : cv3_2 = (if d3 = (2 : Int32) then ((if d3 = (0 : Int32) then cv2_0 else (if d3 = (1 : Int32) then cv2_1 else cv2_2)) + (1 : Int32)) else cv2_2)) (hev3_0 : ev3_0 = (if (if d3 = (0 : Int32) then cv2_0 else (if d3 = (1 : Int32) then cv2_1 else cv2_2)) = (0 : Int32) then (if z2 = (0 : Int32) then d3 else ev2_0) else ev2_0)) (hev3_1 : ev3_1 = (if (if d3 = (0 : Int32) then cv2_0 else (if d3 = (1 : Int32) then cv2_1 else cv2_2)) = (0 : Int32) then (if z2 = (1 : Int32) then d3 else ev2_1) else ev2_1)) (hev3_2 : ev3_2 = (if (if d3 = (0 : Int32) then cv2_0 else (if d3 = (1 : Int32) then cv2_1 else cv2_2)) = (0 : Int32) then (if z2 = (2 : Int32) then d3 else ev2_2) else ev2_2)) (hz3 : z3 = (if (if d3 = (0 : Int32) then cv2_0 else (if d3 = (1 : Int32) then cv2_1 else cv2_2)) = (0 : Int32) then (z2 + (1 : Int32)) else z2)) : clrI z3 (0 : Int32) ev3_0 ev3_1 ev3_2 cv3_0 = (0 : Int32) := (own_E3 (own_three hd1) (own_three hd2) (own_three hd3) hcv1_0 hcv1_1 hcv1_2 hev1_0 hev1_1 hev1_2 hz1 hcv2_0 hcv2_1 hcv2_2 hev2_0 hev2_1 hev2_2 hz2 hcv3_0 hcv3_1 hcv3_2 hev3_0 hev3_1 hev3_2 hz3).2.2.2.2.1
theorem own_k3_1 {i0 d1 d2 d3 i1 i2 i3 z1 cv1_0 ev1_0 cv1_1 ev1_1 cv1_2 ev1_2 z2 cv2_0 ev2_0 cv2_1 ev2_1 cv2_2 ev2_2 z3 cv3_0 ev3_0 cv3_1 ev3_1 cv3_2 ev3_2 : Int32} {sv1_0 sv1_1 sv1_2 sv2_0 sv2_1 sv2_2 sv3_0 sv3_1 sv3_2 : UInt64} (hd1 : ((i0 &&& (255 : Int32)) % (3 : Int32)) = d1) (hd2 : ((((i0.toUInt32 >>> ((8 : Int32) &&& 31).toUInt32).toInt32) &&& (255 : Int32)) % (3 : Int32)) = d2) (hd3 : ((((i0.toUInt32 >>> ((16 : Int32) &&& 31).toUInt32).toInt32) &&& (255 : Int32)) % (3 : Int32)) = d3) (hsv1_0 : sv1_0 = (if d1 = (0 : Int32) then (FP.dadd (if d1 = (0 : Int32) then (0 : UInt64) else (if d1 = (1 : Int32) then (0 : UInt64) else (0 : UInt64))) (FP.i2d i1)) else (0 : UInt64))) (hsv1_1 : sv1_1 = (if d1 = (1 : Int32) then (FP.dadd (if d1 = (0 : Int32) then (0 : UInt64) else (if d1 = (1 : Int32) then (0 : UInt64) else (0 : UInt64))) (FP.i2d i1)) else (0 : UInt64))) (hsv1_2 : sv1_2 = (if d1 = (2 : Int32) then (FP.dadd (if d1 = (0 : Int32) then (0 : UInt64) else (if d1 = (1 : Int32) then (0 : UInt64) else (0 : UInt64))) (FP.i2d i1)) else (0 : UInt64))) (hcv1_0 : cv1_0 = (if d1 = (0 : Int32) then ((if d1 = (0 : Int32) then (0 : Int32) else (if d1 = (1 : Int32) then (0 : Int32) else (0 : Int32))) + (1 : Int32)) else (0 : Int32))) (hcv1_1 : cv1_1 = (if d1 = (1 : Int32) then ((if d1 = (0 : Int32) then (0 : Int32) else (if d1 = (1 : Int32) then (0 : Int32) else (0 : Int32))) + (1 : Int32)) else (0 : Int32))) (hcv1_2 : cv1_2 = (if d1 = (2 : Int32) then ((if d1 = (0 : Int32) then (0 : Int32) else (if d1 = (1 : Int32) then (0 : Int32) else (0 : Int32))) + (1 : Int32)) else (0 : Int32))) (hev1_0 : ev1_0 = (if (if d1 = (0 : Int32) then (0 : Int32) else (if d1 = (1 : Int32) then (0 : Int32) else (0 : Int32))) = (0 : Int32) then (if (0 : Int32) = (0 : Int32) then d1 else (0 : Int32)) else (0 : Int32))) (hev1_1 : ev1_1 = (if (if d1 = (0 : Int32) then (0 : Int32) else (if d1 = (1 : Int32) then (0 : Int32) else (0 : Int32))) = (0 : Int32) then (if (0 : Int32) = (1 : Int32) then d1 else (0 : Int32)) else (0 : Int32))) (hev1_2 : ev1_2 = (if (if d1 = (0 : Int32) then (0 : Int32) else (if d1 = (1 : Int32) then (0 : Int32) else (0 : Int32))) = (0 : Int32) then (if (0 : Int32) = (2 : Int32) then d1 else (0 : Int32)) else (0 : Int32))) (hz1 : z1 = (if (if d1 = (0 : Int32) then (0 : Int32) else (if d1 = (1 : Int32) then (0 : Int32) else (0 : Int32))) = (0 : Int32) then ((0 : Int32) + (1 : Int32)) else (0 : Int32))) (hsv2_0 : sv2_0 = (if d2 = (0 : Int32) then (FP.dadd (if d2 = (0 : Int32) then sv1_0 else (if d2 = (1 : Int32) then sv1_1 else sv1_2)) (FP.i2d i2)) else sv1_0)) (hsv2_1 : sv2_1 = (if d2 = (1 : Int32) then (FP.dadd (if d2 = (0 : Int32) then sv1_0 else (if d2 = (1 : Int32) then sv1_1 else sv1_2)) (FP.i2d i2)) else sv1_1)) (hsv2_2 : sv2_2 = (if d2 = (2 : Int32) then (FP.dadd (if d2 = (0 : Int32) then sv1_0 else (if d2 = (1 : Int32) then sv1_1 else sv1_2)) (FP.i2d i2)) else sv1_2)) (hcv2_0 : cv2_0 = (if d2 = (0 : Int32) then ((if d2 = (0 : Int32) then cv1_0 else (if d2 = (1 : Int32) then cv1_1 else cv1_2)) + (1 : Int32)) else cv1_0)) (hcv2_1 : cv2_1 = (if d2 = (1 : Int32) then ((if d2 = (0 : Int32) then cv1_0 else (if d2 = (1 : Int32) then cv1_1 else cv1_2)) + (1 : Int32)) else cv1_1)) (hcv2_2 : cv2_2 = (if d2 = (2 : Int32) then ((if d2 = (0 : Int32) then cv1_0 else (if d2 = (1 : Int32) then cv1_1 else cv1_2)) + (1 : Int32)) else cv1_2)) (hev2_0 : ev2_0 = (if (if d2 = (0 : Int32) then cv1_0 else (if d2 = (1 : Int32) then cv1_1 else cv1_2)) = (0 : Int32) then (if z1 = (0 : Int32) then d2 else ev1_0) else ev1_0)) (hev2_1 : ev2_1 = (if (if d2 = (0 : Int32) then cv1_0 else (if d2 = (1 : Int32) then cv1_1 else cv1_2)) = (0 : Int32) then (if z1 = (1 : Int32) then d2 else ev1_1) else ev1_1)) (hev2_2 : ev2_2 = (if (if d2 = (0 : Int32) then cv1_0 else (if d2 = (1 : Int32) then cv1_1 else cv1_2)) = (0 : Int32) then (if z1 = (2 : Int32) then d2 else ev1_2) else ev1_2)) (hz2 : z2 = (if (if d2 = (0 : Int32) then cv1_0 else (if d2 = (1 : Int32) then cv1_1 else cv1_2)) = (0 : Int32) then (z1 + (1 : Int32)) else z1)) (hsv3_0 : sv3_0 = (if d3 = (0 : Int32) then (FP.dadd (if d3 = (0 : Int32) then sv2_0 else (if d3 = (1 : Int32) then sv2_1 else sv2_2)) (FP.i2d i3)) else sv2_0)) (hsv3_1 : sv3_1 = (if d3 = (1 : Int32) then (FP.dadd (if d3 = (0 : Int32) then sv2_0 else (if d3 = (1 : Int32) then sv2_1 else sv2_2)) (FP.i2d i3)) else sv2_1)) (hsv3_2 : sv3_2 = (if d3 = (2 : Int32) then (FP.dadd (if d3 = (0 : Int32) then sv2_0 else (if d3 = (1 : Int32) then sv2_1 else sv2_2)) (FP.i2d i3)) else sv2_2)) (hcv3_0 : cv3_0 = (if d3 = (0 : Int32) then ((if d3 = (0 : Int32) then cv2_0 else (if d3 = (1 : Int32) then cv2_1 else cv2_2)) + (1 : Int32)) else cv2_0)) (hcv3_1 : cv3_1 = (if d3 = (1 : Int32) then ((if d3 = (0 : Int32) then cv2_0 else (if d3 = (1 : Int32) then cv2_1 else cv2_2)) + (1 : Int32)) else cv2_1)) (hcv3_2 : cv3_2 = (if d3 = (2 : Int32) then ((if d3 = (0 : Int32) then cv2_0 else (if d3 = (1 : Int32) then cv2_1 else cv2_2)) + (1 : Int32)) else cv2_2)) (hev3_0 : ev3_0 = (if (if d3 = (0 : Int32) then cv2_0 else (if d3 = (1 : Int32) then cv2_1 else cv2_2)) = (0 : Int32) then (if z2 = (0 : Int32) then d3 else ev2_0) else ev2_0)) (hev3_1 : ev3_1 = (if (if d3 = (0 : Int32) then cv2_0 else (if d3 = (1 : Int32) then cv2_1 else cv2_2)) = (0 : Int32) then (if z2 = (1 : Int32) then d3 else ev2_1) else ev2_1)) (hev3_2 : ev3_2 = (if (if d3 = (0 : Int32) then cv2_0 else (if d3 = (1 : Int32) then cv2_1 else cv2_2)) = (0 : Int32) then (if z2 = (2 : Int32) then d3 else ev2_2) else ev2_2)) (hz3 : z3 = (if (if d3 = (0 : Int32) then cv2_0 else (if d3 = (1 : Int32) then cv2_1 else cv2_2)) = (0 : Int32) then (z2 + (1 : Int32)) else z2)) : clrI z3 (1 : Int32) ev3_0 ev3_1 ev3_2 cv3_1 = (0 : Int32) := (own_E3 (own_three hd1) (own_three hd2) (own_three hd3) hcv1_0 hcv1_1 hcv1_2 hev1_0 hev1_1 hev1_2 hz1 hcv2_0 hcv2_1 hcv2_2 hev2_0 hev2_1 hev2_2 hz2 hcv3_0 hcv3_1 hcv3_2 hev3_0 hev3_1 hev3_2 hz3).2.2.2.2.2.1
theorem own_k3_2 {i0 d1 d2 d3 i1 i2 i3 z1 cv1_0 ev1_0 cv1_1 ev1_1 cv1_2 ev1_2 z2 cv2_0 ev2_0 cv2_1 ev2_1 cv2_2 ev2_2 z3 cv3_0 ev3_0 cv3_1 ev3_1 cv3_2 ev3_2 : Int32} {sv1_0 sv1_1 sv1_2 sv2_0 sv2_1 sv2_2 sv3_0 sv3_1 sv3_2 : UInt64} (hd1 : ((i0 &&& (255 : Int32)) % (3 : Int32)) = d1) (hd2 : ((((i0.toUInt32 >>> ((8 : Int32) &&& 31).toUInt32).toInt32) &&& (255 : Int32)) % (3 : Int32)) = d2) (hd3 : ((((i0.toUInt32 >>> ((16 : Int32) &&& 31).toUInt32).toInt32) &&& (255 : Int32)) % (3 : Int32)) = d3) (hsv1_0 : sv1_0 = (if d1 = (0 : Int32) then (FP.dadd (if d1 = (0 : Int32) then (0 : UInt64) else (if d1 = (1 : Int32) then (0 : UInt64) else (0 : UInt64))) (FP.i2d i1)) else (0 : UInt64))) (hsv1_1 : sv1_1 = (if d1 = (1 : Int32) then (FP.dadd (if d1 = (0 : Int32) then (0 : UInt64) else (if d1 = (1 : Int32) then (0 : UInt64) else (0 : UInt64))) (FP.i2d i1)) else (0 : UInt64))) (hsv1_2 : sv1_2 = (if d1 = (2 : Int32) then (FP.dadd (if d1 = (0 : Int32) then (0 : UInt64) else (if d1 = (1 : Int32) then (0 : UInt64) else (0 : UInt64))) (FP.i2d i1)) else (0 : UInt64))) (hcv1_0 : cv1_0 = (if d1 = (0 : Int32) then ((if d1 = (0 : Int32) then (0 : Int32) else (if d1 = (1 : Int32) then (0 : Int32) else (0 : Int32))) + (1 : Int32)) else (0 : Int32))) (hcv1_1 : cv1_1 = (if d1 = (1 : Int32) then ((if d1 = (0 : Int32) then (0 : Int32) else (if d1 = (1 : Int32) then (0 : Int32) else (0 : Int32))) + (1 : Int32)) else (0 : Int32))) (hcv1_2 : cv1_2 = (if d1 = (2 : Int32) then ((if d1 = (0 : Int32) then (0 : Int32) else (if d1 = (1 : Int32) then (0 : Int32) else (0 : Int32))) + (1 : Int32)) else (0 : Int32))) (hev1_0 : ev1_0 = (if (if d1 = (0 : Int32) then (0 : Int32) else (if d1 = (1 : Int32) then (0 : Int32) else (0 : Int32))) = (0 : Int32) then (if (0 : Int32) = (0 : Int32) then d1 else (0 : Int32)) else (0 : Int32))) (hev1_1 : ev1_1 = (if (if d1 = (0 : Int32) then (0 : Int32) else (if d1 = (1 : Int32) then (0 : Int32) else (0 : Int32))) = (0 : Int32) then (if (0 : Int32) = (1 : Int32) then d1 else (0 : Int32)) else (0 : Int32))) (hev1_2 : ev1_2 = (if (if d1 = (0 : Int32) then (0 : Int32) else (if d1 = (1 : Int32) then (0 : Int32) else (0 : Int32))) = (0 : Int32) then (if (0 : Int32) = (2 : Int32) then d1 else (0 : Int32)) else (0 : Int32))) (hz1 : z1 = (if (if d1 = (0 : Int32) then (0 : Int32) else (if d1 = (1 : Int32) then (0 : Int32) else (0 : Int32))) = (0 : Int32) then ((0 : Int32) + (1 : Int32)) else (0 : Int32))) (hsv2_0 : sv2_0 = (if d2 = (0 : Int32) then (FP.dadd (if d2 = (0 : Int32) then sv1_0 else (if d2 = (1 : Int32) then sv1_1 else sv1_2)) (FP.i2d i2)) else sv1_0)) (hsv2_1 : sv2_1 = (if d2 = (1 : Int32) then (FP.dadd (if d2 = (0 : Int32) then sv1_0 else (if d2 = (1 : Int32) then sv1_1 else sv1_2)) (FP.i2d i2)) else sv1_1)) (hsv2_2 : sv2_2 = (if d2 = (2 : Int32) then (FP.dadd (if d2 = (0 : Int32) then sv1_0 else (if d2 = (1 : Int32) then sv1_1 else sv1_2)) (FP.i2d i2)) else sv1_2)) (hcv2_0 : cv2_0 = (if d2 = (0 : Int32) then ((if d2 = (0 : Int32) then cv1_0 else (if d2 = (1 : Int32) then cv1_1 else cv1_2)) + (1 : Int32)) else cv1_0)) (hcv2_1 : cv2_1 = (if d2 = (1 : Int32) then ((if d2 = (0 : Int32) then cv1_0 else (if d2 = (1 : Int32) then cv1_1 else cv1_2)) + (1 : Int32)) else cv1_1)) (hcv2_2 : cv2_2 = (if d2 = (2 : Int32) then ((if d2 = (0 : Int32) then cv1_0 else (if d2 = (1 : Int32) then cv1_1 else cv1_2)) + (1 : Int32)) else cv1_2)) (hev2_0 : ev2_0 = (if (if d2 = (0 : Int32) then cv1_0 else (if d2 = (1 : Int32) then cv1_1 else cv1_2)) = (0 : Int32) then (if z1 = (0 : Int32) then d2 else ev1_0) else ev1_0)) (hev2_1 : ev2_1 = (if (if d2 = (0 : Int32) then cv1_0 else (if d2 = (1 : Int32) then cv1_1 else cv1_2)) = (0 : Int32) then (if z1 = (1 : Int32) then d2 else ev1_1) else ev1_1)) (hev2_2 : ev2_2 = (if (if d2 = (0 : Int32) then cv1_0 else (if d2 = (1 : Int32) then cv1_1 else cv1_2)) = (0 : Int32) then (if z1 = (2 : Int32) then d2 else ev1_2) else ev1_2)) (hz2 : z2 = (if (if d2 = (0 : Int32) then cv1_0 else (if d2 = (1 : Int32) then cv1_1 else cv1_2)) = (0 : Int32) then (z1 + (1 : Int32)) else z1)) (hsv3_0 : sv3_0 = (if d3 = (0 : Int32) then (FP.dadd (if d3 = (0 : Int32) then sv2_0 else (if d3 = (1 : Int32) then sv2_1 else sv2_2)) (FP.i2d i3)) else sv2_0)) (hsv3_1 : sv3_1 = (if d3 = (1 : Int32) then (FP.dadd (if d3 = (0 : Int32) then sv2_0 else (if d3 = (1 : Int32) then sv2_1 else sv2_2)) (FP.i2d i3)) else sv2_1)) (hsv3_2 : sv3_2 = (if d3 = (2 : Int32) then (FP.dadd (if d3 = (0 : Int32) then sv2_0 else (if d3 = (1 : Int32) then sv2_1 else sv2_2)) (FP.i2d i3)) else sv2_2)) (hcv3_0 : cv3_0 = (if d3 = (0 : Int32) then ((if d3 = (0 : Int32) then cv2_0 else (if d3 = (1 : Int32) then cv2_1 else cv2_2)) + (1 : Int32)) else cv2_0)) (hcv3_1 : cv3_1 = (if d3 = (1 : Int32) then ((if d3 = (0 : Int32) then cv2_0 else (if d3 = (1 : Int32) then cv2_1 else cv2_2)) + (1 : Int32)) else cv2_1)) (hcv3_2 : cv3_2 = (if d3 = (2 : Int32) then ((if d3 = (0 : Int32) then cv2_0 else (if d3 = (1 : Int32) then cv2_1 else cv2_2)) + (1 : Int32)) else cv2_2)) (hev3_0 : ev3_0 = (if (if d3 = (0 : Int32) then cv2_0 else (if d3 = (1 : Int32) then cv2_1 else cv2_2)) = (0 : Int32) then (if z2 = (0 : Int32) then d3 else ev2_0) else ev2_0)) (hev3_1 : ev3_1 = (if (if d3 = (0 : Int32) then cv2_0 else (if d3 = (1 : Int32) then cv2_1 else cv2_2)) = (0 : Int32) then (if z2 = (1 : Int32) then d3 else ev2_1) else ev2_1)) (hev3_2 : ev3_2 = (if (if d3 = (0 : Int32) then cv2_0 else (if d3 = (1 : Int32) then cv2_1 else cv2_2)) = (0 : Int32) then (if z2 = (2 : Int32) then d3 else ev2_2) else ev2_2)) (hz3 : z3 = (if (if d3 = (0 : Int32) then cv2_0 else (if d3 = (1 : Int32) then cv2_1 else cv2_2)) = (0 : Int32) then (z2 + (1 : Int32)) else z2)) : clrI z3 (2 : Int32) ev3_0 ev3_1 ev3_2 cv3_2 = (0 : Int32) := (own_E3 (own_three hd1) (own_three hd2) (own_three hd3) hcv1_0 hcv1_1 hcv1_2 hev1_0 hev1_1 hev1_2 hz1 hcv2_0 hcv2_1 hcv2_2 hev2_0 hev2_1 hev2_2 hz2 hcv3_0 hcv3_1 hcv3_2 hev3_0 hev3_1 hev3_2 hz3).2.2.2.2.2.2
set_option maxHeartbeats 4000000 in
theorem own_Z3 {d1 d2 d3 z1 cv1_0 ev1_0 cv1_1 ev1_1 cv1_2 ev1_2 z2 cv2_0 ev2_0 cv2_1 ev2_1 cv2_2 ev2_2 z3 cv3_0 ev3_0 cv3_1 ev3_1 cv3_2 ev3_2 i1 i2 i3 : Int32} {sv1_0 sv1_1 sv1_2 sv2_0 sv2_1 sv2_2 sv3_0 sv3_1 sv3_2 : UInt64} (t1 : Three d1) (t2 : Three d2) (t3 : Three d3) (hsv1_0 : sv1_0 = (if d1 = (0 : Int32) then (FP.dadd (if d1 = (0 : Int32) then (0 : UInt64) else (if d1 = (1 : Int32) then (0 : UInt64) else (0 : UInt64))) (FP.i2d i1)) else (0 : UInt64))) (hsv1_1 : sv1_1 = (if d1 = (1 : Int32) then (FP.dadd (if d1 = (0 : Int32) then (0 : UInt64) else (if d1 = (1 : Int32) then (0 : UInt64) else (0 : UInt64))) (FP.i2d i1)) else (0 : UInt64))) (hsv1_2 : sv1_2 = (if d1 = (2 : Int32) then (FP.dadd (if d1 = (0 : Int32) then (0 : UInt64) else (if d1 = (1 : Int32) then (0 : UInt64) else (0 : UInt64))) (FP.i2d i1)) else (0 : UInt64))) (hcv1_0 : cv1_0 = (if d1 = (0 : Int32) then ((if d1 = (0 : Int32) then (0 : Int32) else (if d1 = (1 : Int32) then (0 : Int32) else (0 : Int32))) + (1 : Int32)) else (0 : Int32))) (hcv1_1 : cv1_1 = (if d1 = (1 : Int32) then ((if d1 = (0 : Int32) then (0 : Int32) else (if d1 = (1 : Int32) then (0 : Int32) else (0 : Int32))) + (1 : Int32)) else (0 : Int32))) (hcv1_2 : cv1_2 = (if d1 = (2 : Int32) then ((if d1 = (0 : Int32) then (0 : Int32) else (if d1 = (1 : Int32) then (0 : Int32) else (0 : Int32))) + (1 : Int32)) else (0 : Int32))) (hev1_0 : ev1_0 = (if (if d1 = (0 : Int32) then (0 : Int32) else (if d1 = (1 : Int32) then (0 : Int32) else (0 : Int32))) = (0 : Int32) then (if (0 : Int32) = (0 : Int32) then d1 else (0 : Int32)) else (0 : Int32))) (hev1_1 : ev1_1 = (if (if d1 = (0 : Int32) then (0 : Int32) else (if d1 = (1 : Int32) then (0 : Int32) else (0 : Int32))) = (0 : Int32) then (if (0 : Int32) = (1 : Int32) then d1 else (0 : Int32)) else (0 : Int32))) (hev1_2 : ev1_2 = (if (if d1 = (0 : Int32) then (0 : Int32) else (if d1 = (1 : Int32) then (0 : Int32) else (0 : Int32))) = (0 : Int32) then (if (0 : Int32) = (2 : Int32) then d1 else (0 : Int32)) else (0 : Int32))) (hz1 : z1 = (if (if d1 = (0 : Int32) then (0 : Int32) else (if d1 = (1 : Int32) then (0 : Int32) else (0 : Int32))) = (0 : Int32) then ((0 : Int32) + (1 : Int32)) else (0 : Int32))) (hsv2_0 : sv2_0 = (if d2 = (0 : Int32) then (FP.dadd (if d2 = (0 : Int32) then sv1_0 else (if d2 = (1 : Int32) then sv1_1 else sv1_2)) (FP.i2d i2)) else sv1_0)) (hsv2_1 : sv2_1 = (if d2 = (1 : Int32) then (FP.dadd (if d2 = (0 : Int32) then sv1_0 else (if d2 = (1 : Int32) then sv1_1 else sv1_2)) (FP.i2d i2)) else sv1_1)) (hsv2_2 : sv2_2 = (if d2 = (2 : Int32) then (FP.dadd (if d2 = (0 : Int32) then sv1_0 else (if d2 = (1 : Int32) then sv1_1 else sv1_2)) (FP.i2d i2)) else sv1_2)) (hcv2_0 : cv2_0 = (if d2 = (0 : Int32) then ((if d2 = (0 : Int32) then cv1_0 else (if d2 = (1 : Int32) then cv1_1 else cv1_2)) + (1 : Int32)) else cv1_0)) (hcv2_1 : cv2_1 = (if d2 = (1 : Int32) then ((if d2 = (0 : Int32) then cv1_0 else (if d2 = (1 : Int32) then cv1_1 else cv1_2)) + (1 : Int32)) else cv1_1)) (hcv2_2 : cv2_2 = (if d2 = (2 : Int32) then ((if d2 = (0 : Int32) then cv1_0 else (if d2 = (1 : Int32) then cv1_1 else cv1_2)) + (1 : Int32)) else cv1_2)) (hev2_0 : ev2_0 = (if (if d2 = (0 : Int32) then cv1_0 else (if d2 = (1 : Int32) then cv1_1 else cv1_2)) = (0 : Int32) then (if z1 = (0 : Int32) then d2 else ev1_0) else ev1_0)) (hev2_1 : ev2_1 = (if (if d2 = (0 : Int32) then cv1_0 else (if d2 = (1 : Int32) then cv1_1 else cv1_2)) = (0 : Int32) then (if z1 = (1 : Int32) then d2 else ev1_1) else ev1_1)) (hev2_2 : ev2_2 = (if (if d2 = (0 : Int32) then cv1_0 else (if d2 = (1 : Int32) then cv1_1 else cv1_2)) = (0 : Int32) then (if z1 = (2 : Int32) then d2 else ev1_2) else ev1_2)) (hz2 : z2 = (if (if d2 = (0 : Int32) then cv1_0 else (if d2 = (1 : Int32) then cv1_1 else cv1_2)) = (0 : Int32) then (z1 + (1 : Int32)) else z1)) (hsv3_0 : sv3_0 = (if d3 = (0 : Int32) then (FP.dadd (if d3 = (0 : Int32) then sv2_0 else (if d3 = (1 : Int32) then sv2_1 else sv2_2)) (FP.i2d i3)) else sv2_0)) (hsv3_1 : sv3_1 = (if d3 = (1 : Int32) then (FP.dadd (if d3 = (0 : Int32) then sv2_0 else (if d3 = (1 : Int32) then sv2_1 else sv2_2)) (FP.i2d i3)) else sv2_1)) (hsv3_2 : sv3_2 = (if d3 = (2 : Int32) then (FP.dadd (if d3 = (0 : Int32) then sv2_0 else (if d3 = (1 : Int32) then sv2_1 else sv2_2)) (FP.i2d i3)) else sv2_2)) (hcv3_0 : cv3_0 = (if d3 = (0 : Int32) then ((if d3 = (0 : Int32) then cv2_0 else (if d3 = (1 : Int32) then cv2_1 else cv2_2)) + (1 : Int32)) else cv2_0)) (hcv3_1 : cv3_1 = (if d3 = (1 : Int32) then ((if d3 = (0 : Int32) then cv2_0 else (if d3 = (1 : Int32) then cv2_1 else cv2_2)) + (1 : Int32)) else cv2_1)) (hcv3_2 : cv3_2 = (if d3 = (2 : Int32) then ((if d3 = (0 : Int32) then cv2_0 else (if d3 = (1 : Int32) then cv2_1 else cv2_2)) + (1 : Int32)) else cv2_2)) (hev3_0 : ev3_0 = (if (if d3 = (0 : Int32) then cv2_0 else (if d3 = (1 : Int32) then cv2_1 else cv2_2)) = (0 : Int32) then (if z2 = (0 : Int32) then d3 else ev2_0) else ev2_0)) (hev3_1 : ev3_1 = (if (if d3 = (0 : Int32) then cv2_0 else (if d3 = (1 : Int32) then cv2_1 else cv2_2)) = (0 : Int32) then (if z2 = (1 : Int32) then d3 else ev2_1) else ev2_1)) (hev3_2 : ev3_2 = (if (if d3 = (0 : Int32) then cv2_0 else (if d3 = (1 : Int32) then cv2_1 else cv2_2)) = (0 : Int32) then (if z2 = (2 : Int32) then d3 else ev2_2) else ev2_2)) (hz3 : z3 = (if (if d3 = (0 : Int32) then cv2_0 else (if d3 = (1 : Int32) then cv2_1 else cv2_2)) = (0 : Int32) then (z2 + (1 : Int32)) else z2)) : clrD z3 (0 : Int32) ev3_0 ev3_1 ev3_2 sv3_0 = 0 ∧ clrD z3 (1 : Int32) ev3_0 ev3_1 ev3_2 sv3_1 = 0 ∧ clrD z3 (2 : Int32) ev3_0 ev3_1 ev3_2 sv3_2 = 0 := by
  rcases t1 with rfl | rfl | rfl <;> rcases t2 with rfl | rfl | rfl <;> rcases t3 with rfl | rfl | rfl <;> subst hz3 hev3_2 hev3_1 hev3_0 hcv3_2 hcv3_1 hcv3_0 hsv3_2 hsv3_1 hsv3_0 hz2 hev2_2 hev2_1 hev2_0 hcv2_2 hcv2_1 hcv2_0 hsv2_2 hsv2_1 hsv2_0 hz1 hev1_2 hev1_1 hev1_0 hcv1_2 hcv1_1 hcv1_0 hsv1_2 hsv1_1 hsv1_0 <;> exact ⟨rfl, rfl, rfl⟩
theorem own_q3_0 {i0 d1 d2 d3 i1 i2 i3 z1 cv1_0 ev1_0 cv1_1 ev1_1 cv1_2 ev1_2 z2 cv2_0 ev2_0 cv2_1 ev2_1 cv2_2 ev2_2 z3 cv3_0 ev3_0 cv3_1 ev3_1 cv3_2 ev3_2 : Int32} {sv1_0 sv1_1 sv1_2 sv2_0 sv2_1 sv2_2 sv3_0 sv3_1 sv3_2 : UInt64} (hd1 : ((i0 &&& (255 : Int32)) % (3 : Int32)) = d1) (hd2 : ((((i0.toUInt32 >>> ((8 : Int32) &&& 31).toUInt32).toInt32) &&& (255 : Int32)) % (3 : Int32)) = d2) (hd3 : ((((i0.toUInt32 >>> ((16 : Int32) &&& 31).toUInt32).toInt32) &&& (255 : Int32)) % (3 : Int32)) = d3) (hsv1_0 : sv1_0 = (if d1 = (0 : Int32) then (FP.dadd (if d1 = (0 : Int32) then (0 : UInt64) else (if d1 = (1 : Int32) then (0 : UInt64) else (0 : UInt64))) (FP.i2d i1)) else (0 : UInt64))) (hsv1_1 : sv1_1 = (if d1 = (1 : Int32) then (FP.dadd (if d1 = (0 : Int32) then (0 : UInt64) else (if d1 = (1 : Int32) then (0 : UInt64) else (0 : UInt64))) (FP.i2d i1)) else (0 : UInt64))) (hsv1_2 : sv1_2 = (if d1 = (2 : Int32) then (FP.dadd (if d1 = (0 : Int32) then (0 : UInt64) else (if d1 = (1 : Int32) then (0 : UInt64) else (0 : UInt64))) (FP.i2d i1)) else (0 : UInt64))) (hcv1_0 : cv1_0 = (if d1 = (0 : Int32) then ((if d1 = (0 : Int32) then (0 : Int32) else (if d1 = (1 : Int32) then (0 : Int32) else (0 : Int32))) + (1 : Int32)) else (0 : Int32))) (hcv1_1 : cv1_1 = (if d1 = (1 : Int32) then ((if d1 = (0 : Int32) then (0 : Int32) else (if d1 = (1 : Int32) then (0 : Int32) else (0 : Int32))) + (1 : Int32)) else (0 : Int32))) (hcv1_2 : cv1_2 = (if d1 = (2 : Int32) then ((if d1 = (0 : Int32) then (0 : Int32) else (if d1 = (1 : Int32) then (0 : Int32) else (0 : Int32))) + (1 : Int32)) else (0 : Int32))) (hev1_0 : ev1_0 = (if (if d1 = (0 : Int32) then (0 : Int32) else (if d1 = (1 : Int32) then (0 : Int32) else (0 : Int32))) = (0 : Int32) then (if (0 : Int32) = (0 : Int32) then d1 else (0 : Int32)) else (0 : Int32))) (hev1_1 : ev1_1 = (if (if d1 = (0 : Int32) then (0 : Int32) else (if d1 = (1 : Int32) then (0 : Int32) else (0 : Int32))) = (0 : Int32) then (if (0 : Int32) = (1 : Int32) then d1 else (0 : Int32)) else (0 : Int32))) (hev1_2 : ev1_2 = (if (if d1 = (0 : Int32) then (0 : Int32) else (if d1 = (1 : Int32) then (0 : Int32) else (0 : Int32))) = (0 : Int32) then (if (0 : Int32) = (2 : Int32) then d1 else (0 : Int32)) else (0 : Int32))) (hz1 : z1 = (if (if d1 = (0 : Int32) then (0 : Int32) else (if d1 = (1 : Int32) then (0 : Int32) else (0 : Int32))) = (0 : Int32) then ((0 : Int32) + (1 : Int32)) else (0 : Int32))) (hsv2_0 : sv2_0 = (if d2 = (0 : Int32) then (FP.dadd (if d2 = (0 : Int32) then sv1_0 else (if d2 = (1 : Int32) then sv1_1 else sv1_2)) (FP.i2d i2)) else sv1_0)) (hsv2_1 : sv2_1 = (if d2 = (1 : Int32) then (FP.dadd (if d2 = (0 : Int32) then sv1_0 else (if d2 = (1 : Int32) then sv1_1 else sv1_2)) (FP.i2d i2)) else sv1_1)) (hsv2_2 : sv2_2 = (if d2 = (2 : Int32) then (FP.dadd (if d2 = (0 : Int32) then sv1_0 else (if d2 = (1 : Int32) then sv1_1 else sv1_2)) (FP.i2d i2)) else sv1_2)) (hcv2_0 : cv2_0 = (if d2 = (0 : Int32) then ((if d2 = (0 : Int32) then cv1_0 else (if d2 = (1 : Int32) then cv1_1 else cv1_2)) + (1 : Int32)) else cv1_0)) (hcv2_1 : cv2_1 = (if d2 = (1 : Int32) then ((if d2 = (0 : Int32) then cv1_0 else (if d2 = (1 : Int32) then cv1_1 else cv1_2)) + (1 : Int32)) else cv1_1)) (hcv2_2 : cv2_2 = (if d2 = (2 : Int32) then ((if d2 = (0 : Int32) then cv1_0 else (if d2 = (1 : Int32) then cv1_1 else cv1_2)) + (1 : Int32)) else cv1_2)) (hev2_0 : ev2_0 = (if (if d2 = (0 : Int32) then cv1_0 else (if d2 = (1 : Int32) then cv1_1 else cv1_2)) = (0 : Int32) then (if z1 = (0 : Int32) then d2 else ev1_0) else ev1_0)) (hev2_1 : ev2_1 = (if (if d2 = (0 : Int32) then cv1_0 else (if d2 = (1 : Int32) then cv1_1 else cv1_2)) = (0 : Int32) then (if z1 = (1 : Int32) then d2 else ev1_1) else ev1_1)) (hev2_2 : ev2_2 = (if (if d2 = (0 : Int32) then cv1_0 else (if d2 = (1 : Int32) then cv1_1 else cv1_2)) = (0 : Int32) then (if z1 = (2 : Int32) then d2 else ev1_2) else ev1_2)) (hz2 : z2 = (if (if d2 = (0 : Int32) then cv1_0 else (if d2 = (1 : Int32) then cv1_1 else cv1_2)) = (0 : Int32) then (z1 + (1 : Int32)) else z1)) (hsv3_0 : sv3_0 = (if d3 = (0 : Int32) then (FP.dadd (if d3 = (0 : Int32) then sv2_0 else (if d3 = (1 : Int32) then sv2_1 else sv2_2)) (FP.i2d i3)) else sv2_0)) (hsv3_1 : sv3_1 = (if d3 = (1 : Int32) then (FP.dadd (if d3 = (0 : Int32) then sv2_0 else (if d3 = (1 : Int32) then sv2_1 else sv2_2)) (FP.i2d i3)) else sv2_1)) (hsv3_2 : sv3_2 = (if d3 = (2 : Int32) then (FP.dadd (if d3 = (0 : Int32) then sv2_0 else (if d3 = (1 : Int32) then sv2_1 else sv2_2)) (FP.i2d i3)) else sv2_2)) (hcv3_0 : cv3_0 = (if d3 = (0 : Int32) then ((if d3 = (0 : Int32) then cv2_0 else (if d3 = (1 : Int32) then cv2_1 else cv2_2)) + (1 : Int32)) else cv2_0)) (hcv3_1 : cv3_1 = (if d3 = (1 : Int32) then ((if d3 = (0 : Int32) then cv2_0 else (if d3 = (1 : Int32) then cv2_1 else cv2_2)) + (1 : Int32)) else cv2_1)) (hcv3_2 : cv3_2 = (if d3 = (2 : Int32) then ((if d3 = (0 : Int32) then cv2_0 else (if d3 = (1 : Int32) then cv2_1 else cv2_2)) + (1 : Int32)) else cv2_2)) (hev3_0 : ev3_0 = (if (if d3 = (0 : Int32) then cv2_0 else (if d3 = (1 : Int32) then cv2_1 else cv2_2)) = (0 : Int32) then (if z2 = (0 : Int32) then d3 else ev2_0) else ev2_0)) (hev3_1 : ev3_1 = (if (if d3 = (0 : Int32) then cv2_0 else (if d3 = (1 : Int32) then cv2_1 else cv2_2)) = (0 : Int32) then (if z2 = (1 : Int32) then d3 else ev2_1) else ev2_1)) (hev3_2 : ev3_2 = (if (if d3 = (0 : Int32) then cv2_0 else (if d3 = (1 : Int32) then cv2_1 else cv2_2)) = (0 : Int32) then (if z2 = (2 : Int32) then d3 else ev2_2) else ev2_2)) (hz3 : z3 = (if (if d3 = (0 : Int32) then cv2_0 else (if d3 = (1 : Int32) then cv2_1 else cv2_2)) = (0 : Int32) then (z2 + (1 : Int32)) else z2)) : (cmpValue (FP.dcmp (clrD z3 (0 : Int32) ev3_0 ev3_1 ev3_2 sv3_0) (0 : UInt64)) .l) = (0 : Int32) := by
  rw [(own_Z3 (own_three hd1) (own_three hd2) (own_three hd3) hsv1_0 hsv1_1 hsv1_2 hcv1_0 hcv1_1 hcv1_2 hev1_0 hev1_1 hev1_2 hz1 hsv2_0 hsv2_1 hsv2_2 hcv2_0 hcv2_1 hcv2_2 hev2_0 hev2_1 hev2_2 hz2 hsv3_0 hsv3_1 hsv3_2 hcv3_0 hcv3_1 hcv3_2 hev3_0 hev3_1 hev3_2 hz3).1]; exact own_q0
theorem own_q3_1 {i0 d1 d2 d3 i1 i2 i3 z1 cv1_0 ev1_0 cv1_1 ev1_1 cv1_2 ev1_2 z2 cv2_0 ev2_0 cv2_1 ev2_1 cv2_2 ev2_2 z3 cv3_0 ev3_0 cv3_1 ev3_1 cv3_2 ev3_2 : Int32} {sv1_0 sv1_1 sv1_2 sv2_0 sv2_1 sv2_2 sv3_0 sv3_1 sv3_2 : UInt64} (hd1 : ((i0 &&& (255 : Int32)) % (3 : Int32)) = d1) (hd2 : ((((i0.toUInt32 >>> ((8 : Int32) &&& 31).toUInt32).toInt32) &&& (255 : Int32)) % (3 : Int32)) = d2) (hd3 : ((((i0.toUInt32 >>> ((16 : Int32) &&& 31).toUInt32).toInt32) &&& (255 : Int32)) % (3 : Int32)) = d3) (hsv1_0 : sv1_0 = (if d1 = (0 : Int32) then (FP.dadd (if d1 = (0 : Int32) then (0 : UInt64) else (if d1 = (1 : Int32) then (0 : UInt64) else (0 : UInt64))) (FP.i2d i1)) else (0 : UInt64))) (hsv1_1 : sv1_1 = (if d1 = (1 : Int32) then (FP.dadd (if d1 = (0 : Int32) then (0 : UInt64) else (if d1 = (1 : Int32) then (0 : UInt64) else (0 : UInt64))) (FP.i2d i1)) else (0 : UInt64))) (hsv1_2 : sv1_2 = (if d1 = (2 : Int32) then (FP.dadd (if d1 = (0 : Int32) then (0 : UInt64) else (if d1 = (1 : Int32) then (0 : UInt64) else (0 : UInt64))) (FP.i2d i1)) else (0 : UInt64))) (hcv1_0 : cv1_0 = (if d1 = (0 : Int32) then ((if d1 = (0 : Int32) then (0 : Int32) else (if d1 = (1 : Int32) then (0 : Int32) else (0 : Int32))) + (1 : Int32)) else (0 : Int32))) (hcv1_1 : cv1_1 = (if d1 = (1 : Int32) then ((if d1 = (0 : Int32) then (0 : Int32) else (if d1 = (1 : Int32) then (0 : Int32) else (0 : Int32))) + (1 : Int32)) else (0 : Int32))) (hcv1_2 : cv1_2 = (if d1 = (2 : Int32) then ((if d1 = (0 : Int32) then (0 : Int32) else (if d1 = (1 : Int32) then (0 : Int32) else (0 : Int32))) + (1 : Int32)) else (0 : Int32))) (hev1_0 : ev1_0 = (if (if d1 = (0 : Int32) then (0 : Int32) else (if d1 = (1 : Int32) then (0 : Int32) else (0 : Int32))) = (0 : Int32) then (if (0 : Int32) = (0 : Int32) then d1 else (0 : Int32)) else (0 : Int32))) (hev1_1 : ev1_1 = (if (if d1 = (0 : Int32) then (0 : Int32) else (if d1 = (1 : Int32) then (0 : Int32) else (0 : Int32))) = (0 : Int32) then (if (0 : Int32) = (1 : Int32) then d1 else (0 : Int32)) else (0 : Int32))) (hev1_2 : ev1_2 = (if (if d1 = (0 : Int32) then (0 : Int32) else (if d1 = (1 : Int32) then (0 : Int32) else (0 : Int32))) = (0 : Int32) then (if (0 : Int32) = (2 : Int32) then d1 else (0 : Int32)) else (0 : Int32))) (hz1 : z1 = (if (if d1 = (0 : Int32) then (0 : Int32) else (if d1 = (1 : Int32) then (0 : Int32) else (0 : Int32))) = (0 : Int32) then ((0 : Int32) + (1 : Int32)) else (0 : Int32))) (hsv2_0 : sv2_0 = (if d2 = (0 : Int32) then (FP.dadd (if d2 = (0 : Int32) then sv1_0 else (if d2 = (1 : Int32) then sv1_1 else sv1_2)) (FP.i2d i2)) else sv1_0)) (hsv2_1 : sv2_1 = (if d2 = (1 : Int32) then (FP.dadd (if d2 = (0 : Int32) then sv1_0 else (if d2 = (1 : Int32) then sv1_1 else sv1_2)) (FP.i2d i2)) else sv1_1)) (hsv2_2 : sv2_2 = (if d2 = (2 : Int32) then (FP.dadd (if d2 = (0 : Int32) then sv1_0 else (if d2 = (1 : Int32) then sv1_1 else sv1_2)) (FP.i2d i2)) else sv1_2)) (hcv2_0 : cv2_0 = (if d2 = (0 : Int32) then ((if d2 = (0 : Int32) then cv1_0 else (if d2 = (1 : Int32) then cv1_1 else cv1_2)) + (1 : Int32)) else cv1_0)) (hcv2_1 : cv2_1 = (if d2 = (1 : Int32) then ((if d2 = (0 : Int32) then cv1_0 else (if d2 = (1 : Int32) then cv1_1 else cv1_2)) + (1 : Int32)) else cv1_1)) (hcv2_2 : cv2_2 = (if d2 = (2 : Int32) then ((if d2 = (0 : Int32) then cv1_0 else (if d2 = (1 : Int32) then cv1_1 else cv1_2)) + (1 : Int32)) else cv1_2)) (hev2_0 : ev2_0 = (if (if d2 = (0 : Int32) then cv1_0 else (if d2 = (1 : Int32) then cv1_1 else cv1_2)) = (0 : Int32) then (if z1 = (0 : Int32) then d2 else ev1_0) else ev1_0)) (hev2_1 : ev2_1 = (if (if d2 = (0 : Int32) then cv1_0 else (if d2 = (1 : Int32) then cv1_1 else cv1_2)) = (0 : Int32) then (if z1 = (1 : Int32) then d2 else ev1_1) else ev1_1)) (hev2_2 : ev2_2 = (if (if d2 = (0 : Int32) then cv1_0 else (if d2 = (1 : Int32) then cv1_1 else cv1_2)) = (0 : Int32) then (if z1 = (2 : Int32) then d2 else ev1_2) else ev1_2)) (hz2 : z2 = (if (if d2 = (0 : Int32) then cv1_0 else (if d2 = (1 : Int32) then cv1_1 else cv1_2)) = (0 : Int32) then (z1 + (1 : Int32)) else z1)) (hsv3_0 : sv3_0 = (if d3 = (0 : Int32) then (FP.dadd (if d3 = (0 : Int32) then sv2_0 else (if d3 = (1 : Int32) then sv2_1 else sv2_2)) (FP.i2d i3)) else sv2_0)) (hsv3_1 : sv3_1 = (if d3 = (1 : Int32) then (FP.dadd (if d3 = (0 : Int32) then sv2_0 else (if d3 = (1 : Int32) then sv2_1 else sv2_2)) (FP.i2d i3)) else sv2_1)) (hsv3_2 : sv3_2 = (if d3 = (2 : Int32) then (FP.dadd (if d3 = (0 : Int32) then sv2_0 else (if d3 = (1 : Int32) then sv2_1 else sv2_2)) (FP.i2d i3)) else sv2_2)) (hcv3_0 : cv3_0 = (if d3 = (0 : Int32) then ((if d3 = (0 : Int32) then cv2_0 else (if d3 = (1 : Int32) then cv2_1 else cv2_2)) + (1 : Int32)) else cv2_0)) (hcv3_1 : cv3_1 = (if d3 = (1 : Int32) then ((if d3 = (0 : Int32) then cv2_0 else (if d3 = (1 : Int32) then cv2_1 else cv2_2)) + (1 : Int32)) else cv2_1)) (hcv3_2 : cv3_2 = (if d3 = (2 : Int32) then ((if d3 = (0 : Int32) then cv2_0 else (if d3 = (1 : Int32) then cv2_1 else cv2_2)) + (1 : Int32)) else cv2_2)) (hev3_0 : ev3_0 = (if (if d3 = (0 : Int32) then cv2_0 else (if d3 = (1 : Int32) then cv2_1 else cv2_2)) = (0 : Int32) then (if z2 = (0 : Int32) then d3 else ev2_0) else ev2_0)) (hev3_1 : ev3_1 = (if (if d3 = (0 : Int32) then cv2_0 else (if d3 = (1 : Int32) then cv2_1 else cv2_2)) = (0 : Int32) then (if z2 = (1 : Int32) then d3 else ev2_1) else ev2_1)) (hev3_2 : ev3_2 = (if (if d3 = (0 : Int32) then cv2_0 else (if d3 = (1 : Int32) then cv2_1 else cv2_2)) = (0 : Int32) then (if z2 = (2 : Int32) then d3 else ev2_2) else ev2_2)) (hz3 : z3 = (if (if d3 = (0 : Int32) then cv2_0 else (if d3 = (1 : Int32) then cv2_1 else cv2_2)) = (0 : Int32) then (z2 + (1 : Int32)) else z2)) : (cmpValue (FP.dcmp (clrD z3 (1 : Int32) ev3_0 ev3_1 ev3_2 sv3_1) (0 : UInt64)) .l) = (0 : Int32) := by
  rw [(own_Z3 (own_three hd1) (own_three hd2) (own_three hd3) hsv1_0 hsv1_1 hsv1_2 hcv1_0 hcv1_1 hcv1_2 hev1_0 hev1_1 hev1_2 hz1 hsv2_0 hsv2_1 hsv2_2 hcv2_0 hcv2_1 hcv2_2 hev2_0 hev2_1 hev2_2 hz2 hsv3_0 hsv3_1 hsv3_2 hcv3_0 hcv3_1 hcv3_2 hev3_0 hev3_1 hev3_2 hz3).2.1]; exact own_q0
theorem own_q3_2 {i0 d1 d2 d3 i1 i2 i3 z1 cv1_0 ev1_0 cv1_1 ev1_1 cv1_2 ev1_2 z2 cv2_0 ev2_0 cv2_1 ev2_1 cv2_2 ev2_2 z3 cv3_0 ev3_0 cv3_1 ev3_1 cv3_2 ev3_2 : Int32} {sv1_0 sv1_1 sv1_2 sv2_0 sv2_1 sv2_2 sv3_0 sv3_1 sv3_2 : UInt64} (hd1 : ((i0 &&& (255 : Int32)) % (3 : Int32)) = d1) (hd2 : ((((i0.toUInt32 >>> ((8 : Int32) &&& 31).toUInt32).toInt32) &&& (255 : Int32)) % (3 : Int32)) = d2) (hd3 : ((((i0.toUInt32 >>> ((16 : Int32) &&& 31).toUInt32).toInt32) &&& (255 : Int32)) % (3 : Int32)) = d3) (hsv1_0 : sv1_0 = (if d1 = (0 : Int32) then (FP.dadd (if d1 = (0 : Int32) then (0 : UInt64) else (if d1 = (1 : Int32) then (0 : UInt64) else (0 : UInt64))) (FP.i2d i1)) else (0 : UInt64))) (hsv1_1 : sv1_1 = (if d1 = (1 : Int32) then (FP.dadd (if d1 = (0 : Int32) then (0 : UInt64) else (if d1 = (1 : Int32) then (0 : UInt64) else (0 : UInt64))) (FP.i2d i1)) else (0 : UInt64))) (hsv1_2 : sv1_2 = (if d1 = (2 : Int32) then (FP.dadd (if d1 = (0 : Int32) then (0 : UInt64) else (if d1 = (1 : Int32) then (0 : UInt64) else (0 : UInt64))) (FP.i2d i1)) else (0 : UInt64))) (hcv1_0 : cv1_0 = (if d1 = (0 : Int32) then ((if d1 = (0 : Int32) then (0 : Int32) else (if d1 = (1 : Int32) then (0 : Int32) else (0 : Int32))) + (1 : Int32)) else (0 : Int32))) (hcv1_1 : cv1_1 = (if d1 = (1 : Int32) then ((if d1 = (0 : Int32) then (0 : Int32) else (if d1 = (1 : Int32) then (0 : Int32) else (0 : Int32))) + (1 : Int32)) else (0 : Int32))) (hcv1_2 : cv1_2 = (if d1 = (2 : Int32) then ((if d1 = (0 : Int32) then (0 : Int32) else (if d1 = (1 : Int32) then (0 : Int32) else (0 : Int32))) + (1 : Int32)) else (0 : Int32))) (hev1_0 : ev1_0 = (if (if d1 = (0 : Int32) then (0 : Int32) else (if d1 = (1 : Int32) then (0 : Int32) else (0 : Int32))) = (0 : Int32) then (if (0 : Int32) = (0 : Int32) then d1 else (0 : Int32)) else (0 : Int32))) (hev1_1 : ev1_1 = (if (if d1 = (0 : Int32) then (0 : Int32) else (if d1 = (1 : Int32) then (0 : Int32) else (0 : Int32))) = (0 : Int32) then (if (0 : Int32) = (1 : Int32) then d1 else (0 : Int32)) else (0 : Int32))) (hev1_2 : ev1_2 = (if (if d1 = (0 : Int32) then (0 : Int32) else (if d1 = (1 : Int32) then (0 : Int32) else (0 : Int32))) = (0 : Int32) then (if (0 : Int32) = (2 : Int32) then d1 else (0 : Int32)) else (0 : Int32))) (hz1 : z1 = (if (if d1 = (0 : Int32) then (0 : Int32) else (if d1 = (1 : Int32) then (0 : Int32) else (0 : Int32))) = (0 : Int32) then ((0 : Int32) + (1 : Int32)) else (0 : Int32))) (hsv2_0 : sv2_0 = (if d2 = (0 : Int32) then (FP.dadd (if d2 = (0 : Int32) then sv1_0 else (if d2 = (1 : Int32) then sv1_1 else sv1_2)) (FP.i2d i2)) else sv1_0)) (hsv2_1 : sv2_1 = (if d2 = (1 : Int32) then (FP.dadd (if d2 = (0 : Int32) then sv1_0 else (if d2 = (1 : Int32) then sv1_1 else sv1_2)) (FP.i2d i2)) else sv1_1)) (hsv2_2 : sv2_2 = (if d2 = (2 : Int32) then (FP.dadd (if d2 = (0 : Int32) then sv1_0 else (if d2 = (1 : Int32) then sv1_1 else sv1_2)) (FP.i2d i2)) else sv1_2)) (hcv2_0 : cv2_0 = (if d2 = (0 : Int32) then ((if d2 = (0 : Int32) then cv1_0 else (if d2 = (1 : Int32) then cv1_1 else cv1_2)) + (1 : Int32)) else cv1_0)) (hcv2_1 : cv2_1 = (if d2 = (1 : Int32) then ((if d2 = (0 : Int32) then cv1_0 else (if d2 = (1 : Int32) then cv1_1 else cv1_2)) + (1 : Int32)) else cv1_1)) (hcv2_2 : cv2_2 = (if d2 = (2 : Int32) then ((if d2 = (0 : Int32) then cv1_0 else (if d2 = (1 : Int32) then cv1_1 else cv1_2)) + (1 : Int32)) else cv1_2)) (hev2_0 : ev2_0 = (if (if d2 = (0 : Int32) then cv1_0 else (if d2 = (1 : Int32) then cv1_1 else cv1_2)) = (0 : Int32) then (if z1 = (0 : Int32) then d2 else ev1_0) else ev1_0)) (hev2_1 : ev2_1 = (if (if d2 = (0 : Int32) then cv1_0 else (if d2 = (1 : Int32) then cv1_1 else cv1_2)) = (0 : Int32) then (if z1 = (1 : Int32) then d2 else ev1_1) else ev1_1)) (hev2_2 : ev2_2 = (if (if d2 = (0 : Int32) then cv1_0 else (if d2 = (1 : Int32) then cv1_1 else cv1_2)) = (0 : Int32) then (if z1 = (2 : Int32) then d2 else ev1_2) else ev1_2)) (hz2 : z2 = (if (if d2 = (0 : Int32) then cv1_0 else (if d2 = (1 : Int32) then cv1_1 else cv1_2)) = (0 : Int32) then (z1 + (1 : Int32)) else z1)) (hsv3_0 : sv3_0 = (if d3 = (0 : Int32) then (FP.dadd (if d3 = (0 : Int32) then sv2_0 else (if d3 = (1 : Int32) then sv2_1 else sv2_2)) (FP.i2d i3)) else sv2_0)) (hsv3_1 : sv3_1 = (if d3 = (1 : Int32) then (FP.dadd (if d3 = (0 : Int32) then sv2_0 else (if d3 = (1 : Int32) then sv2_1 else sv2_2)) (FP.i2d i3)) else sv2_1)) (hsv3_2 : sv3_2 = (if d3 = (2 : Int32) then (FP.dadd (if d3 = (0 : Int32) then sv2_0 else (if d3 = (1 : Int32) then sv2_1 else sv2_2)) (FP.i2d i3)) else sv2_2)) (hcv3_0 : cv3_0 = (if d3 = (0 : Int32) then ((if d3 = (0 : Int32) then cv2_0 else (if d3 = (1 : Int32) then cv2_1 else cv2_2)) + (1 : Int32)) else cv2_0)) (hcv3_1 : cv3_1 = (if d3 = (1 : Int32) then ((if d3 = (0 : Int32) then cv2_0 else (if d3 = (1 : Int32) then cv2_1 else cv2_2)) + (1 : Int32)) else cv2_1)) (hcv3_2 : cv3_2 = (if d3 = (2 : Int32) then ((if d3 = (0 : Int32) then cv2_0 else (if d3 = (1 : Int32) then cv2_1 else cv2_2)) + (1 : Int32)) else cv2_2)) (hev3_0 : ev3_0 = (if (if d3 = (0 : Int32) then cv2_0 else (if d3 = (1 : Int32) then cv2_1 else cv2_2)) = (0 : Int32) then (if z2 = (0 : Int32) then d3 else ev2_0) else ev2_0)) (hev3_1 : ev3_1 = (if (if d3 = (0 : Int32) then cv2_0 else (if d3 = (1 : Int32) then cv2_1 else cv2_2)) = (0 : Int32) then (if z2 = (1 : Int32) then d3 else ev2_1) else ev2_1)) (hev3_2 : ev3_2 = (if (if d3 = (0 : Int32) then cv2_0 else (if d3 = (1 : Int32) then cv2_1 else cv2_2)) = (0 : Int32) then (if z2 = (2 : Int32) then d3 else ev2_2) else ev2_2)) (hz3 : z3 = (if (if d3 = (0 : Int32) then cv2_0 else (if d3 = (1 : Int32) then cv2_1 else cv2_2)) = (0 : Int32) then (z2 + (1 : Int32)) else z2)) : (cmpValue (FP.dcmp (clrD z3 (2 : Int32) ev3_0 ev3_1 ev3_2 sv3_2) (0 : UInt64)) .l) = (0 : Int32) := by
  rw [(own_Z3 (own_three hd1) (own_three hd2) (own_three hd3) hsv1_0 hsv1_1 hsv1_2 hcv1_0 hcv1_1 hcv1_2 hev1_0 hev1_1 hev1_2 hz1 hsv2_0 hsv2_1 hsv2_2 hcv2_0 hcv2_1 hcv2_2 hev2_0 hev2_1 hev2_2 hz2 hsv3_0 hsv3_1 hsv3_2 hcv3_0 hcv3_1 hcv3_2 hev3_0 hev3_1 hev3_2 hz3).2.2]; exact own_q0
end PureClear

theorem pd_0 : parseMethodDescriptor "(I)V" = some ⟨[.int], none⟩ := by decide +kernel
theorem pd_1 : parseMethodDescriptor "()V" = some ⟨[], none⟩ := by decide +kernel
theorem pd_2 : parseMethodDescriptor "()I" = some ⟨[], some .int⟩ := by decide +kernel
theorem pd_3 : parseMethodDescriptor "(I)I" = some ⟨[.int], some .int⟩ := by decide +kernel
theorem pd_4 : parseMethodDescriptor "(I)D" = some ⟨[.int], some .double⟩ := by decide +kernel
theorem pd_5 : parseMethodDescriptor "(ID)V" = some ⟨[.int, .double], none⟩ := by decide +kernel
theorem pn_1 : plainName "com/example/clirtools/clirtools/DocumentSumsClearPinLaw" = true := by first | (simp [plainName, overriddenIn]; done) | decide +kernel
theorem ef_rm0 (m : MethodId) (cnt : Int32) (i0 : Int32) (i1 : Int32) (i2 : Int32) (i3 : Int32) : entryFrame m #[(.int cnt), (.int i0), (.int i1), (.int i2), (.int i3)] maxLocals = mkF m 0 #[.val (.int cnt), .val (.int i0), .val (.int i1), .val (.int i2), .val (.int i3), .unset, .unset, .unset, .unset, .unset, .unset] [] := by first | (simp [entryFrame, mkF, argsToLocals, Value.category, maxLocals]; done) | rfl
def Q_rm0 (Z : State) (cnt : Int32) (i0 : Int32) (i1 : Int32) (i2 : Int32) (i3 : Int32) (h0 : Heap) (n0 : Nat) (v : Option Value) (h : Heap) (L : List Loc) : Prop := v = some (.int 1) ∧ Fr n0 L
set_option maxRecDepth 65536 in
set_option maxHeartbeats 40000000 in
theorem rm0 (l : Launch) (Z : State) (aw : Array Value) (hw : ∀ d ∈ tables_1, d.before aw Z = true) (ws : List Jvm.Cond) (cnt : Int32) (i0 : Int32) (i1 : Int32) (i2 : Int32) (i3 : Int32) (h0 : Heap) (n0 : Nat) (Z0 : n0 ≤ h0.size) :
    MetFree l x (head1 (Jvm.Cond.code x code maxLocals ret :: ws) room_1) (fun a U => a = #[(.int cnt), (.int i0), (.int i1), (.int i2), (.int i3)] ∧ Z.Warmed39 U.vm ∧ U.heap = h0) (fun _ _ _ _ _ => True) (fun _ U o U' => ∃ v L, o = .returned v ∧ Q_rm0 Z cnt i0 i1 i2 i3 h0 n0 v U'.heap L ∧ FrameEnd U o U' L 4 13) := by
  refine MetFree.of_bodySF (plainFor_of_name pn_1) hisR ?_
  intro p e s m args below meth c s₁ Bd hml0 hP hK
  obtain ⟨rfl, hZ, hh⟩ := hP
  have hx := Bd.exec
  have hby := Bd.bytes
  have hml : c.maxLocals = 11 := hml0
  have hown : s.vm.findClass "com/example/clirtools/clirtools/DocumentSumsClearPinLaw" = some m.cls := findClass_of_methodNamed Bd.named
  have hnm := (name_of_methodNamed Bd.named Bd.method).1
  have hlk : meth.locks = false := BodyLoose.notSynchronized Bd
  have X0 : Stand p l e room_1 s m #[(.int cnt), (.int i0), (.int i1), (.int i2), (.int i3)] below meth c s₁ [] 0 0 := Stand.of_body Bd
  have e0 : s₁.heap = h0 := by rw [← hh, Bd.state]; rfl
  have N0 := Fr.nil n0
  have ZZ := Z0
  show Go p e below s 4 13 (fun v h L => Q_rm0 Z cnt i0 i1 i2 i3 h0 n0 v h L) s₁ (entryFrame m #[(.int cnt), (.int i0), (.int i1), (.int i2), (.int i3)] maxLocals)
  refine Go.cast (ef_rm0 m cnt i0 i1 i2 i3) ?_
  refine Go.gen ?_
  intro K1 K2 QQ hK1 hK2 hQQ
  refine Go.on (fun _ k => XS.iloadN X0.here hx rfl (hb hby at_0) rfl k) ?_
  show Go _ _ _ _ _ _ _ _ (mkF m 1 #[.val (.int cnt), .val (.int i0), .val (.int i1), .val (.int i2), .val (.int i3), .unset, .unset, .unset, .unset, .unset, .unset] [(.int cnt)])
  refine Go.on (fun _ k => XS.iconst X0.here hx rfl (hb hby at_1) k) ?_
  show Go _ _ _ _ _ _ _ _ (mkF m 2 #[.val (.int cnt), .val (.int i0), .val (.int i1), .val (.int i2), .val (.int i3), .unset, .unset, .unset, .unset, .unset, .unset] [(.int (3 : Int32)), (.int cnt)])
  refine Go.on (fun _ k => XS.iand X0.here hx rfl (hb hby at_2) rfl k) ?_
  show Go _ _ _ _ _ _ _ _ (mkF m 3 #[.val (.int cnt), .val (.int i0), .val (.int i1), .val (.int i2), .val (.int i3), .unset, .unset, .unset, .unset, .unset, .unset] [(.int (cnt &&& (3 : Int32)))])
  refine Go.on (fun _ k => XS.istore X0.here hx rfl (hb hby at_3) rfl (l' := #[.val (.int cnt), .val (.int i0), .val (.int i1), .val (.int i2), .val (.int i3), .val (.int (cnt &&& (3 : Int32))), .unset, .unset, .unset, .unset, .unset]) rfl k) ?_
  show Go _ _ _ _ _ _ _ _ (mkF m 5 #[.val (.int cnt), .val (.int i0), .val (.int i1), .val (.int i2), .val (.int i3), .val (.int (cnt &&& (3 : Int32))), .unset, .unset, .unset, .unset, .unset] [])
  generalize hn : (cnt &&& (3 : Int32)) = n
  show Go _ _ _ _ _ _ _ _ (mkF m 5 #[.val (.int cnt), .val (.int i0), .val (.int i1), .val (.int i2), .val (.int i3), .val (.int n), .unset, .unset, .unset, .unset, .unset] [])
  refine Go.on (fun _ k => XS.iloadN X0.here hx rfl (hb hby at_5) rfl k) ?_
  show Go _ _ _ _ _ _ _ _ (mkF m 6 #[.val (.int cnt), .val (.int i0), .val (.int i1), .val (.int i2), .val (.int i3), .val (.int n), .unset, .unset, .unset, .unset, .unset] [(.int i0)])
  refine Go.on (fun _ k => XS.sipush X0.here hx rfl (hb hby at_6) k) ?_
  show Go _ _ _ _ _ _ _ _ (mkF m 9 #[.val (.int cnt), .val (.int i0), .val (.int i1), .val (.int i2), .val (.int i3), .val (.int n), .unset, .unset, .unset, .unset, .unset] [(.int (255 : Int32)), (.int i0)])
  refine Go.on (fun _ k => XS.iand X0.here hx rfl (hb hby at_9) rfl k) ?_
  show Go _ _ _ _ _ _ _ _ (mkF m 10 #[.val (.int cnt), .val (.int i0), .val (.int i1), .val (.int i2), .val (.int i3), .val (.int n), .unset, .unset, .unset, .unset, .unset] [(.int (i0 &&& (255 : Int32)))])
  refine Go.on (fun _ k => XS.iconst X0.here hx rfl (hb hby at_10) k) ?_
  show Go _ _ _ _ _ _ _ _ (mkF m 11 #[.val (.int cnt), .val (.int i0), .val (.int i1), .val (.int i2), .val (.int i3), .val (.int n), .unset, .unset, .unset, .unset, .unset] [(.int (3 : Int32)), (.int (i0 &&& (255 : Int32)))])
  refine Go.on (fun _ k => iremM X0 hx rfl (hb hby at_11) rfl (by decide) k) ?_
  show Go _ _ _ _ _ _ _ _ (mkF m 12 #[.val (.int cnt), .val (.int i0), .val (.int i1), .val (.int i2), .val (.int i3), .val (.int n), .unset, .unset, .unset, .unset, .unset] [(.int ((i0 &&& (255 : Int32)) % (3 : Int32)))])
  refine Go.on (fun _ k => XS.istore X0.here hx rfl (hb hby at_12) rfl (l' := #[.val (.int cnt), .val (.int i0), .val (.int i1), .val (.int i2), .val (.int i3), .val (.int n), .val (.int ((i0 &&& (255 : Int32)) % (3 : Int32))), .unset, .unset, .unset, .unset]) rfl k) ?_
  show Go _ _ _ _ _ _ _ _ (mkF m 14 #[.val (.int cnt), .val (.int i0), .val (.int i1), .val (.int i2), .val (.int i3), .val (.int n), .val (.int ((i0 &&& (255 : Int32)) % (3 : Int32))), .unset, .unset, .unset, .unset] [])
  generalize hd1 : ((i0 &&& (255 : Int32)) % (3 : Int32)) = d1
  show Go _ _ _ _ _ _ _ _ (mkF m 14 #[.val (.int cnt), .val (.int i0), .val (.int i1), .val (.int i2), .val (.int i3), .val (.int n), .val (.int d1), .unset, .unset, .unset, .unset] [])
  refine Go.on (fun _ k => XS.iloadN X0.here hx rfl (hb hby at_14) rfl k) ?_
  show Go _ _ _ _ _ _ _ _ (mkF m 15 #[.val (.int cnt), .val (.int i0), .val (.int i1), .val (.int i2), .val (.int i3), .val (.int n), .val (.int d1), .unset, .unset, .unset, .unset] [(.int i0)])
  refine Go.on (fun _ k => XS.bipush X0.here hx rfl (hb hby at_15) k) ?_
  show Go _ _ _ _ _ _ _ _ (mkF m 17 #[.val (.int cnt), .val (.int i0), .val (.int i1), .val (.int i2), .val (.int i3), .val (.int n), .val (.int d1), .unset, .unset, .unset, .unset] [(.int (8 : Int32)), (.int i0)])
  refine Go.on (fun _ k => XS.iushr X0.here hx rfl (hb hby at_17) rfl k) ?_
  show Go _ _ _ _ _ _ _ _ (mkF m 18 #[.val (.int cnt), .val (.int i0), .val (.int i1), .val (.int i2), .val (.int i3), .val (.int n), .val (.int d1), .unset, .unset, .unset, .unset] [(.int ((i0.toUInt32 >>> ((8 : Int32) &&& 31).toUInt32).toInt32))])
  refine Go.on (fun _ k => XS.sipush X0.here hx rfl (hb hby at_18) k) ?_
  show Go _ _ _ _ _ _ _ _ (mkF m 21 #[.val (.int cnt), .val (.int i0), .val (.int i1), .val (.int i2), .val (.int i3), .val (.int n), .val (.int d1), .unset, .unset, .unset, .unset] [(.int (255 : Int32)), (.int ((i0.toUInt32 >>> ((8 : Int32) &&& 31).toUInt32).toInt32))])
  refine Go.on (fun _ k => XS.iand X0.here hx rfl (hb hby at_21) rfl k) ?_
  show Go _ _ _ _ _ _ _ _ (mkF m 22 #[.val (.int cnt), .val (.int i0), .val (.int i1), .val (.int i2), .val (.int i3), .val (.int n), .val (.int d1), .unset, .unset, .unset, .unset] [(.int (((i0.toUInt32 >>> ((8 : Int32) &&& 31).toUInt32).toInt32) &&& (255 : Int32)))])
  refine Go.on (fun _ k => XS.iconst X0.here hx rfl (hb hby at_22) k) ?_
  show Go _ _ _ _ _ _ _ _ (mkF m 23 #[.val (.int cnt), .val (.int i0), .val (.int i1), .val (.int i2), .val (.int i3), .val (.int n), .val (.int d1), .unset, .unset, .unset, .unset] [(.int (3 : Int32)), (.int (((i0.toUInt32 >>> ((8 : Int32) &&& 31).toUInt32).toInt32) &&& (255 : Int32)))])
  refine Go.on (fun _ k => iremM X0 hx rfl (hb hby at_23) rfl (by decide) k) ?_
  show Go _ _ _ _ _ _ _ _ (mkF m 24 #[.val (.int cnt), .val (.int i0), .val (.int i1), .val (.int i2), .val (.int i3), .val (.int n), .val (.int d1), .unset, .unset, .unset, .unset] [(.int ((((i0.toUInt32 >>> ((8 : Int32) &&& 31).toUInt32).toInt32) &&& (255 : Int32)) % (3 : Int32)))])
  refine Go.on (fun _ k => XS.istore X0.here hx rfl (hb hby at_24) rfl (l' := #[.val (.int cnt), .val (.int i0), .val (.int i1), .val (.int i2), .val (.int i3), .val (.int n), .val (.int d1), .val (.int ((((i0.toUInt32 >>> ((8 : Int32) &&& 31).toUInt32).toInt32) &&& (255 : Int32)) % (3 : Int32))), .unset, .unset, .unset]) rfl k) ?_
  show Go _ _ _ _ _ _ _ _ (mkF m 26 #[.val (.int cnt), .val (.int i0), .val (.int i1), .val (.int i2), .val (.int i3), .val (.int n), .val (.int d1), .val (.int ((((i0.toUInt32 >>> ((8 : Int32) &&& 31).toUInt32).toInt32) &&& (255 : Int32)) % (3 : Int32))), .unset, .unset, .unset] [])
  generalize hd2 : ((((i0.toUInt32 >>> ((8 : Int32) &&& 31).toUInt32).toInt32) &&& (255 : Int32)) % (3 : Int32)) = d2
  show Go _ _ _ _ _ _ _ _ (mkF m 26 #[.val (.int cnt), .val (.int i0), .val (.int i1), .val (.int i2), .val (.int i3), .val (.int n), .val (.int d1), .val (.int d2), .unset, .unset, .unset] [])
  refine Go.on (fun _ k => XS.iloadN X0.here hx rfl (hb hby at_26) rfl k) ?_
  show Go _ _ _ _ _ _ _ _ (mkF m 27 #[.val (.int cnt), .val (.int i0), .val (.int i1), .val (.int i2), .val (.int i3), .val (.int n), .val (.int d1), .val (.int d2), .unset, .unset, .unset] [(.int i0)])
  refine Go.on (fun _ k => XS.bipush X0.here hx rfl (hb hby at_27) k) ?_
  show Go _ _ _ _ _ _ _ _ (mkF m 29 #[.val (.int cnt), .val (.int i0), .val (.int i1), .val (.int i2), .val (.int i3), .val (.int n), .val (.int d1), .val (.int d2), .unset, .unset, .unset] [(.int (16 : Int32)), (.int i0)])
  refine Go.on (fun _ k => XS.iushr X0.here hx rfl (hb hby at_29) rfl k) ?_
  show Go _ _ _ _ _ _ _ _ (mkF m 30 #[.val (.int cnt), .val (.int i0), .val (.int i1), .val (.int i2), .val (.int i3), .val (.int n), .val (.int d1), .val (.int d2), .unset, .unset, .unset] [(.int ((i0.toUInt32 >>> ((16 : Int32) &&& 31).toUInt32).toInt32))])
  refine Go.on (fun _ k => XS.sipush X0.here hx rfl (hb hby at_30) k) ?_
  show Go _ _ _ _ _ _ _ _ (mkF m 33 #[.val (.int cnt), .val (.int i0), .val (.int i1), .val (.int i2), .val (.int i3), .val (.int n), .val (.int d1), .val (.int d2), .unset, .unset, .unset] [(.int (255 : Int32)), (.int ((i0.toUInt32 >>> ((16 : Int32) &&& 31).toUInt32).toInt32))])
  refine Go.on (fun _ k => XS.iand X0.here hx rfl (hb hby at_33) rfl k) ?_
  show Go _ _ _ _ _ _ _ _ (mkF m 34 #[.val (.int cnt), .val (.int i0), .val (.int i1), .val (.int i2), .val (.int i3), .val (.int n), .val (.int d1), .val (.int d2), .unset, .unset, .unset] [(.int (((i0.toUInt32 >>> ((16 : Int32) &&& 31).toUInt32).toInt32) &&& (255 : Int32)))])
  refine Go.on (fun _ k => XS.iconst X0.here hx rfl (hb hby at_34) k) ?_
  show Go _ _ _ _ _ _ _ _ (mkF m 35 #[.val (.int cnt), .val (.int i0), .val (.int i1), .val (.int i2), .val (.int i3), .val (.int n), .val (.int d1), .val (.int d2), .unset, .unset, .unset] [(.int (3 : Int32)), (.int (((i0.toUInt32 >>> ((16 : Int32) &&& 31).toUInt32).toInt32) &&& (255 : Int32)))])
  refine Go.on (fun _ k => iremM X0 hx rfl (hb hby at_35) rfl (by decide) k) ?_
  show Go _ _ _ _ _ _ _ _ (mkF m 36 #[.val (.int cnt), .val (.int i0), .val (.int i1), .val (.int i2), .val (.int i3), .val (.int n), .val (.int d1), .val (.int d2), .unset, .unset, .unset] [(.int ((((i0.toUInt32 >>> ((16 : Int32) &&& 31).toUInt32).toInt32) &&& (255 : Int32)) % (3 : Int32)))])
  refine Go.on (fun _ k => XS.istore X0.here hx rfl (hb hby at_36) rfl (l' := #[.val (.int cnt), .val (.int i0), .val (.int i1), .val (.int i2), .val (.int i3), .val (.int n), .val (.int d1), .val (.int d2), .val (.int ((((i0.toUInt32 >>> ((16 : Int32) &&& 31).toUInt32).toInt32) &&& (255 : Int32)) % (3 : Int32))), .unset, .unset]) rfl k) ?_
  show Go _ _ _ _ _ _ _ _ (mkF m 38 #[.val (.int cnt), .val (.int i0), .val (.int i1), .val (.int i2), .val (.int i3), .val (.int n), .val (.int d1), .val (.int d2), .val (.int ((((i0.toUInt32 >>> ((16 : Int32) &&& 31).toUInt32).toInt32) &&& (255 : Int32)) % (3 : Int32))), .unset, .unset] [])
  generalize hd3 : ((((i0.toUInt32 >>> ((16 : Int32) &&& 31).toUInt32).toInt32) &&& (255 : Int32)) % (3 : Int32)) = d3
  show Go _ _ _ _ _ _ _ _ (mkF m 38 #[.val (.int cnt), .val (.int i0), .val (.int i1), .val (.int i2), .val (.int i3), .val (.int n), .val (.int d1), .val (.int d2), .val (.int d3), .unset, .unset] [])
  obtain ⟨T1, h1, X1, e1, E1, A1, D1, -, st1⟩ := newO X0 hx hZ hown (hw _ (List.mem_of_getElem? (i := 0) rfl)) (hw _ (List.mem_of_getElem? (i := 1) rfl)) (hw _ (List.mem_of_getElem? (i := 2) rfl)) e0 (g := (mkF m 38 #[.val (.int cnt), .val (.int i0), .val (.int i1), .val (.int i2), .val (.int i3), .val (.int n), .val (.int d1), .val (.int d2), .val (.int d3), .unset, .unset] [])) rfl (hb hby at_38) (by decide) (by decide)
  obtain ⟨q, g1⟩ : ∃ z, z = h0.size := ⟨_, rfl⟩
  have g_q : n0 ≤ q := Nat.le_trans ZZ (Nat.le_of_eq g1.symm)
  rw [← g1] at A1 D1 st1
  replace ZZ := Nat.le_trans ZZ E1.1
  have E_q := A1
  have F_sums_q : Fld Z h1 q "com/example/clirtools/clirtools/DocumentSums" "sums" "[D" .null := D1 (Or.inr (hw _ (List.mem_of_getElem? (i := 11) rfl))) (ty := (.array .double)) (by decide)
  have F_counts_q : Fld Z h1 q "com/example/clirtools/clirtools/DocumentSums" "counts" "[I" .null := D1 (Or.inr (hw _ (List.mem_of_getElem? (i := 14) rfl))) (ty := (.array .int)) (by decide)
  have F_documents_q : Fld Z h1 q "com/example/clirtools/clirtools/DocumentSums" "documents" "[I" .null := D1 (Or.inr (hw _ (List.mem_of_getElem? (i := 16) rfl))) (ty := (.array .int)) (by decide)
  have F_size_q : Fld Z h1 q "com/example/clirtools/clirtools/DocumentSums" "size" "I" (.int (0 : Int32)) := D1 (Or.inl (hw _ (List.mem_of_getElem? (i := 23) rfl))) (ty := .int) (by decide)
  refine Go.on st1 ?_
  show Go _ _ _ _ _ _ _ _ (mkF m 41 #[.val (.int cnt), .val (.int i0), .val (.int i1), .val (.int i2), .val (.int i3), .val (.int n), .val (.int d1), .val (.int d2), .val (.int d3), .unset, .unset] [(.ref q)])
  refine Go.on (fun _ k => XS.dup X1.here hx rfl (hb hby at_41) rfl rfl k) ?_
  show Go _ _ _ _ _ _ _ _ (mkF m 42 #[.val (.int cnt), .val (.int i0), .val (.int i1), .val (.int i2), .val (.int i3), .val (.int n), .val (.int d1), .val (.int d2), .val (.int d3), .unset, .unset] [(.ref q), (.ref q)])
  refine Go.on (fun _ k => XS.iconst X1.here hx rfl (hb hby at_42) k) ?_
  show Go _ _ _ _ _ _ _ _ (mkF m 43 #[.val (.int cnt), .val (.int i0), .val (.int i1), .val (.int i2), .val (.int i3), .val (.int n), .val (.int d1), .val (.int d2), .val (.int d3), .unset, .unset] [(.int (3 : Int32)), (.ref q), (.ref q)])
  obtain ⟨_, _, ⟨T2, L2, k2, n2⟩, -, X2, ⟨Lc2, hQ2, l2, y2, z2⟩, st2⟩ := X1.specialBack hx (y := (⟨"com/example/clirtools/clirtools/DocumentSums", "<init>", "(I)V"⟩ : MethodName)) rfl hown (mvT hZ (hw _ (List.mem_of_getElem? (i := 3) rfl))) (mvT hZ (hw _ (List.mem_of_getElem? (i := 4) rfl))) (mvT hZ (hw _ (List.mem_of_getElem? (i := 5) rfl))) (by decide) (backOf (W := 1) (rm1 l Z aw hw [] q .null .null .null h1 n0 ZZ E_q F_sums_q F_counts_q F_documents_q F_size_q g_q) hZ (hw _ (List.mem_of_getElem? (i := 5) rfl)) (hw _ (List.mem_of_getElem? (i := 2) rfl)) (by decide) (by decide)) (g := (mkF m 43 #[.val (.int cnt), .val (.int i0), .val (.int i1), .val (.int i2), .val (.int i3), .val (.int n), .val (.int d1), .val (.int d2), .val (.int d3), .unset, .unset] [(.int (3 : Int32)), (.ref q), (.ref q)])) rfl (by rw [hml]; rfl) (Steps.refl _) (a := q) (argsL := [(.int (3 : Int32))]) (rest := [(.ref q)]) (lenOf pd_0 rfl) rfl (by show 2 * 0 + _ ≤ _; exact Nat.le_of_eq rfl) (hb hby at_43) (fun _ _ => ⟨rfl, e1, (by decide : 1 + 3 ≤ _), (by decide : 4 + 9 ≤ _)⟩)
  dsimp only [Pt.U, Pt.locs, Pt.cells, Pt.slots] at X2 l2 y2 z2 st2 hQ2
  subst l2 y2 z2
  obtain ⟨h2, e2⟩ : ∃ q, T2.heap = q := ⟨_, rfl⟩
  rw [e2] at hQ2
  obtain ⟨rfl, N2q, as, ac, ad, k_as, k_ac, k_ad, K2q, szasq, szacq, szadq, ne_as_ac, ne_as_ad, ne_ac_ad, Eq2, F_sumsq, F_countsq, F_documentsq, F_sizeq, V_as, V_ac, V_ad⟩ := hQ2
  have N2 := Fr.app N0 N2q
  have ZZ2p := ZZ
  have lt_q := E_q.lt
  replace E_q := E_q.keep K2q
  replace ZZ := Nat.le_trans ZZ K2q.1
  have F_sums_q := F_sumsq
  have F_counts_q := F_countsq
  have F_documents_q := F_documentsq
  have F_size_q := F_sizeq
  have g_as : n0 ≤ as := Nat.le_trans ZZ2p szasq
  have ne_q_as : q ≠ as := Nat.ne_of_lt (Nat.lt_of_lt_of_le lt_q szasq)
  have g_ac : n0 ≤ ac := Nat.le_trans ZZ2p szacq
  have ne_q_ac : q ≠ ac := Nat.ne_of_lt (Nat.lt_of_lt_of_le lt_q szacq)
  have g_ad : n0 ≤ ad := Nat.le_trans ZZ2p szadq
  have ne_q_ad : q ≠ ad := Nat.ne_of_lt (Nat.lt_of_lt_of_le lt_q szadq)
  refine Go.on (fun _ k => st2.trans k) ?_
  show Go _ _ _ _ _ _ _ _ (mkF m 46 #[.val (.int cnt), .val (.int i0), .val (.int i1), .val (.int i2), .val (.int i3), .val (.int n), .val (.int d1), .val (.int d2), .val (.int d3), .unset, .unset] [(.ref q)])
  refine Go.on (fun _ k => XS.astore X2.here hx rfl (hb hby at_46) rfl rfl (l' := #[.val (.int cnt), .val (.int i0), .val (.int i1), .val (.int i2), .val (.int i3), .val (.int n), .val (.int d1), .val (.int d2), .val (.int d3), .val (.ref q), .unset]) rfl k) ?_
  show Go _ _ _ _ _ _ _ _ (mkF m 48 #[.val (.int cnt), .val (.int i0), .val (.int i1), .val (.int i2), .val (.int i3), .val (.int n), .val (.int d1), .val (.int d2), .val (.int d3), .val (.ref q), .unset] [])
  rcases own_n hn with hl | hl | hl | hl
  · -- 0 values
    subst hl
    show Go _ _ _ _ _ _ _ _ (mkF m 48 #[.val (.int cnt), .val (.int i0), .val (.int i1), .val (.int i2), .val (.int i3), .val (.int (0 : Int32)), .val (.int d1), .val (.int d2), .val (.int d3), .val (.ref q), .unset] [])
    refine Go.on (fun _ k => XS.iload X2.here hx rfl (hb hby at_48) rfl k) ?_
    show Go _ _ _ _ _ _ _ _ (mkF m 50 #[.val (.int cnt), .val (.int i0), .val (.int i1), .val (.int i2), .val (.int i3), .val (.int (0 : Int32)), .val (.int d1), .val (.int d2), .val (.int d3), .val (.ref q), .unset] [(.int (0 : Int32))])
    have hc3 : ¬ ((0 : Int32) < (0 : Int32)) := by decide
    refine Go.on (fun _ k => XS.ifYes X2.here hx rfl (pc0 := 50) (pc' := 62) rfl (hb hby at_50) rfl ((if0 _ _).trans (flt hc3).2.2.2) (by decide) (by decide) k) ?_
    show Go _ _ _ _ _ _ _ _ (mkF m 62 #[.val (.int cnt), .val (.int i0), .val (.int i1), .val (.int i2), .val (.int i3), .val (.int (0 : Int32)), .val (.int d1), .val (.int d2), .val (.int d3), .val (.ref q), .unset] [])
    refine Go.on (fun _ k => XS.iload X2.here hx rfl (hb hby at_62) rfl k) ?_
    show Go _ _ _ _ _ _ _ _ (mkF m 64 #[.val (.int cnt), .val (.int i0), .val (.int i1), .val (.int i2), .val (.int i3), .val (.int (0 : Int32)), .val (.int d1), .val (.int d2), .val (.int d3), .val (.ref q), .unset] [(.int (0 : Int32))])
    refine Go.on (fun _ k => XS.iconst X2.here hx rfl (hb hby at_64) k) ?_
    show Go _ _ _ _ _ _ _ _ (mkF m 65 #[.val (.int cnt), .val (.int i0), .val (.int i1), .val (.int i2), .val (.int i3), .val (.int (0 : Int32)), .val (.int d1), .val (.int d2), .val (.int d3), .val (.ref q), .unset] [(.int (1 : Int32)), (.int (0 : Int32))])
    have hc4 : ¬ ((1 : Int32) < (0 : Int32)) := by decide
    refine Go.on (fun _ k => XS.icmpYes X2.here hx rfl (pc0 := 65) (pc' := 77) rfl (hb hby at_65) rfl (flt hc4).2.2.2 (by decide) (by decide) k) ?_
    show Go _ _ _ _ _ _ _ _ (mkF m 77 #[.val (.int cnt), .val (.int i0), .val (.int i1), .val (.int i2), .val (.int i3), .val (.int (0 : Int32)), .val (.int d1), .val (.int d2), .val (.int d3), .val (.ref q), .unset] [])
    refine Go.on (fun _ k => XS.iload X2.here hx rfl (hb hby at_77) rfl k) ?_
    show Go _ _ _ _ _ _ _ _ (mkF m 79 #[.val (.int cnt), .val (.int i0), .val (.int i1), .val (.int i2), .val (.int i3), .val (.int (0 : Int32)), .val (.int d1), .val (.int d2), .val (.int d3), .val (.ref q), .unset] [(.int (0 : Int32))])
    refine Go.on (fun _ k => XS.iconst X2.here hx rfl (hb hby at_79) k) ?_
    show Go _ _ _ _ _ _ _ _ (mkF m 80 #[.val (.int cnt), .val (.int i0), .val (.int i1), .val (.int i2), .val (.int i3), .val (.int (0 : Int32)), .val (.int d1), .val (.int d2), .val (.int d3), .val (.ref q), .unset] [(.int (2 : Int32)), (.int (0 : Int32))])
    have hc5 : ¬ ((2 : Int32) < (0 : Int32)) := by decide
    refine Go.on (fun _ k => XS.icmpYes X2.here hx rfl (pc0 := 80) (pc' := 93) rfl (hb hby at_80) rfl (flt hc5).2.2.2 (by decide) (by decide) k) ?_
    show Go _ _ _ _ _ _ _ _ (mkF m 93 #[.val (.int cnt), .val (.int i0), .val (.int i1), .val (.int i2), .val (.int i3), .val (.int (0 : Int32)), .val (.int d1), .val (.int d2), .val (.int d3), .val (.ref q), .unset] [])
    refine Go.on (fun _ k => XS.aload X2.here hx rfl (hb hby at_93) rfl rfl k) ?_
    show Go _ _ _ _ _ _ _ _ (mkF m 95 #[.val (.int cnt), .val (.int i0), .val (.int i1), .val (.int i2), .val (.int i3), .val (.int (0 : Int32)), .val (.int d1), .val (.int d2), .val (.int d3), .val (.ref q), .unset] [(.ref q)])
    obtain ⟨cq6, kq6, q6a, q6b, q6c⟩ := isOf hZ e2 E_q
    obtain ⟨_, _, ⟨T6, L6, k6, n6⟩, -, X6, ⟨Lc6, hQ6, l6, y6, z6⟩, st6⟩ := X2.virtualBack hx (y := (⟨"com/example/clirtools/clirtools/DocumentSums", "clear", "()V"⟩ : MethodName)) (z := (⟨"com/example/clirtools/clirtools/DocumentSums", "clear", "()V"⟩ : MethodName)) hown (mvT hZ (hw _ (List.mem_of_getElem? (i := 17) rfl))) (mvT hZ (hw _ (List.mem_of_getElem? (i := 18) rfl))) (notFace_of_selects (args := #[]) (mvT hZ (hw _ (List.mem_of_getElem? (i := 20) rfl)))) (mvT hZ (hw _ (List.mem_of_getElem? (i := 20) rfl))) (mvT hZ (hw _ (List.mem_of_getElem? (i := 19) rfl))) (by decide) (backOf (W := 0) (rm3 l Z aw hw [] q as ac ad (0 : Int32) k_as (0 : UInt64) (0 : UInt64) (0 : UInt64) k_ac (0 : Int32) (0 : Int32) (0 : Int32) k_ad (0 : Int32) (0 : Int32) (0 : Int32) h2 n0 ZZ E_q F_sums_q F_counts_q F_documents_q F_size_q V_as V_ac V_ad g_q g_as g_ac ne_q_as ne_q_ac ne_q_ad ne_as_ac ne_as_ad ne_ac_ad (Or.inl rfl) (fun q => absurd q (by decide)) (fun q => absurd q (by decide)) (fun q => absurd q (by decide))) hZ (hw _ (List.mem_of_getElem? (i := 21) rfl)) (hw _ (List.mem_of_getElem? (i := 2) rfl)) (by decide) (by decide)) q6a q6c (g := (mkF m 95 #[.val (.int cnt), .val (.int i0), .val (.int i1), .val (.int i2), .val (.int i3), .val (.int (0 : Int32)), .val (.int d1), .val (.int d2), .val (.int d3), .val (.ref q), .unset] [(.ref q)])) rfl (by rw [hml]; rfl) (Steps.refl _) (argsL := []) (rest := []) (lenOf pd_1 rfl) rfl (by show 2 * 0 + _ ≤ _; exact Nat.le_of_eq rfl) (hb hby at_95) (fun _ _ => ⟨rfl, e2, (by decide : 4 + 0 ≤ _), (by decide : 13 + 0 ≤ _)⟩)
    dsimp only [Pt.U, Pt.locs, Pt.cells, Pt.slots] at X6 l6 y6 z6 st6 hQ6
    subst l6 y6 z6
    obtain ⟨h6, e6⟩ : ∃ q, T6.heap = q := ⟨_, rfl⟩
    rw [e6] at hQ6
    obtain ⟨rfl, N6q, K6q, Eq6, F_sumsq6, F_countsq6, F_documentsq6, F_sizeq6, V_Sq6, V_Cq6⟩ := hQ6
    have N6 := Fr.app N2 N6q
    have ZZ6p := ZZ
    have lt_q := E_q.lt
    have lt_as := V_as.lt
    have lt_ac := V_ac.lt
    have lt_ad := V_ad.lt
    replace E_q := E_q.keep K6q
    replace V_ad := V_ad.keep K6q (ninS (Ne.symm ne_q_ad) (ninS (Ne.symm ne_as_ad) (ninS (Ne.symm ne_ac_ad) nin0)))
    replace ZZ := Nat.le_trans ZZ K6q.1
    have F_sums_q := F_sumsq6
    have F_counts_q := F_countsq6
    have F_documents_q := F_documentsq6
    have F_size_q := F_sizeq6
    have V_as := V_Sq6
    have V_ac := V_Cq6
    refine Go.on (fun _ k => st6.trans k) ?_
    show Go _ _ _ _ _ _ _ _ (mkF m 98 #[.val (.int cnt), .val (.int i0), .val (.int i1), .val (.int i2), .val (.int i3), .val (.int (0 : Int32)), .val (.int d1), .val (.int d2), .val (.int d3), .val (.ref q), .unset] [])
    refine Go.on (fun _ k => XS.aload X6.here hx rfl (hb hby at_98) rfl rfl k) ?_
    show Go _ _ _ _ _ _ _ _ (mkF m 100 #[.val (.int cnt), .val (.int i0), .val (.int i1), .val (.int i2), .val (.int i3), .val (.int (0 : Int32)), .val (.int d1), .val (.int d2), .val (.int d3), .val (.ref q), .unset] [(.ref q)])
    obtain ⟨cq7, kq7, q7a, q7b, q7c⟩ := isOf hZ e6 E_q
    obtain ⟨_, _, ⟨T7, L7, k7, n7⟩, -, X7, ⟨Lc7, hQ7, l7, y7, z7⟩, st7⟩ := X6.virtualBack hx (y := (⟨"com/example/clirtools/clirtools/DocumentSums", "size", "()I"⟩ : MethodName)) (z := (⟨"com/example/clirtools/clirtools/DocumentSums", "size", "()I"⟩ : MethodName)) hown (mvT hZ (hw _ (List.mem_of_getElem? (i := 24) rfl))) (mvT hZ (hw _ (List.mem_of_getElem? (i := 25) rfl))) (notFace_of_selects (args := #[]) (mvT hZ (hw _ (List.mem_of_getElem? (i := 27) rfl)))) (mvT hZ (hw _ (List.mem_of_getElem? (i := 27) rfl))) (mvT hZ (hw _ (List.mem_of_getElem? (i := 26) rfl))) (by decide) (backOf (W := 0) (rm4 l Z aw hw [] q (0 : Int32) h6 n0 ZZ F_size_q) hZ (hw _ (List.mem_of_getElem? (i := 28) rfl)) (hw _ (List.mem_of_getElem? (i := 2) rfl)) (by decide) (by decide)) q7a q7c (g := (mkF m 100 #[.val (.int cnt), .val (.int i0), .val (.int i1), .val (.int i2), .val (.int i3), .val (.int (0 : Int32)), .val (.int d1), .val (.int d2), .val (.int d3), .val (.ref q), .unset] [(.ref q)])) rfl (by rw [hml]; rfl) (Steps.refl _) (argsL := []) (rest := []) (lenOf pd_2 rfl) rfl (by show 2 * 0 + _ ≤ _; exact Nat.le_of_eq rfl) (hb hby at_100) (fun _ _ => ⟨rfl, e6, (by decide : 4 + 0 ≤ _), (by decide : 13 + 0 ≤ _)⟩)
    dsimp only [Pt.U, Pt.locs, Pt.cells, Pt.slots] at X7 l7 y7 z7 st7 hQ7
    subst l7 y7 z7
    obtain ⟨rfl, N7q, e7⟩ := hQ7
    have N7 := Fr.app N6 N7q
    refine Go.on (fun _ k => st7.trans k) ?_
    show Go _ _ _ _ _ _ _ _ (mkF m 103 #[.val (.int cnt), .val (.int i0), .val (.int i1), .val (.int i2), .val (.int i3), .val (.int (0 : Int32)), .val (.int d1), .val (.int d2), .val (.int d3), .val (.ref q), .unset] [(.int (0 : Int32))])
    have hc8 : (0 : Int32) = (0 : Int32) := by decide
    refine Go.on (fun _ k => XS.ifNo X7.here hx rfl (hb hby at_103) rfl ((if0 _ _).trans (teq hc8).2) k) ?_
    show Go _ _ _ _ _ _ _ _ (mkF m 106 #[.val (.int cnt), .val (.int i0), .val (.int i1), .val (.int i2), .val (.int i3), .val (.int (0 : Int32)), .val (.int d1), .val (.int d2), .val (.int d3), .val (.ref q), .unset] [])
    refine Go.on (fun _ k => XS.iconst X7.here hx rfl (hb hby at_106) k) ?_
    show Go _ _ _ _ _ _ _ _ (mkF m 107 #[.val (.int cnt), .val (.int i0), .val (.int i1), .val (.int i2), .val (.int i3), .val (.int (0 : Int32)), .val (.int d1), .val (.int d2), .val (.int d3), .val (.ref q), .unset] [(.int (1 : Int32))])
    refine Go.on (fun _ k => XS.goto X7.here hx rfl (pc0 := 107) (pc' := 111) rfl (hb hby at_107) (by decide) (by decide) k) ?_
    show Go _ _ _ _ _ _ _ _ (mkF m 111 #[.val (.int cnt), .val (.int i0), .val (.int i1), .val (.int i2), .val (.int i3), .val (.int (0 : Int32)), .val (.int d1), .val (.int d2), .val (.int d3), .val (.ref q), .unset] [(.int (1 : Int32))])
    refine Go.on (fun _ k => XS.istore X7.here hx rfl (hb hby at_111) rfl (l' := #[.val (.int cnt), .val (.int i0), .val (.int i1), .val (.int i2), .val (.int i3), .val (.int (0 : Int32)), .val (.int d1), .val (.int d2), .val (.int d3), .val (.ref q), .val (.int (1 : Int32))]) rfl k) ?_
    show Go _ _ _ _ _ _ _ _ (mkF m 113 #[.val (.int cnt), .val (.int i0), .val (.int i1), .val (.int i2), .val (.int i3), .val (.int (0 : Int32)), .val (.int d1), .val (.int d2), .val (.int d3), .val (.ref q), .val (.int (1 : Int32))] [])
    refine Go.on (fun _ k => XS.iload X7.here hx rfl (hb hby at_113) rfl k) ?_
    show Go _ _ _ _ _ _ _ _ (mkF m 115 #[.val (.int cnt), .val (.int i0), .val (.int i1), .val (.int i2), .val (.int i3), .val (.int (0 : Int32)), .val (.int d1), .val (.int d2), .val (.int d3), .val (.ref q), .val (.int (1 : Int32))] [(.int (1 : Int32))])
    have hc9 : ¬ ((1 : Int32) = (0 : Int32)) := by decide
    refine Go.on (fun _ k => XS.ifNo X7.here hx rfl (hb hby at_115) rfl ((if0 _ _).trans (feq hc9).1) k) ?_
    show Go _ _ _ _ _ _ _ _ (mkF m 118 #[.val (.int cnt), .val (.int i0), .val (.int i1), .val (.int i2), .val (.int i3), .val (.int (0 : Int32)), .val (.int d1), .val (.int d2), .val (.int d3), .val (.ref q), .val (.int (1 : Int32))] [])
    refine Go.on (fun _ k => XS.aload X7.here hx rfl (hb hby at_118) rfl rfl k) ?_
    show Go _ _ _ _ _ _ _ _ (mkF m 120 #[.val (.int cnt), .val (.int i0), .val (.int i1), .val (.int i2), .val (.int i3), .val (.int (0 : Int32)), .val (.int d1), .val (.int d2), .val (.int d3), .val (.ref q), .val (.int (1 : Int32))] [(.ref q)])
    refine Go.on (fun _ k => XS.iconst X7.here hx rfl (hb hby at_120) k) ?_
    show Go _ _ _ _ _ _ _ _ (mkF m 121 #[.val (.int cnt), .val (.int i0), .val (.int i1), .val (.int i2), .val (.int i3), .val (.int (0 : Int32)), .val (.int d1), .val (.int d2), .val (.int d3), .val (.ref q), .val (.int (1 : Int32))] [(.int (0 : Int32)), (.ref q)])
    obtain ⟨cq10, kq10, q10a, q10b, q10c⟩ := isOf hZ e7 E_q
    obtain ⟨_, _, ⟨T10, L10, k10, n10⟩, -, X10, ⟨Lc10, hQ10, l10, y10, z10⟩, st10⟩ := X7.virtualBack hx (y := (⟨"com/example/clirtools/clirtools/DocumentSums", "count", "(I)I"⟩ : MethodName)) (z := (⟨"com/example/clirtools/clirtools/DocumentSums", "count", "(I)I"⟩ : MethodName)) hown (mvT hZ (hw _ (List.mem_of_getElem? (i := 29) rfl))) (mvT hZ (hw _ (List.mem_of_getElem? (i := 30) rfl))) (notFace_of_selects (args := #[]) (mvT hZ (hw _ (List.mem_of_getElem? (i := 32) rfl)))) (mvT hZ (hw _ (List.mem_of_getElem? (i := 32) rfl))) (mvT hZ (hw _ (List.mem_of_getElem? (i := 31) rfl))) (by decide) (backOf (W := 0) (rm5 l Z aw hw [] q (0 : Int32) ac k_ac (clrI (0 : Int32) (0 : Int32) (0 : Int32) (0 : Int32) (0 : Int32) (0 : Int32)) (clrI (0 : Int32) (1 : Int32) (0 : Int32) (0 : Int32) (0 : Int32) (0 : Int32)) (clrI (0 : Int32) (2 : Int32) (0 : Int32) (0 : Int32) (0 : Int32) (0 : Int32)) h6 n0 ZZ F_counts_q V_ac (by unfold Three; decide)) hZ (hw _ (List.mem_of_getElem? (i := 33) rfl)) (hw _ (List.mem_of_getElem? (i := 2) rfl)) (by decide) (by decide)) q10a q10c (g := (mkF m 121 #[.val (.int cnt), .val (.int i0), .val (.int i1), .val (.int i2), .val (.int i3), .val (.int (0 : Int32)), .val (.int d1), .val (.int d2), .val (.int d3), .val (.ref q), .val (.int (1 : Int32))] [(.int (0 : Int32)), (.ref q)])) rfl (by rw [hml]; rfl) (Steps.refl _) (argsL := [(.int (0 : Int32))]) (rest := []) (lenOf pd_3 rfl) rfl (by show 2 * 0 + _ ≤ _; exact Nat.le_of_eq rfl) (hb hby at_121) (fun _ _ => ⟨rfl, e7, (by decide : 4 + 0 ≤ _), (by decide : 13 + 0 ≤ _)⟩)
    dsimp only [Pt.U, Pt.locs, Pt.cells, Pt.slots] at X10 l10 y10 z10 st10 hQ10
    subst l10 y10 z10
    obtain ⟨rfl, N10q, e10⟩ := hQ10
    have N10 := Fr.app N7 N10q
    refine Go.on (fun _ k => st10.trans k) ?_
    show Go _ _ _ _ _ _ _ _ (mkF m 124 #[.val (.int cnt), .val (.int i0), .val (.int i1), .val (.int i2), .val (.int i3), .val (.int (0 : Int32)), .val (.int d1), .val (.int d2), .val (.int d3), .val (.ref q), .val (.int (1 : Int32))] [(.int (if (0 : Int32) = (0 : Int32) then (clrI (0 : Int32) (0 : Int32) (0 : Int32) (0 : Int32) (0 : Int32) (0 : Int32)) else (if (0 : Int32) = (1 : Int32) then (clrI (0 : Int32) (1 : Int32) (0 : Int32) (0 : Int32) (0 : Int32) (0 : Int32)) else (clrI (0 : Int32) (2 : Int32) (0 : Int32) (0 : Int32) (0 : Int32) (0 : Int32)))))])
    have hc11 : (if (0 : Int32) = (0 : Int32) then (clrI (0 : Int32) (0 : Int32) (0 : Int32) (0 : Int32) (0 : Int32) (0 : Int32)) else (if (0 : Int32) = (1 : Int32) then (clrI (0 : Int32) (1 : Int32) (0 : Int32) (0 : Int32) (0 : Int32) (0 : Int32)) else (clrI (0 : Int32) (2 : Int32) (0 : Int32) (0 : Int32) (0 : Int32) (0 : Int32)))) = (0 : Int32) := rfl
    refine Go.on (fun _ k => XS.ifNo X10.here hx rfl (hb hby at_124) rfl ((if0 _ _).trans (teq hc11).2) k) ?_
    show Go _ _ _ _ _ _ _ _ (mkF m 127 #[.val (.int cnt), .val (.int i0), .val (.int i1), .val (.int i2), .val (.int i3), .val (.int (0 : Int32)), .val (.int d1), .val (.int d2), .val (.int d3), .val (.ref q), .val (.int (1 : Int32))] [])
    refine Go.on (fun _ k => XS.aload X10.here hx rfl (hb hby at_127) rfl rfl k) ?_
    show Go _ _ _ _ _ _ _ _ (mkF m 129 #[.val (.int cnt), .val (.int i0), .val (.int i1), .val (.int i2), .val (.int i3), .val (.int (0 : Int32)), .val (.int d1), .val (.int d2), .val (.int d3), .val (.ref q), .val (.int (1 : Int32))] [(.ref q)])
    refine Go.on (fun _ k => XS.iconst X10.here hx rfl (hb hby at_129) k) ?_
    show Go _ _ _ _ _ _ _ _ (mkF m 130 #[.val (.int cnt), .val (.int i0), .val (.int i1), .val (.int i2), .val (.int i3), .val (.int (0 : Int32)), .val (.int d1), .val (.int d2), .val (.int d3), .val (.ref q), .val (.int (1 : Int32))] [(.int (1 : Int32)), (.ref q)])
    obtain ⟨cq12, kq12, q12a, q12b, q12c⟩ := isOf hZ e10 E_q
    obtain ⟨_, _, ⟨T12, L12, k12, n12⟩, -, X12, ⟨Lc12, hQ12, l12, y12, z12⟩, st12⟩ := X10.virtualBack hx (y := (⟨"com/example/clirtools/clirtools/DocumentSums", "count", "(I)I"⟩ : MethodName)) (z := (⟨"com/example/clirtools/clirtools/DocumentSums", "count", "(I)I"⟩ : MethodName)) hown (mvT hZ (hw _ (List.mem_of_getElem? (i := 29) rfl))) (mvT hZ (hw _ (List.mem_of_getElem? (i := 30) rfl))) (notFace_of_selects (args := #[]) (mvT hZ (hw _ (List.mem_of_getElem? (i := 32) rfl)))) (mvT hZ (hw _ (List.mem_of_getElem? (i := 32) rfl))) (mvT hZ (hw _ (List.mem_of_getElem? (i := 31) rfl))) (by decide) (backOf (W := 0) (rm5 l Z aw hw [] q (1 : Int32) ac k_ac (clrI (0 : Int32) (0 : Int32) (0 : Int32) (0 : Int32) (0 : Int32) (0 : Int32)) (clrI (0 : Int32) (1 : Int32) (0 : Int32) (0 : Int32) (0 : Int32) (0 : Int32)) (clrI (0 : Int32) (2 : Int32) (0 : Int32) (0 : Int32) (0 : Int32) (0 : Int32)) h6 n0 ZZ F_counts_q V_ac (by unfold Three; decide)) hZ (hw _ (List.mem_of_getElem? (i := 33) rfl)) (hw _ (List.mem_of_getElem? (i := 2) rfl)) (by decide) (by decide)) q12a q12c (g := (mkF m 130 #[.val (.int cnt), .val (.int i0), .val (.int i1), .val (.int i2), .val (.int i3), .val (.int (0 : Int32)), .val (.int d1), .val (.int d2), .val (.int d3), .val (.ref q), .val (.int (1 : Int32))] [(.int (1 : Int32)), (.ref q)])) rfl (by rw [hml]; rfl) (Steps.refl _) (argsL := [(.int (1 : Int32))]) (rest := []) (lenOf pd_3 rfl) rfl (by show 2 * 0 + _ ≤ _; exact Nat.le_of_eq rfl) (hb hby at_130) (fun _ _ => ⟨rfl, e10, (by decide : 4 + 0 ≤ _), (by decide : 13 + 0 ≤ _)⟩)
    dsimp only [Pt.U, Pt.locs, Pt.cells, Pt.slots] at X12 l12 y12 z12 st12 hQ12
    subst l12 y12 z12
    obtain ⟨rfl, N12q, e12⟩ := hQ12
    have N12 := Fr.app N10 N12q
    refine Go.on (fun _ k => st12.trans k) ?_
    show Go _ _ _ _ _ _ _ _ (mkF m 133 #[.val (.int cnt), .val (.int i0), .val (.int i1), .val (.int i2), .val (.int i3), .val (.int (0 : Int32)), .val (.int d1), .val (.int d2), .val (.int d3), .val (.ref q), .val (.int (1 : Int32))] [(.int (if (1 : Int32) = (0 : Int32) then (clrI (0 : Int32) (0 : Int32) (0 : Int32) (0 : Int32) (0 : Int32) (0 : Int32)) else (if (1 : Int32) = (1 : Int32) then (clrI (0 : Int32) (1 : Int32) (0 : Int32) (0 : Int32) (0 : Int32) (0 : Int32)) else (clrI (0 : Int32) (2 : Int32) (0 : Int32) (0 : Int32) (0 : Int32) (0 : Int32)))))])
    have hc13 : (if (1 : Int32) = (0 : Int32) then (clrI (0 : Int32) (0 : Int32) (0 : Int32) (0 : Int32) (0 : Int32) (0 : Int32)) else (if (1 : Int32) = (1 : Int32) then (clrI (0 : Int32) (1 : Int32) (0 : Int32) (0 : Int32) (0 : Int32) (0 : Int32)) else (clrI (0 : Int32) (2 : Int32) (0 : Int32) (0 : Int32) (0 : Int32) (0 : Int32)))) = (0 : Int32) := rfl
    refine Go.on (fun _ k => XS.ifNo X12.here hx rfl (hb hby at_133) rfl ((if0 _ _).trans (teq hc13).2) k) ?_
    show Go _ _ _ _ _ _ _ _ (mkF m 136 #[.val (.int cnt), .val (.int i0), .val (.int i1), .val (.int i2), .val (.int i3), .val (.int (0 : Int32)), .val (.int d1), .val (.int d2), .val (.int d3), .val (.ref q), .val (.int (1 : Int32))] [])
    refine Go.on (fun _ k => XS.aload X12.here hx rfl (hb hby at_136) rfl rfl k) ?_
    show Go _ _ _ _ _ _ _ _ (mkF m 138 #[.val (.int cnt), .val (.int i0), .val (.int i1), .val (.int i2), .val (.int i3), .val (.int (0 : Int32)), .val (.int d1), .val (.int d2), .val (.int d3), .val (.ref q), .val (.int (1 : Int32))] [(.ref q)])
    refine Go.on (fun _ k => XS.iconst X12.here hx rfl (hb hby at_138) k) ?_
    show Go _ _ _ _ _ _ _ _ (mkF m 139 #[.val (.int cnt), .val (.int i0), .val (.int i1), .val (.int i2), .val (.int i3), .val (.int (0 : Int32)), .val (.int d1), .val (.int d2), .val (.int d3), .val (.ref q), .val (.int (1 : Int32))] [(.int (2 : Int32)), (.ref q)])
    obtain ⟨cq14, kq14, q14a, q14b, q14c⟩ := isOf hZ e12 E_q
    obtain ⟨_, _, ⟨T14, L14, k14, n14⟩, -, X14, ⟨Lc14, hQ14, l14, y14, z14⟩, st14⟩ := X12.virtualBack hx (y := (⟨"com/example/clirtools/clirtools/DocumentSums", "count", "(I)I"⟩ : MethodName)) (z := (⟨"com/example/clirtools/clirtools/DocumentSums", "count", "(I)I"⟩ : MethodName)) hown (mvT hZ (hw _ (List.mem_of_getElem? (i := 29) rfl))) (mvT hZ (hw _ (List.mem_of_getElem? (i := 30) rfl))) (notFace_of_selects (args := #[]) (mvT hZ (hw _ (List.mem_of_getElem? (i := 32) rfl)))) (mvT hZ (hw _ (List.mem_of_getElem? (i := 32) rfl))) (mvT hZ (hw _ (List.mem_of_getElem? (i := 31) rfl))) (by decide) (backOf (W := 0) (rm5 l Z aw hw [] q (2 : Int32) ac k_ac (clrI (0 : Int32) (0 : Int32) (0 : Int32) (0 : Int32) (0 : Int32) (0 : Int32)) (clrI (0 : Int32) (1 : Int32) (0 : Int32) (0 : Int32) (0 : Int32) (0 : Int32)) (clrI (0 : Int32) (2 : Int32) (0 : Int32) (0 : Int32) (0 : Int32) (0 : Int32)) h6 n0 ZZ F_counts_q V_ac (by unfold Three; decide)) hZ (hw _ (List.mem_of_getElem? (i := 33) rfl)) (hw _ (List.mem_of_getElem? (i := 2) rfl)) (by decide) (by decide)) q14a q14c (g := (mkF m 139 #[.val (.int cnt), .val (.int i0), .val (.int i1), .val (.int i2), .val (.int i3), .val (.int (0 : Int32)), .val (.int d1), .val (.int d2), .val (.int d3), .val (.ref q), .val (.int (1 : Int32))] [(.int (2 : Int32)), (.ref q)])) rfl (by rw [hml]; rfl) (Steps.refl _) (argsL := [(.int (2 : Int32))]) (rest := []) (lenOf pd_3 rfl) rfl (by show 2 * 0 + _ ≤ _; exact Nat.le_of_eq rfl) (hb hby at_139) (fun _ _ => ⟨rfl, e12, (by decide : 4 + 0 ≤ _), (by decide : 13 + 0 ≤ _)⟩)
    dsimp only [Pt.U, Pt.locs, Pt.cells, Pt.slots] at X14 l14 y14 z14 st14 hQ14
    subst l14 y14 z14
    obtain ⟨rfl, N14q, e14⟩ := hQ14
    have N14 := Fr.app N12 N14q
    refine Go.on (fun _ k => st14.trans k) ?_
    show Go _ _ _ _ _ _ _ _ (mkF m 142 #[.val (.int cnt), .val (.int i0), .val (.int i1), .val (.int i2), .val (.int i3), .val (.int (0 : Int32)), .val (.int d1), .val (.int d2), .val (.int d3), .val (.ref q), .val (.int (1 : Int32))] [(.int (if (2 : Int32) = (0 : Int32) then (clrI (0 : Int32) (0 : Int32) (0 : Int32) (0 : Int32) (0 : Int32) (0 : Int32)) else (if (2 : Int32) = (1 : Int32) then (clrI (0 : Int32) (1 : Int32) (0 : Int32) (0 : Int32) (0 : Int32) (0 : Int32)) else (clrI (0 : Int32) (2 : Int32) (0 : Int32) (0 : Int32) (0 : Int32) (0 : Int32)))))])
    have hc15 : (if (2 : Int32) = (0 : Int32) then (clrI (0 : Int32) (0 : Int32) (0 : Int32) (0 : Int32) (0 : Int32) (0 : Int32)) else (if (2 : Int32) = (1 : Int32) then (clrI (0 : Int32) (1 : Int32) (0 : Int32) (0 : Int32) (0 : Int32) (0 : Int32)) else (clrI (0 : Int32) (2 : Int32) (0 : Int32) (0 : Int32) (0 : Int32) (0 : Int32)))) = (0 : Int32) := rfl
    refine Go.on (fun _ k => XS.ifNo X14.here hx rfl (hb hby at_142) rfl ((if0 _ _).trans (teq hc15).2) k) ?_
    show Go _ _ _ _ _ _ _ _ (mkF m 145 #[.val (.int cnt), .val (.int i0), .val (.int i1), .val (.int i2), .val (.int i3), .val (.int (0 : Int32)), .val (.int d1), .val (.int d2), .val (.int d3), .val (.ref q), .val (.int (1 : Int32))] [])
    refine Go.on (fun _ k => XS.iconst X14.here hx rfl (hb hby at_145) k) ?_
    show Go _ _ _ _ _ _ _ _ (mkF m 146 #[.val (.int cnt), .val (.int i0), .val (.int i1), .val (.int i2), .val (.int i3), .val (.int (0 : Int32)), .val (.int d1), .val (.int d2), .val (.int d3), .val (.ref q), .val (.int (1 : Int32))] [(.int (1 : Int32))])
    refine Go.on (fun _ k => XS.goto X14.here hx rfl (pc0 := 146) (pc' := 150) rfl (hb hby at_146) (by decide) (by decide) k) ?_
    show Go _ _ _ _ _ _ _ _ (mkF m 150 #[.val (.int cnt), .val (.int i0), .val (.int i1), .val (.int i2), .val (.int i3), .val (.int (0 : Int32)), .val (.int d1), .val (.int d2), .val (.int d3), .val (.ref q), .val (.int (1 : Int32))] [(.int (1 : Int32))])
    refine Go.on (fun _ k => XS.istore X14.here hx rfl (hb hby at_150) rfl (l' := #[.val (.int cnt), .val (.int i0), .val (.int i1), .val (.int i2), .val (.int i3), .val (.int (0 : Int32)), .val (.int d1), .val (.int d2), .val (.int d3), .val (.ref q), .val (.int (1 : Int32))]) rfl k) ?_
    show Go _ _ _ _ _ _ _ _ (mkF m 152 #[.val (.int cnt), .val (.int i0), .val (.int i1), .val (.int i2), .val (.int i3), .val (.int (0 : Int32)), .val (.int d1), .val (.int d2), .val (.int d3), .val (.ref q), .val (.int (1 : Int32))] [])
    refine Go.on (fun _ k => XS.iload X14.here hx rfl (hb hby at_152) rfl k) ?_
    show Go _ _ _ _ _ _ _ _ (mkF m 154 #[.val (.int cnt), .val (.int i0), .val (.int i1), .val (.int i2), .val (.int i3), .val (.int (0 : Int32)), .val (.int d1), .val (.int d2), .val (.int d3), .val (.ref q), .val (.int (1 : Int32))] [(.int (1 : Int32))])
    have hc16 : ¬ ((1 : Int32) = (0 : Int32)) := by decide
    refine Go.on (fun _ k => XS.ifNo X14.here hx rfl (hb hby at_154) rfl ((if0 _ _).trans (feq hc16).1) k) ?_
    show Go _ _ _ _ _ _ _ _ (mkF m 157 #[.val (.int cnt), .val (.int i0), .val (.int i1), .val (.int i2), .val (.int i3), .val (.int (0 : Int32)), .val (.int d1), .val (.int d2), .val (.int d3), .val (.ref q), .val (.int (1 : Int32))] [])
    refine Go.on (fun _ k => XS.aload X14.here hx rfl (hb hby at_157) rfl rfl k) ?_
    show Go _ _ _ _ _ _ _ _ (mkF m 159 #[.val (.int cnt), .val (.int i0), .val (.int i1), .val (.int i2), .val (.int i3), .val (.int (0 : Int32)), .val (.int d1), .val (.int d2), .val (.int d3), .val (.ref q), .val (.int (1 : Int32))] [(.ref q)])
    refine Go.on (fun _ k => XS.iconst X14.here hx rfl (hb hby at_159) k) ?_
    show Go _ _ _ _ _ _ _ _ (mkF m 160 #[.val (.int cnt), .val (.int i0), .val (.int i1), .val (.int i2), .val (.int i3), .val (.int (0 : Int32)), .val (.int d1), .val (.int d2), .val (.int d3), .val (.ref q), .val (.int (1 : Int32))] [(.int (0 : Int32)), (.ref q)])
    obtain ⟨cq17, kq17, q17a, q17b, q17c⟩ := isOf hZ e14 E_q
    obtain ⟨_, _, ⟨T17, L17, k17, n17⟩, -, X17, ⟨Lc17, hQ17, l17, y17, z17⟩, st17⟩ := X14.virtualBack hx (y := (⟨"com/example/clirtools/clirtools/DocumentSums", "sum", "(I)D"⟩ : MethodName)) (z := (⟨"com/example/clirtools/clirtools/DocumentSums", "sum", "(I)D"⟩ : MethodName)) hown (mvT hZ (hw _ (List.mem_of_getElem? (i := 34) rfl))) (mvT hZ (hw _ (List.mem_of_getElem? (i := 35) rfl))) (notFace_of_selects (args := #[]) (mvT hZ (hw _ (List.mem_of_getElem? (i := 37) rfl)))) (mvT hZ (hw _ (List.mem_of_getElem? (i := 37) rfl))) (mvT hZ (hw _ (List.mem_of_getElem? (i := 36) rfl))) (by decide) (backOf (W := 0) (rm6 l Z aw hw [] q (0 : Int32) as k_as (clrD (0 : Int32) (0 : Int32) (0 : Int32) (0 : Int32) (0 : Int32) (0 : UInt64)) (clrD (0 : Int32) (1 : Int32) (0 : Int32) (0 : Int32) (0 : Int32) (0 : UInt64)) (clrD (0 : Int32) (2 : Int32) (0 : Int32) (0 : Int32) (0 : Int32) (0 : UInt64)) h6 n0 ZZ F_sums_q V_as (by unfold Three; decide)) hZ (hw _ (List.mem_of_getElem? (i := 38) rfl)) (hw _ (List.mem_of_getElem? (i := 2) rfl)) (by decide) (by decide)) q17a q17c (g := (mkF m 160 #[.val (.int cnt), .val (.int i0), .val (.int i1), .val (.int i2), .val (.int i3), .val (.int (0 : Int32)), .val (.int d1), .val (.int d2), .val (.int d3), .val (.ref q), .val (.int (1 : Int32))] [(.int (0 : Int32)), (.ref q)])) rfl (by rw [hml]; rfl) (Steps.refl _) (argsL := [(.int (0 : Int32))]) (rest := []) (lenOf pd_4 rfl) rfl (by show 2 * 0 + _ ≤ _; exact Nat.le_of_eq rfl) (hb hby at_160) (fun _ _ => ⟨rfl, e14, (by decide : 4 + 0 ≤ _), (by decide : 13 + 0 ≤ _)⟩)
    dsimp only [Pt.U, Pt.locs, Pt.cells, Pt.slots] at X17 l17 y17 z17 st17 hQ17
    subst l17 y17 z17
    obtain ⟨rfl, N17q, e17⟩ := hQ17
    have N17 := Fr.app N14 N17q
    refine Go.on (fun _ k => st17.trans k) ?_
    show Go _ _ _ _ _ _ _ _ (mkF m 163 #[.val (.int cnt), .val (.int i0), .val (.int i1), .val (.int i2), .val (.int i3), .val (.int (0 : Int32)), .val (.int d1), .val (.int d2), .val (.int d3), .val (.ref q), .val (.int (1 : Int32))] [(.double (if (0 : Int32) = (0 : Int32) then (clrD (0 : Int32) (0 : Int32) (0 : Int32) (0 : Int32) (0 : Int32) (0 : UInt64)) else (if (0 : Int32) = (1 : Int32) then (clrD (0 : Int32) (1 : Int32) (0 : Int32) (0 : Int32) (0 : Int32) (0 : UInt64)) else (clrD (0 : Int32) (2 : Int32) (0 : Int32) (0 : Int32) (0 : Int32) (0 : UInt64)))))])
    refine Go.on (fun _ k => XS.dconst0 X17.here hx rfl (v := (0 : UInt64)) (hb hby at_163) rfl k) ?_
    show Go _ _ _ _ _ _ _ _ (mkF m 164 #[.val (.int cnt), .val (.int i0), .val (.int i1), .val (.int i2), .val (.int i3), .val (.int (0 : Int32)), .val (.int d1), .val (.int d2), .val (.int d3), .val (.ref q), .val (.int (1 : Int32))] [(.double (0 : UInt64)), (.double (if (0 : Int32) = (0 : Int32) then (clrD (0 : Int32) (0 : Int32) (0 : Int32) (0 : Int32) (0 : Int32) (0 : UInt64)) else (if (0 : Int32) = (1 : Int32) then (clrD (0 : Int32) (1 : Int32) (0 : Int32) (0 : Int32) (0 : Int32) (0 : UInt64)) else (clrD (0 : Int32) (2 : Int32) (0 : Int32) (0 : Int32) (0 : Int32) (0 : UInt64)))))])
    refine Go.on (fun _ k => XS.dcmpS X17.here hx rfl (hb hby at_164) rfl rfl k) ?_
    show Go _ _ _ _ _ _ _ _ (mkF m 165 #[.val (.int cnt), .val (.int i0), .val (.int i1), .val (.int i2), .val (.int i3), .val (.int (0 : Int32)), .val (.int d1), .val (.int d2), .val (.int d3), .val (.ref q), .val (.int (1 : Int32))] [(.int (cmpValue (FP.dcmp (if (0 : Int32) = (0 : Int32) then (clrD (0 : Int32) (0 : Int32) (0 : Int32) (0 : Int32) (0 : Int32) (0 : UInt64)) else (if (0 : Int32) = (1 : Int32) then (clrD (0 : Int32) (1 : Int32) (0 : Int32) (0 : Int32) (0 : Int32) (0 : UInt64)) else (clrD (0 : Int32) (2 : Int32) (0 : Int32) (0 : Int32) (0 : Int32) (0 : UInt64)))) (0 : UInt64)) .l))])
    have hc18 : (cmpValue (FP.dcmp (if (0 : Int32) = (0 : Int32) then (clrD (0 : Int32) (0 : Int32) (0 : Int32) (0 : Int32) (0 : Int32) (0 : UInt64)) else (if (0 : Int32) = (1 : Int32) then (clrD (0 : Int32) (1 : Int32) (0 : Int32) (0 : Int32) (0 : Int32) (0 : UInt64)) else (clrD (0 : Int32) (2 : Int32) (0 : Int32) (0 : Int32) (0 : Int32) (0 : UInt64)))) (0 : UInt64)) .l) = (0 : Int32) := own_q0
    refine Go.on (fun _ k => XS.ifNo X17.here hx rfl (hb hby at_165) rfl ((if0 _ _).trans (teq hc18).2) k) ?_
    show Go _ _ _ _ _ _ _ _ (mkF m 168 #[.val (.int cnt), .val (.int i0), .val (.int i1), .val (.int i2), .val (.int i3), .val (.int (0 : Int32)), .val (.int d1), .val (.int d2), .val (.int d3), .val (.ref q), .val (.int (1 : Int32))] [])
    refine Go.on (fun _ k => XS.aload X17.here hx rfl (hb hby at_168) rfl rfl k) ?_
    show Go _ _ _ _ _ _ _ _ (mkF m 170 #[.val (.int cnt), .val (.int i0), .val (.int i1), .val (.int i2), .val (.int i3), .val (.int (0 : Int32)), .val (.int d1), .val (.int d2), .val (.int d3), .val (.ref q), .val (.int (1 : Int32))] [(.ref q)])
    refine Go.on (fun _ k => XS.iconst X17.here hx rfl (hb hby at_170) k) ?_
    show Go _ _ _ _ _ _ _ _ (mkF m 171 #[.val (.int cnt), .val (.int i0), .val (.int i1), .val (.int i2), .val (.int i3), .val (.int (0 : Int32)), .val (.int d1), .val (.int d2), .val (.int d3), .val (.ref q), .val (.int (1 : Int32))] [(.int (1 : Int32)), (.ref q)])
    obtain ⟨cq19, kq19, q19a, q19b, q19c⟩ := isOf hZ e17 E_q
    obtain ⟨_, _, ⟨T19, L19, k19, n19⟩, -, X19, ⟨Lc19, hQ19, l19, y19, z19⟩, st19⟩ := X17.virtualBack hx (y := (⟨"com/example/clirtools/clirtools/DocumentSums", "sum", "(I)D"⟩ : MethodName)) (z := (⟨"com/example/clirtools/clirtools/DocumentSums", "sum", "(I)D"⟩ : MethodName)) hown (mvT hZ (hw _ (List.mem_of_getElem? (i := 34) rfl))) (mvT hZ (hw _ (List.mem_of_getElem? (i := 35) rfl))) (notFace_of_selects (args := #[]) (mvT hZ (hw _ (List.mem_of_getElem? (i := 37) rfl)))) (mvT hZ (hw _ (List.mem_of_getElem? (i := 37) rfl))) (mvT hZ (hw _ (List.mem_of_getElem? (i := 36) rfl))) (by decide) (backOf (W := 0) (rm6 l Z aw hw [] q (1 : Int32) as k_as (clrD (0 : Int32) (0 : Int32) (0 : Int32) (0 : Int32) (0 : Int32) (0 : UInt64)) (clrD (0 : Int32) (1 : Int32) (0 : Int32) (0 : Int32) (0 : Int32) (0 : UInt64)) (clrD (0 : Int32) (2 : Int32) (0 : Int32) (0 : Int32) (0 : Int32) (0 : UInt64)) h6 n0 ZZ F_sums_q V_as (by unfold Three; decide)) hZ (hw _ (List.mem_of_getElem? (i := 38) rfl)) (hw _ (List.mem_of_getElem? (i := 2) rfl)) (by decide) (by decide)) q19a q19c (g := (mkF m 171 #[.val (.int cnt), .val (.int i0), .val (.int i1), .val (.int i2), .val (.int i3), .val (.int (0 : Int32)), .val (.int d1), .val (.int d2), .val (.int d3), .val (.ref q), .val (.int (1 : Int32))] [(.int (1 : Int32)), (.ref q)])) rfl (by rw [hml]; rfl) (Steps.refl _) (argsL := [(.int (1 : Int32))]) (rest := []) (lenOf pd_4 rfl) rfl (by show 2 * 0 + _ ≤ _; exact Nat.le_of_eq rfl) (hb hby at_171) (fun _ _ => ⟨rfl, e17, (by decide : 4 + 0 ≤ _), (by decide : 13 + 0 ≤ _)⟩)
    dsimp only [Pt.U, Pt.locs, Pt.cells, Pt.slots] at X19 l19 y19 z19 st19 hQ19
    subst l19 y19 z19
    obtain ⟨rfl, N19q, e19⟩ := hQ19
    have N19 := Fr.app N17 N19q
    refine Go.on (fun _ k => st19.trans k) ?_
    show Go _ _ _ _ _ _ _ _ (mkF m 174 #[.val (.int cnt), .val (.int i0), .val (.int i1), .val (.int i2), .val (.int i3), .val (.int (0 : Int32)), .val (.int d1), .val (.int d2), .val (.int d3), .val (.ref q), .val (.int (1 : Int32))] [(.double (if (1 : Int32) = (0 : Int32) then (clrD (0 : Int32) (0 : Int32) (0 : Int32) (0 : Int32) (0 : Int32) (0 : UInt64)) else (if (1 : Int32) = (1 : Int32) then (clrD (0 : Int32) (1 : Int32) (0 : Int32) (0 : Int32) (0 : Int32) (0 : UInt64)) else (clrD (0 : Int32) (2 : Int32) (0 : Int32) (0 : Int32) (0 : Int32) (0 : UInt64)))))])
    refine Go.on (fun _ k => XS.dconst0 X19.here hx rfl (v := (0 : UInt64)) (hb hby at_174) rfl k) ?_
    show Go _ _ _ _ _ _ _ _ (mkF m 175 #[.val (.int cnt), .val (.int i0), .val (.int i1), .val (.int i2), .val (.int i3), .val (.int (0 : Int32)), .val (.int d1), .val (.int d2), .val (.int d3), .val (.ref q), .val (.int (1 : Int32))] [(.double (0 : UInt64)), (.double (if (1 : Int32) = (0 : Int32) then (clrD (0 : Int32) (0 : Int32) (0 : Int32) (0 : Int32) (0 : Int32) (0 : UInt64)) else (if (1 : Int32) = (1 : Int32) then (clrD (0 : Int32) (1 : Int32) (0 : Int32) (0 : Int32) (0 : Int32) (0 : UInt64)) else (clrD (0 : Int32) (2 : Int32) (0 : Int32) (0 : Int32) (0 : Int32) (0 : UInt64)))))])
    refine Go.on (fun _ k => XS.dcmpS X19.here hx rfl (hb hby at_175) rfl rfl k) ?_
    show Go _ _ _ _ _ _ _ _ (mkF m 176 #[.val (.int cnt), .val (.int i0), .val (.int i1), .val (.int i2), .val (.int i3), .val (.int (0 : Int32)), .val (.int d1), .val (.int d2), .val (.int d3), .val (.ref q), .val (.int (1 : Int32))] [(.int (cmpValue (FP.dcmp (if (1 : Int32) = (0 : Int32) then (clrD (0 : Int32) (0 : Int32) (0 : Int32) (0 : Int32) (0 : Int32) (0 : UInt64)) else (if (1 : Int32) = (1 : Int32) then (clrD (0 : Int32) (1 : Int32) (0 : Int32) (0 : Int32) (0 : Int32) (0 : UInt64)) else (clrD (0 : Int32) (2 : Int32) (0 : Int32) (0 : Int32) (0 : Int32) (0 : UInt64)))) (0 : UInt64)) .l))])
    have hc20 : (cmpValue (FP.dcmp (if (1 : Int32) = (0 : Int32) then (clrD (0 : Int32) (0 : Int32) (0 : Int32) (0 : Int32) (0 : Int32) (0 : UInt64)) else (if (1 : Int32) = (1 : Int32) then (clrD (0 : Int32) (1 : Int32) (0 : Int32) (0 : Int32) (0 : Int32) (0 : UInt64)) else (clrD (0 : Int32) (2 : Int32) (0 : Int32) (0 : Int32) (0 : Int32) (0 : UInt64)))) (0 : UInt64)) .l) = (0 : Int32) := own_q0
    refine Go.on (fun _ k => XS.ifNo X19.here hx rfl (hb hby at_176) rfl ((if0 _ _).trans (teq hc20).2) k) ?_
    show Go _ _ _ _ _ _ _ _ (mkF m 179 #[.val (.int cnt), .val (.int i0), .val (.int i1), .val (.int i2), .val (.int i3), .val (.int (0 : Int32)), .val (.int d1), .val (.int d2), .val (.int d3), .val (.ref q), .val (.int (1 : Int32))] [])
    refine Go.on (fun _ k => XS.aload X19.here hx rfl (hb hby at_179) rfl rfl k) ?_
    show Go _ _ _ _ _ _ _ _ (mkF m 181 #[.val (.int cnt), .val (.int i0), .val (.int i1), .val (.int i2), .val (.int i3), .val (.int (0 : Int32)), .val (.int d1), .val (.int d2), .val (.int d3), .val (.ref q), .val (.int (1 : Int32))] [(.ref q)])
    refine Go.on (fun _ k => XS.iconst X19.here hx rfl (hb hby at_181) k) ?_
    show Go _ _ _ _ _ _ _ _ (mkF m 182 #[.val (.int cnt), .val (.int i0), .val (.int i1), .val (.int i2), .val (.int i3), .val (.int (0 : Int32)), .val (.int d1), .val (.int d2), .val (.int d3), .val (.ref q), .val (.int (1 : Int32))] [(.int (2 : Int32)), (.ref q)])
    obtain ⟨cq21, kq21, q21a, q21b, q21c⟩ := isOf hZ e19 E_q
    obtain ⟨_, _, ⟨T21, L21, k21, n21⟩, -, X21, ⟨Lc21, hQ21, l21, y21, z21⟩, st21⟩ := X19.virtualBack hx (y := (⟨"com/example/clirtools/clirtools/DocumentSums", "sum", "(I)D"⟩ : MethodName)) (z := (⟨"com/example/clirtools/clirtools/DocumentSums", "sum", "(I)D"⟩ : MethodName)) hown (mvT hZ (hw _ (List.mem_of_getElem? (i := 34) rfl))) (mvT hZ (hw _ (List.mem_of_getElem? (i := 35) rfl))) (notFace_of_selects (args := #[]) (mvT hZ (hw _ (List.mem_of_getElem? (i := 37) rfl)))) (mvT hZ (hw _ (List.mem_of_getElem? (i := 37) rfl))) (mvT hZ (hw _ (List.mem_of_getElem? (i := 36) rfl))) (by decide) (backOf (W := 0) (rm6 l Z aw hw [] q (2 : Int32) as k_as (clrD (0 : Int32) (0 : Int32) (0 : Int32) (0 : Int32) (0 : Int32) (0 : UInt64)) (clrD (0 : Int32) (1 : Int32) (0 : Int32) (0 : Int32) (0 : Int32) (0 : UInt64)) (clrD (0 : Int32) (2 : Int32) (0 : Int32) (0 : Int32) (0 : Int32) (0 : UInt64)) h6 n0 ZZ F_sums_q V_as (by unfold Three; decide)) hZ (hw _ (List.mem_of_getElem? (i := 38) rfl)) (hw _ (List.mem_of_getElem? (i := 2) rfl)) (by decide) (by decide)) q21a q21c (g := (mkF m 182 #[.val (.int cnt), .val (.int i0), .val (.int i1), .val (.int i2), .val (.int i3), .val (.int (0 : Int32)), .val (.int d1), .val (.int d2), .val (.int d3), .val (.ref q), .val (.int (1 : Int32))] [(.int (2 : Int32)), (.ref q)])) rfl (by rw [hml]; rfl) (Steps.refl _) (argsL := [(.int (2 : Int32))]) (rest := []) (lenOf pd_4 rfl) rfl (by show 2 * 0 + _ ≤ _; exact Nat.le_of_eq rfl) (hb hby at_182) (fun _ _ => ⟨rfl, e19, (by decide : 4 + 0 ≤ _), (by decide : 13 + 0 ≤ _)⟩)
    dsimp only [Pt.U, Pt.locs, Pt.cells, Pt.slots] at X21 l21 y21 z21 st21 hQ21
    subst l21 y21 z21
    obtain ⟨rfl, N21q, e21⟩ := hQ21
    have N21 := Fr.app N19 N21q
    refine Go.on (fun _ k => st21.trans k) ?_
    show Go _ _ _ _ _ _ _ _ (mkF m 185 #[.val (.int cnt), .val (.int i0), .val (.int i1), .val (.int i2), .val (.int i3), .val (.int (0 : Int32)), .val (.int d1), .val (.int d2), .val (.int d3), .val (.ref q), .val (.int (1 : Int32))] [(.double (if (2 : Int32) = (0 : Int32) then (clrD (0 : Int32) (0 : Int32) (0 : Int32) (0 : Int32) (0 : Int32) (0 : UInt64)) else (if (2 : Int32) = (1 : Int32) then (clrD (0 : Int32) (1 : Int32) (0 : Int32) (0 : Int32) (0 : Int32) (0 : UInt64)) else (clrD (0 : Int32) (2 : Int32) (0 : Int32) (0 : Int32) (0 : Int32) (0 : UInt64)))))])
    refine Go.on (fun _ k => XS.dconst0 X21.here hx rfl (v := (0 : UInt64)) (hb hby at_185) rfl k) ?_
    show Go _ _ _ _ _ _ _ _ (mkF m 186 #[.val (.int cnt), .val (.int i0), .val (.int i1), .val (.int i2), .val (.int i3), .val (.int (0 : Int32)), .val (.int d1), .val (.int d2), .val (.int d3), .val (.ref q), .val (.int (1 : Int32))] [(.double (0 : UInt64)), (.double (if (2 : Int32) = (0 : Int32) then (clrD (0 : Int32) (0 : Int32) (0 : Int32) (0 : Int32) (0 : Int32) (0 : UInt64)) else (if (2 : Int32) = (1 : Int32) then (clrD (0 : Int32) (1 : Int32) (0 : Int32) (0 : Int32) (0 : Int32) (0 : UInt64)) else (clrD (0 : Int32) (2 : Int32) (0 : Int32) (0 : Int32) (0 : Int32) (0 : UInt64)))))])
    refine Go.on (fun _ k => XS.dcmpS X21.here hx rfl (hb hby at_186) rfl rfl k) ?_
    show Go _ _ _ _ _ _ _ _ (mkF m 187 #[.val (.int cnt), .val (.int i0), .val (.int i1), .val (.int i2), .val (.int i3), .val (.int (0 : Int32)), .val (.int d1), .val (.int d2), .val (.int d3), .val (.ref q), .val (.int (1 : Int32))] [(.int (cmpValue (FP.dcmp (if (2 : Int32) = (0 : Int32) then (clrD (0 : Int32) (0 : Int32) (0 : Int32) (0 : Int32) (0 : Int32) (0 : UInt64)) else (if (2 : Int32) = (1 : Int32) then (clrD (0 : Int32) (1 : Int32) (0 : Int32) (0 : Int32) (0 : Int32) (0 : UInt64)) else (clrD (0 : Int32) (2 : Int32) (0 : Int32) (0 : Int32) (0 : Int32) (0 : UInt64)))) (0 : UInt64)) .l))])
    have hc22 : (cmpValue (FP.dcmp (if (2 : Int32) = (0 : Int32) then (clrD (0 : Int32) (0 : Int32) (0 : Int32) (0 : Int32) (0 : Int32) (0 : UInt64)) else (if (2 : Int32) = (1 : Int32) then (clrD (0 : Int32) (1 : Int32) (0 : Int32) (0 : Int32) (0 : Int32) (0 : UInt64)) else (clrD (0 : Int32) (2 : Int32) (0 : Int32) (0 : Int32) (0 : Int32) (0 : UInt64)))) (0 : UInt64)) .l) = (0 : Int32) := own_q0
    refine Go.on (fun _ k => XS.ifNo X21.here hx rfl (hb hby at_187) rfl ((if0 _ _).trans (teq hc22).2) k) ?_
    show Go _ _ _ _ _ _ _ _ (mkF m 190 #[.val (.int cnt), .val (.int i0), .val (.int i1), .val (.int i2), .val (.int i3), .val (.int (0 : Int32)), .val (.int d1), .val (.int d2), .val (.int d3), .val (.ref q), .val (.int (1 : Int32))] [])
    refine Go.on (fun _ k => XS.iconst X21.here hx rfl (hb hby at_190) k) ?_
    show Go _ _ _ _ _ _ _ _ (mkF m 191 #[.val (.int cnt), .val (.int i0), .val (.int i1), .val (.int i2), .val (.int i3), .val (.int (0 : Int32)), .val (.int d1), .val (.int d2), .val (.int d3), .val (.ref q), .val (.int (1 : Int32))] [(.int (1 : Int32))])
    refine Go.on (fun _ k => XS.goto X21.here hx rfl (pc0 := 191) (pc' := 195) rfl (hb hby at_191) (by decide) (by decide) k) ?_
    show Go _ _ _ _ _ _ _ _ (mkF m 195 #[.val (.int cnt), .val (.int i0), .val (.int i1), .val (.int i2), .val (.int i3), .val (.int (0 : Int32)), .val (.int d1), .val (.int d2), .val (.int d3), .val (.ref q), .val (.int (1 : Int32))] [(.int (1 : Int32))])
    refine Go.on (fun _ k => XS.istore X21.here hx rfl (hb hby at_195) rfl (l' := #[.val (.int cnt), .val (.int i0), .val (.int i1), .val (.int i2), .val (.int i3), .val (.int (0 : Int32)), .val (.int d1), .val (.int d2), .val (.int d3), .val (.ref q), .val (.int (1 : Int32))]) rfl k) ?_
    show Go _ _ _ _ _ _ _ _ (mkF m 197 #[.val (.int cnt), .val (.int i0), .val (.int i1), .val (.int i2), .val (.int i3), .val (.int (0 : Int32)), .val (.int d1), .val (.int d2), .val (.int d3), .val (.ref q), .val (.int (1 : Int32))] [])
    refine Go.on (fun _ k => XS.iload X21.here hx rfl (hb hby at_197) rfl k) ?_
    show Go _ _ _ _ _ _ _ _ (mkF m 199 #[.val (.int cnt), .val (.int i0), .val (.int i1), .val (.int i2), .val (.int i3), .val (.int (0 : Int32)), .val (.int d1), .val (.int d2), .val (.int d3), .val (.ref q), .val (.int (1 : Int32))] [(.int (1 : Int32))])
    refine Go.retN X21 hx (t := .boolean) Bd.returns (by simp) (hb hby at_199) ?_ (by rw [hK1]; decide) (by rw [hK2]; decide)
    rw [e21, ← hQQ]
    exact ⟨rfl, N21⟩
  · -- 1 values
    subst hl
    show Go _ _ _ _ _ _ _ _ (mkF m 48 #[.val (.int cnt), .val (.int i0), .val (.int i1), .val (.int i2), .val (.int i3), .val (.int (1 : Int32)), .val (.int d1), .val (.int d2), .val (.int d3), .val (.ref q), .unset] [])
    refine Go.on (fun _ k => XS.iload X2.here hx rfl (hb hby at_48) rfl k) ?_
    show Go _ _ _ _ _ _ _ _ (mkF m 50 #[.val (.int cnt), .val (.int i0), .val (.int i1), .val (.int i2), .val (.int i3), .val (.int (1 : Int32)), .val (.int d1), .val (.int d2), .val (.int d3), .val (.ref q), .unset] [(.int (1 : Int32))])
    have hc23 : (0 : Int32) < (1 : Int32) := by decide
    refine Go.on (fun _ k => XS.ifNo X2.here hx rfl (hb hby at_50) rfl ((if0 _ _).trans (tlt hc23).2.2.2) k) ?_
    show Go _ _ _ _ _ _ _ _ (mkF m 53 #[.val (.int cnt), .val (.int i0), .val (.int i1), .val (.int i2), .val (.int i3), .val (.int (1 : Int32)), .val (.int d1), .val (.int d2), .val (.int d3), .val (.ref q), .unset] [])
    refine Go.on (fun _ k => XS.aload X2.here hx rfl (hb hby at_53) rfl rfl k) ?_
    show Go _ _ _ _ _ _ _ _ (mkF m 55 #[.val (.int cnt), .val (.int i0), .val (.int i1), .val (.int i2), .val (.int i3), .val (.int (1 : Int32)), .val (.int d1), .val (.int d2), .val (.int d3), .val (.ref q), .unset] [(.ref q)])
    refine Go.on (fun _ k => XS.iload X2.here hx rfl (hb hby at_55) rfl k) ?_
    show Go _ _ _ _ _ _ _ _ (mkF m 57 #[.val (.int cnt), .val (.int i0), .val (.int i1), .val (.int i2), .val (.int i3), .val (.int (1 : Int32)), .val (.int d1), .val (.int d2), .val (.int d3), .val (.ref q), .unset] [(.int d1), (.ref q)])
    refine Go.on (fun _ k => XS.iloadN X2.here hx rfl (hb hby at_57) rfl k) ?_
    show Go _ _ _ _ _ _ _ _ (mkF m 58 #[.val (.int cnt), .val (.int i0), .val (.int i1), .val (.int i2), .val (.int i3), .val (.int (1 : Int32)), .val (.int d1), .val (.int d2), .val (.int d3), .val (.ref q), .unset] [(.int i1), (.int d1), (.ref q)])
    refine Go.on (fun _ k => XS.i2dS X2.here hx rfl (hb hby at_58) rfl rfl k) ?_
    show Go _ _ _ _ _ _ _ _ (mkF m 59 #[.val (.int cnt), .val (.int i0), .val (.int i1), .val (.int i2), .val (.int i3), .val (.int (1 : Int32)), .val (.int d1), .val (.int d2), .val (.int d3), .val (.ref q), .unset] [(.double (FP.i2d i1)), (.int d1), (.ref q)])
    obtain ⟨cq24, kq24, q24a, q24b, q24c⟩ := isOf hZ e2 E_q
    obtain ⟨_, _, ⟨T24, L24, k24, n24⟩, -, X24, ⟨Lc24, hQ24, l24, y24, z24⟩, st24⟩ := X2.virtualBack hx (y := (⟨"com/example/clirtools/clirtools/DocumentSums", "add", "(ID)V"⟩ : MethodName)) (z := (⟨"com/example/clirtools/clirtools/DocumentSums", "add", "(ID)V"⟩ : MethodName)) hown (mvT hZ (hw _ (List.mem_of_getElem? (i := 39) rfl))) (mvT hZ (hw _ (List.mem_of_getElem? (i := 40) rfl))) (notFace_of_selects (args := #[]) (mvT hZ (hw _ (List.mem_of_getElem? (i := 42) rfl)))) (mvT hZ (hw _ (List.mem_of_getElem? (i := 42) rfl))) (mvT hZ (hw _ (List.mem_of_getElem? (i := 41) rfl))) (by decide) (backOf (W := 0) (rm7 l Z aw hw [] q d1 (FP.i2d i1) as ac ad (0 : Int32) k_as (0 : UInt64) (0 : UInt64) (0 : UInt64) k_ac (0 : Int32) (0 : Int32) (0 : Int32) k_ad (0 : Int32) (0 : Int32) (0 : Int32) h2 n0 ZZ E_q F_sums_q F_counts_q F_documents_q F_size_q V_as V_ac V_ad g_q g_as g_ac g_ad ne_q_as ne_q_ac ne_q_ad ne_as_ac ne_as_ad ne_ac_ad (own_three hd1) (own_hz1 hd1 hd2 hd3 ) (own_nn1 hd1 hd2 hd3  i1 i2 i3)) hZ (hw _ (List.mem_of_getElem? (i := 43) rfl)) (hw _ (List.mem_of_getElem? (i := 2) rfl)) (by decide) (by decide)) q24a q24c (g := (mkF m 59 #[.val (.int cnt), .val (.int i0), .val (.int i1), .val (.int i2), .val (.int i3), .val (.int (1 : Int32)), .val (.int d1), .val (.int d2), .val (.int d3), .val (.ref q), .unset] [(.double (FP.i2d i1)), (.int d1), (.ref q)])) rfl (by rw [hml]; rfl) (Steps.refl _) (argsL := [(.int d1), (.double (FP.i2d i1))]) (rest := []) (lenOf pd_5 rfl) rfl (by show 2 * 0 + _ ≤ _; exact Nat.le_of_eq rfl) (hb hby at_59) (fun _ _ => ⟨rfl, e2, (by decide : 4 + 0 ≤ _), (by decide : 13 + 0 ≤ _)⟩)
    dsimp only [Pt.U, Pt.locs, Pt.cells, Pt.slots] at X24 l24 y24 z24 st24 hQ24
    subst l24 y24 z24
    obtain ⟨h24, e24⟩ : ∃ q, T24.heap = q := ⟨_, rfl⟩
    rw [e24] at hQ24
    obtain ⟨rfl, N24q, K24q, Eq24, F_sumsq24, F_countsq24, F_documentsq24, F_sizeq24, V_Sq24, V_Cq24, V_Eq24⟩ := hQ24
    have N24 := Fr.app N2 N24q
    have ZZ24p := ZZ
    have lt_q := E_q.lt
    have lt_as := V_as.lt
    have lt_ac := V_ac.lt
    have lt_ad := V_ad.lt
    replace E_q := E_q.keep K24q
    replace ZZ := Nat.le_trans ZZ K24q.1
    have F_sums_q := F_sumsq24
    have F_counts_q := F_countsq24
    have F_documents_q := F_documentsq24
    have F_size_q := F_sizeq24
    obtain ⟨z1, hz1⟩ : ∃ q : Int32, q = (if (if d1 = (0 : Int32) then (0 : Int32) else (if d1 = (1 : Int32) then (0 : Int32) else (0 : Int32))) = (0 : Int32) then ((0 : Int32) + (1 : Int32)) else (0 : Int32)) := ⟨_, rfl⟩
    rw [← hz1] at F_size_q
    have V_as := V_Sq24
    obtain ⟨sv1_0, hsv1_0⟩ : ∃ q : UInt64, q = (if d1 = (0 : Int32) then (FP.dadd (if d1 = (0 : Int32) then (0 : UInt64) else (if d1 = (1 : Int32) then (0 : UInt64) else (0 : UInt64))) (FP.i2d i1)) else (0 : UInt64)) := ⟨_, rfl⟩
    rw [← hsv1_0] at V_as
    obtain ⟨sv1_1, hsv1_1⟩ : ∃ q : UInt64, q = (if d1 = (1 : Int32) then (FP.dadd (if d1 = (0 : Int32) then (0 : UInt64) else (if d1 = (1 : Int32) then (0 : UInt64) else (0 : UInt64))) (FP.i2d i1)) else (0 : UInt64)) := ⟨_, rfl⟩
    rw [← hsv1_1] at V_as
    obtain ⟨sv1_2, hsv1_2⟩ : ∃ q : UInt64, q = (if d1 = (2 : Int32) then (FP.dadd (if d1 = (0 : Int32) then (0 : UInt64) else (if d1 = (1 : Int32) then (0 : UInt64) else (0 : UInt64))) (FP.i2d i1)) else (0 : UInt64)) := ⟨_, rfl⟩
    rw [← hsv1_2] at V_as
    have V_ac := V_Cq24
    obtain ⟨cv1_0, hcv1_0⟩ : ∃ q : Int32, q = (if d1 = (0 : Int32) then ((if d1 = (0 : Int32) then (0 : Int32) else (if d1 = (1 : Int32) then (0 : Int32) else (0 : Int32))) + (1 : Int32)) else (0 : Int32)) := ⟨_, rfl⟩
    rw [← hcv1_0] at V_ac
    obtain ⟨cv1_1, hcv1_1⟩ : ∃ q : Int32, q = (if d1 = (1 : Int32) then ((if d1 = (0 : Int32) then (0 : Int32) else (if d1 = (1 : Int32) then (0 : Int32) else (0 : Int32))) + (1 : Int32)) else (0 : Int32)) := ⟨_, rfl⟩
    rw [← hcv1_1] at V_ac
    obtain ⟨cv1_2, hcv1_2⟩ : ∃ q : Int32, q = (if d1 = (2 : Int32) then ((if d1 = (0 : Int32) then (0 : Int32) else (if d1 = (1 : Int32) then (0 : Int32) else (0 : Int32))) + (1 : Int32)) else (0 : Int32)) := ⟨_, rfl⟩
    rw [← hcv1_2] at V_ac
    have V_ad := V_Eq24
    obtain ⟨ev1_0, hev1_0⟩ : ∃ q : Int32, q = (if (if d1 = (0 : Int32) then (0 : Int32) else (if d1 = (1 : Int32) then (0 : Int32) else (0 : Int32))) = (0 : Int32) then (if (0 : Int32) = (0 : Int32) then d1 else (0 : Int32)) else (0 : Int32)) := ⟨_, rfl⟩
    rw [← hev1_0] at V_ad
    obtain ⟨ev1_1, hev1_1⟩ : ∃ q : Int32, q = (if (if d1 = (0 : Int32) then (0 : Int32) else (if d1 = (1 : Int32) then (0 : Int32) else (0 : Int32))) = (0 : Int32) then (if (0 : Int32) = (1 : Int32) then d1 else (0 : Int32)) else (0 : Int32)) := ⟨_, rfl⟩
    rw [← hev1_1] at V_ad
    obtain ⟨ev1_2, hev1_2⟩ : ∃ q : Int32, q = (if (if d1 = (0 : Int32) then (0 : Int32) else (if d1 = (1 : Int32) then (0 : Int32) else (0 : Int32))) = (0 : Int32) then (if (0 : Int32) = (2 : Int32) then d1 else (0 : Int32)) else (0 : Int32)) := ⟨_, rfl⟩
    rw [← hev1_2] at V_ad
    refine Go.on (fun _ k => st24.trans k) ?_
    show Go _ _ _ _ _ _ _ _ (mkF m 62 #[.val (.int cnt), .val (.int i0), .val (.int i1), .val (.int i2), .val (.int i3), .val (.int (1 : Int32)), .val (.int d1), .val (.int d2), .val (.int d3), .val (.ref q), .unset] [])
    refine Go.on (fun _ k => XS.iload X24.here hx rfl (hb hby at_62) rfl k) ?_
    show Go _ _ _ _ _ _ _ _ (mkF m 64 #[.val (.int cnt), .val (.int i0), .val (.int i1), .val (.int i2), .val (.int i3), .val (.int (1 : Int32)), .val (.int d1), .val (.int d2), .val (.int d3), .val (.ref q), .unset] [(.int (1 : Int32))])
    refine Go.on (fun _ k => XS.iconst X24.here hx rfl (hb hby at_64) k) ?_
    show Go _ _ _ _ _ _ _ _ (mkF m 65 #[.val (.int cnt), .val (.int i0), .val (.int i1), .val (.int i2), .val (.int i3), .val (.int (1 : Int32)), .val (.int d1), .val (.int d2), .val (.int d3), .val (.ref q), .unset] [(.int (1 : Int32)), (.int (1 : Int32))])
    have hc25 : ¬ ((1 : Int32) < (1 : Int32)) := by decide
    refine Go.on (fun _ k => XS.icmpYes X24.here hx rfl (pc0 := 65) (pc' := 77) rfl (hb hby at_65) rfl (flt hc25).2.2.2 (by decide) (by decide) k) ?_
    show Go _ _ _ _ _ _ _ _ (mkF m 77 #[.val (.int cnt), .val (.int i0), .val (.int i1), .val (.int i2), .val (.int i3), .val (.int (1 : Int32)), .val (.int d1), .val (.int d2), .val (.int d3), .val (.ref q), .unset] [])
    refine Go.on (fun _ k => XS.iload X24.here hx rfl (hb hby at_77) rfl k) ?_
    show Go _ _ _ _ _ _ _ _ (mkF m 79 #[.val (.int cnt), .val (.int i0), .val (.int i1), .val (.int i2), .val (.int i3), .val (.int (1 : Int32)), .val (.int d1), .val (.int d2), .val (.int d3), .val (.ref q), .unset] [(.int (1 : Int32))])
    refine Go.on (fun _ k => XS.iconst X24.here hx rfl (hb hby at_79) k) ?_
    show Go _ _ _ _ _ _ _ _ (mkF m 80 #[.val (.int cnt), .val (.int i0), .val (.int i1), .val (.int i2), .val (.int i3), .val (.int (1 : Int32)), .val (.int d1), .val (.int d2), .val (.int d3), .val (.ref q), .unset] [(.int (2 : Int32)), (.int (1 : Int32))])
    have hc26 : ¬ ((2 : Int32) < (1 : Int32)) := by decide
    refine Go.on (fun _ k => XS.icmpYes X24.here hx rfl (pc0 := 80) (pc' := 93) rfl (hb hby at_80) rfl (flt hc26).2.2.2 (by decide) (by decide) k) ?_
    show Go _ _ _ _ _ _ _ _ (mkF m 93 #[.val (.int cnt), .val (.int i0), .val (.int i1), .val (.int i2), .val (.int i3), .val (.int (1 : Int32)), .val (.int d1), .val (.int d2), .val (.int d3), .val (.ref q), .unset] [])
    refine Go.on (fun _ k => XS.aload X24.here hx rfl (hb hby at_93) rfl rfl k) ?_
    show Go _ _ _ _ _ _ _ _ (mkF m 95 #[.val (.int cnt), .val (.int i0), .val (.int i1), .val (.int i2), .val (.int i3), .val (.int (1 : Int32)), .val (.int d1), .val (.int d2), .val (.int d3), .val (.ref q), .unset] [(.ref q)])
    obtain ⟨cq27, kq27, q27a, q27b, q27c⟩ := isOf hZ e24 E_q
    obtain ⟨_, _, ⟨T27, L27, k27, n27⟩, -, X27, ⟨Lc27, hQ27, l27, y27, z27⟩, st27⟩ := X24.virtualBack hx (y := (⟨"com/example/clirtools/clirtools/DocumentSums", "clear", "()V"⟩ : MethodName)) (z := (⟨"com/example/clirtools/clirtools/DocumentSums", "clear", "()V"⟩ : MethodName)) hown (mvT hZ (hw _ (List.mem_of_getElem? (i := 17) rfl))) (mvT hZ (hw _ (List.mem_of_getElem? (i := 18) rfl))) (notFace_of_selects (args := #[]) (mvT hZ (hw _ (List.mem_of_getElem? (i := 20) rfl)))) (mvT hZ (hw _ (List.mem_of_getElem? (i := 20) rfl))) (mvT hZ (hw _ (List.mem_of_getElem? (i := 19) rfl))) (by decide) (backOf (W := 0) (rm3 l Z aw hw [] q as ac ad z1 k_as sv1_0 sv1_1 sv1_2 k_ac cv1_0 cv1_1 cv1_2 k_ad ev1_0 ev1_1 ev1_2 h24 n0 ZZ E_q F_sums_q F_counts_q F_documents_q F_size_q V_as V_ac V_ad g_q g_as g_ac ne_q_as ne_q_ac ne_q_ad ne_as_ac ne_as_ad ne_ac_ad (own_e1_s hd1 hd2 hd3 hsv1_0 hsv1_1 hsv1_2 hcv1_0 hcv1_1 hcv1_2 hev1_0 hev1_1 hev1_2 hz1) (own_e1_0 hd1 hd2 hd3 hsv1_0 hsv1_1 hsv1_2 hcv1_0 hcv1_1 hcv1_2 hev1_0 hev1_1 hev1_2 hz1) (own_e1_1 hd1 hd2 hd3 hsv1_0 hsv1_1 hsv1_2 hcv1_0 hcv1_1 hcv1_2 hev1_0 hev1_1 hev1_2 hz1) (own_e1_2 hd1 hd2 hd3 hsv1_0 hsv1_1 hsv1_2 hcv1_0 hcv1_1 hcv1_2 hev1_0 hev1_1 hev1_2 hz1)) hZ (hw _ (List.mem_of_getElem? (i := 21) rfl)) (hw _ (List.mem_of_getElem? (i := 2) rfl)) (by decide) (by decide)) q27a q27c (g := (mkF m 95 #[.val (.int cnt), .val (.int i0), .val (.int i1), .val (.int i2), .val (.int i3), .val (.int (1 : Int32)), .val (.int d1), .val (.int d2), .val (.int d3), .val (.ref q), .unset] [(.ref q)])) rfl (by rw [hml]; rfl) (Steps.refl _) (argsL := []) (rest := []) (lenOf pd_1 rfl) rfl (by show 2 * 0 + _ ≤ _; exact Nat.le_of_eq rfl) (hb hby at_95) (fun _ _ => ⟨rfl, e24, (by decide : 4 + 0 ≤ _), (by decide : 13 + 0 ≤ _)⟩)
    dsimp only [Pt.U, Pt.locs, Pt.cells, Pt.slots] at X27 l27 y27 z27 st27 hQ27
    subst l27 y27 z27
    obtain ⟨h27, e27⟩ : ∃ q, T27.heap = q := ⟨_, rfl⟩
    rw [e27] at hQ27
    obtain ⟨rfl, N27q, K27q, Eq27, F_sumsq27, F_countsq27, F_documentsq27, F_sizeq27, V_Sq27, V_Cq27⟩ := hQ27
    have N27 := Fr.app N24 N27q
    have ZZ27p := ZZ
    have lt_q := E_q.lt
    have lt_as := V_as.lt
    have lt_ac := V_ac.lt
    have lt_ad := V_ad.lt
    replace E_q := E_q.keep K27q
    replace V_ad := V_ad.keep K27q (ninS (Ne.symm ne_q_ad) (ninS (Ne.symm ne_as_ad) (ninS (Ne.symm ne_ac_ad) nin0)))
    replace ZZ := Nat.le_trans ZZ K27q.1
    have F_sums_q := F_sumsq27
    have F_counts_q := F_countsq27
    have F_documents_q := F_documentsq27
    have F_size_q := F_sizeq27
    have V_as := V_Sq27
    have V_ac := V_Cq27
    refine Go.on (fun _ k => st27.trans k) ?_
    show Go _ _ _ _ _ _ _ _ (mkF m 98 #[.val (.int cnt), .val (.int i0), .val (.int i1), .val (.int i2), .val (.int i3), .val (.int (1 : Int32)), .val (.int d1), .val (.int d2), .val (.int d3), .val (.ref q), .unset] [])
    refine Go.on (fun _ k => XS.aload X27.here hx rfl (hb hby at_98) rfl rfl k) ?_
    show Go _ _ _ _ _ _ _ _ (mkF m 100 #[.val (.int cnt), .val (.int i0), .val (.int i1), .val (.int i2), .val (.int i3), .val (.int (1 : Int32)), .val (.int d1), .val (.int d2), .val (.int d3), .val (.ref q), .unset] [(.ref q)])
    obtain ⟨cq28, kq28, q28a, q28b, q28c⟩ := isOf hZ e27 E_q
    obtain ⟨_, _, ⟨T28, L28, k28, n28⟩, -, X28, ⟨Lc28, hQ28, l28, y28, z28⟩, st28⟩ := X27.virtualBack hx (y := (⟨"com/example/clirtools/clirtools/DocumentSums", "size", "()I"⟩ : MethodName)) (z := (⟨"com/example/clirtools/clirtools/DocumentSums", "size", "()I"⟩ : MethodName)) hown (mvT hZ (hw _ (List.mem_of_getElem? (i := 24) rfl))) (mvT hZ (hw _ (List.mem_of_getElem? (i := 25) rfl))) (notFace_of_selects (args := #[]) (mvT hZ (hw _ (List.mem_of_getElem? (i := 27) rfl)))) (mvT hZ (hw _ (List.mem_of_getElem? (i := 27) rfl))) (mvT hZ (hw _ (List.mem_of_getElem? (i := 26) rfl))) (by decide) (backOf (W := 0) (rm4 l Z aw hw [] q (0 : Int32) h27 n0 ZZ F_size_q) hZ (hw _ (List.mem_of_getElem? (i := 28) rfl)) (hw _ (List.mem_of_getElem? (i := 2) rfl)) (by decide) (by decide)) q28a q28c (g := (mkF m 100 #[.val (.int cnt), .val (.int i0), .val (.int i1), .val (.int i2), .val (.int i3), .val (.int (1 : Int32)), .val (.int d1), .val (.int d2), .val (.int d3), .val (.ref q), .unset] [(.ref q)])) rfl (by rw [hml]; rfl) (Steps.refl _) (argsL := []) (rest := []) (lenOf pd_2 rfl) rfl (by show 2 * 0 + _ ≤ _; exact Nat.le_of_eq rfl) (hb hby at_100) (fun _ _ => ⟨rfl, e27, (by decide : 4 + 0 ≤ _), (by decide : 13 + 0 ≤ _)⟩)
    dsimp only [Pt.U, Pt.locs, Pt.cells, Pt.slots] at X28 l28 y28 z28 st28 hQ28
    subst l28 y28 z28
    obtain ⟨rfl, N28q, e28⟩ := hQ28
    have N28 := Fr.app N27 N28q
    refine Go.on (fun _ k => st28.trans k) ?_
    show Go _ _ _ _ _ _ _ _ (mkF m 103 #[.val (.int cnt), .val (.int i0), .val (.int i1), .val (.int i2), .val (.int i3), .val (.int (1 : Int32)), .val (.int d1), .val (.int d2), .val (.int d3), .val (.ref q), .unset] [(.int (0 : Int32))])
    have hc29 : (0 : Int32) = (0 : Int32) := by decide
    refine Go.on (fun _ k => XS.ifNo X28.here hx rfl (hb hby at_103) rfl ((if0 _ _).trans (teq hc29).2) k) ?_
    show Go _ _ _ _ _ _ _ _ (mkF m 106 #[.val (.int cnt), .val (.int i0), .val (.int i1), .val (.int i2), .val (.int i3), .val (.int (1 : Int32)), .val (.int d1), .val (.int d2), .val (.int d3), .val (.ref q), .unset] [])
    refine Go.on (fun _ k => XS.iconst X28.here hx rfl (hb hby at_106) k) ?_
    show Go _ _ _ _ _ _ _ _ (mkF m 107 #[.val (.int cnt), .val (.int i0), .val (.int i1), .val (.int i2), .val (.int i3), .val (.int (1 : Int32)), .val (.int d1), .val (.int d2), .val (.int d3), .val (.ref q), .unset] [(.int (1 : Int32))])
    refine Go.on (fun _ k => XS.goto X28.here hx rfl (pc0 := 107) (pc' := 111) rfl (hb hby at_107) (by decide) (by decide) k) ?_
    show Go _ _ _ _ _ _ _ _ (mkF m 111 #[.val (.int cnt), .val (.int i0), .val (.int i1), .val (.int i2), .val (.int i3), .val (.int (1 : Int32)), .val (.int d1), .val (.int d2), .val (.int d3), .val (.ref q), .unset] [(.int (1 : Int32))])
    refine Go.on (fun _ k => XS.istore X28.here hx rfl (hb hby at_111) rfl (l' := #[.val (.int cnt), .val (.int i0), .val (.int i1), .val (.int i2), .val (.int i3), .val (.int (1 : Int32)), .val (.int d1), .val (.int d2), .val (.int d3), .val (.ref q), .val (.int (1 : Int32))]) rfl k) ?_
    show Go _ _ _ _ _ _ _ _ (mkF m 113 #[.val (.int cnt), .val (.int i0), .val (.int i1), .val (.int i2), .val (.int i3), .val (.int (1 : Int32)), .val (.int d1), .val (.int d2), .val (.int d3), .val (.ref q), .val (.int (1 : Int32))] [])
    refine Go.on (fun _ k => XS.iload X28.here hx rfl (hb hby at_113) rfl k) ?_
    show Go _ _ _ _ _ _ _ _ (mkF m 115 #[.val (.int cnt), .val (.int i0), .val (.int i1), .val (.int i2), .val (.int i3), .val (.int (1 : Int32)), .val (.int d1), .val (.int d2), .val (.int d3), .val (.ref q), .val (.int (1 : Int32))] [(.int (1 : Int32))])
    have hc30 : ¬ ((1 : Int32) = (0 : Int32)) := by decide
    refine Go.on (fun _ k => XS.ifNo X28.here hx rfl (hb hby at_115) rfl ((if0 _ _).trans (feq hc30).1) k) ?_
    show Go _ _ _ _ _ _ _ _ (mkF m 118 #[.val (.int cnt), .val (.int i0), .val (.int i1), .val (.int i2), .val (.int i3), .val (.int (1 : Int32)), .val (.int d1), .val (.int d2), .val (.int d3), .val (.ref q), .val (.int (1 : Int32))] [])
    refine Go.on (fun _ k => XS.aload X28.here hx rfl (hb hby at_118) rfl rfl k) ?_
    show Go _ _ _ _ _ _ _ _ (mkF m 120 #[.val (.int cnt), .val (.int i0), .val (.int i1), .val (.int i2), .val (.int i3), .val (.int (1 : Int32)), .val (.int d1), .val (.int d2), .val (.int d3), .val (.ref q), .val (.int (1 : Int32))] [(.ref q)])
    refine Go.on (fun _ k => XS.iconst X28.here hx rfl (hb hby at_120) k) ?_
    show Go _ _ _ _ _ _ _ _ (mkF m 121 #[.val (.int cnt), .val (.int i0), .val (.int i1), .val (.int i2), .val (.int i3), .val (.int (1 : Int32)), .val (.int d1), .val (.int d2), .val (.int d3), .val (.ref q), .val (.int (1 : Int32))] [(.int (0 : Int32)), (.ref q)])
    obtain ⟨cq31, kq31, q31a, q31b, q31c⟩ := isOf hZ e28 E_q
    obtain ⟨_, _, ⟨T31, L31, k31, n31⟩, -, X31, ⟨Lc31, hQ31, l31, y31, z31⟩, st31⟩ := X28.virtualBack hx (y := (⟨"com/example/clirtools/clirtools/DocumentSums", "count", "(I)I"⟩ : MethodName)) (z := (⟨"com/example/clirtools/clirtools/DocumentSums", "count", "(I)I"⟩ : MethodName)) hown (mvT hZ (hw _ (List.mem_of_getElem? (i := 29) rfl))) (mvT hZ (hw _ (List.mem_of_getElem? (i := 30) rfl))) (notFace_of_selects (args := #[]) (mvT hZ (hw _ (List.mem_of_getElem? (i := 32) rfl)))) (mvT hZ (hw _ (List.mem_of_getElem? (i := 32) rfl))) (mvT hZ (hw _ (List.mem_of_getElem? (i := 31) rfl))) (by decide) (backOf (W := 0) (rm5 l Z aw hw [] q (0 : Int32) ac k_ac (clrI z1 (0 : Int32) ev1_0 ev1_1 ev1_2 cv1_0) (clrI z1 (1 : Int32) ev1_0 ev1_1 ev1_2 cv1_1) (clrI z1 (2 : Int32) ev1_0 ev1_1 ev1_2 cv1_2) h27 n0 ZZ F_counts_q V_ac (by unfold Three; decide)) hZ (hw _ (List.mem_of_getElem? (i := 33) rfl)) (hw _ (List.mem_of_getElem? (i := 2) rfl)) (by decide) (by decide)) q31a q31c (g := (mkF m 121 #[.val (.int cnt), .val (.int i0), .val (.int i1), .val (.int i2), .val (.int i3), .val (.int (1 : Int32)), .val (.int d1), .val (.int d2), .val (.int d3), .val (.ref q), .val (.int (1 : Int32))] [(.int (0 : Int32)), (.ref q)])) rfl (by rw [hml]; rfl) (Steps.refl _) (argsL := [(.int (0 : Int32))]) (rest := []) (lenOf pd_3 rfl) rfl (by show 2 * 0 + _ ≤ _; exact Nat.le_of_eq rfl) (hb hby at_121) (fun _ _ => ⟨rfl, e28, (by decide : 4 + 0 ≤ _), (by decide : 13 + 0 ≤ _)⟩)
    dsimp only [Pt.U, Pt.locs, Pt.cells, Pt.slots] at X31 l31 y31 z31 st31 hQ31
    subst l31 y31 z31
    obtain ⟨rfl, N31q, e31⟩ := hQ31
    have N31 := Fr.app N28 N31q
    refine Go.on (fun _ k => st31.trans k) ?_
    show Go _ _ _ _ _ _ _ _ (mkF m 124 #[.val (.int cnt), .val (.int i0), .val (.int i1), .val (.int i2), .val (.int i3), .val (.int (1 : Int32)), .val (.int d1), .val (.int d2), .val (.int d3), .val (.ref q), .val (.int (1 : Int32))] [(.int (if (0 : Int32) = (0 : Int32) then (clrI z1 (0 : Int32) ev1_0 ev1_1 ev1_2 cv1_0) else (if (0 : Int32) = (1 : Int32) then (clrI z1 (1 : Int32) ev1_0 ev1_1 ev1_2 cv1_1) else (clrI z1 (2 : Int32) ev1_0 ev1_1 ev1_2 cv1_2))))])
    have hc32 : (if (0 : Int32) = (0 : Int32) then (clrI z1 (0 : Int32) ev1_0 ev1_1 ev1_2 cv1_0) else (if (0 : Int32) = (1 : Int32) then (clrI z1 (1 : Int32) ev1_0 ev1_1 ev1_2 cv1_1) else (clrI z1 (2 : Int32) ev1_0 ev1_1 ev1_2 cv1_2))) = (0 : Int32) := own_k1_0 hd1 hd2 hd3 hsv1_0 hsv1_1 hsv1_2 hcv1_0 hcv1_1 hcv1_2 hev1_0 hev1_1 hev1_2 hz1
    refine Go.on (fun _ k => XS.ifNo X31.here hx rfl (hb hby at_124) rfl ((if0 _ _).trans (teq hc32).2) k) ?_
    show Go _ _ _ _ _ _ _ _ (mkF m 127 #[.val (.int cnt), .val (.int i0), .val (.int i1), .val (.int i2), .val (.int i3), .val (.int (1 : Int32)), .val (.int d1), .val (.int d2), .val (.int d3), .val (.ref q), .val (.int (1 : Int32))] [])
    refine Go.on (fun _ k => XS.aload X31.here hx rfl (hb hby at_127) rfl rfl k) ?_
    show Go _ _ _ _ _ _ _ _ (mkF m 129 #[.val (.int cnt), .val (.int i0), .val (.int i1), .val (.int i2), .val (.int i3), .val (.int (1 : Int32)), .val (.int d1), .val (.int d2), .val (.int d3), .val (.ref q), .val (.int (1 : Int32))] [(.ref q)])
    refine Go.on (fun _ k => XS.iconst X31.here hx rfl (hb hby at_129) k) ?_
    show Go _ _ _ _ _ _ _ _ (mkF m 130 #[.val (.int cnt), .val (.int i0), .val (.int i1), .val (.int i2), .val (.int i3), .val (.int (1 : Int32)), .val (.int d1), .val (.int d2), .val (.int d3), .val (.ref q), .val (.int (1 : Int32))] [(.int (1 : Int32)), (.ref q)])
    obtain ⟨cq33, kq33, q33a, q33b, q33c⟩ := isOf hZ e31 E_q
    obtain ⟨_, _, ⟨T33, L33, k33, n33⟩, -, X33, ⟨Lc33, hQ33, l33, y33, z33⟩, st33⟩ := X31.virtualBack hx (y := (⟨"com/example/clirtools/clirtools/DocumentSums", "count", "(I)I"⟩ : MethodName)) (z := (⟨"com/example/clirtools/clirtools/DocumentSums", "count", "(I)I"⟩ : MethodName)) hown (mvT hZ (hw _ (List.mem_of_getElem? (i := 29) rfl))) (mvT hZ (hw _ (List.mem_of_getElem? (i := 30) rfl))) (notFace_of_selects (args := #[]) (mvT hZ (hw _ (List.mem_of_getElem? (i := 32) rfl)))) (mvT hZ (hw _ (List.mem_of_getElem? (i := 32) rfl))) (mvT hZ (hw _ (List.mem_of_getElem? (i := 31) rfl))) (by decide) (backOf (W := 0) (rm5 l Z aw hw [] q (1 : Int32) ac k_ac (clrI z1 (0 : Int32) ev1_0 ev1_1 ev1_2 cv1_0) (clrI z1 (1 : Int32) ev1_0 ev1_1 ev1_2 cv1_1) (clrI z1 (2 : Int32) ev1_0 ev1_1 ev1_2 cv1_2) h27 n0 ZZ F_counts_q V_ac (by unfold Three; decide)) hZ (hw _ (List.mem_of_getElem? (i := 33) rfl)) (hw _ (List.mem_of_getElem? (i := 2) rfl)) (by decide) (by decide)) q33a q33c (g := (mkF m 130 #[.val (.int cnt), .val (.int i0), .val (.int i1), .val (.int i2), .val (.int i3), .val (.int (1 : Int32)), .val (.int d1), .val (.int d2), .val (.int d3), .val (.ref q), .val (.int (1 : Int32))] [(.int (1 : Int32)), (.ref q)])) rfl (by rw [hml]; rfl) (Steps.refl _) (argsL := [(.int (1 : Int32))]) (rest := []) (lenOf pd_3 rfl) rfl (by show 2 * 0 + _ ≤ _; exact Nat.le_of_eq rfl) (hb hby at_130) (fun _ _ => ⟨rfl, e31, (by decide : 4 + 0 ≤ _), (by decide : 13 + 0 ≤ _)⟩)
    dsimp only [Pt.U, Pt.locs, Pt.cells, Pt.slots] at X33 l33 y33 z33 st33 hQ33
    subst l33 y33 z33
    obtain ⟨rfl, N33q, e33⟩ := hQ33
    have N33 := Fr.app N31 N33q
    refine Go.on (fun _ k => st33.trans k) ?_
    show Go _ _ _ _ _ _ _ _ (mkF m 133 #[.val (.int cnt), .val (.int i0), .val (.int i1), .val (.int i2), .val (.int i3), .val (.int (1 : Int32)), .val (.int d1), .val (.int d2), .val (.int d3), .val (.ref q), .val (.int (1 : Int32))] [(.int (if (1 : Int32) = (0 : Int32) then (clrI z1 (0 : Int32) ev1_0 ev1_1 ev1_2 cv1_0) else (if (1 : Int32) = (1 : Int32) then (clrI z1 (1 : Int32) ev1_0 ev1_1 ev1_2 cv1_1) else (clrI z1 (2 : Int32) ev1_0 ev1_1 ev1_2 cv1_2))))])
    have hc34 : (if (1 : Int32) = (0 : Int32) then (clrI z1 (0 : Int32) ev1_0 ev1_1 ev1_2 cv1_0) else (if (1 : Int32) = (1 : Int32) then (clrI z1 (1 : Int32) ev1_0 ev1_1 ev1_2 cv1_1) else (clrI z1 (2 : Int32) ev1_0 ev1_1 ev1_2 cv1_2))) = (0 : Int32) := own_k1_1 hd1 hd2 hd3 hsv1_0 hsv1_1 hsv1_2 hcv1_0 hcv1_1 hcv1_2 hev1_0 hev1_1 hev1_2 hz1
    refine Go.on (fun _ k => XS.ifNo X33.here hx rfl (hb hby at_133) rfl ((if0 _ _).trans (teq hc34).2) k) ?_
    show Go _ _ _ _ _ _ _ _ (mkF m 136 #[.val (.int cnt), .val (.int i0), .val (.int i1), .val (.int i2), .val (.int i3), .val (.int (1 : Int32)), .val (.int d1), .val (.int d2), .val (.int d3), .val (.ref q), .val (.int (1 : Int32))] [])
    refine Go.on (fun _ k => XS.aload X33.here hx rfl (hb hby at_136) rfl rfl k) ?_
    show Go _ _ _ _ _ _ _ _ (mkF m 138 #[.val (.int cnt), .val (.int i0), .val (.int i1), .val (.int i2), .val (.int i3), .val (.int (1 : Int32)), .val (.int d1), .val (.int d2), .val (.int d3), .val (.ref q), .val (.int (1 : Int32))] [(.ref q)])
    refine Go.on (fun _ k => XS.iconst X33.here hx rfl (hb hby at_138) k) ?_
    show Go _ _ _ _ _ _ _ _ (mkF m 139 #[.val (.int cnt), .val (.int i0), .val (.int i1), .val (.int i2), .val (.int i3), .val (.int (1 : Int32)), .val (.int d1), .val (.int d2), .val (.int d3), .val (.ref q), .val (.int (1 : Int32))] [(.int (2 : Int32)), (.ref q)])
    obtain ⟨cq35, kq35, q35a, q35b, q35c⟩ := isOf hZ e33 E_q
    obtain ⟨_, _, ⟨T35, L35, k35, n35⟩, -, X35, ⟨Lc35, hQ35, l35, y35, z35⟩, st35⟩ := X33.virtualBack hx (y := (⟨"com/example/clirtools/clirtools/DocumentSums", "count", "(I)I"⟩ : MethodName)) (z := (⟨"com/example/clirtools/clirtools/DocumentSums", "count", "(I)I"⟩ : MethodName)) hown (mvT hZ (hw _ (List.mem_of_getElem? (i := 29) rfl))) (mvT hZ (hw _ (List.mem_of_getElem? (i := 30) rfl))) (notFace_of_selects (args := #[]) (mvT hZ (hw _ (List.mem_of_getElem? (i := 32) rfl)))) (mvT hZ (hw _ (List.mem_of_getElem? (i := 32) rfl))) (mvT hZ (hw _ (List.mem_of_getElem? (i := 31) rfl))) (by decide) (backOf (W := 0) (rm5 l Z aw hw [] q (2 : Int32) ac k_ac (clrI z1 (0 : Int32) ev1_0 ev1_1 ev1_2 cv1_0) (clrI z1 (1 : Int32) ev1_0 ev1_1 ev1_2 cv1_1) (clrI z1 (2 : Int32) ev1_0 ev1_1 ev1_2 cv1_2) h27 n0 ZZ F_counts_q V_ac (by unfold Three; decide)) hZ (hw _ (List.mem_of_getElem? (i := 33) rfl)) (hw _ (List.mem_of_getElem? (i := 2) rfl)) (by decide) (by decide)) q35a q35c (g := (mkF m 139 #[.val (.int cnt), .val (.int i0), .val (.int i1), .val (.int i2), .val (.int i3), .val (.int (1 : Int32)), .val (.int d1), .val (.int d2), .val (.int d3), .val (.ref q), .val (.int (1 : Int32))] [(.int (2 : Int32)), (.ref q)])) rfl (by rw [hml]; rfl) (Steps.refl _) (argsL := [(.int (2 : Int32))]) (rest := []) (lenOf pd_3 rfl) rfl (by show 2 * 0 + _ ≤ _; exact Nat.le_of_eq rfl) (hb hby at_139) (fun _ _ => ⟨rfl, e33, (by decide : 4 + 0 ≤ _), (by decide : 13 + 0 ≤ _)⟩)
    dsimp only [Pt.U, Pt.locs, Pt.cells, Pt.slots] at X35 l35 y35 z35 st35 hQ35
    subst l35 y35 z35
    obtain ⟨rfl, N35q, e35⟩ := hQ35
    have N35 := Fr.app N33 N35q
    refine Go.on (fun _ k => st35.trans k) ?_
    show Go _ _ _ _ _ _ _ _ (mkF m 142 #[.val (.int cnt), .val (.int i0), .val (.int i1), .val (.int i2), .val (.int i3), .val (.int (1 : Int32)), .val (.int d1), .val (.int d2), .val (.int d3), .val (.ref q), .val (.int (1 : Int32))] [(.int (if (2 : Int32) = (0 : Int32) then (clrI z1 (0 : Int32) ev1_0 ev1_1 ev1_2 cv1_0) else (if (2 : Int32) = (1 : Int32) then (clrI z1 (1 : Int32) ev1_0 ev1_1 ev1_2 cv1_1) else (clrI z1 (2 : Int32) ev1_0 ev1_1 ev1_2 cv1_2))))])
    have hc36 : (if (2 : Int32) = (0 : Int32) then (clrI z1 (0 : Int32) ev1_0 ev1_1 ev1_2 cv1_0) else (if (2 : Int32) = (1 : Int32) then (clrI z1 (1 : Int32) ev1_0 ev1_1 ev1_2 cv1_1) else (clrI z1 (2 : Int32) ev1_0 ev1_1 ev1_2 cv1_2))) = (0 : Int32) := own_k1_2 hd1 hd2 hd3 hsv1_0 hsv1_1 hsv1_2 hcv1_0 hcv1_1 hcv1_2 hev1_0 hev1_1 hev1_2 hz1
    refine Go.on (fun _ k => XS.ifNo X35.here hx rfl (hb hby at_142) rfl ((if0 _ _).trans (teq hc36).2) k) ?_
    show Go _ _ _ _ _ _ _ _ (mkF m 145 #[.val (.int cnt), .val (.int i0), .val (.int i1), .val (.int i2), .val (.int i3), .val (.int (1 : Int32)), .val (.int d1), .val (.int d2), .val (.int d3), .val (.ref q), .val (.int (1 : Int32))] [])
    refine Go.on (fun _ k => XS.iconst X35.here hx rfl (hb hby at_145) k) ?_
    show Go _ _ _ _ _ _ _ _ (mkF m 146 #[.val (.int cnt), .val (.int i0), .val (.int i1), .val (.int i2), .val (.int i3), .val (.int (1 : Int32)), .val (.int d1), .val (.int d2), .val (.int d3), .val (.ref q), .val (.int (1 : Int32))] [(.int (1 : Int32))])
    refine Go.on (fun _ k => XS.goto X35.here hx rfl (pc0 := 146) (pc' := 150) rfl (hb hby at_146) (by decide) (by decide) k) ?_
    show Go _ _ _ _ _ _ _ _ (mkF m 150 #[.val (.int cnt), .val (.int i0), .val (.int i1), .val (.int i2), .val (.int i3), .val (.int (1 : Int32)), .val (.int d1), .val (.int d2), .val (.int d3), .val (.ref q), .val (.int (1 : Int32))] [(.int (1 : Int32))])
    refine Go.on (fun _ k => XS.istore X35.here hx rfl (hb hby at_150) rfl (l' := #[.val (.int cnt), .val (.int i0), .val (.int i1), .val (.int i2), .val (.int i3), .val (.int (1 : Int32)), .val (.int d1), .val (.int d2), .val (.int d3), .val (.ref q), .val (.int (1 : Int32))]) rfl k) ?_
    show Go _ _ _ _ _ _ _ _ (mkF m 152 #[.val (.int cnt), .val (.int i0), .val (.int i1), .val (.int i2), .val (.int i3), .val (.int (1 : Int32)), .val (.int d1), .val (.int d2), .val (.int d3), .val (.ref q), .val (.int (1 : Int32))] [])
    refine Go.on (fun _ k => XS.iload X35.here hx rfl (hb hby at_152) rfl k) ?_
    show Go _ _ _ _ _ _ _ _ (mkF m 154 #[.val (.int cnt), .val (.int i0), .val (.int i1), .val (.int i2), .val (.int i3), .val (.int (1 : Int32)), .val (.int d1), .val (.int d2), .val (.int d3), .val (.ref q), .val (.int (1 : Int32))] [(.int (1 : Int32))])
    have hc37 : ¬ ((1 : Int32) = (0 : Int32)) := by decide
    refine Go.on (fun _ k => XS.ifNo X35.here hx rfl (hb hby at_154) rfl ((if0 _ _).trans (feq hc37).1) k) ?_
    show Go _ _ _ _ _ _ _ _ (mkF m 157 #[.val (.int cnt), .val (.int i0), .val (.int i1), .val (.int i2), .val (.int i3), .val (.int (1 : Int32)), .val (.int d1), .val (.int d2), .val (.int d3), .val (.ref q), .val (.int (1 : Int32))] [])
    refine Go.on (fun _ k => XS.aload X35.here hx rfl (hb hby at_157) rfl rfl k) ?_
    show Go _ _ _ _ _ _ _ _ (mkF m 159 #[.val (.int cnt), .val (.int i0), .val (.int i1), .val (.int i2), .val (.int i3), .val (.int (1 : Int32)), .val (.int d1), .val (.int d2), .val (.int d3), .val (.ref q), .val (.int (1 : Int32))] [(.ref q)])
    refine Go.on (fun _ k => XS.iconst X35.here hx rfl (hb hby at_159) k) ?_
    show Go _ _ _ _ _ _ _ _ (mkF m 160 #[.val (.int cnt), .val (.int i0), .val (.int i1), .val (.int i2), .val (.int i3), .val (.int (1 : Int32)), .val (.int d1), .val (.int d2), .val (.int d3), .val (.ref q), .val (.int (1 : Int32))] [(.int (0 : Int32)), (.ref q)])
    obtain ⟨cq38, kq38, q38a, q38b, q38c⟩ := isOf hZ e35 E_q
    obtain ⟨_, _, ⟨T38, L38, k38, n38⟩, -, X38, ⟨Lc38, hQ38, l38, y38, z38⟩, st38⟩ := X35.virtualBack hx (y := (⟨"com/example/clirtools/clirtools/DocumentSums", "sum", "(I)D"⟩ : MethodName)) (z := (⟨"com/example/clirtools/clirtools/DocumentSums", "sum", "(I)D"⟩ : MethodName)) hown (mvT hZ (hw _ (List.mem_of_getElem? (i := 34) rfl))) (mvT hZ (hw _ (List.mem_of_getElem? (i := 35) rfl))) (notFace_of_selects (args := #[]) (mvT hZ (hw _ (List.mem_of_getElem? (i := 37) rfl)))) (mvT hZ (hw _ (List.mem_of_getElem? (i := 37) rfl))) (mvT hZ (hw _ (List.mem_of_getElem? (i := 36) rfl))) (by decide) (backOf (W := 0) (rm6 l Z aw hw [] q (0 : Int32) as k_as (clrD z1 (0 : Int32) ev1_0 ev1_1 ev1_2 sv1_0) (clrD z1 (1 : Int32) ev1_0 ev1_1 ev1_2 sv1_1) (clrD z1 (2 : Int32) ev1_0 ev1_1 ev1_2 sv1_2) h27 n0 ZZ F_sums_q V_as (by unfold Three; decide)) hZ (hw _ (List.mem_of_getElem? (i := 38) rfl)) (hw _ (List.mem_of_getElem? (i := 2) rfl)) (by decide) (by decide)) q38a q38c (g := (mkF m 160 #[.val (.int cnt), .val (.int i0), .val (.int i1), .val (.int i2), .val (.int i3), .val (.int (1 : Int32)), .val (.int d1), .val (.int d2), .val (.int d3), .val (.ref q), .val (.int (1 : Int32))] [(.int (0 : Int32)), (.ref q)])) rfl (by rw [hml]; rfl) (Steps.refl _) (argsL := [(.int (0 : Int32))]) (rest := []) (lenOf pd_4 rfl) rfl (by show 2 * 0 + _ ≤ _; exact Nat.le_of_eq rfl) (hb hby at_160) (fun _ _ => ⟨rfl, e35, (by decide : 4 + 0 ≤ _), (by decide : 13 + 0 ≤ _)⟩)
    dsimp only [Pt.U, Pt.locs, Pt.cells, Pt.slots] at X38 l38 y38 z38 st38 hQ38
    subst l38 y38 z38
    obtain ⟨rfl, N38q, e38⟩ := hQ38
    have N38 := Fr.app N35 N38q
    refine Go.on (fun _ k => st38.trans k) ?_
    show Go _ _ _ _ _ _ _ _ (mkF m 163 #[.val (.int cnt), .val (.int i0), .val (.int i1), .val (.int i2), .val (.int i3), .val (.int (1 : Int32)), .val (.int d1), .val (.int d2), .val (.int d3), .val (.ref q), .val (.int (1 : Int32))] [(.double (if (0 : Int32) = (0 : Int32) then (clrD z1 (0 : Int32) ev1_0 ev1_1 ev1_2 sv1_0) else (if (0 : Int32) = (1 : Int32) then (clrD z1 (1 : Int32) ev1_0 ev1_1 ev1_2 sv1_1) else (clrD z1 (2 : Int32) ev1_0 ev1_1 ev1_2 sv1_2))))])
    refine Go.on (fun _ k => XS.dconst0 X38.here hx rfl (v := (0 : UInt64)) (hb hby at_163) rfl k) ?_
    show Go _ _ _ _ _ _ _ _ (mkF m 164 #[.val (.int cnt), .val (.int i0), .val (.int i1), .val (.int i2), .val (.int i3), .val (.int (1 : Int32)), .val (.int d1), .val (.int d2), .val (.int d3), .val (.ref q), .val (.int (1 : Int32))] [(.double (0 : UInt64)), (.double (if (0 : Int32) = (0 : Int32) then (clrD z1 (0 : Int32) ev1_0 ev1_1 ev1_2 sv1_0) else (if (0 : Int32) = (1 : Int32) then (clrD z1 (1 : Int32) ev1_0 ev1_1 ev1_2 sv1_1) else (clrD z1 (2 : Int32) ev1_0 ev1_1 ev1_2 sv1_2))))])
    refine Go.on (fun _ k => XS.dcmpS X38.here hx rfl (hb hby at_164) rfl rfl k) ?_
    show Go _ _ _ _ _ _ _ _ (mkF m 165 #[.val (.int cnt), .val (.int i0), .val (.int i1), .val (.int i2), .val (.int i3), .val (.int (1 : Int32)), .val (.int d1), .val (.int d2), .val (.int d3), .val (.ref q), .val (.int (1 : Int32))] [(.int (cmpValue (FP.dcmp (if (0 : Int32) = (0 : Int32) then (clrD z1 (0 : Int32) ev1_0 ev1_1 ev1_2 sv1_0) else (if (0 : Int32) = (1 : Int32) then (clrD z1 (1 : Int32) ev1_0 ev1_1 ev1_2 sv1_1) else (clrD z1 (2 : Int32) ev1_0 ev1_1 ev1_2 sv1_2))) (0 : UInt64)) .l))])
    have hc39 : (cmpValue (FP.dcmp (if (0 : Int32) = (0 : Int32) then (clrD z1 (0 : Int32) ev1_0 ev1_1 ev1_2 sv1_0) else (if (0 : Int32) = (1 : Int32) then (clrD z1 (1 : Int32) ev1_0 ev1_1 ev1_2 sv1_1) else (clrD z1 (2 : Int32) ev1_0 ev1_1 ev1_2 sv1_2))) (0 : UInt64)) .l) = (0 : Int32) := own_q1_0 hd1 hd2 hd3 hsv1_0 hsv1_1 hsv1_2 hcv1_0 hcv1_1 hcv1_2 hev1_0 hev1_1 hev1_2 hz1
    refine Go.on (fun _ k => XS.ifNo X38.here hx rfl (hb hby at_165) rfl ((if0 _ _).trans (teq hc39).2) k) ?_
    show Go _ _ _ _ _ _ _ _ (mkF m 168 #[.val (.int cnt), .val (.int i0), .val (.int i1), .val (.int i2), .val (.int i3), .val (.int (1 : Int32)), .val (.int d1), .val (.int d2), .val (.int d3), .val (.ref q), .val (.int (1 : Int32))] [])
    refine Go.on (fun _ k => XS.aload X38.here hx rfl (hb hby at_168) rfl rfl k) ?_
    show Go _ _ _ _ _ _ _ _ (mkF m 170 #[.val (.int cnt), .val (.int i0), .val (.int i1), .val (.int i2), .val (.int i3), .val (.int (1 : Int32)), .val (.int d1), .val (.int d2), .val (.int d3), .val (.ref q), .val (.int (1 : Int32))] [(.ref q)])
    refine Go.on (fun _ k => XS.iconst X38.here hx rfl (hb hby at_170) k) ?_
    show Go _ _ _ _ _ _ _ _ (mkF m 171 #[.val (.int cnt), .val (.int i0), .val (.int i1), .val (.int i2), .val (.int i3), .val (.int (1 : Int32)), .val (.int d1), .val (.int d2), .val (.int d3), .val (.ref q), .val (.int (1 : Int32))] [(.int (1 : Int32)), (.ref q)])
    obtain ⟨cq40, kq40, q40a, q40b, q40c⟩ := isOf hZ e38 E_q
    obtain ⟨_, _, ⟨T40, L40, k40, n40⟩, -, X40, ⟨Lc40, hQ40, l40, y40, z40⟩, st40⟩ := X38.virtualBack hx (y := (⟨"com/example/clirtools/clirtools/DocumentSums", "sum", "(I)D"⟩ : MethodName)) (z := (⟨"com/example/clirtools/clirtools/DocumentSums", "sum", "(I)D"⟩ : MethodName)) hown (mvT hZ (hw _ (List.mem_of_getElem? (i := 34) rfl))) (mvT hZ (hw _ (List.mem_of_getElem? (i := 35) rfl))) (notFace_of_selects (args := #[]) (mvT hZ (hw _ (List.mem_of_getElem? (i := 37) rfl)))) (mvT hZ (hw _ (List.mem_of_getElem? (i := 37) rfl))) (mvT hZ (hw _ (List.mem_of_getElem? (i := 36) rfl))) (by decide) (backOf (W := 0) (rm6 l Z aw hw [] q (1 : Int32) as k_as (clrD z1 (0 : Int32) ev1_0 ev1_1 ev1_2 sv1_0) (clrD z1 (1 : Int32) ev1_0 ev1_1 ev1_2 sv1_1) (clrD z1 (2 : Int32) ev1_0 ev1_1 ev1_2 sv1_2) h27 n0 ZZ F_sums_q V_as (by unfold Three; decide)) hZ (hw _ (List.mem_of_getElem? (i := 38) rfl)) (hw _ (List.mem_of_getElem? (i := 2) rfl)) (by decide) (by decide)) q40a q40c (g := (mkF m 171 #[.val (.int cnt), .val (.int i0), .val (.int i1), .val (.int i2), .val (.int i3), .val (.int (1 : Int32)), .val (.int d1), .val (.int d2), .val (.int d3), .val (.ref q), .val (.int (1 : Int32))] [(.int (1 : Int32)), (.ref q)])) rfl (by rw [hml]; rfl) (Steps.refl _) (argsL := [(.int (1 : Int32))]) (rest := []) (lenOf pd_4 rfl) rfl (by show 2 * 0 + _ ≤ _; exact Nat.le_of_eq rfl) (hb hby at_171) (fun _ _ => ⟨rfl, e38, (by decide : 4 + 0 ≤ _), (by decide : 13 + 0 ≤ _)⟩)
    dsimp only [Pt.U, Pt.locs, Pt.cells, Pt.slots] at X40 l40 y40 z40 st40 hQ40
    subst l40 y40 z40
    obtain ⟨rfl, N40q, e40⟩ := hQ40
    have N40 := Fr.app N38 N40q
    refine Go.on (fun _ k => st40.trans k) ?_
    show Go _ _ _ _ _ _ _ _ (mkF m 174 #[.val (.int cnt), .val (.int i0), .val (.int i1), .val (.int i2), .val (.int i3), .val (.int (1 : Int32)), .val (.int d1), .val (.int d2), .val (.int d3), .val (.ref q), .val (.int (1 : Int32))] [(.double (if (1 : Int32) = (0 : Int32) then (clrD z1 (0 : Int32) ev1_0 ev1_1 ev1_2 sv1_0) else (if (1 : Int32) = (1 : Int32) then (clrD z1 (1 : Int32) ev1_0 ev1_1 ev1_2 sv1_1) else (clrD z1 (2 : Int32) ev1_0 ev1_1 ev1_2 sv1_2))))])
    refine Go.on (fun _ k => XS.dconst0 X40.here hx rfl (v := (0 : UInt64)) (hb hby at_174) rfl k) ?_
    show Go _ _ _ _ _ _ _ _ (mkF m 175 #[.val (.int cnt), .val (.int i0), .val (.int i1), .val (.int i2), .val (.int i3), .val (.int (1 : Int32)), .val (.int d1), .val (.int d2), .val (.int d3), .val (.ref q), .val (.int (1 : Int32))] [(.double (0 : UInt64)), (.double (if (1 : Int32) = (0 : Int32) then (clrD z1 (0 : Int32) ev1_0 ev1_1 ev1_2 sv1_0) else (if (1 : Int32) = (1 : Int32) then (clrD z1 (1 : Int32) ev1_0 ev1_1 ev1_2 sv1_1) else (clrD z1 (2 : Int32) ev1_0 ev1_1 ev1_2 sv1_2))))])
    refine Go.on (fun _ k => XS.dcmpS X40.here hx rfl (hb hby at_175) rfl rfl k) ?_
    show Go _ _ _ _ _ _ _ _ (mkF m 176 #[.val (.int cnt), .val (.int i0), .val (.int i1), .val (.int i2), .val (.int i3), .val (.int (1 : Int32)), .val (.int d1), .val (.int d2), .val (.int d3), .val (.ref q), .val (.int (1 : Int32))] [(.int (cmpValue (FP.dcmp (if (1 : Int32) = (0 : Int32) then (clrD z1 (0 : Int32) ev1_0 ev1_1 ev1_2 sv1_0) else (if (1 : Int32) = (1 : Int32) then (clrD z1 (1 : Int32) ev1_0 ev1_1 ev1_2 sv1_1) else (clrD z1 (2 : Int32) ev1_0 ev1_1 ev1_2 sv1_2))) (0 : UInt64)) .l))])
    have hc41 : (cmpValue (FP.dcmp (if (1 : Int32) = (0 : Int32) then (clrD z1 (0 : Int32) ev1_0 ev1_1 ev1_2 sv1_0) else (if (1 : Int32) = (1 : Int32) then (clrD z1 (1 : Int32) ev1_0 ev1_1 ev1_2 sv1_1) else (clrD z1 (2 : Int32) ev1_0 ev1_1 ev1_2 sv1_2))) (0 : UInt64)) .l) = (0 : Int32) := own_q1_1 hd1 hd2 hd3 hsv1_0 hsv1_1 hsv1_2 hcv1_0 hcv1_1 hcv1_2 hev1_0 hev1_1 hev1_2 hz1
    refine Go.on (fun _ k => XS.ifNo X40.here hx rfl (hb hby at_176) rfl ((if0 _ _).trans (teq hc41).2) k) ?_
    show Go _ _ _ _ _ _ _ _ (mkF m 179 #[.val (.int cnt), .val (.int i0), .val (.int i1), .val (.int i2), .val (.int i3), .val (.int (1 : Int32)), .val (.int d1), .val (.int d2), .val (.int d3), .val (.ref q), .val (.int (1 : Int32))] [])
    refine Go.on (fun _ k => XS.aload X40.here hx rfl (hb hby at_179) rfl rfl k) ?_
    show Go _ _ _ _ _ _ _ _ (mkF m 181 #[.val (.int cnt), .val (.int i0), .val (.int i1), .val (.int i2), .val (.int i3), .val (.int (1 : Int32)), .val (.int d1), .val (.int d2), .val (.int d3), .val (.ref q), .val (.int (1 : Int32))] [(.ref q)])
    refine Go.on (fun _ k => XS.iconst X40.here hx rfl (hb hby at_181) k) ?_
    show Go _ _ _ _ _ _ _ _ (mkF m 182 #[.val (.int cnt), .val (.int i0), .val (.int i1), .val (.int i2), .val (.int i3), .val (.int (1 : Int32)), .val (.int d1), .val (.int d2), .val (.int d3), .val (.ref q), .val (.int (1 : Int32))] [(.int (2 : Int32)), (.ref q)])
    obtain ⟨cq42, kq42, q42a, q42b, q42c⟩ := isOf hZ e40 E_q
    obtain ⟨_, _, ⟨T42, L42, k42, n42⟩, -, X42, ⟨Lc42, hQ42, l42, y42, z42⟩, st42⟩ := X40.virtualBack hx (y := (⟨"com/example/clirtools/clirtools/DocumentSums", "sum", "(I)D"⟩ : MethodName)) (z := (⟨"com/example/clirtools/clirtools/DocumentSums", "sum", "(I)D"⟩ : MethodName)) hown (mvT hZ (hw _ (List.mem_of_getElem? (i := 34) rfl))) (mvT hZ (hw _ (List.mem_of_getElem? (i := 35) rfl))) (notFace_of_selects (args := #[]) (mvT hZ (hw _ (List.mem_of_getElem? (i := 37) rfl)))) (mvT hZ (hw _ (List.mem_of_getElem? (i := 37) rfl))) (mvT hZ (hw _ (List.mem_of_getElem? (i := 36) rfl))) (by decide) (backOf (W := 0) (rm6 l Z aw hw [] q (2 : Int32) as k_as (clrD z1 (0 : Int32) ev1_0 ev1_1 ev1_2 sv1_0) (clrD z1 (1 : Int32) ev1_0 ev1_1 ev1_2 sv1_1) (clrD z1 (2 : Int32) ev1_0 ev1_1 ev1_2 sv1_2) h27 n0 ZZ F_sums_q V_as (by unfold Three; decide)) hZ (hw _ (List.mem_of_getElem? (i := 38) rfl)) (hw _ (List.mem_of_getElem? (i := 2) rfl)) (by decide) (by decide)) q42a q42c (g := (mkF m 182 #[.val (.int cnt), .val (.int i0), .val (.int i1), .val (.int i2), .val (.int i3), .val (.int (1 : Int32)), .val (.int d1), .val (.int d2), .val (.int d3), .val (.ref q), .val (.int (1 : Int32))] [(.int (2 : Int32)), (.ref q)])) rfl (by rw [hml]; rfl) (Steps.refl _) (argsL := [(.int (2 : Int32))]) (rest := []) (lenOf pd_4 rfl) rfl (by show 2 * 0 + _ ≤ _; exact Nat.le_of_eq rfl) (hb hby at_182) (fun _ _ => ⟨rfl, e40, (by decide : 4 + 0 ≤ _), (by decide : 13 + 0 ≤ _)⟩)
    dsimp only [Pt.U, Pt.locs, Pt.cells, Pt.slots] at X42 l42 y42 z42 st42 hQ42
    subst l42 y42 z42
    obtain ⟨rfl, N42q, e42⟩ := hQ42
    have N42 := Fr.app N40 N42q
    refine Go.on (fun _ k => st42.trans k) ?_
    show Go _ _ _ _ _ _ _ _ (mkF m 185 #[.val (.int cnt), .val (.int i0), .val (.int i1), .val (.int i2), .val (.int i3), .val (.int (1 : Int32)), .val (.int d1), .val (.int d2), .val (.int d3), .val (.ref q), .val (.int (1 : Int32))] [(.double (if (2 : Int32) = (0 : Int32) then (clrD z1 (0 : Int32) ev1_0 ev1_1 ev1_2 sv1_0) else (if (2 : Int32) = (1 : Int32) then (clrD z1 (1 : Int32) ev1_0 ev1_1 ev1_2 sv1_1) else (clrD z1 (2 : Int32) ev1_0 ev1_1 ev1_2 sv1_2))))])
    refine Go.on (fun _ k => XS.dconst0 X42.here hx rfl (v := (0 : UInt64)) (hb hby at_185) rfl k) ?_
    show Go _ _ _ _ _ _ _ _ (mkF m 186 #[.val (.int cnt), .val (.int i0), .val (.int i1), .val (.int i2), .val (.int i3), .val (.int (1 : Int32)), .val (.int d1), .val (.int d2), .val (.int d3), .val (.ref q), .val (.int (1 : Int32))] [(.double (0 : UInt64)), (.double (if (2 : Int32) = (0 : Int32) then (clrD z1 (0 : Int32) ev1_0 ev1_1 ev1_2 sv1_0) else (if (2 : Int32) = (1 : Int32) then (clrD z1 (1 : Int32) ev1_0 ev1_1 ev1_2 sv1_1) else (clrD z1 (2 : Int32) ev1_0 ev1_1 ev1_2 sv1_2))))])
    refine Go.on (fun _ k => XS.dcmpS X42.here hx rfl (hb hby at_186) rfl rfl k) ?_
    show Go _ _ _ _ _ _ _ _ (mkF m 187 #[.val (.int cnt), .val (.int i0), .val (.int i1), .val (.int i2), .val (.int i3), .val (.int (1 : Int32)), .val (.int d1), .val (.int d2), .val (.int d3), .val (.ref q), .val (.int (1 : Int32))] [(.int (cmpValue (FP.dcmp (if (2 : Int32) = (0 : Int32) then (clrD z1 (0 : Int32) ev1_0 ev1_1 ev1_2 sv1_0) else (if (2 : Int32) = (1 : Int32) then (clrD z1 (1 : Int32) ev1_0 ev1_1 ev1_2 sv1_1) else (clrD z1 (2 : Int32) ev1_0 ev1_1 ev1_2 sv1_2))) (0 : UInt64)) .l))])
    have hc43 : (cmpValue (FP.dcmp (if (2 : Int32) = (0 : Int32) then (clrD z1 (0 : Int32) ev1_0 ev1_1 ev1_2 sv1_0) else (if (2 : Int32) = (1 : Int32) then (clrD z1 (1 : Int32) ev1_0 ev1_1 ev1_2 sv1_1) else (clrD z1 (2 : Int32) ev1_0 ev1_1 ev1_2 sv1_2))) (0 : UInt64)) .l) = (0 : Int32) := own_q1_2 hd1 hd2 hd3 hsv1_0 hsv1_1 hsv1_2 hcv1_0 hcv1_1 hcv1_2 hev1_0 hev1_1 hev1_2 hz1
    refine Go.on (fun _ k => XS.ifNo X42.here hx rfl (hb hby at_187) rfl ((if0 _ _).trans (teq hc43).2) k) ?_
    show Go _ _ _ _ _ _ _ _ (mkF m 190 #[.val (.int cnt), .val (.int i0), .val (.int i1), .val (.int i2), .val (.int i3), .val (.int (1 : Int32)), .val (.int d1), .val (.int d2), .val (.int d3), .val (.ref q), .val (.int (1 : Int32))] [])
    refine Go.on (fun _ k => XS.iconst X42.here hx rfl (hb hby at_190) k) ?_
    show Go _ _ _ _ _ _ _ _ (mkF m 191 #[.val (.int cnt), .val (.int i0), .val (.int i1), .val (.int i2), .val (.int i3), .val (.int (1 : Int32)), .val (.int d1), .val (.int d2), .val (.int d3), .val (.ref q), .val (.int (1 : Int32))] [(.int (1 : Int32))])
    refine Go.on (fun _ k => XS.goto X42.here hx rfl (pc0 := 191) (pc' := 195) rfl (hb hby at_191) (by decide) (by decide) k) ?_
    show Go _ _ _ _ _ _ _ _ (mkF m 195 #[.val (.int cnt), .val (.int i0), .val (.int i1), .val (.int i2), .val (.int i3), .val (.int (1 : Int32)), .val (.int d1), .val (.int d2), .val (.int d3), .val (.ref q), .val (.int (1 : Int32))] [(.int (1 : Int32))])
    refine Go.on (fun _ k => XS.istore X42.here hx rfl (hb hby at_195) rfl (l' := #[.val (.int cnt), .val (.int i0), .val (.int i1), .val (.int i2), .val (.int i3), .val (.int (1 : Int32)), .val (.int d1), .val (.int d2), .val (.int d3), .val (.ref q), .val (.int (1 : Int32))]) rfl k) ?_
    show Go _ _ _ _ _ _ _ _ (mkF m 197 #[.val (.int cnt), .val (.int i0), .val (.int i1), .val (.int i2), .val (.int i3), .val (.int (1 : Int32)), .val (.int d1), .val (.int d2), .val (.int d3), .val (.ref q), .val (.int (1 : Int32))] [])
    refine Go.on (fun _ k => XS.iload X42.here hx rfl (hb hby at_197) rfl k) ?_
    show Go _ _ _ _ _ _ _ _ (mkF m 199 #[.val (.int cnt), .val (.int i0), .val (.int i1), .val (.int i2), .val (.int i3), .val (.int (1 : Int32)), .val (.int d1), .val (.int d2), .val (.int d3), .val (.ref q), .val (.int (1 : Int32))] [(.int (1 : Int32))])
    refine Go.retN X42 hx (t := .boolean) Bd.returns (by simp) (hb hby at_199) ?_ (by rw [hK1]; decide) (by rw [hK2]; decide)
    rw [e42, ← hQQ]
    exact ⟨rfl, N42⟩
  · -- 2 values
    subst hl
    show Go _ _ _ _ _ _ _ _ (mkF m 48 #[.val (.int cnt), .val (.int i0), .val (.int i1), .val (.int i2), .val (.int i3), .val (.int (2 : Int32)), .val (.int d1), .val (.int d2), .val (.int d3), .val (.ref q), .unset] [])
    refine Go.on (fun _ k => XS.iload X2.here hx rfl (hb hby at_48) rfl k) ?_
    show Go _ _ _ _ _ _ _ _ (mkF m 50 #[.val (.int cnt), .val (.int i0), .val (.int i1), .val (.int i2), .val (.int i3), .val (.int (2 : Int32)), .val (.int d1), .val (.int d2), .val (.int d3), .val (.ref q), .unset] [(.int (2 : Int32))])
    have hc44 : (0 : Int32) < (2 : Int32) := by decide
    refine Go.on (fun _ k => XS.ifNo X2.here hx rfl (hb hby at_50) rfl ((if0 _ _).trans (tlt hc44).2.2.2) k) ?_
    show Go _ _ _ _ _ _ _ _ (mkF m 53 #[.val (.int cnt), .val (.int i0), .val (.int i1), .val (.int i2), .val (.int i3), .val (.int (2 : Int32)), .val (.int d1), .val (.int d2), .val (.int d3), .val (.ref q), .unset] [])
    refine Go.on (fun _ k => XS.aload X2.here hx rfl (hb hby at_53) rfl rfl k) ?_
    show Go _ _ _ _ _ _ _ _ (mkF m 55 #[.val (.int cnt), .val (.int i0), .val (.int i1), .val (.int i2), .val (.int i3), .val (.int (2 : Int32)), .val (.int d1), .val (.int d2), .val (.int d3), .val (.ref q), .unset] [(.ref q)])
    refine Go.on (fun _ k => XS.iload X2.here hx rfl (hb hby at_55) rfl k) ?_
    show Go _ _ _ _ _ _ _ _ (mkF m 57 #[.val (.int cnt), .val (.int i0), .val (.int i1), .val (.int i2), .val (.int i3), .val (.int (2 : Int32)), .val (.int d1), .val (.int d2), .val (.int d3), .val (.ref q), .unset] [(.int d1), (.ref q)])
    refine Go.on (fun _ k => XS.iloadN X2.here hx rfl (hb hby at_57) rfl k) ?_
    show Go _ _ _ _ _ _ _ _ (mkF m 58 #[.val (.int cnt), .val (.int i0), .val (.int i1), .val (.int i2), .val (.int i3), .val (.int (2 : Int32)), .val (.int d1), .val (.int d2), .val (.int d3), .val (.ref q), .unset] [(.int i1), (.int d1), (.ref q)])
    refine Go.on (fun _ k => XS.i2dS X2.here hx rfl (hb hby at_58) rfl rfl k) ?_
    show Go _ _ _ _ _ _ _ _ (mkF m 59 #[.val (.int cnt), .val (.int i0), .val (.int i1), .val (.int i2), .val (.int i3), .val (.int (2 : Int32)), .val (.int d1), .val (.int d2), .val (.int d3), .val (.ref q), .unset] [(.double (FP.i2d i1)), (.int d1), (.ref q)])
    obtain ⟨cq45, kq45, q45a, q45b, q45c⟩ := isOf hZ e2 E_q
    obtain ⟨_, _, ⟨T45, L45, k45, n45⟩, -, X45, ⟨Lc45, hQ45, l45, y45, z45⟩, st45⟩ := X2.virtualBack hx (y := (⟨"com/example/clirtools/clirtools/DocumentSums", "add", "(ID)V"⟩ : MethodName)) (z := (⟨"com/example/clirtools/clirtools/DocumentSums", "add", "(ID)V"⟩ : MethodName)) hown (mvT hZ (hw _ (List.mem_of_getElem? (i := 39) rfl))) (mvT hZ (hw _ (List.mem_of_getElem? (i := 40) rfl))) (notFace_of_selects (args := #[]) (mvT hZ (hw _ (List.mem_of_getElem? (i := 42) rfl)))) (mvT hZ (hw _ (List.mem_of_getElem? (i := 42) rfl))) (mvT hZ (hw _ (List.mem_of_getElem? (i := 41) rfl))) (by decide) (backOf (W := 0) (rm7 l Z aw hw [] q d1 (FP.i2d i1) as ac ad (0 : Int32) k_as (0 : UInt64) (0 : UInt64) (0 : UInt64) k_ac (0 : Int32) (0 : Int32) (0 : Int32) k_ad (0 : Int32) (0 : Int32) (0 : Int32) h2 n0 ZZ E_q F_sums_q F_counts_q F_documents_q F_size_q V_as V_ac V_ad g_q g_as g_ac g_ad ne_q_as ne_q_ac ne_q_ad ne_as_ac ne_as_ad ne_ac_ad (own_three hd1) (own_hz1 hd1 hd2 hd3 ) (own_nn1 hd1 hd2 hd3  i1 i2 i3)) hZ (hw _ (List.mem_of_getElem? (i := 43) rfl)) (hw _ (List.mem_of_getElem? (i := 2) rfl)) (by decide) (by decide)) q45a q45c (g := (mkF m 59 #[.val (.int cnt), .val (.int i0), .val (.int i1), .val (.int i2), .val (.int i3), .val (.int (2 : Int32)), .val (.int d1), .val (.int d2), .val (.int d3), .val (.ref q), .unset] [(.double (FP.i2d i1)), (.int d1), (.ref q)])) rfl (by rw [hml]; rfl) (Steps.refl _) (argsL := [(.int d1), (.double (FP.i2d i1))]) (rest := []) (lenOf pd_5 rfl) rfl (by show 2 * 0 + _ ≤ _; exact Nat.le_of_eq rfl) (hb hby at_59) (fun _ _ => ⟨rfl, e2, (by decide : 4 + 0 ≤ _), (by decide : 13 + 0 ≤ _)⟩)
    dsimp only [Pt.U, Pt.locs, Pt.cells, Pt.slots] at X45 l45 y45 z45 st45 hQ45
    subst l45 y45 z45
    obtain ⟨h45, e45⟩ : ∃ q, T45.heap = q := ⟨_, rfl⟩
    rw [e45] at hQ45
    obtain ⟨rfl, N45q, K45q, Eq45, F_sumsq45, F_countsq45, F_documentsq45, F_sizeq45, V_Sq45, V_Cq45, V_Eq45⟩ := hQ45
    have N45 := Fr.app N2 N45q
    have ZZ45p := ZZ
    have lt_q := E_q.lt
    have lt_as := V_as.lt
    have lt_ac := V_ac.lt
    have lt_ad := V_ad.lt
    replace E_q := E_q.keep K45q
    replace ZZ := Nat.le_trans ZZ K45q.1
    have F_sums_q := F_sumsq45
    have F_counts_q := F_countsq45
    have F_documents_q := F_documentsq45
    have F_size_q := F_sizeq45
    obtain ⟨z1, hz1⟩ : ∃ q : Int32, q = (if (if d1 = (0 : Int32) then (0 : Int32) else (if d1 = (1 : Int32) then (0 : Int32) else (0 : Int32))) = (0 : Int32) then ((0 : Int32) + (1 : Int32)) else (0 : Int32)) := ⟨_, rfl⟩
    rw [← hz1] at F_size_q
    have V_as := V_Sq45
    obtain ⟨sv1_0, hsv1_0⟩ : ∃ q : UInt64, q = (if d1 = (0 : Int32) then (FP.dadd (if d1 = (0 : Int32) then (0 : UInt64) else (if d1 = (1 : Int32) then (0 : UInt64) else (0 : UInt64))) (FP.i2d i1)) else (0 : UInt64)) := ⟨_, rfl⟩
    rw [← hsv1_0] at V_as
    obtain ⟨sv1_1, hsv1_1⟩ : ∃ q : UInt64, q = (if d1 = (1 : Int32) then (FP.dadd (if d1 = (0 : Int32) then (0 : UInt64) else (if d1 = (1 : Int32) then (0 : UInt64) else (0 : UInt64))) (FP.i2d i1)) else (0 : UInt64)) := ⟨_, rfl⟩
    rw [← hsv1_1] at V_as
    obtain ⟨sv1_2, hsv1_2⟩ : ∃ q : UInt64, q = (if d1 = (2 : Int32) then (FP.dadd (if d1 = (0 : Int32) then (0 : UInt64) else (if d1 = (1 : Int32) then (0 : UInt64) else (0 : UInt64))) (FP.i2d i1)) else (0 : UInt64)) := ⟨_, rfl⟩
    rw [← hsv1_2] at V_as
    have V_ac := V_Cq45
    obtain ⟨cv1_0, hcv1_0⟩ : ∃ q : Int32, q = (if d1 = (0 : Int32) then ((if d1 = (0 : Int32) then (0 : Int32) else (if d1 = (1 : Int32) then (0 : Int32) else (0 : Int32))) + (1 : Int32)) else (0 : Int32)) := ⟨_, rfl⟩
    rw [← hcv1_0] at V_ac
    obtain ⟨cv1_1, hcv1_1⟩ : ∃ q : Int32, q = (if d1 = (1 : Int32) then ((if d1 = (0 : Int32) then (0 : Int32) else (if d1 = (1 : Int32) then (0 : Int32) else (0 : Int32))) + (1 : Int32)) else (0 : Int32)) := ⟨_, rfl⟩
    rw [← hcv1_1] at V_ac
    obtain ⟨cv1_2, hcv1_2⟩ : ∃ q : Int32, q = (if d1 = (2 : Int32) then ((if d1 = (0 : Int32) then (0 : Int32) else (if d1 = (1 : Int32) then (0 : Int32) else (0 : Int32))) + (1 : Int32)) else (0 : Int32)) := ⟨_, rfl⟩
    rw [← hcv1_2] at V_ac
    have V_ad := V_Eq45
    obtain ⟨ev1_0, hev1_0⟩ : ∃ q : Int32, q = (if (if d1 = (0 : Int32) then (0 : Int32) else (if d1 = (1 : Int32) then (0 : Int32) else (0 : Int32))) = (0 : Int32) then (if (0 : Int32) = (0 : Int32) then d1 else (0 : Int32)) else (0 : Int32)) := ⟨_, rfl⟩
    rw [← hev1_0] at V_ad
    obtain ⟨ev1_1, hev1_1⟩ : ∃ q : Int32, q = (if (if d1 = (0 : Int32) then (0 : Int32) else (if d1 = (1 : Int32) then (0 : Int32) else (0 : Int32))) = (0 : Int32) then (if (0 : Int32) = (1 : Int32) then d1 else (0 : Int32)) else (0 : Int32)) := ⟨_, rfl⟩
    rw [← hev1_1] at V_ad
    obtain ⟨ev1_2, hev1_2⟩ : ∃ q : Int32, q = (if (if d1 = (0 : Int32) then (0 : Int32) else (if d1 = (1 : Int32) then (0 : Int32) else (0 : Int32))) = (0 : Int32) then (if (0 : Int32) = (2 : Int32) then d1 else (0 : Int32)) else (0 : Int32)) := ⟨_, rfl⟩
    rw [← hev1_2] at V_ad
    refine Go.on (fun _ k => st45.trans k) ?_
    show Go _ _ _ _ _ _ _ _ (mkF m 62 #[.val (.int cnt), .val (.int i0), .val (.int i1), .val (.int i2), .val (.int i3), .val (.int (2 : Int32)), .val (.int d1), .val (.int d2), .val (.int d3), .val (.ref q), .unset] [])
    refine Go.on (fun _ k => XS.iload X45.here hx rfl (hb hby at_62) rfl k) ?_
    show Go _ _ _ _ _ _ _ _ (mkF m 64 #[.val (.int cnt), .val (.int i0), .val (.int i1), .val (.int i2), .val (.int i3), .val (.int (2 : Int32)), .val (.int d1), .val (.int d2), .val (.int d3), .val (.ref q), .unset] [(.int (2 : Int32))])
    refine Go.on (fun _ k => XS.iconst X45.here hx rfl (hb hby at_64) k) ?_
    show Go _ _ _ _ _ _ _ _ (mkF m 65 #[.val (.int cnt), .val (.int i0), .val (.int i1), .val (.int i2), .val (.int i3), .val (.int (2 : Int32)), .val (.int d1), .val (.int d2), .val (.int d3), .val (.ref q), .unset] [(.int (1 : Int32)), (.int (2 : Int32))])
    have hc46 : (1 : Int32) < (2 : Int32) := by decide
    refine Go.on (fun _ k => XS.icmpNo X45.here hx rfl (hb hby at_65) rfl (tlt hc46).2.2.2 k) ?_
    show Go _ _ _ _ _ _ _ _ (mkF m 68 #[.val (.int cnt), .val (.int i0), .val (.int i1), .val (.int i2), .val (.int i3), .val (.int (2 : Int32)), .val (.int d1), .val (.int d2), .val (.int d3), .val (.ref q), .unset] [])
    refine Go.on (fun _ k => XS.aload X45.here hx rfl (hb hby at_68) rfl rfl k) ?_
    show Go _ _ _ _ _ _ _ _ (mkF m 70 #[.val (.int cnt), .val (.int i0), .val (.int i1), .val (.int i2), .val (.int i3), .val (.int (2 : Int32)), .val (.int d1), .val (.int d2), .val (.int d3), .val (.ref q), .unset] [(.ref q)])
    refine Go.on (fun _ k => XS.iload X45.here hx rfl (hb hby at_70) rfl k) ?_
    show Go _ _ _ _ _ _ _ _ (mkF m 72 #[.val (.int cnt), .val (.int i0), .val (.int i1), .val (.int i2), .val (.int i3), .val (.int (2 : Int32)), .val (.int d1), .val (.int d2), .val (.int d3), .val (.ref q), .unset] [(.int d2), (.ref q)])
    refine Go.on (fun _ k => XS.iloadN X45.here hx rfl (hb hby at_72) rfl k) ?_
    show Go _ _ _ _ _ _ _ _ (mkF m 73 #[.val (.int cnt), .val (.int i0), .val (.int i1), .val (.int i2), .val (.int i3), .val (.int (2 : Int32)), .val (.int d1), .val (.int d2), .val (.int d3), .val (.ref q), .unset] [(.int i2), (.int d2), (.ref q)])
    refine Go.on (fun _ k => XS.i2dS X45.here hx rfl (hb hby at_73) rfl rfl k) ?_
    show Go _ _ _ _ _ _ _ _ (mkF m 74 #[.val (.int cnt), .val (.int i0), .val (.int i1), .val (.int i2), .val (.int i3), .val (.int (2 : Int32)), .val (.int d1), .val (.int d2), .val (.int d3), .val (.ref q), .unset] [(.double (FP.i2d i2)), (.int d2), (.ref q)])
    obtain ⟨cq47, kq47, q47a, q47b, q47c⟩ := isOf hZ e45 E_q
    obtain ⟨_, _, ⟨T47, L47, k47, n47⟩, -, X47, ⟨Lc47, hQ47, l47, y47, z47⟩, st47⟩ := X45.virtualBack hx (y := (⟨"com/example/clirtools/clirtools/DocumentSums", "add", "(ID)V"⟩ : MethodName)) (z := (⟨"com/example/clirtools/clirtools/DocumentSums", "add", "(ID)V"⟩ : MethodName)) hown (mvT hZ (hw _ (List.mem_of_getElem? (i := 39) rfl))) (mvT hZ (hw _ (List.mem_of_getElem? (i := 40) rfl))) (notFace_of_selects (args := #[]) (mvT hZ (hw _ (List.mem_of_getElem? (i := 42) rfl)))) (mvT hZ (hw _ (List.mem_of_getElem? (i := 42) rfl))) (mvT hZ (hw _ (List.mem_of_getElem? (i := 41) rfl))) (by decide) (backOf (W := 0) (rm7 l Z aw hw [] q d2 (FP.i2d i2) as ac ad z1 k_as sv1_0 sv1_1 sv1_2 k_ac cv1_0 cv1_1 cv1_2 k_ad ev1_0 ev1_1 ev1_2 h45 n0 ZZ E_q F_sums_q F_counts_q F_documents_q F_size_q V_as V_ac V_ad g_q g_as g_ac g_ad ne_q_as ne_q_ac ne_q_ad ne_as_ac ne_as_ad ne_ac_ad (own_three hd2) (own_hz2 hd1 hd2 hd3 hsv1_0 hsv1_1 hsv1_2 hcv1_0 hcv1_1 hcv1_2 hev1_0 hev1_1 hev1_2 hz1) (own_nn2 hd1 hd2 hd3 hsv1_0 hsv1_1 hsv1_2 hcv1_0 hcv1_1 hcv1_2 hev1_0 hev1_1 hev1_2 hz1 i1 i2 i3)) hZ (hw _ (List.mem_of_getElem? (i := 43) rfl)) (hw _ (List.mem_of_getElem? (i := 2) rfl)) (by decide) (by decide)) q47a q47c (g := (mkF m 74 #[.val (.int cnt), .val (.int i0), .val (.int i1), .val (.int i2), .val (.int i3), .val (.int (2 : Int32)), .val (.int d1), .val (.int d2), .val (.int d3), .val (.ref q), .unset] [(.double (FP.i2d i2)), (.int d2), (.ref q)])) rfl (by rw [hml]; rfl) (Steps.refl _) (argsL := [(.int d2), (.double (FP.i2d i2))]) (rest := []) (lenOf pd_5 rfl) rfl (by show 2 * 0 + _ ≤ _; exact Nat.le_of_eq rfl) (hb hby at_74) (fun _ _ => ⟨rfl, e45, (by decide : 4 + 0 ≤ _), (by decide : 13 + 0 ≤ _)⟩)
    dsimp only [Pt.U, Pt.locs, Pt.cells, Pt.slots] at X47 l47 y47 z47 st47 hQ47
    subst l47 y47 z47
    obtain ⟨h47, e47⟩ : ∃ q, T47.heap = q := ⟨_, rfl⟩
    rw [e47] at hQ47
    obtain ⟨rfl, N47q, K47q, Eq47, F_sumsq47, F_countsq47, F_documentsq47, F_sizeq47, V_Sq47, V_Cq47, V_Eq47⟩ := hQ47
    have N47 := Fr.app N45 N47q
    have ZZ47p := ZZ
    have lt_q := E_q.lt
    have lt_as := V_as.lt
    have lt_ac := V_ac.lt
    have lt_ad := V_ad.lt
    replace E_q := E_q.keep K47q
    replace ZZ := Nat.le_trans ZZ K47q.1
    have F_sums_q := F_sumsq47
    have F_counts_q := F_countsq47
    have F_documents_q := F_documentsq47
    have F_size_q := F_sizeq47
    obtain ⟨z2, hz2⟩ : ∃ q : Int32, q = (if (if d2 = (0 : Int32) then cv1_0 else (if d2 = (1 : Int32) then cv1_1 else cv1_2)) = (0 : Int32) then (z1 + (1 : Int32)) else z1) := ⟨_, rfl⟩
    rw [← hz2] at F_size_q
    have V_as := V_Sq47
    obtain ⟨sv2_0, hsv2_0⟩ : ∃ q : UInt64, q = (if d2 = (0 : Int32) then (FP.dadd (if d2 = (0 : Int32) then sv1_0 else (if d2 = (1 : Int32) then sv1_1 else sv1_2)) (FP.i2d i2)) else sv1_0) := ⟨_, rfl⟩
    rw [← hsv2_0] at V_as
    obtain ⟨sv2_1, hsv2_1⟩ : ∃ q : UInt64, q = (if d2 = (1 : Int32) then (FP.dadd (if d2 = (0 : Int32) then sv1_0 else (if d2 = (1 : Int32) then sv1_1 else sv1_2)) (FP.i2d i2)) else sv1_1) := ⟨_, rfl⟩
    rw [← hsv2_1] at V_as
    obtain ⟨sv2_2, hsv2_2⟩ : ∃ q : UInt64, q = (if d2 = (2 : Int32) then (FP.dadd (if d2 = (0 : Int32) then sv1_0 else (if d2 = (1 : Int32) then sv1_1 else sv1_2)) (FP.i2d i2)) else sv1_2) := ⟨_, rfl⟩
    rw [← hsv2_2] at V_as
    have V_ac := V_Cq47
    obtain ⟨cv2_0, hcv2_0⟩ : ∃ q : Int32, q = (if d2 = (0 : Int32) then ((if d2 = (0 : Int32) then cv1_0 else (if d2 = (1 : Int32) then cv1_1 else cv1_2)) + (1 : Int32)) else cv1_0) := ⟨_, rfl⟩
    rw [← hcv2_0] at V_ac
    obtain ⟨cv2_1, hcv2_1⟩ : ∃ q : Int32, q = (if d2 = (1 : Int32) then ((if d2 = (0 : Int32) then cv1_0 else (if d2 = (1 : Int32) then cv1_1 else cv1_2)) + (1 : Int32)) else cv1_1) := ⟨_, rfl⟩
    rw [← hcv2_1] at V_ac
    obtain ⟨cv2_2, hcv2_2⟩ : ∃ q : Int32, q = (if d2 = (2 : Int32) then ((if d2 = (0 : Int32) then cv1_0 else (if d2 = (1 : Int32) then cv1_1 else cv1_2)) + (1 : Int32)) else cv1_2) := ⟨_, rfl⟩
    rw [← hcv2_2] at V_ac
    have V_ad := V_Eq47
    obtain ⟨ev2_0, hev2_0⟩ : ∃ q : Int32, q = (if (if d2 = (0 : Int32) then cv1_0 else (if d2 = (1 : Int32) then cv1_1 else cv1_2)) = (0 : Int32) then (if z1 = (0 : Int32) then d2 else ev1_0) else ev1_0) := ⟨_, rfl⟩
    rw [← hev2_0] at V_ad
    obtain ⟨ev2_1, hev2_1⟩ : ∃ q : Int32, q = (if (if d2 = (0 : Int32) then cv1_0 else (if d2 = (1 : Int32) then cv1_1 else cv1_2)) = (0 : Int32) then (if z1 = (1 : Int32) then d2 else ev1_1) else ev1_1) := ⟨_, rfl⟩
    rw [← hev2_1] at V_ad
    obtain ⟨ev2_2, hev2_2⟩ : ∃ q : Int32, q = (if (if d2 = (0 : Int32) then cv1_0 else (if d2 = (1 : Int32) then cv1_1 else cv1_2)) = (0 : Int32) then (if z1 = (2 : Int32) then d2 else ev1_2) else ev1_2) := ⟨_, rfl⟩
    rw [← hev2_2] at V_ad
    refine Go.on (fun _ k => st47.trans k) ?_
    show Go _ _ _ _ _ _ _ _ (mkF m 77 #[.val (.int cnt), .val (.int i0), .val (.int i1), .val (.int i2), .val (.int i3), .val (.int (2 : Int32)), .val (.int d1), .val (.int d2), .val (.int d3), .val (.ref q), .unset] [])
    refine Go.on (fun _ k => XS.iload X47.here hx rfl (hb hby at_77) rfl k) ?_
    show Go _ _ _ _ _ _ _ _ (mkF m 79 #[.val (.int cnt), .val (.int i0), .val (.int i1), .val (.int i2), .val (.int i3), .val (.int (2 : Int32)), .val (.int d1), .val (.int d2), .val (.int d3), .val (.ref q), .unset] [(.int (2 : Int32))])
    refine Go.on (fun _ k => XS.iconst X47.here hx rfl (hb hby at_79) k) ?_
    show Go _ _ _ _ _ _ _ _ (mkF m 80 #[.val (.int cnt), .val (.int i0), .val (.int i1), .val (.int i2), .val (.int i3), .val (.int (2 : Int32)), .val (.int d1), .val (.int d2), .val (.int d3), .val (.ref q), .unset] [(.int (2 : Int32)), (.int (2 : Int32))])
    have hc48 : ¬ ((2 : Int32) < (2 : Int32)) := by decide
    refine Go.on (fun _ k => XS.icmpYes X47.here hx rfl (pc0 := 80) (pc' := 93) rfl (hb hby at_80) rfl (flt hc48).2.2.2 (by decide) (by decide) k) ?_
    show Go _ _ _ _ _ _ _ _ (mkF m 93 #[.val (.int cnt), .val (.int i0), .val (.int i1), .val (.int i2), .val (.int i3), .val (.int (2 : Int32)), .val (.int d1), .val (.int d2), .val (.int d3), .val (.ref q), .unset] [])
    refine Go.on (fun _ k => XS.aload X47.here hx rfl (hb hby at_93) rfl rfl k) ?_
    show Go _ _ _ _ _ _ _ _ (mkF m 95 #[.val (.int cnt), .val (.int i0), .val (.int i1), .val (.int i2), .val (.int i3), .val (.int (2 : Int32)), .val (.int d1), .val (.int d2), .val (.int d3), .val (.ref q), .unset] [(.ref q)])
    obtain ⟨cq49, kq49, q49a, q49b, q49c⟩ := isOf hZ e47 E_q
    obtain ⟨_, _, ⟨T49, L49, k49, n49⟩, -, X49, ⟨Lc49, hQ49, l49, y49, z49⟩, st49⟩ := X47.virtualBack hx (y := (⟨"com/example/clirtools/clirtools/DocumentSums", "clear", "()V"⟩ : MethodName)) (z := (⟨"com/example/clirtools/clirtools/DocumentSums", "clear", "()V"⟩ : MethodName)) hown (mvT hZ (hw _ (List.mem_of_getElem? (i := 17) rfl))) (mvT hZ (hw _ (List.mem_of_getElem? (i := 18) rfl))) (notFace_of_selects (args := #[]) (mvT hZ (hw _ (List.mem_of_getElem? (i := 20) rfl)))) (mvT hZ (hw _ (List.mem_of_getElem? (i := 20) rfl))) (mvT hZ (hw _ (List.mem_of_getElem? (i := 19) rfl))) (by decide) (backOf (W := 0) (rm3 l Z aw hw [] q as ac ad z2 k_as sv2_0 sv2_1 sv2_2 k_ac cv2_0 cv2_1 cv2_2 k_ad ev2_0 ev2_1 ev2_2 h47 n0 ZZ E_q F_sums_q F_counts_q F_documents_q F_size_q V_as V_ac V_ad g_q g_as g_ac ne_q_as ne_q_ac ne_q_ad ne_as_ac ne_as_ad ne_ac_ad (own_e2_s hd1 hd2 hd3 hsv1_0 hsv1_1 hsv1_2 hcv1_0 hcv1_1 hcv1_2 hev1_0 hev1_1 hev1_2 hz1 hsv2_0 hsv2_1 hsv2_2 hcv2_0 hcv2_1 hcv2_2 hev2_0 hev2_1 hev2_2 hz2) (own_e2_0 hd1 hd2 hd3 hsv1_0 hsv1_1 hsv1_2 hcv1_0 hcv1_1 hcv1_2 hev1_0 hev1_1 hev1_2 hz1 hsv2_0 hsv2_1 hsv2_2 hcv2_0 hcv2_1 hcv2_2 hev2_0 hev2_1 hev2_2 hz2) (own_e2_1 hd1 hd2 hd3 hsv1_0 hsv1_1 hsv1_2 hcv1_0 hcv1_1 hcv1_2 hev1_0 hev1_1 hev1_2 hz1 hsv2_0 hsv2_1 hsv2_2 hcv2_0 hcv2_1 hcv2_2 hev2_0 hev2_1 hev2_2 hz2) (own_e2_2 hd1 hd2 hd3 hsv1_0 hsv1_1 hsv1_2 hcv1_0 hcv1_1 hcv1_2 hev1_0 hev1_1 hev1_2 hz1 hsv2_0 hsv2_1 hsv2_2 hcv2_0 hcv2_1 hcv2_2 hev2_0 hev2_1 hev2_2 hz2)) hZ (hw _ (List.mem_of_getElem? (i := 21) rfl)) (hw _ (List.mem_of_getElem? (i := 2) rfl)) (by decide) (by decide)) q49a q49c (g := (mkF m 95 #[.val (.int cnt), .val (.int i0), .val (.int i1), .val (.int i2), .val (.int i3), .val (.int (2 : Int32)), .val (.int d1), .val (.int d2), .val (.int d3), .val (.ref q), .unset] [(.ref q)])) rfl (by rw [hml]; rfl) (Steps.refl _) (argsL := []) (rest := []) (lenOf pd_1 rfl) rfl (by show 2 * 0 + _ ≤ _; exact Nat.le_of_eq rfl) (hb hby at_95) (fun _ _ => ⟨rfl, e47, (by decide : 4 + 0 ≤ _), (by decide : 13 + 0 ≤ _)⟩)
    dsimp only [Pt.U, Pt.locs, Pt.cells, Pt.slots] at X49 l49 y49 z49 st49 hQ49
    subst l49 y49 z49
    obtain ⟨h49, e49⟩ : ∃ q, T49.heap = q := ⟨_, rfl⟩
    rw [e49] at hQ49
    obtain ⟨rfl, N49q, K49q, Eq49, F_sumsq49, F_countsq49, F_documentsq49, F_sizeq49, V_Sq49, V_Cq49⟩ := hQ49
    have N49 := Fr.app N47 N49q
    have ZZ49p := ZZ
    have lt_q := E_q.lt
    have lt_as := V_as.lt
    have lt_ac := V_ac.lt
    have lt_ad := V_ad.lt
    replace E_q := E_q.keep K49q
    replace V_ad := V_ad.keep K49q (ninS (Ne.symm ne_q_ad) (ninS (Ne.symm ne_as_ad) (ninS (Ne.symm ne_ac_ad) nin0)))
    replace ZZ := Nat.le_trans ZZ K49q.1
    have F_sums_q := F_sumsq49
    have F_counts_q := F_countsq49
    have F_documents_q := F_documentsq49
    have F_size_q := F_sizeq49
    have V_as := V_Sq49
    have V_ac := V_Cq49
    refine Go.on (fun _ k => st49.trans k) ?_
    show Go _ _ _ _ _ _ _ _ (mkF m 98 #[.val (.int cnt), .val (.int i0), .val (.int i1), .val (.int i2), .val (.int i3), .val (.int (2 : Int32)), .val (.int d1), .val (.int d2), .val (.int d3), .val (.ref q), .unset] [])
    refine Go.on (fun _ k => XS.aload X49.here hx rfl (hb hby at_98) rfl rfl k) ?_
    show Go _ _ _ _ _ _ _ _ (mkF m 100 #[.val (.int cnt), .val (.int i0), .val (.int i1), .val (.int i2), .val (.int i3), .val (.int (2 : Int32)), .val (.int d1), .val (.int d2), .val (.int d3), .val (.ref q), .unset] [(.ref q)])
    obtain ⟨cq50, kq50, q50a, q50b, q50c⟩ := isOf hZ e49 E_q
    obtain ⟨_, _, ⟨T50, L50, k50, n50⟩, -, X50, ⟨Lc50, hQ50, l50, y50, z50⟩, st50⟩ := X49.virtualBack hx (y := (⟨"com/example/clirtools/clirtools/DocumentSums", "size", "()I"⟩ : MethodName)) (z := (⟨"com/example/clirtools/clirtools/DocumentSums", "size", "()I"⟩ : MethodName)) hown (mvT hZ (hw _ (List.mem_of_getElem? (i := 24) rfl))) (mvT hZ (hw _ (List.mem_of_getElem? (i := 25) rfl))) (notFace_of_selects (args := #[]) (mvT hZ (hw _ (List.mem_of_getElem? (i := 27) rfl)))) (mvT hZ (hw _ (List.mem_of_getElem? (i := 27) rfl))) (mvT hZ (hw _ (List.mem_of_getElem? (i := 26) rfl))) (by decide) (backOf (W := 0) (rm4 l Z aw hw [] q (0 : Int32) h49 n0 ZZ F_size_q) hZ (hw _ (List.mem_of_getElem? (i := 28) rfl)) (hw _ (List.mem_of_getElem? (i := 2) rfl)) (by decide) (by decide)) q50a q50c (g := (mkF m 100 #[.val (.int cnt), .val (.int i0), .val (.int i1), .val (.int i2), .val (.int i3), .val (.int (2 : Int32)), .val (.int d1), .val (.int d2), .val (.int d3), .val (.ref q), .unset] [(.ref q)])) rfl (by rw [hml]; rfl) (Steps.refl _) (argsL := []) (rest := []) (lenOf pd_2 rfl) rfl (by show 2 * 0 + _ ≤ _; exact Nat.le_of_eq rfl) (hb hby at_100) (fun _ _ => ⟨rfl, e49, (by decide : 4 + 0 ≤ _), (by decide : 13 + 0 ≤ _)⟩)
    dsimp only [Pt.U, Pt.locs, Pt.cells, Pt.slots] at X50 l50 y50 z50 st50 hQ50
    subst l50 y50 z50
    obtain ⟨rfl, N50q, e50⟩ := hQ50
    have N50 := Fr.app N49 N50q
    refine Go.on (fun _ k => st50.trans k) ?_
    show Go _ _ _ _ _ _ _ _ (mkF m 103 #[.val (.int cnt), .val (.int i0), .val (.int i1), .val (.int i2), .val (.int i3), .val (.int (2 : Int32)), .val (.int d1), .val (.int d2), .val (.int d3), .val (.ref q), .unset] [(.int (0 : Int32))])
    have hc51 : (0 : Int32) = (0 : Int32) := by decide
    refine Go.on (fun _ k => XS.ifNo X50.here hx rfl (hb hby at_103) rfl ((if0 _ _).trans (teq hc51).2) k) ?_
    show Go _ _ _ _ _ _ _ _ (mkF m 106 #[.val (.int cnt), .val (.int i0), .val (.int i1), .val (.int i2), .val (.int i3), .val (.int (2 : Int32)), .val (.int d1), .val (.int d2), .val (.int d3), .val (.ref q), .unset] [])
    refine Go.on (fun _ k => XS.iconst X50.here hx rfl (hb hby at_106) k) ?_
    show Go _ _ _ _ _ _ _ _ (mkF m 107 #[.val (.int cnt), .val (.int i0), .val (.int i1), .val (.int i2), .val (.int i3), .val (.int (2 : Int32)), .val (.int d1), .val (.int d2), .val (.int d3), .val (.ref q), .unset] [(.int (1 : Int32))])
    refine Go.on (fun _ k => XS.goto X50.here hx rfl (pc0 := 107) (pc' := 111) rfl (hb hby at_107) (by decide) (by decide) k) ?_
    show Go _ _ _ _ _ _ _ _ (mkF m 111 #[.val (.int cnt), .val (.int i0), .val (.int i1), .val (.int i2), .val (.int i3), .val (.int (2 : Int32)), .val (.int d1), .val (.int d2), .val (.int d3), .val (.ref q), .unset] [(.int (1 : Int32))])
    refine Go.on (fun _ k => XS.istore X50.here hx rfl (hb hby at_111) rfl (l' := #[.val (.int cnt), .val (.int i0), .val (.int i1), .val (.int i2), .val (.int i3), .val (.int (2 : Int32)), .val (.int d1), .val (.int d2), .val (.int d3), .val (.ref q), .val (.int (1 : Int32))]) rfl k) ?_
    show Go _ _ _ _ _ _ _ _ (mkF m 113 #[.val (.int cnt), .val (.int i0), .val (.int i1), .val (.int i2), .val (.int i3), .val (.int (2 : Int32)), .val (.int d1), .val (.int d2), .val (.int d3), .val (.ref q), .val (.int (1 : Int32))] [])
    refine Go.on (fun _ k => XS.iload X50.here hx rfl (hb hby at_113) rfl k) ?_
    show Go _ _ _ _ _ _ _ _ (mkF m 115 #[.val (.int cnt), .val (.int i0), .val (.int i1), .val (.int i2), .val (.int i3), .val (.int (2 : Int32)), .val (.int d1), .val (.int d2), .val (.int d3), .val (.ref q), .val (.int (1 : Int32))] [(.int (1 : Int32))])
    have hc52 : ¬ ((1 : Int32) = (0 : Int32)) := by decide
    refine Go.on (fun _ k => XS.ifNo X50.here hx rfl (hb hby at_115) rfl ((if0 _ _).trans (feq hc52).1) k) ?_
    show Go _ _ _ _ _ _ _ _ (mkF m 118 #[.val (.int cnt), .val (.int i0), .val (.int i1), .val (.int i2), .val (.int i3), .val (.int (2 : Int32)), .val (.int d1), .val (.int d2), .val (.int d3), .val (.ref q), .val (.int (1 : Int32))] [])
    refine Go.on (fun _ k => XS.aload X50.here hx rfl (hb hby at_118) rfl rfl k) ?_
    show Go _ _ _ _ _ _ _ _ (mkF m 120 #[.val (.int cnt), .val (.int i0), .val (.int i1), .val (.int i2), .val (.int i3), .val (.int (2 : Int32)), .val (.int d1), .val (.int d2), .val (.int d3), .val (.ref q), .val (.int (1 : Int32))] [(.ref q)])
    refine Go.on (fun _ k => XS.iconst X50.here hx rfl (hb hby at_120) k) ?_
    show Go _ _ _ _ _ _ _ _ (mkF m 121 #[.val (.int cnt), .val (.int i0), .val (.int i1), .val (.int i2), .val (.int i3), .val (.int (2 : Int32)), .val (.int d1), .val (.int d2), .val (.int d3), .val (.ref q), .val (.int (1 : Int32))] [(.int (0 : Int32)), (.ref q)])
    obtain ⟨cq53, kq53, q53a, q53b, q53c⟩ := isOf hZ e50 E_q
    obtain ⟨_, _, ⟨T53, L53, k53, n53⟩, -, X53, ⟨Lc53, hQ53, l53, y53, z53⟩, st53⟩ := X50.virtualBack hx (y := (⟨"com/example/clirtools/clirtools/DocumentSums", "count", "(I)I"⟩ : MethodName)) (z := (⟨"com/example/clirtools/clirtools/DocumentSums", "count", "(I)I"⟩ : MethodName)) hown (mvT hZ (hw _ (List.mem_of_getElem? (i := 29) rfl))) (mvT hZ (hw _ (List.mem_of_getElem? (i := 30) rfl))) (notFace_of_selects (args := #[]) (mvT hZ (hw _ (List.mem_of_getElem? (i := 32) rfl)))) (mvT hZ (hw _ (List.mem_of_getElem? (i := 32) rfl))) (mvT hZ (hw _ (List.mem_of_getElem? (i := 31) rfl))) (by decide) (backOf (W := 0) (rm5 l Z aw hw [] q (0 : Int32) ac k_ac (clrI z2 (0 : Int32) ev2_0 ev2_1 ev2_2 cv2_0) (clrI z2 (1 : Int32) ev2_0 ev2_1 ev2_2 cv2_1) (clrI z2 (2 : Int32) ev2_0 ev2_1 ev2_2 cv2_2) h49 n0 ZZ F_counts_q V_ac (by unfold Three; decide)) hZ (hw _ (List.mem_of_getElem? (i := 33) rfl)) (hw _ (List.mem_of_getElem? (i := 2) rfl)) (by decide) (by decide)) q53a q53c (g := (mkF m 121 #[.val (.int cnt), .val (.int i0), .val (.int i1), .val (.int i2), .val (.int i3), .val (.int (2 : Int32)), .val (.int d1), .val (.int d2), .val (.int d3), .val (.ref q), .val (.int (1 : Int32))] [(.int (0 : Int32)), (.ref q)])) rfl (by rw [hml]; rfl) (Steps.refl _) (argsL := [(.int (0 : Int32))]) (rest := []) (lenOf pd_3 rfl) rfl (by show 2 * 0 + _ ≤ _; exact Nat.le_of_eq rfl) (hb hby at_121) (fun _ _ => ⟨rfl, e50, (by decide : 4 + 0 ≤ _), (by decide : 13 + 0 ≤ _)⟩)
    dsimp only [Pt.U, Pt.locs, Pt.cells, Pt.slots] at X53 l53 y53 z53 st53 hQ53
    subst l53 y53 z53
    obtain ⟨rfl, N53q, e53⟩ := hQ53
    have N53 := Fr.app N50 N53q
    refine Go.on (fun _ k => st53.trans k) ?_
    show Go _ _ _ _ _ _ _ _ (mkF m 124 #[.val (.int cnt), .val (.int i0), .val (.int i1), .val (.int i2), .val (.int i3), .val (.int (2 : Int32)), .val (.int d1), .val (.int d2), .val (.int d3), .val (.ref q), .val (.int (1 : Int32))] [(.int (if (0 : Int32) = (0 : Int32) then (clrI z2 (0 : Int32) ev2_0 ev2_1 ev2_2 cv2_0) else (if (0 : Int32) = (1 : Int32) then (clrI z2 (1 : Int32) ev2_0 ev2_1 ev2_2 cv2_1) else (clrI z2 (2 : Int32) ev2_0 ev2_1 ev2_2 cv2_2))))])
    have hc54 : (if (0 : Int32) = (0 : Int32) then (clrI z2 (0 : Int32) ev2_0 ev2_1 ev2_2 cv2_0) else (if (0 : Int32) = (1 : Int32) then (clrI z2 (1 : Int32) ev2_0 ev2_1 ev2_2 cv2_1) else (clrI z2 (2 : Int32) ev2_0 ev2_1 ev2_2 cv2_2))) = (0 : Int32) := own_k2_0 hd1 hd2 hd3 hsv1_0 hsv1_1 hsv1_2 hcv1_0 hcv1_1 hcv1_2 hev1_0 hev1_1 hev1_2 hz1 hsv2_0 hsv2_1 hsv2_2 hcv2_0 hcv2_1 hcv2_2 hev2_0 hev2_1 hev2_2 hz2
    refine Go.on (fun _ k => XS.ifNo X53.here hx rfl (hb hby at_124) rfl ((if0 _ _).trans (teq hc54).2) k) ?_
    show Go _ _ _ _ _ _ _ _ (mkF m 127 #[.val (.int cnt), .val (.int i0), .val (.int i1), .val (.int i2), .val (.int i3), .val (.int (2 : Int32)), .val (.int d1), .val (.int d2), .val (.int d3), .val (.ref q), .val (.int (1 : Int32))] [])
    refine Go.on (fun _ k => XS.aload X53.here hx rfl (hb hby at_127) rfl rfl k) ?_
    show Go _ _ _ _ _ _ _ _ (mkF m 129 #[.val (.int cnt), .val (.int i0), .val (.int i1), .val (.int i2), .val (.int i3), .val (.int (2 : Int32)), .val (.int d1), .val (.int d2), .val (.int d3), .val (.ref q), .val (.int (1 : Int32))] [(.ref q)])
    refine Go.on (fun _ k => XS.iconst X53.here hx rfl (hb hby at_129) k) ?_
    show Go _ _ _ _ _ _ _ _ (mkF m 130 #[.val (.int cnt), .val (.int i0), .val (.int i1), .val (.int i2), .val (.int i3), .val (.int (2 : Int32)), .val (.int d1), .val (.int d2), .val (.int d3), .val (.ref q), .val (.int (1 : Int32))] [(.int (1 : Int32)), (.ref q)])
    obtain ⟨cq55, kq55, q55a, q55b, q55c⟩ := isOf hZ e53 E_q
    obtain ⟨_, _, ⟨T55, L55, k55, n55⟩, -, X55, ⟨Lc55, hQ55, l55, y55, z55⟩, st55⟩ := X53.virtualBack hx (y := (⟨"com/example/clirtools/clirtools/DocumentSums", "count", "(I)I"⟩ : MethodName)) (z := (⟨"com/example/clirtools/clirtools/DocumentSums", "count", "(I)I"⟩ : MethodName)) hown (mvT hZ (hw _ (List.mem_of_getElem? (i := 29) rfl))) (mvT hZ (hw _ (List.mem_of_getElem? (i := 30) rfl))) (notFace_of_selects (args := #[]) (mvT hZ (hw _ (List.mem_of_getElem? (i := 32) rfl)))) (mvT hZ (hw _ (List.mem_of_getElem? (i := 32) rfl))) (mvT hZ (hw _ (List.mem_of_getElem? (i := 31) rfl))) (by decide) (backOf (W := 0) (rm5 l Z aw hw [] q (1 : Int32) ac k_ac (clrI z2 (0 : Int32) ev2_0 ev2_1 ev2_2 cv2_0) (clrI z2 (1 : Int32) ev2_0 ev2_1 ev2_2 cv2_1) (clrI z2 (2 : Int32) ev2_0 ev2_1 ev2_2 cv2_2) h49 n0 ZZ F_counts_q V_ac (by unfold Three; decide)) hZ (hw _ (List.mem_of_getElem? (i := 33) rfl)) (hw _ (List.mem_of_getElem? (i := 2) rfl)) (by decide) (by decide)) q55a q55c (g := (mkF m 130 #[.val (.int cnt), .val (.int i0), .val (.int i1), .val (.int i2), .val (.int i3), .val (.int (2 : Int32)), .val (.int d1), .val (.int d2), .val (.int d3), .val (.ref q), .val (.int (1 : Int32))] [(.int (1 : Int32)), (.ref q)])) rfl (by rw [hml]; rfl) (Steps.refl _) (argsL := [(.int (1 : Int32))]) (rest := []) (lenOf pd_3 rfl) rfl (by show 2 * 0 + _ ≤ _; exact Nat.le_of_eq rfl) (hb hby at_130) (fun _ _ => ⟨rfl, e53, (by decide : 4 + 0 ≤ _), (by decide : 13 + 0 ≤ _)⟩)
    dsimp only [Pt.U, Pt.locs, Pt.cells, Pt.slots] at X55 l55 y55 z55 st55 hQ55
    subst l55 y55 z55
    obtain ⟨rfl, N55q, e55⟩ := hQ55
    have N55 := Fr.app N53 N55q
    refine Go.on (fun _ k => st55.trans k) ?_
    show Go _ _ _ _ _ _ _ _ (mkF m 133 #[.val (.int cnt), .val (.int i0), .val (.int i1), .val (.int i2), .val (.int i3), .val (.int (2 : Int32)), .val (.int d1), .val (.int d2), .val (.int d3), .val (.ref q), .val (.int (1 : Int32))] [(.int (if (1 : Int32) = (0 : Int32) then (clrI z2 (0 : Int32) ev2_0 ev2_1 ev2_2 cv2_0) else (if (1 : Int32) = (1 : Int32) then (clrI z2 (1 : Int32) ev2_0 ev2_1 ev2_2 cv2_1) else (clrI z2 (2 : Int32) ev2_0 ev2_1 ev2_2 cv2_2))))])
    have hc56 : (if (1 : Int32) = (0 : Int32) then (clrI z2 (0 : Int32) ev2_0 ev2_1 ev2_2 cv2_0) else (if (1 : Int32) = (1 : Int32) then (clrI z2 (1 : Int32) ev2_0 ev2_1 ev2_2 cv2_1) else (clrI z2 (2 : Int32) ev2_0 ev2_1 ev2_2 cv2_2))) = (0 : Int32) := own_k2_1 hd1 hd2 hd3 hsv1_0 hsv1_1 hsv1_2 hcv1_0 hcv1_1 hcv1_2 hev1_0 hev1_1 hev1_2 hz1 hsv2_0 hsv2_1 hsv2_2 hcv2_0 hcv2_1 hcv2_2 hev2_0 hev2_1 hev2_2 hz2
    refine Go.on (fun _ k => XS.ifNo X55.here hx rfl (hb hby at_133) rfl ((if0 _ _).trans (teq hc56).2) k) ?_
    show Go _ _ _ _ _ _ _ _ (mkF m 136 #[.val (.int cnt), .val (.int i0), .val (.int i1), .val (.int i2), .val (.int i3), .val (.int (2 : Int32)), .val (.int d1), .val (.int d2), .val (.int d3), .val (.ref q), .val (.int (1 : Int32))] [])
    refine Go.on (fun _ k => XS.aload X55.here hx rfl (hb hby at_136) rfl rfl k) ?_
    show Go _ _ _ _ _ _ _ _ (mkF m 138 #[.val (.int cnt), .val (.int i0), .val (.int i1), .val (.int i2), .val (.int i3), .val (.int (2 : Int32)), .val (.int d1), .val (.int d2), .val (.int d3), .val (.ref q), .val (.int (1 : Int32))] [(.ref q)])
    refine Go.on (fun _ k => XS.iconst X55.here hx rfl (hb hby at_138) k) ?_
    show Go _ _ _ _ _ _ _ _ (mkF m 139 #[.val (.int cnt), .val (.int i0), .val (.int i1), .val (.int i2), .val (.int i3), .val (.int (2 : Int32)), .val (.int d1), .val (.int d2), .val (.int d3), .val (.ref q), .val (.int (1 : Int32))] [(.int (2 : Int32)), (.ref q)])
    obtain ⟨cq57, kq57, q57a, q57b, q57c⟩ := isOf hZ e55 E_q
    obtain ⟨_, _, ⟨T57, L57, k57, n57⟩, -, X57, ⟨Lc57, hQ57, l57, y57, z57⟩, st57⟩ := X55.virtualBack hx (y := (⟨"com/example/clirtools/clirtools/DocumentSums", "count", "(I)I"⟩ : MethodName)) (z := (⟨"com/example/clirtools/clirtools/DocumentSums", "count", "(I)I"⟩ : MethodName)) hown (mvT hZ (hw _ (List.mem_of_getElem? (i := 29) rfl))) (mvT hZ (hw _ (List.mem_of_getElem? (i := 30) rfl))) (notFace_of_selects (args := #[]) (mvT hZ (hw _ (List.mem_of_getElem? (i := 32) rfl)))) (mvT hZ (hw _ (List.mem_of_getElem? (i := 32) rfl))) (mvT hZ (hw _ (List.mem_of_getElem? (i := 31) rfl))) (by decide) (backOf (W := 0) (rm5 l Z aw hw [] q (2 : Int32) ac k_ac (clrI z2 (0 : Int32) ev2_0 ev2_1 ev2_2 cv2_0) (clrI z2 (1 : Int32) ev2_0 ev2_1 ev2_2 cv2_1) (clrI z2 (2 : Int32) ev2_0 ev2_1 ev2_2 cv2_2) h49 n0 ZZ F_counts_q V_ac (by unfold Three; decide)) hZ (hw _ (List.mem_of_getElem? (i := 33) rfl)) (hw _ (List.mem_of_getElem? (i := 2) rfl)) (by decide) (by decide)) q57a q57c (g := (mkF m 139 #[.val (.int cnt), .val (.int i0), .val (.int i1), .val (.int i2), .val (.int i3), .val (.int (2 : Int32)), .val (.int d1), .val (.int d2), .val (.int d3), .val (.ref q), .val (.int (1 : Int32))] [(.int (2 : Int32)), (.ref q)])) rfl (by rw [hml]; rfl) (Steps.refl _) (argsL := [(.int (2 : Int32))]) (rest := []) (lenOf pd_3 rfl) rfl (by show 2 * 0 + _ ≤ _; exact Nat.le_of_eq rfl) (hb hby at_139) (fun _ _ => ⟨rfl, e55, (by decide : 4 + 0 ≤ _), (by decide : 13 + 0 ≤ _)⟩)
    dsimp only [Pt.U, Pt.locs, Pt.cells, Pt.slots] at X57 l57 y57 z57 st57 hQ57
    subst l57 y57 z57
    obtain ⟨rfl, N57q, e57⟩ := hQ57
    have N57 := Fr.app N55 N57q
    refine Go.on (fun _ k => st57.trans k) ?_
    show Go _ _ _ _ _ _ _ _ (mkF m 142 #[.val (.int cnt), .val (.int i0), .val (.int i1), .val (.int i2), .val (.int i3), .val (.int (2 : Int32)), .val (.int d1), .val (.int d2), .val (.int d3), .val (.ref q), .val (.int (1 : Int32))] [(.int (if (2 : Int32) = (0 : Int32) then (clrI z2 (0 : Int32) ev2_0 ev2_1 ev2_2 cv2_0) else (if (2 : Int32) = (1 : Int32) then (clrI z2 (1 : Int32) ev2_0 ev2_1 ev2_2 cv2_1) else (clrI z2 (2 : Int32) ev2_0 ev2_1 ev2_2 cv2_2))))])
    have hc58 : (if (2 : Int32) = (0 : Int32) then (clrI z2 (0 : Int32) ev2_0 ev2_1 ev2_2 cv2_0) else (if (2 : Int32) = (1 : Int32) then (clrI z2 (1 : Int32) ev2_0 ev2_1 ev2_2 cv2_1) else (clrI z2 (2 : Int32) ev2_0 ev2_1 ev2_2 cv2_2))) = (0 : Int32) := own_k2_2 hd1 hd2 hd3 hsv1_0 hsv1_1 hsv1_2 hcv1_0 hcv1_1 hcv1_2 hev1_0 hev1_1 hev1_2 hz1 hsv2_0 hsv2_1 hsv2_2 hcv2_0 hcv2_1 hcv2_2 hev2_0 hev2_1 hev2_2 hz2
    refine Go.on (fun _ k => XS.ifNo X57.here hx rfl (hb hby at_142) rfl ((if0 _ _).trans (teq hc58).2) k) ?_
    show Go _ _ _ _ _ _ _ _ (mkF m 145 #[.val (.int cnt), .val (.int i0), .val (.int i1), .val (.int i2), .val (.int i3), .val (.int (2 : Int32)), .val (.int d1), .val (.int d2), .val (.int d3), .val (.ref q), .val (.int (1 : Int32))] [])
    refine Go.on (fun _ k => XS.iconst X57.here hx rfl (hb hby at_145) k) ?_
    show Go _ _ _ _ _ _ _ _ (mkF m 146 #[.val (.int cnt), .val (.int i0), .val (.int i1), .val (.int i2), .val (.int i3), .val (.int (2 : Int32)), .val (.int d1), .val (.int d2), .val (.int d3), .val (.ref q), .val (.int (1 : Int32))] [(.int (1 : Int32))])
    refine Go.on (fun _ k => XS.goto X57.here hx rfl (pc0 := 146) (pc' := 150) rfl (hb hby at_146) (by decide) (by decide) k) ?_
    show Go _ _ _ _ _ _ _ _ (mkF m 150 #[.val (.int cnt), .val (.int i0), .val (.int i1), .val (.int i2), .val (.int i3), .val (.int (2 : Int32)), .val (.int d1), .val (.int d2), .val (.int d3), .val (.ref q), .val (.int (1 : Int32))] [(.int (1 : Int32))])
    refine Go.on (fun _ k => XS.istore X57.here hx rfl (hb hby at_150) rfl (l' := #[.val (.int cnt), .val (.int i0), .val (.int i1), .val (.int i2), .val (.int i3), .val (.int (2 : Int32)), .val (.int d1), .val (.int d2), .val (.int d3), .val (.ref q), .val (.int (1 : Int32))]) rfl k) ?_
    show Go _ _ _ _ _ _ _ _ (mkF m 152 #[.val (.int cnt), .val (.int i0), .val (.int i1), .val (.int i2), .val (.int i3), .val (.int (2 : Int32)), .val (.int d1), .val (.int d2), .val (.int d3), .val (.ref q), .val (.int (1 : Int32))] [])
    refine Go.on (fun _ k => XS.iload X57.here hx rfl (hb hby at_152) rfl k) ?_
    show Go _ _ _ _ _ _ _ _ (mkF m 154 #[.val (.int cnt), .val (.int i0), .val (.int i1), .val (.int i2), .val (.int i3), .val (.int (2 : Int32)), .val (.int d1), .val (.int d2), .val (.int d3), .val (.ref q), .val (.int (1 : Int32))] [(.int (1 : Int32))])
    have hc59 : ¬ ((1 : Int32) = (0 : Int32)) := by decide
    refine Go.on (fun _ k => XS.ifNo X57.here hx rfl (hb hby at_154) rfl ((if0 _ _).trans (feq hc59).1) k) ?_
    show Go _ _ _ _ _ _ _ _ (mkF m 157 #[.val (.int cnt), .val (.int i0), .val (.int i1), .val (.int i2), .val (.int i3), .val (.int (2 : Int32)), .val (.int d1), .val (.int d2), .val (.int d3), .val (.ref q), .val (.int (1 : Int32))] [])
    refine Go.on (fun _ k => XS.aload X57.here hx rfl (hb hby at_157) rfl rfl k) ?_
    show Go _ _ _ _ _ _ _ _ (mkF m 159 #[.val (.int cnt), .val (.int i0), .val (.int i1), .val (.int i2), .val (.int i3), .val (.int (2 : Int32)), .val (.int d1), .val (.int d2), .val (.int d3), .val (.ref q), .val (.int (1 : Int32))] [(.ref q)])
    refine Go.on (fun _ k => XS.iconst X57.here hx rfl (hb hby at_159) k) ?_
    show Go _ _ _ _ _ _ _ _ (mkF m 160 #[.val (.int cnt), .val (.int i0), .val (.int i1), .val (.int i2), .val (.int i3), .val (.int (2 : Int32)), .val (.int d1), .val (.int d2), .val (.int d3), .val (.ref q), .val (.int (1 : Int32))] [(.int (0 : Int32)), (.ref q)])
    obtain ⟨cq60, kq60, q60a, q60b, q60c⟩ := isOf hZ e57 E_q
    obtain ⟨_, _, ⟨T60, L60, k60, n60⟩, -, X60, ⟨Lc60, hQ60, l60, y60, z60⟩, st60⟩ := X57.virtualBack hx (y := (⟨"com/example/clirtools/clirtools/DocumentSums", "sum", "(I)D"⟩ : MethodName)) (z := (⟨"com/example/clirtools/clirtools/DocumentSums", "sum", "(I)D"⟩ : MethodName)) hown (mvT hZ (hw _ (List.mem_of_getElem? (i := 34) rfl))) (mvT hZ (hw _ (List.mem_of_getElem? (i := 35) rfl))) (notFace_of_selects (args := #[]) (mvT hZ (hw _ (List.mem_of_getElem? (i := 37) rfl)))) (mvT hZ (hw _ (List.mem_of_getElem? (i := 37) rfl))) (mvT hZ (hw _ (List.mem_of_getElem? (i := 36) rfl))) (by decide) (backOf (W := 0) (rm6 l Z aw hw [] q (0 : Int32) as k_as (clrD z2 (0 : Int32) ev2_0 ev2_1 ev2_2 sv2_0) (clrD z2 (1 : Int32) ev2_0 ev2_1 ev2_2 sv2_1) (clrD z2 (2 : Int32) ev2_0 ev2_1 ev2_2 sv2_2) h49 n0 ZZ F_sums_q V_as (by unfold Three; decide)) hZ (hw _ (List.mem_of_getElem? (i := 38) rfl)) (hw _ (List.mem_of_getElem? (i := 2) rfl)) (by decide) (by decide)) q60a q60c (g := (mkF m 160 #[.val (.int cnt), .val (.int i0), .val (.int i1), .val (.int i2), .val (.int i3), .val (.int (2 : Int32)), .val (.int d1), .val (.int d2), .val (.int d3), .val (.ref q), .val (.int (1 : Int32))] [(.int (0 : Int32)), (.ref q)])) rfl (by rw [hml]; rfl) (Steps.refl _) (argsL := [(.int (0 : Int32))]) (rest := []) (lenOf pd_4 rfl) rfl (by show 2 * 0 + _ ≤ _; exact Nat.le_of_eq rfl) (hb hby at_160) (fun _ _ => ⟨rfl, e57, (by decide : 4 + 0 ≤ _), (by decide : 13 + 0 ≤ _)⟩)
    dsimp only [Pt.U, Pt.locs, Pt.cells, Pt.slots] at X60 l60 y60 z60 st60 hQ60
    subst l60 y60 z60
    obtain ⟨rfl, N60q, e60⟩ := hQ60
    have N60 := Fr.app N57 N60q
    refine Go.on (fun _ k => st60.trans k) ?_
    show Go _ _ _ _ _ _ _ _ (mkF m 163 #[.val (.int cnt), .val (.int i0), .val (.int i1), .val (.int i2), .val (.int i3), .val (.int (2 : Int32)), .val (.int d1), .val (.int d2), .val (.int d3), .val (.ref q), .val (.int (1 : Int32))] [(.double (if (0 : Int32) = (0 : Int32) then (clrD z2 (0 : Int32) ev2_0 ev2_1 ev2_2 sv2_0) else (if (0 : Int32) = (1 : Int32) then (clrD z2 (1 : Int32) ev2_0 ev2_1 ev2_2 sv2_1) else (clrD z2 (2 : Int32) ev2_0 ev2_1 ev2_2 sv2_2))))])
    refine Go.on (fun _ k => XS.dconst0 X60.here hx rfl (v := (0 : UInt64)) (hb hby at_163) rfl k) ?_
    show Go _ _ _ _ _ _ _ _ (mkF m 164 #[.val (.int cnt), .val (.int i0), .val (.int i1), .val (.int i2), .val (.int i3), .val (.int (2 : Int32)), .val (.int d1), .val (.int d2), .val (.int d3), .val (.ref q), .val (.int (1 : Int32))] [(.double (0 : UInt64)), (.double (if (0 : Int32) = (0 : Int32) then (clrD z2 (0 : Int32) ev2_0 ev2_1 ev2_2 sv2_0) else (if (0 : Int32) = (1 : Int32) then (clrD z2 (1 : Int32) ev2_0 ev2_1 ev2_2 sv2_1) else (clrD z2 (2 : Int32) ev2_0 ev2_1 ev2_2 sv2_2))))])
    refine Go.on (fun _ k => XS.dcmpS X60.here hx rfl (hb hby at_164) rfl rfl k) ?_
    show Go _ _ _ _ _ _ _ _ (mkF m 165 #[.val (.int cnt), .val (.int i0), .val (.int i1), .val (.int i2), .val (.int i3), .val (.int (2 : Int32)), .val (.int d1), .val (.int d2), .val (.int d3), .val (.ref q), .val (.int (1 : Int32))] [(.int (cmpValue (FP.dcmp (if (0 : Int32) = (0 : Int32) then (clrD z2 (0 : Int32) ev2_0 ev2_1 ev2_2 sv2_0) else (if (0 : Int32) = (1 : Int32) then (clrD z2 (1 : Int32) ev2_0 ev2_1 ev2_2 sv2_1) else (clrD z2 (2 : Int32) ev2_0 ev2_1 ev2_2 sv2_2))) (0 : UInt64)) .l))])
    have hc61 : (cmpValue (FP.dcmp (if (0 : Int32) = (0 : Int32) then (clrD z2 (0 : Int32) ev2_0 ev2_1 ev2_2 sv2_0) else (if (0 : Int32) = (1 : Int32) then (clrD z2 (1 : Int32) ev2_0 ev2_1 ev2_2 sv2_1) else (clrD z2 (2 : Int32) ev2_0 ev2_1 ev2_2 sv2_2))) (0 : UInt64)) .l) = (0 : Int32) := own_q2_0 hd1 hd2 hd3 hsv1_0 hsv1_1 hsv1_2 hcv1_0 hcv1_1 hcv1_2 hev1_0 hev1_1 hev1_2 hz1 hsv2_0 hsv2_1 hsv2_2 hcv2_0 hcv2_1 hcv2_2 hev2_0 hev2_1 hev2_2 hz2
    refine Go.on (fun _ k => XS.ifNo X60.here hx rfl (hb hby at_165) rfl ((if0 _ _).trans (teq hc61).2) k) ?_
    show Go _ _ _ _ _ _ _ _ (mkF m 168 #[.val (.int cnt), .val (.int i0), .val (.int i1), .val (.int i2), .val (.int i3), .val (.int (2 : Int32)), .val (.int d1), .val (.int d2), .val (.int d3), .val (.ref q), .val (.int (1 : Int32))] [])
    refine Go.on (fun _ k => XS.aload X60.here hx rfl (hb hby at_168) rfl rfl k) ?_
    show Go _ _ _ _ _ _ _ _ (mkF m 170 #[.val (.int cnt), .val (.int i0), .val (.int i1), .val (.int i2), .val (.int i3), .val (.int (2 : Int32)), .val (.int d1), .val (.int d2), .val (.int d3), .val (.ref q), .val (.int (1 : Int32))] [(.ref q)])
    refine Go.on (fun _ k => XS.iconst X60.here hx rfl (hb hby at_170) k) ?_
    show Go _ _ _ _ _ _ _ _ (mkF m 171 #[.val (.int cnt), .val (.int i0), .val (.int i1), .val (.int i2), .val (.int i3), .val (.int (2 : Int32)), .val (.int d1), .val (.int d2), .val (.int d3), .val (.ref q), .val (.int (1 : Int32))] [(.int (1 : Int32)), (.ref q)])
    obtain ⟨cq62, kq62, q62a, q62b, q62c⟩ := isOf hZ e60 E_q
    obtain ⟨_, _, ⟨T62, L62, k62, n62⟩, -, X62, ⟨Lc62, hQ62, l62, y62, z62⟩, st62⟩ := X60.virtualBack hx (y := (⟨"com/example/clirtools/clirtools/DocumentSums", "sum", "(I)D"⟩ : MethodName)) (z := (⟨"com/example/clirtools/clirtools/DocumentSums", "sum", "(I)D"⟩ : MethodName)) hown (mvT hZ (hw _ (List.mem_of_getElem? (i := 34) rfl))) (mvT hZ (hw _ (List.mem_of_getElem? (i := 35) rfl))) (notFace_of_selects (args := #[]) (mvT hZ (hw _ (List.mem_of_getElem? (i := 37) rfl)))) (mvT hZ (hw _ (List.mem_of_getElem? (i := 37) rfl))) (mvT hZ (hw _ (List.mem_of_getElem? (i := 36) rfl))) (by decide) (backOf (W := 0) (rm6 l Z aw hw [] q (1 : Int32) as k_as (clrD z2 (0 : Int32) ev2_0 ev2_1 ev2_2 sv2_0) (clrD z2 (1 : Int32) ev2_0 ev2_1 ev2_2 sv2_1) (clrD z2 (2 : Int32) ev2_0 ev2_1 ev2_2 sv2_2) h49 n0 ZZ F_sums_q V_as (by unfold Three; decide)) hZ (hw _ (List.mem_of_getElem? (i := 38) rfl)) (hw _ (List.mem_of_getElem? (i := 2) rfl)) (by decide) (by decide)) q62a q62c (g := (mkF m 171 #[.val (.int cnt), .val (.int i0), .val (.int i1), .val (.int i2), .val (.int i3), .val (.int (2 : Int32)), .val (.int d1), .val (.int d2), .val (.int d3), .val (.ref q), .val (.int (1 : Int32))] [(.int (1 : Int32)), (.ref q)])) rfl (by rw [hml]; rfl) (Steps.refl _) (argsL := [(.int (1 : Int32))]) (rest := []) (lenOf pd_4 rfl) rfl (by show 2 * 0 + _ ≤ _; exact Nat.le_of_eq rfl) (hb hby at_171) (fun _ _ => ⟨rfl, e60, (by decide : 4 + 0 ≤ _), (by decide : 13 + 0 ≤ _)⟩)
    dsimp only [Pt.U, Pt.locs, Pt.cells, Pt.slots] at X62 l62 y62 z62 st62 hQ62
    subst l62 y62 z62
    obtain ⟨rfl, N62q, e62⟩ := hQ62
    have N62 := Fr.app N60 N62q
    refine Go.on (fun _ k => st62.trans k) ?_
    show Go _ _ _ _ _ _ _ _ (mkF m 174 #[.val (.int cnt), .val (.int i0), .val (.int i1), .val (.int i2), .val (.int i3), .val (.int (2 : Int32)), .val (.int d1), .val (.int d2), .val (.int d3), .val (.ref q), .val (.int (1 : Int32))] [(.double (if (1 : Int32) = (0 : Int32) then (clrD z2 (0 : Int32) ev2_0 ev2_1 ev2_2 sv2_0) else (if (1 : Int32) = (1 : Int32) then (clrD z2 (1 : Int32) ev2_0 ev2_1 ev2_2 sv2_1) else (clrD z2 (2 : Int32) ev2_0 ev2_1 ev2_2 sv2_2))))])
    refine Go.on (fun _ k => XS.dconst0 X62.here hx rfl (v := (0 : UInt64)) (hb hby at_174) rfl k) ?_
    show Go _ _ _ _ _ _ _ _ (mkF m 175 #[.val (.int cnt), .val (.int i0), .val (.int i1), .val (.int i2), .val (.int i3), .val (.int (2 : Int32)), .val (.int d1), .val (.int d2), .val (.int d3), .val (.ref q), .val (.int (1 : Int32))] [(.double (0 : UInt64)), (.double (if (1 : Int32) = (0 : Int32) then (clrD z2 (0 : Int32) ev2_0 ev2_1 ev2_2 sv2_0) else (if (1 : Int32) = (1 : Int32) then (clrD z2 (1 : Int32) ev2_0 ev2_1 ev2_2 sv2_1) else (clrD z2 (2 : Int32) ev2_0 ev2_1 ev2_2 sv2_2))))])
    refine Go.on (fun _ k => XS.dcmpS X62.here hx rfl (hb hby at_175) rfl rfl k) ?_
    show Go _ _ _ _ _ _ _ _ (mkF m 176 #[.val (.int cnt), .val (.int i0), .val (.int i1), .val (.int i2), .val (.int i3), .val (.int (2 : Int32)), .val (.int d1), .val (.int d2), .val (.int d3), .val (.ref q), .val (.int (1 : Int32))] [(.int (cmpValue (FP.dcmp (if (1 : Int32) = (0 : Int32) then (clrD z2 (0 : Int32) ev2_0 ev2_1 ev2_2 sv2_0) else (if (1 : Int32) = (1 : Int32) then (clrD z2 (1 : Int32) ev2_0 ev2_1 ev2_2 sv2_1) else (clrD z2 (2 : Int32) ev2_0 ev2_1 ev2_2 sv2_2))) (0 : UInt64)) .l))])
    have hc63 : (cmpValue (FP.dcmp (if (1 : Int32) = (0 : Int32) then (clrD z2 (0 : Int32) ev2_0 ev2_1 ev2_2 sv2_0) else (if (1 : Int32) = (1 : Int32) then (clrD z2 (1 : Int32) ev2_0 ev2_1 ev2_2 sv2_1) else (clrD z2 (2 : Int32) ev2_0 ev2_1 ev2_2 sv2_2))) (0 : UInt64)) .l) = (0 : Int32) := own_q2_1 hd1 hd2 hd3 hsv1_0 hsv1_1 hsv1_2 hcv1_0 hcv1_1 hcv1_2 hev1_0 hev1_1 hev1_2 hz1 hsv2_0 hsv2_1 hsv2_2 hcv2_0 hcv2_1 hcv2_2 hev2_0 hev2_1 hev2_2 hz2
    refine Go.on (fun _ k => XS.ifNo X62.here hx rfl (hb hby at_176) rfl ((if0 _ _).trans (teq hc63).2) k) ?_
    show Go _ _ _ _ _ _ _ _ (mkF m 179 #[.val (.int cnt), .val (.int i0), .val (.int i1), .val (.int i2), .val (.int i3), .val (.int (2 : Int32)), .val (.int d1), .val (.int d2), .val (.int d3), .val (.ref q), .val (.int (1 : Int32))] [])
    refine Go.on (fun _ k => XS.aload X62.here hx rfl (hb hby at_179) rfl rfl k) ?_
    show Go _ _ _ _ _ _ _ _ (mkF m 181 #[.val (.int cnt), .val (.int i0), .val (.int i1), .val (.int i2), .val (.int i3), .val (.int (2 : Int32)), .val (.int d1), .val (.int d2), .val (.int d3), .val (.ref q), .val (.int (1 : Int32))] [(.ref q)])
    refine Go.on (fun _ k => XS.iconst X62.here hx rfl (hb hby at_181) k) ?_
    show Go _ _ _ _ _ _ _ _ (mkF m 182 #[.val (.int cnt), .val (.int i0), .val (.int i1), .val (.int i2), .val (.int i3), .val (.int (2 : Int32)), .val (.int d1), .val (.int d2), .val (.int d3), .val (.ref q), .val (.int (1 : Int32))] [(.int (2 : Int32)), (.ref q)])
    obtain ⟨cq64, kq64, q64a, q64b, q64c⟩ := isOf hZ e62 E_q
    obtain ⟨_, _, ⟨T64, L64, k64, n64⟩, -, X64, ⟨Lc64, hQ64, l64, y64, z64⟩, st64⟩ := X62.virtualBack hx (y := (⟨"com/example/clirtools/clirtools/DocumentSums", "sum", "(I)D"⟩ : MethodName)) (z := (⟨"com/example/clirtools/clirtools/DocumentSums", "sum", "(I)D"⟩ : MethodName)) hown (mvT hZ (hw _ (List.mem_of_getElem? (i := 34) rfl))) (mvT hZ (hw _ (List.mem_of_getElem? (i := 35) rfl))) (notFace_of_selects (args := #[]) (mvT hZ (hw _ (List.mem_of_getElem? (i := 37) rfl)))) (mvT hZ (hw _ (List.mem_of_getElem? (i := 37) rfl))) (mvT hZ (hw _ (List.mem_of_getElem? (i := 36) rfl))) (by decide) (backOf (W := 0) (rm6 l Z aw hw [] q (2 : Int32) as k_as (clrD z2 (0 : Int32) ev2_0 ev2_1 ev2_2 sv2_0) (clrD z2 (1 : Int32) ev2_0 ev2_1 ev2_2 sv2_1) (clrD z2 (2 : Int32) ev2_0 ev2_1 ev2_2 sv2_2) h49 n0 ZZ F_sums_q V_as (by unfold Three; decide)) hZ (hw _ (List.mem_of_getElem? (i := 38) rfl)) (hw _ (List.mem_of_getElem? (i := 2) rfl)) (by decide) (by decide)) q64a q64c (g := (mkF m 182 #[.val (.int cnt), .val (.int i0), .val (.int i1), .val (.int i2), .val (.int i3), .val (.int (2 : Int32)), .val (.int d1), .val (.int d2), .val (.int d3), .val (.ref q), .val (.int (1 : Int32))] [(.int (2 : Int32)), (.ref q)])) rfl (by rw [hml]; rfl) (Steps.refl _) (argsL := [(.int (2 : Int32))]) (rest := []) (lenOf pd_4 rfl) rfl (by show 2 * 0 + _ ≤ _; exact Nat.le_of_eq rfl) (hb hby at_182) (fun _ _ => ⟨rfl, e62, (by decide : 4 + 0 ≤ _), (by decide : 13 + 0 ≤ _)⟩)
    dsimp only [Pt.U, Pt.locs, Pt.cells, Pt.slots] at X64 l64 y64 z64 st64 hQ64
    subst l64 y64 z64
    obtain ⟨rfl, N64q, e64⟩ := hQ64
    have N64 := Fr.app N62 N64q
    refine Go.on (fun _ k => st64.trans k) ?_
    show Go _ _ _ _ _ _ _ _ (mkF m 185 #[.val (.int cnt), .val (.int i0), .val (.int i1), .val (.int i2), .val (.int i3), .val (.int (2 : Int32)), .val (.int d1), .val (.int d2), .val (.int d3), .val (.ref q), .val (.int (1 : Int32))] [(.double (if (2 : Int32) = (0 : Int32) then (clrD z2 (0 : Int32) ev2_0 ev2_1 ev2_2 sv2_0) else (if (2 : Int32) = (1 : Int32) then (clrD z2 (1 : Int32) ev2_0 ev2_1 ev2_2 sv2_1) else (clrD z2 (2 : Int32) ev2_0 ev2_1 ev2_2 sv2_2))))])
    refine Go.on (fun _ k => XS.dconst0 X64.here hx rfl (v := (0 : UInt64)) (hb hby at_185) rfl k) ?_
    show Go _ _ _ _ _ _ _ _ (mkF m 186 #[.val (.int cnt), .val (.int i0), .val (.int i1), .val (.int i2), .val (.int i3), .val (.int (2 : Int32)), .val (.int d1), .val (.int d2), .val (.int d3), .val (.ref q), .val (.int (1 : Int32))] [(.double (0 : UInt64)), (.double (if (2 : Int32) = (0 : Int32) then (clrD z2 (0 : Int32) ev2_0 ev2_1 ev2_2 sv2_0) else (if (2 : Int32) = (1 : Int32) then (clrD z2 (1 : Int32) ev2_0 ev2_1 ev2_2 sv2_1) else (clrD z2 (2 : Int32) ev2_0 ev2_1 ev2_2 sv2_2))))])
    refine Go.on (fun _ k => XS.dcmpS X64.here hx rfl (hb hby at_186) rfl rfl k) ?_
    show Go _ _ _ _ _ _ _ _ (mkF m 187 #[.val (.int cnt), .val (.int i0), .val (.int i1), .val (.int i2), .val (.int i3), .val (.int (2 : Int32)), .val (.int d1), .val (.int d2), .val (.int d3), .val (.ref q), .val (.int (1 : Int32))] [(.int (cmpValue (FP.dcmp (if (2 : Int32) = (0 : Int32) then (clrD z2 (0 : Int32) ev2_0 ev2_1 ev2_2 sv2_0) else (if (2 : Int32) = (1 : Int32) then (clrD z2 (1 : Int32) ev2_0 ev2_1 ev2_2 sv2_1) else (clrD z2 (2 : Int32) ev2_0 ev2_1 ev2_2 sv2_2))) (0 : UInt64)) .l))])
    have hc65 : (cmpValue (FP.dcmp (if (2 : Int32) = (0 : Int32) then (clrD z2 (0 : Int32) ev2_0 ev2_1 ev2_2 sv2_0) else (if (2 : Int32) = (1 : Int32) then (clrD z2 (1 : Int32) ev2_0 ev2_1 ev2_2 sv2_1) else (clrD z2 (2 : Int32) ev2_0 ev2_1 ev2_2 sv2_2))) (0 : UInt64)) .l) = (0 : Int32) := own_q2_2 hd1 hd2 hd3 hsv1_0 hsv1_1 hsv1_2 hcv1_0 hcv1_1 hcv1_2 hev1_0 hev1_1 hev1_2 hz1 hsv2_0 hsv2_1 hsv2_2 hcv2_0 hcv2_1 hcv2_2 hev2_0 hev2_1 hev2_2 hz2
    refine Go.on (fun _ k => XS.ifNo X64.here hx rfl (hb hby at_187) rfl ((if0 _ _).trans (teq hc65).2) k) ?_
    show Go _ _ _ _ _ _ _ _ (mkF m 190 #[.val (.int cnt), .val (.int i0), .val (.int i1), .val (.int i2), .val (.int i3), .val (.int (2 : Int32)), .val (.int d1), .val (.int d2), .val (.int d3), .val (.ref q), .val (.int (1 : Int32))] [])
    refine Go.on (fun _ k => XS.iconst X64.here hx rfl (hb hby at_190) k) ?_
    show Go _ _ _ _ _ _ _ _ (mkF m 191 #[.val (.int cnt), .val (.int i0), .val (.int i1), .val (.int i2), .val (.int i3), .val (.int (2 : Int32)), .val (.int d1), .val (.int d2), .val (.int d3), .val (.ref q), .val (.int (1 : Int32))] [(.int (1 : Int32))])
    refine Go.on (fun _ k => XS.goto X64.here hx rfl (pc0 := 191) (pc' := 195) rfl (hb hby at_191) (by decide) (by decide) k) ?_
    show Go _ _ _ _ _ _ _ _ (mkF m 195 #[.val (.int cnt), .val (.int i0), .val (.int i1), .val (.int i2), .val (.int i3), .val (.int (2 : Int32)), .val (.int d1), .val (.int d2), .val (.int d3), .val (.ref q), .val (.int (1 : Int32))] [(.int (1 : Int32))])
    refine Go.on (fun _ k => XS.istore X64.here hx rfl (hb hby at_195) rfl (l' := #[.val (.int cnt), .val (.int i0), .val (.int i1), .val (.int i2), .val (.int i3), .val (.int (2 : Int32)), .val (.int d1), .val (.int d2), .val (.int d3), .val (.ref q), .val (.int (1 : Int32))]) rfl k) ?_
    show Go _ _ _ _ _ _ _ _ (mkF m 197 #[.val (.int cnt), .val (.int i0), .val (.int i1), .val (.int i2), .val (.int i3), .val (.int (2 : Int32)), .val (.int d1), .val (.int d2), .val (.int d3), .val (.ref q), .val (.int (1 : Int32))] [])
    refine Go.on (fun _ k => XS.iload X64.here hx rfl (hb hby at_197) rfl k) ?_
    show Go _ _ _ _ _ _ _ _ (mkF m 199 #[.val (.int cnt), .val (.int i0), .val (.int i1), .val (.int i2), .val (.int i3), .val (.int (2 : Int32)), .val (.int d1), .val (.int d2), .val (.int d3), .val (.ref q), .val (.int (1 : Int32))] [(.int (1 : Int32))])
    refine Go.retN X64 hx (t := .boolean) Bd.returns (by simp) (hb hby at_199) ?_ (by rw [hK1]; decide) (by rw [hK2]; decide)
    rw [e64, ← hQQ]
    exact ⟨rfl, N64⟩
  · -- 3 values
    subst hl
    show Go _ _ _ _ _ _ _ _ (mkF m 48 #[.val (.int cnt), .val (.int i0), .val (.int i1), .val (.int i2), .val (.int i3), .val (.int (3 : Int32)), .val (.int d1), .val (.int d2), .val (.int d3), .val (.ref q), .unset] [])
    refine Go.on (fun _ k => XS.iload X2.here hx rfl (hb hby at_48) rfl k) ?_
    show Go _ _ _ _ _ _ _ _ (mkF m 50 #[.val (.int cnt), .val (.int i0), .val (.int i1), .val (.int i2), .val (.int i3), .val (.int (3 : Int32)), .val (.int d1), .val (.int d2), .val (.int d3), .val (.ref q), .unset] [(.int (3 : Int32))])
    have hc66 : (0 : Int32) < (3 : Int32) := by decide
    refine Go.on (fun _ k => XS.ifNo X2.here hx rfl (hb hby at_50) rfl ((if0 _ _).trans (tlt hc66).2.2.2) k) ?_
    show Go _ _ _ _ _ _ _ _ (mkF m 53 #[.val (.int cnt), .val (.int i0), .val (.int i1), .val (.int i2), .val (.int i3), .val (.int (3 : Int32)), .val (.int d1), .val (.int d2), .val (.int d3), .val (.ref q), .unset] [])
    refine Go.on (fun _ k => XS.aload X2.here hx rfl (hb hby at_53) rfl rfl k) ?_
    show Go _ _ _ _ _ _ _ _ (mkF m 55 #[.val (.int cnt), .val (.int i0), .val (.int i1), .val (.int i2), .val (.int i3), .val (.int (3 : Int32)), .val (.int d1), .val (.int d2), .val (.int d3), .val (.ref q), .unset] [(.ref q)])
    refine Go.on (fun _ k => XS.iload X2.here hx rfl (hb hby at_55) rfl k) ?_
    show Go _ _ _ _ _ _ _ _ (mkF m 57 #[.val (.int cnt), .val (.int i0), .val (.int i1), .val (.int i2), .val (.int i3), .val (.int (3 : Int32)), .val (.int d1), .val (.int d2), .val (.int d3), .val (.ref q), .unset] [(.int d1), (.ref q)])
    refine Go.on (fun _ k => XS.iloadN X2.here hx rfl (hb hby at_57) rfl k) ?_
    show Go _ _ _ _ _ _ _ _ (mkF m 58 #[.val (.int cnt), .val (.int i0), .val (.int i1), .val (.int i2), .val (.int i3), .val (.int (3 : Int32)), .val (.int d1), .val (.int d2), .val (.int d3), .val (.ref q), .unset] [(.int i1), (.int d1), (.ref q)])
    refine Go.on (fun _ k => XS.i2dS X2.here hx rfl (hb hby at_58) rfl rfl k) ?_
    show Go _ _ _ _ _ _ _ _ (mkF m 59 #[.val (.int cnt), .val (.int i0), .val (.int i1), .val (.int i2), .val (.int i3), .val (.int (3 : Int32)), .val (.int d1), .val (.int d2), .val (.int d3), .val (.ref q), .unset] [(.double (FP.i2d i1)), (.int d1), (.ref q)])
    obtain ⟨cq67, kq67, q67a, q67b, q67c⟩ := isOf hZ e2 E_q
    obtain ⟨_, _, ⟨T67, L67, k67, n67⟩, -, X67, ⟨Lc67, hQ67, l67, y67, z67⟩, st67⟩ := X2.virtualBack hx (y := (⟨"com/example/clirtools/clirtools/DocumentSums", "add", "(ID)V"⟩ : MethodName)) (z := (⟨"com/example/clirtools/clirtools/DocumentSums", "add", "(ID)V"⟩ : MethodName)) hown (mvT hZ (hw _ (List.mem_of_getElem? (i := 39) rfl))) (mvT hZ (hw _ (List.mem_of_getElem? (i := 40) rfl))) (notFace_of_selects (args := #[]) (mvT hZ (hw _ (List.mem_of_getElem? (i := 42) rfl)))) (mvT hZ (hw _ (List.mem_of_getElem? (i := 42) rfl))) (mvT hZ (hw _ (List.mem_of_getElem? (i := 41) rfl))) (by decide) (backOf (W := 0) (rm7 l Z aw hw [] q d1 (FP.i2d i1) as ac ad (0 : Int32) k_as (0 : UInt64) (0 : UInt64) (0 : UInt64) k_ac (0 : Int32) (0 : Int32) (0 : Int32) k_ad (0 : Int32) (0 : Int32) (0 : Int32) h2 n0 ZZ E_q F_sums_q F_counts_q F_documents_q F_size_q V_as V_ac V_ad g_q g_as g_ac g_ad ne_q_as ne_q_ac ne_q_ad ne_as_ac ne_as_ad ne_ac_ad (own_three hd1) (own_hz1 hd1 hd2 hd3 ) (own_nn1 hd1 hd2 hd3  i1 i2 i3)) hZ (hw _ (List.mem_of_getElem? (i := 43) rfl)) (hw _ (List.mem_of_getElem? (i := 2) rfl)) (by decide) (by decide)) q67a q67c (g := (mkF m 59 #[.val (.int cnt), .val (.int i0), .val (.int i1), .val (.int i2), .val (.int i3), .val (.int (3 : Int32)), .val (.int d1), .val (.int d2), .val (.int d3), .val (.ref q), .unset] [(.double (FP.i2d i1)), (.int d1), (.ref q)])) rfl (by rw [hml]; rfl) (Steps.refl _) (argsL := [(.int d1), (.double (FP.i2d i1))]) (rest := []) (lenOf pd_5 rfl) rfl (by show 2 * 0 + _ ≤ _; exact Nat.le_of_eq rfl) (hb hby at_59) (fun _ _ => ⟨rfl, e2, (by decide : 4 + 0 ≤ _), (by decide : 13 + 0 ≤ _)⟩)
    dsimp only [Pt.U, Pt.locs, Pt.cells, Pt.slots] at X67 l67 y67 z67 st67 hQ67
    subst l67 y67 z67
    obtain ⟨h67, e67⟩ : ∃ q, T67.heap = q := ⟨_, rfl⟩
    rw [e67] at hQ67
    obtain ⟨rfl, N67q, K67q, Eq67, F_sumsq67, F_countsq67, F_documentsq67, F_sizeq67, V_Sq67, V_Cq67, V_Eq67⟩ := hQ67
    have N67 := Fr.app N2 N67q
    have ZZ67p := ZZ
    have lt_q := E_q.lt
    have lt_as := V_as.lt
    have lt_ac := V_ac.lt
    have lt_ad := V_ad.lt
    replace E_q := E_q.keep K67q
    replace ZZ := Nat.le_trans ZZ K67q.1
    have F_sums_q := F_sumsq67
    have F_counts_q := F_countsq67
    have F_documents_q := F_documentsq67
    have F_size_q := F_sizeq67
    obtain ⟨z1, hz1⟩ : ∃ q : Int32, q = (if (if d1 = (0 : Int32) then (0 : Int32) else (if d1 = (1 : Int32) then (0 : Int32) else (0 : Int32))) = (0 : Int32) then ((0 : Int32) + (1 : Int32)) else (0 : Int32)) := ⟨_, rfl⟩
    rw [← hz1] at F_size_q
    have V_as := V_Sq67
    obtain ⟨sv1_0, hsv1_0⟩ : ∃ q : UInt64, q = (if d1 = (0 : Int32) then (FP.dadd (if d1 = (0 : Int32) then (0 : UInt64) else (if d1 = (1 : Int32) then (0 : UInt64) else (0 : UInt64))) (FP.i2d i1)) else (0 : UInt64)) := ⟨_, rfl⟩
    rw [← hsv1_0] at V_as
    obtain ⟨sv1_1, hsv1_1⟩ : ∃ q : UInt64, q = (if d1 = (1 : Int32) then (FP.dadd (if d1 = (0 : Int32) then (0 : UInt64) else (if d1 = (1 : Int32) then (0 : UInt64) else (0 : UInt64))) (FP.i2d i1)) else (0 : UInt64)) := ⟨_, rfl⟩
    rw [← hsv1_1] at V_as
    obtain ⟨sv1_2, hsv1_2⟩ : ∃ q : UInt64, q = (if d1 = (2 : Int32) then (FP.dadd (if d1 = (0 : Int32) then (0 : UInt64) else (if d1 = (1 : Int32) then (0 : UInt64) else (0 : UInt64))) (FP.i2d i1)) else (0 : UInt64)) := ⟨_, rfl⟩
    rw [← hsv1_2] at V_as
    have V_ac := V_Cq67
    obtain ⟨cv1_0, hcv1_0⟩ : ∃ q : Int32, q = (if d1 = (0 : Int32) then ((if d1 = (0 : Int32) then (0 : Int32) else (if d1 = (1 : Int32) then (0 : Int32) else (0 : Int32))) + (1 : Int32)) else (0 : Int32)) := ⟨_, rfl⟩
    rw [← hcv1_0] at V_ac
    obtain ⟨cv1_1, hcv1_1⟩ : ∃ q : Int32, q = (if d1 = (1 : Int32) then ((if d1 = (0 : Int32) then (0 : Int32) else (if d1 = (1 : Int32) then (0 : Int32) else (0 : Int32))) + (1 : Int32)) else (0 : Int32)) := ⟨_, rfl⟩
    rw [← hcv1_1] at V_ac
    obtain ⟨cv1_2, hcv1_2⟩ : ∃ q : Int32, q = (if d1 = (2 : Int32) then ((if d1 = (0 : Int32) then (0 : Int32) else (if d1 = (1 : Int32) then (0 : Int32) else (0 : Int32))) + (1 : Int32)) else (0 : Int32)) := ⟨_, rfl⟩
    rw [← hcv1_2] at V_ac
    have V_ad := V_Eq67
    obtain ⟨ev1_0, hev1_0⟩ : ∃ q : Int32, q = (if (if d1 = (0 : Int32) then (0 : Int32) else (if d1 = (1 : Int32) then (0 : Int32) else (0 : Int32))) = (0 : Int32) then (if (0 : Int32) = (0 : Int32) then d1 else (0 : Int32)) else (0 : Int32)) := ⟨_, rfl⟩
    rw [← hev1_0] at V_ad
    obtain ⟨ev1_1, hev1_1⟩ : ∃ q : Int32, q = (if (if d1 = (0 : Int32) then (0 : Int32) else (if d1 = (1 : Int32) then (0 : Int32) else (0 : Int32))) = (0 : Int32) then (if (0 : Int32) = (1 : Int32) then d1 else (0 : Int32)) else (0 : Int32)) := ⟨_, rfl⟩
    rw [← hev1_1] at V_ad
    obtain ⟨ev1_2, hev1_2⟩ : ∃ q : Int32, q = (if (if d1 = (0 : Int32) then (0 : Int32) else (if d1 = (1 : Int32) then (0 : Int32) else (0 : Int32))) = (0 : Int32) then (if (0 : Int32) = (2 : Int32) then d1 else (0 : Int32)) else (0 : Int32)) := ⟨_, rfl⟩
    rw [← hev1_2] at V_ad
    refine Go.on (fun _ k => st67.trans k) ?_
    show Go _ _ _ _ _ _ _ _ (mkF m 62 #[.val (.int cnt), .val (.int i0), .val (.int i1), .val (.int i2), .val (.int i3), .val (.int (3 : Int32)), .val (.int d1), .val (.int d2), .val (.int d3), .val (.ref q), .unset] [])
    refine Go.on (fun _ k => XS.iload X67.here hx rfl (hb hby at_62) rfl k) ?_
    show Go _ _ _ _ _ _ _ _ (mkF m 64 #[.val (.int cnt), .val (.int i0), .val (.int i1), .val (.int i2), .val (.int i3), .val (.int (3 : Int32)), .val (.int d1), .val (.int d2), .val (.int d3), .val (.ref q), .unset] [(.int (3 : Int32))])
    refine Go.on (fun _ k => XS.iconst X67.here hx rfl (hb hby at_64) k) ?_
    show Go _ _ _ _ _ _ _ _ (mkF m 65 #[.val (.int cnt), .val (.int i0), .val (.int i1), .val (.int i2), .val (.int i3), .val (.int (3 : Int32)), .val (.int d1), .val (.int d2), .val (.int d3), .val (.ref q), .unset] [(.int (1 : Int32)), (.int (3 : Int32))])
    have hc68 : (1 : Int32) < (3 : Int32) := by decide
    refine Go.on (fun _ k => XS.icmpNo X67.here hx rfl (hb hby at_65) rfl (tlt hc68).2.2.2 k) ?_
    show Go _ _ _ _ _ _ _ _ (mkF m 68 #[.val (.int cnt), .val (.int i0), .val (.int i1), .val (.int i2), .val (.int i3), .val (.int (3 : Int32)), .val (.int d1), .val (.int d2), .val (.int d3), .val (.ref q), .unset] [])
    refine Go.on (fun _ k => XS.aload X67.here hx rfl (hb hby at_68) rfl rfl k) ?_
    show Go _ _ _ _ _ _ _ _ (mkF m 70 #[.val (.int cnt), .val (.int i0), .val (.int i1), .val (.int i2), .val (.int i3), .val (.int (3 : Int32)), .val (.int d1), .val (.int d2), .val (.int d3), .val (.ref q), .unset] [(.ref q)])
    refine Go.on (fun _ k => XS.iload X67.here hx rfl (hb hby at_70) rfl k) ?_
    show Go _ _ _ _ _ _ _ _ (mkF m 72 #[.val (.int cnt), .val (.int i0), .val (.int i1), .val (.int i2), .val (.int i3), .val (.int (3 : Int32)), .val (.int d1), .val (.int d2), .val (.int d3), .val (.ref q), .unset] [(.int d2), (.ref q)])
    refine Go.on (fun _ k => XS.iloadN X67.here hx rfl (hb hby at_72) rfl k) ?_
    show Go _ _ _ _ _ _ _ _ (mkF m 73 #[.val (.int cnt), .val (.int i0), .val (.int i1), .val (.int i2), .val (.int i3), .val (.int (3 : Int32)), .val (.int d1), .val (.int d2), .val (.int d3), .val (.ref q), .unset] [(.int i2), (.int d2), (.ref q)])
    refine Go.on (fun _ k => XS.i2dS X67.here hx rfl (hb hby at_73) rfl rfl k) ?_
    show Go _ _ _ _ _ _ _ _ (mkF m 74 #[.val (.int cnt), .val (.int i0), .val (.int i1), .val (.int i2), .val (.int i3), .val (.int (3 : Int32)), .val (.int d1), .val (.int d2), .val (.int d3), .val (.ref q), .unset] [(.double (FP.i2d i2)), (.int d2), (.ref q)])
    obtain ⟨cq69, kq69, q69a, q69b, q69c⟩ := isOf hZ e67 E_q
    obtain ⟨_, _, ⟨T69, L69, k69, n69⟩, -, X69, ⟨Lc69, hQ69, l69, y69, z69⟩, st69⟩ := X67.virtualBack hx (y := (⟨"com/example/clirtools/clirtools/DocumentSums", "add", "(ID)V"⟩ : MethodName)) (z := (⟨"com/example/clirtools/clirtools/DocumentSums", "add", "(ID)V"⟩ : MethodName)) hown (mvT hZ (hw _ (List.mem_of_getElem? (i := 39) rfl))) (mvT hZ (hw _ (List.mem_of_getElem? (i := 40) rfl))) (notFace_of_selects (args := #[]) (mvT hZ (hw _ (List.mem_of_getElem? (i := 42) rfl)))) (mvT hZ (hw _ (List.mem_of_getElem? (i := 42) rfl))) (mvT hZ (hw _ (List.mem_of_getElem? (i := 41) rfl))) (by decide) (backOf (W := 0) (rm7 l Z aw hw [] q d2 (FP.i2d i2) as ac ad z1 k_as sv1_0 sv1_1 sv1_2 k_ac cv1_0 cv1_1 cv1_2 k_ad ev1_0 ev1_1 ev1_2 h67 n0 ZZ E_q F_sums_q F_counts_q F_documents_q F_size_q V_as V_ac V_ad g_q g_as g_ac g_ad ne_q_as ne_q_ac ne_q_ad ne_as_ac ne_as_ad ne_ac_ad (own_three hd2) (own_hz2 hd1 hd2 hd3 hsv1_0 hsv1_1 hsv1_2 hcv1_0 hcv1_1 hcv1_2 hev1_0 hev1_1 hev1_2 hz1) (own_nn2 hd1 hd2 hd3 hsv1_0 hsv1_1 hsv1_2 hcv1_0 hcv1_1 hcv1_2 hev1_0 hev1_1 hev1_2 hz1 i1 i2 i3)) hZ (hw _ (List.mem_of_getElem? (i := 43) rfl)) (hw _ (List.mem_of_getElem? (i := 2) rfl)) (by decide) (by decide)) q69a q69c (g := (mkF m 74 #[.val (.int cnt), .val (.int i0), .val (.int i1), .val (.int i2), .val (.int i3), .val (.int (3 : Int32)), .val (.int d1), .val (.int d2), .val (.int d3), .val (.ref q), .unset] [(.double (FP.i2d i2)), (.int d2), (.ref q)])) rfl (by rw [hml]; rfl) (Steps.refl _) (argsL := [(.int d2), (.double (FP.i2d i2))]) (rest := []) (lenOf pd_5 rfl) rfl (by show 2 * 0 + _ ≤ _; exact Nat.le_of_eq rfl) (hb hby at_74) (fun _ _ => ⟨rfl, e67, (by decide : 4 + 0 ≤ _), (by decide : 13 + 0 ≤ _)⟩)
    dsimp only [Pt.U, Pt.locs, Pt.cells, Pt.slots] at X69 l69 y69 z69 st69 hQ69
    subst l69 y69 z69
    obtain ⟨h69, e69⟩ : ∃ q, T69.heap = q := ⟨_, rfl⟩
    rw [e69] at hQ69
    obtain ⟨rfl, N69q, K69q, Eq69, F_sumsq69, F_countsq69, F_documentsq69, F_sizeq69, V_Sq69, V_Cq69, V_Eq69⟩ := hQ69
    have N69 := Fr.app N67 N69q
    have ZZ69p := ZZ
    have lt_q := E_q.lt
    have lt_as := V_as.lt
    have lt_ac := V_ac.lt
    have lt_ad := V_ad.lt
    replace E_q := E_q.keep K69q
    replace ZZ := Nat.le_trans ZZ K69q.1
    have F_sums_q := F_sumsq69
    have F_counts_q := F_countsq69
    have F_documents_q := F_documentsq69
    have F_size_q := F_sizeq69
    obtain ⟨z2, hz2⟩ : ∃ q : Int32, q = (if (if d2 = (0 : Int32) then cv1_0 else (if d2 = (1 : Int32) then cv1_1 else cv1_2)) = (0 : Int32) then (z1 + (1 : Int32)) else z1) := ⟨_, rfl⟩
    rw [← hz2] at F_size_q
    have V_as := V_Sq69
    obtain ⟨sv2_0, hsv2_0⟩ : ∃ q : UInt64, q = (if d2 = (0 : Int32) then (FP.dadd (if d2 = (0 : Int32) then sv1_0 else (if d2 = (1 : Int32) then sv1_1 else sv1_2)) (FP.i2d i2)) else sv1_0) := ⟨_, rfl⟩
    rw [← hsv2_0] at V_as
    obtain ⟨sv2_1, hsv2_1⟩ : ∃ q : UInt64, q = (if d2 = (1 : Int32) then (FP.dadd (if d2 = (0 : Int32) then sv1_0 else (if d2 = (1 : Int32) then sv1_1 else sv1_2)) (FP.i2d i2)) else sv1_1) := ⟨_, rfl⟩
    rw [← hsv2_1] at V_as
    obtain ⟨sv2_2, hsv2_2⟩ : ∃ q : UInt64, q = (if d2 = (2 : Int32) then (FP.dadd (if d2 = (0 : Int32) then sv1_0 else (if d2 = (1 : Int32) then sv1_1 else sv1_2)) (FP.i2d i2)) else sv1_2) := ⟨_, rfl⟩
    rw [← hsv2_2] at V_as
    have V_ac := V_Cq69
    obtain ⟨cv2_0, hcv2_0⟩ : ∃ q : Int32, q = (if d2 = (0 : Int32) then ((if d2 = (0 : Int32) then cv1_0 else (if d2 = (1 : Int32) then cv1_1 else cv1_2)) + (1 : Int32)) else cv1_0) := ⟨_, rfl⟩
    rw [← hcv2_0] at V_ac
    obtain ⟨cv2_1, hcv2_1⟩ : ∃ q : Int32, q = (if d2 = (1 : Int32) then ((if d2 = (0 : Int32) then cv1_0 else (if d2 = (1 : Int32) then cv1_1 else cv1_2)) + (1 : Int32)) else cv1_1) := ⟨_, rfl⟩
    rw [← hcv2_1] at V_ac
    obtain ⟨cv2_2, hcv2_2⟩ : ∃ q : Int32, q = (if d2 = (2 : Int32) then ((if d2 = (0 : Int32) then cv1_0 else (if d2 = (1 : Int32) then cv1_1 else cv1_2)) + (1 : Int32)) else cv1_2) := ⟨_, rfl⟩
    rw [← hcv2_2] at V_ac
    have V_ad := V_Eq69
    obtain ⟨ev2_0, hev2_0⟩ : ∃ q : Int32, q = (if (if d2 = (0 : Int32) then cv1_0 else (if d2 = (1 : Int32) then cv1_1 else cv1_2)) = (0 : Int32) then (if z1 = (0 : Int32) then d2 else ev1_0) else ev1_0) := ⟨_, rfl⟩
    rw [← hev2_0] at V_ad
    obtain ⟨ev2_1, hev2_1⟩ : ∃ q : Int32, q = (if (if d2 = (0 : Int32) then cv1_0 else (if d2 = (1 : Int32) then cv1_1 else cv1_2)) = (0 : Int32) then (if z1 = (1 : Int32) then d2 else ev1_1) else ev1_1) := ⟨_, rfl⟩
    rw [← hev2_1] at V_ad
    obtain ⟨ev2_2, hev2_2⟩ : ∃ q : Int32, q = (if (if d2 = (0 : Int32) then cv1_0 else (if d2 = (1 : Int32) then cv1_1 else cv1_2)) = (0 : Int32) then (if z1 = (2 : Int32) then d2 else ev1_2) else ev1_2) := ⟨_, rfl⟩
    rw [← hev2_2] at V_ad
    refine Go.on (fun _ k => st69.trans k) ?_
    show Go _ _ _ _ _ _ _ _ (mkF m 77 #[.val (.int cnt), .val (.int i0), .val (.int i1), .val (.int i2), .val (.int i3), .val (.int (3 : Int32)), .val (.int d1), .val (.int d2), .val (.int d3), .val (.ref q), .unset] [])
    refine Go.on (fun _ k => XS.iload X69.here hx rfl (hb hby at_77) rfl k) ?_
    show Go _ _ _ _ _ _ _ _ (mkF m 79 #[.val (.int cnt), .val (.int i0), .val (.int i1), .val (.int i2), .val (.int i3), .val (.int (3 : Int32)), .val (.int d1), .val (.int d2), .val (.int d3), .val (.ref q), .unset] [(.int (3 : Int32))])
    refine Go.on (fun _ k => XS.iconst X69.here hx rfl (hb hby at_79) k) ?_
    show Go _ _ _ _ _ _ _ _ (mkF m 80 #[.val (.int cnt), .val (.int i0), .val (.int i1), .val (.int i2), .val (.int i3), .val (.int (3 : Int32)), .val (.int d1), .val (.int d2), .val (.int d3), .val (.ref q), .unset] [(.int (2 : Int32)), (.int (3 : Int32))])
    have hc70 : (2 : Int32) < (3 : Int32) := by decide
    refine Go.on (fun _ k => XS.icmpNo X69.here hx rfl (hb hby at_80) rfl (tlt hc70).2.2.2 k) ?_
    show Go _ _ _ _ _ _ _ _ (mkF m 83 #[.val (.int cnt), .val (.int i0), .val (.int i1), .val (.int i2), .val (.int i3), .val (.int (3 : Int32)), .val (.int d1), .val (.int d2), .val (.int d3), .val (.ref q), .unset] [])
    refine Go.on (fun _ k => XS.aload X69.here hx rfl (hb hby at_83) rfl rfl k) ?_
    show Go _ _ _ _ _ _ _ _ (mkF m 85 #[.val (.int cnt), .val (.int i0), .val (.int i1), .val (.int i2), .val (.int i3), .val (.int (3 : Int32)), .val (.int d1), .val (.int d2), .val (.int d3), .val (.ref q), .unset] [(.ref q)])
    refine Go.on (fun _ k => XS.iload X69.here hx rfl (hb hby at_85) rfl k) ?_
    show Go _ _ _ _ _ _ _ _ (mkF m 87 #[.val (.int cnt), .val (.int i0), .val (.int i1), .val (.int i2), .val (.int i3), .val (.int (3 : Int32)), .val (.int d1), .val (.int d2), .val (.int d3), .val (.ref q), .unset] [(.int d3), (.ref q)])
    refine Go.on (fun _ k => XS.iload X69.here hx rfl (hb hby at_87) rfl k) ?_
    show Go _ _ _ _ _ _ _ _ (mkF m 89 #[.val (.int cnt), .val (.int i0), .val (.int i1), .val (.int i2), .val (.int i3), .val (.int (3 : Int32)), .val (.int d1), .val (.int d2), .val (.int d3), .val (.ref q), .unset] [(.int i3), (.int d3), (.ref q)])
    refine Go.on (fun _ k => XS.i2dS X69.here hx rfl (hb hby at_89) rfl rfl k) ?_
    show Go _ _ _ _ _ _ _ _ (mkF m 90 #[.val (.int cnt), .val (.int i0), .val (.int i1), .val (.int i2), .val (.int i3), .val (.int (3 : Int32)), .val (.int d1), .val (.int d2), .val (.int d3), .val (.ref q), .unset] [(.double (FP.i2d i3)), (.int d3), (.ref q)])
    obtain ⟨cq71, kq71, q71a, q71b, q71c⟩ := isOf hZ e69 E_q
    obtain ⟨_, _, ⟨T71, L71, k71, n71⟩, -, X71, ⟨Lc71, hQ71, l71, y71, z71⟩, st71⟩ := X69.virtualBack hx (y := (⟨"com/example/clirtools/clirtools/DocumentSums", "add", "(ID)V"⟩ : MethodName)) (z := (⟨"com/example/clirtools/clirtools/DocumentSums", "add", "(ID)V"⟩ : MethodName)) hown (mvT hZ (hw _ (List.mem_of_getElem? (i := 39) rfl))) (mvT hZ (hw _ (List.mem_of_getElem? (i := 40) rfl))) (notFace_of_selects (args := #[]) (mvT hZ (hw _ (List.mem_of_getElem? (i := 42) rfl)))) (mvT hZ (hw _ (List.mem_of_getElem? (i := 42) rfl))) (mvT hZ (hw _ (List.mem_of_getElem? (i := 41) rfl))) (by decide) (backOf (W := 0) (rm7 l Z aw hw [] q d3 (FP.i2d i3) as ac ad z2 k_as sv2_0 sv2_1 sv2_2 k_ac cv2_0 cv2_1 cv2_2 k_ad ev2_0 ev2_1 ev2_2 h69 n0 ZZ E_q F_sums_q F_counts_q F_documents_q F_size_q V_as V_ac V_ad g_q g_as g_ac g_ad ne_q_as ne_q_ac ne_q_ad ne_as_ac ne_as_ad ne_ac_ad (own_three hd3) (own_hz3 hd1 hd2 hd3 hsv1_0 hsv1_1 hsv1_2 hcv1_0 hcv1_1 hcv1_2 hev1_0 hev1_1 hev1_2 hz1 hsv2_0 hsv2_1 hsv2_2 hcv2_0 hcv2_1 hcv2_2 hev2_0 hev2_1 hev2_2 hz2) (own_nn3 hd1 hd2 hd3 hsv1_0 hsv1_1 hsv1_2 hcv1_0 hcv1_1 hcv1_2 hev1_0 hev1_1 hev1_2 hz1 hsv2_0 hsv2_1 hsv2_2 hcv2_0 hcv2_1 hcv2_2 hev2_0 hev2_1 hev2_2 hz2 i1 i2 i3)) hZ (hw _ (List.mem_of_getElem? (i := 43) rfl)) (hw _ (List.mem_of_getElem? (i := 2) rfl)) (by decide) (by decide)) q71a q71c (g := (mkF m 90 #[.val (.int cnt), .val (.int i0), .val (.int i1), .val (.int i2), .val (.int i3), .val (.int (3 : Int32)), .val (.int d1), .val (.int d2), .val (.int d3), .val (.ref q), .unset] [(.double (FP.i2d i3)), (.int d3), (.ref q)])) rfl (by rw [hml]; rfl) (Steps.refl _) (argsL := [(.int d3), (.double (FP.i2d i3))]) (rest := []) (lenOf pd_5 rfl) rfl (by show 2 * 0 + _ ≤ _; exact Nat.le_of_eq rfl) (hb hby at_90) (fun _ _ => ⟨rfl, e69, (by decide : 4 + 0 ≤ _), (by decide : 13 + 0 ≤ _)⟩)
    dsimp only [Pt.U, Pt.locs, Pt.cells, Pt.slots] at X71 l71 y71 z71 st71 hQ71
    subst l71 y71 z71
    obtain ⟨h71, e71⟩ : ∃ q, T71.heap = q := ⟨_, rfl⟩
    rw [e71] at hQ71
    obtain ⟨rfl, N71q, K71q, Eq71, F_sumsq71, F_countsq71, F_documentsq71, F_sizeq71, V_Sq71, V_Cq71, V_Eq71⟩ := hQ71
    have N71 := Fr.app N69 N71q
    have ZZ71p := ZZ
    have lt_q := E_q.lt
    have lt_as := V_as.lt
    have lt_ac := V_ac.lt
    have lt_ad := V_ad.lt
    replace E_q := E_q.keep K71q
    replace ZZ := Nat.le_trans ZZ K71q.1
    have F_sums_q := F_sumsq71
    have F_counts_q := F_countsq71
    have F_documents_q := F_documentsq71
    have F_size_q := F_sizeq71
    obtain ⟨z3, hz3⟩ : ∃ q : Int32, q = (if (if d3 = (0 : Int32) then cv2_0 else (if d3 = (1 : Int32) then cv2_1 else cv2_2)) = (0 : Int32) then (z2 + (1 : Int32)) else z2) := ⟨_, rfl⟩
    rw [← hz3] at F_size_q
    have V_as := V_Sq71
    obtain ⟨sv3_0, hsv3_0⟩ : ∃ q : UInt64, q = (if d3 = (0 : Int32) then (FP.dadd (if d3 = (0 : Int32) then sv2_0 else (if d3 = (1 : Int32) then sv2_1 else sv2_2)) (FP.i2d i3)) else sv2_0) := ⟨_, rfl⟩
    rw [← hsv3_0] at V_as
    obtain ⟨sv3_1, hsv3_1⟩ : ∃ q : UInt64, q = (if d3 = (1 : Int32) then (FP.dadd (if d3 = (0 : Int32) then sv2_0 else (if d3 = (1 : Int32) then sv2_1 else sv2_2)) (FP.i2d i3)) else sv2_1) := ⟨_, rfl⟩
    rw [← hsv3_1] at V_as
    obtain ⟨sv3_2, hsv3_2⟩ : ∃ q : UInt64, q = (if d3 = (2 : Int32) then (FP.dadd (if d3 = (0 : Int32) then sv2_0 else (if d3 = (1 : Int32) then sv2_1 else sv2_2)) (FP.i2d i3)) else sv2_2) := ⟨_, rfl⟩
    rw [← hsv3_2] at V_as
    have V_ac := V_Cq71
    obtain ⟨cv3_0, hcv3_0⟩ : ∃ q : Int32, q = (if d3 = (0 : Int32) then ((if d3 = (0 : Int32) then cv2_0 else (if d3 = (1 : Int32) then cv2_1 else cv2_2)) + (1 : Int32)) else cv2_0) := ⟨_, rfl⟩
    rw [← hcv3_0] at V_ac
    obtain ⟨cv3_1, hcv3_1⟩ : ∃ q : Int32, q = (if d3 = (1 : Int32) then ((if d3 = (0 : Int32) then cv2_0 else (if d3 = (1 : Int32) then cv2_1 else cv2_2)) + (1 : Int32)) else cv2_1) := ⟨_, rfl⟩
    rw [← hcv3_1] at V_ac
    obtain ⟨cv3_2, hcv3_2⟩ : ∃ q : Int32, q = (if d3 = (2 : Int32) then ((if d3 = (0 : Int32) then cv2_0 else (if d3 = (1 : Int32) then cv2_1 else cv2_2)) + (1 : Int32)) else cv2_2) := ⟨_, rfl⟩
    rw [← hcv3_2] at V_ac
    have V_ad := V_Eq71
    obtain ⟨ev3_0, hev3_0⟩ : ∃ q : Int32, q = (if (if d3 = (0 : Int32) then cv2_0 else (if d3 = (1 : Int32) then cv2_1 else cv2_2)) = (0 : Int32) then (if z2 = (0 : Int32) then d3 else ev2_0) else ev2_0) := ⟨_, rfl⟩
    rw [← hev3_0] at V_ad
    obtain ⟨ev3_1, hev3_1⟩ : ∃ q : Int32, q = (if (if d3 = (0 : Int32) then cv2_0 else (if d3 = (1 : Int32) then cv2_1 else cv2_2)) = (0 : Int32) then (if z2 = (1 : Int32) then d3 else ev2_1) else ev2_1) := ⟨_, rfl⟩
    rw [← hev3_1] at V_ad
    obtain ⟨ev3_2, hev3_2⟩ : ∃ q : Int32, q = (if (if d3 = (0 : Int32) then cv2_0 else (if d3 = (1 : Int32) then cv2_1 else cv2_2)) = (0 : Int32) then (if z2 = (2 : Int32) then d3 else ev2_2) else ev2_2) := ⟨_, rfl⟩
    rw [← hev3_2] at V_ad
    refine Go.on (fun _ k => st71.trans k) ?_
    show Go _ _ _ _ _ _ _ _ (mkF m 93 #[.val (.int cnt), .val (.int i0), .val (.int i1), .val (.int i2), .val (.int i3), .val (.int (3 : Int32)), .val (.int d1), .val (.int d2), .val (.int d3), .val (.ref q), .unset] [])
    refine Go.on (fun _ k => XS.aload X71.here hx rfl (hb hby at_93) rfl rfl k) ?_
    show Go _ _ _ _ _ _ _ _ (mkF m 95 #[.val (.int cnt), .val (.int i0), .val (.int i1), .val (.int i2), .val (.int i3), .val (.int (3 : Int32)), .val (.int d1), .val (.int d2), .val (.int d3), .val (.ref q), .unset] [(.ref q)])
    obtain ⟨cq72, kq72, q72a, q72b, q72c⟩ := isOf hZ e71 E_q
    obtain ⟨_, _, ⟨T72, L72, k72, n72⟩, -, X72, ⟨Lc72, hQ72, l72, y72, z72⟩, st72⟩ := X71.virtualBack hx (y := (⟨"com/example/clirtools/clirtools/DocumentSums", "clear", "()V"⟩ : MethodName)) (z := (⟨"com/example/clirtools/clirtools/DocumentSums", "clear", "()V"⟩ : MethodName)) hown (mvT hZ (hw _ (List.mem_of_getElem? (i := 17) rfl))) (mvT hZ (hw _ (List.mem_of_getElem? (i := 18) rfl))) (notFace_of_selects (args := #[]) (mvT hZ (hw _ (List.mem_of_getElem? (i := 20) rfl)))) (mvT hZ (hw _ (List.mem_of_getElem? (i := 20) rfl))) (mvT hZ (hw _ (List.mem_of_getElem? (i := 19) rfl))) (by decide) (backOf (W := 0) (rm3 l Z aw hw [] q as ac ad z3 k_as sv3_0 sv3_1 sv3_2 k_ac cv3_0 cv3_1 cv3_2 k_ad ev3_0 ev3_1 ev3_2 h71 n0 ZZ E_q F_sums_q F_counts_q F_documents_q F_size_q V_as V_ac V_ad g_q g_as g_ac ne_q_as ne_q_ac ne_q_ad ne_as_ac ne_as_ad ne_ac_ad (own_e3_s hd1 hd2 hd3 hsv1_0 hsv1_1 hsv1_2 hcv1_0 hcv1_1 hcv1_2 hev1_0 hev1_1 hev1_2 hz1 hsv2_0 hsv2_1 hsv2_2 hcv2_0 hcv2_1 hcv2_2 hev2_0 hev2_1 hev2_2 hz2 hsv3_0 hsv3_1 hsv3_2 hcv3_0 hcv3_1 hcv3_2 hev3_0 hev3_1 hev3_2 hz3) (own_e3_0 hd1 hd2 hd3 hsv1_0 hsv1_1 hsv1_2 hcv1_0 hcv1_1 hcv1_2 hev1_0 hev1_1 hev1_2 hz1 hsv2_0 hsv2_1 hsv2_2 hcv2_0 hcv2_1 hcv2_2 hev2_0 hev2_1 hev2_2 hz2 hsv3_0 hsv3_1 hsv3_2 hcv3_0 hcv3_1 hcv3_2 hev3_0 hev3_1 hev3_2 hz3) (own_e3_1 hd1 hd2 hd3 hsv1_0 hsv1_1 hsv1_2 hcv1_0 hcv1_1 hcv1_2 hev1_0 hev1_1 hev1_2 hz1 hsv2_0 hsv2_1 hsv2_2 hcv2_0 hcv2_1 hcv2_2 hev2_0 hev2_1 hev2_2 hz2 hsv3_0 hsv3_1 hsv3_2 hcv3_0 hcv3_1 hcv3_2 hev3_0 hev3_1 hev3_2 hz3) (own_e3_2 hd1 hd2 hd3 hsv1_0 hsv1_1 hsv1_2 hcv1_0 hcv1_1 hcv1_2 hev1_0 hev1_1 hev1_2 hz1 hsv2_0 hsv2_1 hsv2_2 hcv2_0 hcv2_1 hcv2_2 hev2_0 hev2_1 hev2_2 hz2 hsv3_0 hsv3_1 hsv3_2 hcv3_0 hcv3_1 hcv3_2 hev3_0 hev3_1 hev3_2 hz3)) hZ (hw _ (List.mem_of_getElem? (i := 21) rfl)) (hw _ (List.mem_of_getElem? (i := 2) rfl)) (by decide) (by decide)) q72a q72c (g := (mkF m 95 #[.val (.int cnt), .val (.int i0), .val (.int i1), .val (.int i2), .val (.int i3), .val (.int (3 : Int32)), .val (.int d1), .val (.int d2), .val (.int d3), .val (.ref q), .unset] [(.ref q)])) rfl (by rw [hml]; rfl) (Steps.refl _) (argsL := []) (rest := []) (lenOf pd_1 rfl) rfl (by show 2 * 0 + _ ≤ _; exact Nat.le_of_eq rfl) (hb hby at_95) (fun _ _ => ⟨rfl, e71, (by decide : 4 + 0 ≤ _), (by decide : 13 + 0 ≤ _)⟩)
    dsimp only [Pt.U, Pt.locs, Pt.cells, Pt.slots] at X72 l72 y72 z72 st72 hQ72
    subst l72 y72 z72
    obtain ⟨h72, e72⟩ : ∃ q, T72.heap = q := ⟨_, rfl⟩
    rw [e72] at hQ72
    obtain ⟨rfl, N72q, K72q, Eq72, F_sumsq72, F_countsq72, F_documentsq72, F_sizeq72, V_Sq72, V_Cq72⟩ := hQ72
    have N72 := Fr.app N71 N72q
    have ZZ72p := ZZ
    have lt_q := E_q.lt
    have lt_as := V_as.lt
    have lt_ac := V_ac.lt
    have lt_ad := V_ad.lt
    replace E_q := E_q.keep K72q
    replace V_ad := V_ad.keep K72q (ninS (Ne.symm ne_q_ad) (ninS (Ne.symm ne_as_ad) (ninS (Ne.symm ne_ac_ad) nin0)))
    replace ZZ := Nat.le_trans ZZ K72q.1
    have F_sums_q := F_sumsq72
    have F_counts_q := F_countsq72
    have F_documents_q := F_documentsq72
    have F_size_q := F_sizeq72
    have V_as := V_Sq72
    have V_ac := V_Cq72
    refine Go.on (fun _ k => st72.trans k) ?_
    show Go _ _ _ _ _ _ _ _ (mkF m 98 #[.val (.int cnt), .val (.int i0), .val (.int i1), .val (.int i2), .val (.int i3), .val (.int (3 : Int32)), .val (.int d1), .val (.int d2), .val (.int d3), .val (.ref q), .unset] [])
    refine Go.on (fun _ k => XS.aload X72.here hx rfl (hb hby at_98) rfl rfl k) ?_
    show Go _ _ _ _ _ _ _ _ (mkF m 100 #[.val (.int cnt), .val (.int i0), .val (.int i1), .val (.int i2), .val (.int i3), .val (.int (3 : Int32)), .val (.int d1), .val (.int d2), .val (.int d3), .val (.ref q), .unset] [(.ref q)])
    obtain ⟨cq73, kq73, q73a, q73b, q73c⟩ := isOf hZ e72 E_q
    obtain ⟨_, _, ⟨T73, L73, k73, n73⟩, -, X73, ⟨Lc73, hQ73, l73, y73, z73⟩, st73⟩ := X72.virtualBack hx (y := (⟨"com/example/clirtools/clirtools/DocumentSums", "size", "()I"⟩ : MethodName)) (z := (⟨"com/example/clirtools/clirtools/DocumentSums", "size", "()I"⟩ : MethodName)) hown (mvT hZ (hw _ (List.mem_of_getElem? (i := 24) rfl))) (mvT hZ (hw _ (List.mem_of_getElem? (i := 25) rfl))) (notFace_of_selects (args := #[]) (mvT hZ (hw _ (List.mem_of_getElem? (i := 27) rfl)))) (mvT hZ (hw _ (List.mem_of_getElem? (i := 27) rfl))) (mvT hZ (hw _ (List.mem_of_getElem? (i := 26) rfl))) (by decide) (backOf (W := 0) (rm4 l Z aw hw [] q (0 : Int32) h72 n0 ZZ F_size_q) hZ (hw _ (List.mem_of_getElem? (i := 28) rfl)) (hw _ (List.mem_of_getElem? (i := 2) rfl)) (by decide) (by decide)) q73a q73c (g := (mkF m 100 #[.val (.int cnt), .val (.int i0), .val (.int i1), .val (.int i2), .val (.int i3), .val (.int (3 : Int32)), .val (.int d1), .val (.int d2), .val (.int d3), .val (.ref q), .unset] [(.ref q)])) rfl (by rw [hml]; rfl) (Steps.refl _) (argsL := []) (rest := []) (lenOf pd_2 rfl) rfl (by show 2 * 0 + _ ≤ _; exact Nat.le_of_eq rfl) (hb hby at_100) (fun _ _ => ⟨rfl, e72, (by decide : 4 + 0 ≤ _), (by decide : 13 + 0 ≤ _)⟩)
    dsimp only [Pt.U, Pt.locs, Pt.cells, Pt.slots] at X73 l73 y73 z73 st73 hQ73
    subst l73 y73 z73
    obtain ⟨rfl, N73q, e73⟩ := hQ73
    have N73 := Fr.app N72 N73q
    refine Go.on (fun _ k => st73.trans k) ?_
    show Go _ _ _ _ _ _ _ _ (mkF m 103 #[.val (.int cnt), .val (.int i0), .val (.int i1), .val (.int i2), .val (.int i3), .val (.int (3 : Int32)), .val (.int d1), .val (.int d2), .val (.int d3), .val (.ref q), .unset] [(.int (0 : Int32))])
    have hc74 : (0 : Int32) = (0 : Int32) := by decide
    refine Go.on (fun _ k => XS.ifNo X73.here hx rfl (hb hby at_103) rfl ((if0 _ _).trans (teq hc74).2) k) ?_
    show Go _ _ _ _ _ _ _ _ (mkF m 106 #[.val (.int cnt), .val (.int i0), .val (.int i1), .val (.int i2), .val (.int i3), .val (.int (3 : Int32)), .val (.int d1), .val (.int d2), .val (.int d3), .val (.ref q), .unset] [])
    refine Go.on (fun _ k => XS.iconst X73.here hx rfl (hb hby at_106) k) ?_
    show Go _ _ _ _ _ _ _ _ (mkF m 107 #[.val (.int cnt), .val (.int i0), .val (.int i1), .val (.int i2), .val (.int i3), .val (.int (3 : Int32)), .val (.int d1), .val (.int d2), .val (.int d3), .val (.ref q), .unset] [(.int (1 : Int32))])
    refine Go.on (fun _ k => XS.goto X73.here hx rfl (pc0 := 107) (pc' := 111) rfl (hb hby at_107) (by decide) (by decide) k) ?_
    show Go _ _ _ _ _ _ _ _ (mkF m 111 #[.val (.int cnt), .val (.int i0), .val (.int i1), .val (.int i2), .val (.int i3), .val (.int (3 : Int32)), .val (.int d1), .val (.int d2), .val (.int d3), .val (.ref q), .unset] [(.int (1 : Int32))])
    refine Go.on (fun _ k => XS.istore X73.here hx rfl (hb hby at_111) rfl (l' := #[.val (.int cnt), .val (.int i0), .val (.int i1), .val (.int i2), .val (.int i3), .val (.int (3 : Int32)), .val (.int d1), .val (.int d2), .val (.int d3), .val (.ref q), .val (.int (1 : Int32))]) rfl k) ?_
    show Go _ _ _ _ _ _ _ _ (mkF m 113 #[.val (.int cnt), .val (.int i0), .val (.int i1), .val (.int i2), .val (.int i3), .val (.int (3 : Int32)), .val (.int d1), .val (.int d2), .val (.int d3), .val (.ref q), .val (.int (1 : Int32))] [])
    refine Go.on (fun _ k => XS.iload X73.here hx rfl (hb hby at_113) rfl k) ?_
    show Go _ _ _ _ _ _ _ _ (mkF m 115 #[.val (.int cnt), .val (.int i0), .val (.int i1), .val (.int i2), .val (.int i3), .val (.int (3 : Int32)), .val (.int d1), .val (.int d2), .val (.int d3), .val (.ref q), .val (.int (1 : Int32))] [(.int (1 : Int32))])
    have hc75 : ¬ ((1 : Int32) = (0 : Int32)) := by decide
    refine Go.on (fun _ k => XS.ifNo X73.here hx rfl (hb hby at_115) rfl ((if0 _ _).trans (feq hc75).1) k) ?_
    show Go _ _ _ _ _ _ _ _ (mkF m 118 #[.val (.int cnt), .val (.int i0), .val (.int i1), .val (.int i2), .val (.int i3), .val (.int (3 : Int32)), .val (.int d1), .val (.int d2), .val (.int d3), .val (.ref q), .val (.int (1 : Int32))] [])
    refine Go.on (fun _ k => XS.aload X73.here hx rfl (hb hby at_118) rfl rfl k) ?_
    show Go _ _ _ _ _ _ _ _ (mkF m 120 #[.val (.int cnt), .val (.int i0), .val (.int i1), .val (.int i2), .val (.int i3), .val (.int (3 : Int32)), .val (.int d1), .val (.int d2), .val (.int d3), .val (.ref q), .val (.int (1 : Int32))] [(.ref q)])
    refine Go.on (fun _ k => XS.iconst X73.here hx rfl (hb hby at_120) k) ?_
    show Go _ _ _ _ _ _ _ _ (mkF m 121 #[.val (.int cnt), .val (.int i0), .val (.int i1), .val (.int i2), .val (.int i3), .val (.int (3 : Int32)), .val (.int d1), .val (.int d2), .val (.int d3), .val (.ref q), .val (.int (1 : Int32))] [(.int (0 : Int32)), (.ref q)])
    obtain ⟨cq76, kq76, q76a, q76b, q76c⟩ := isOf hZ e73 E_q
    obtain ⟨_, _, ⟨T76, L76, k76, n76⟩, -, X76, ⟨Lc76, hQ76, l76, y76, z76⟩, st76⟩ := X73.virtualBack hx (y := (⟨"com/example/clirtools/clirtools/DocumentSums", "count", "(I)I"⟩ : MethodName)) (z := (⟨"com/example/clirtools/clirtools/DocumentSums", "count", "(I)I"⟩ : MethodName)) hown (mvT hZ (hw _ (List.mem_of_getElem? (i := 29) rfl))) (mvT hZ (hw _ (List.mem_of_getElem? (i := 30) rfl))) (notFace_of_selects (args := #[]) (mvT hZ (hw _ (List.mem_of_getElem? (i := 32) rfl)))) (mvT hZ (hw _ (List.mem_of_getElem? (i := 32) rfl))) (mvT hZ (hw _ (List.mem_of_getElem? (i := 31) rfl))) (by decide) (backOf (W := 0) (rm5 l Z aw hw [] q (0 : Int32) ac k_ac (clrI z3 (0 : Int32) ev3_0 ev3_1 ev3_2 cv3_0) (clrI z3 (1 : Int32) ev3_0 ev3_1 ev3_2 cv3_1) (clrI z3 (2 : Int32) ev3_0 ev3_1 ev3_2 cv3_2) h72 n0 ZZ F_counts_q V_ac (by unfold Three; decide)) hZ (hw _ (List.mem_of_getElem? (i := 33) rfl)) (hw _ (List.mem_of_getElem? (i := 2) rfl)) (by decide) (by decide)) q76a q76c (g := (mkF m 121 #[.val (.int cnt), .val (.int i0), .val (.int i1), .val (.int i2), .val (.int i3), .val (.int (3 : Int32)), .val (.int d1), .val (.int d2), .val (.int d3), .val (.ref q), .val (.int (1 : Int32))] [(.int (0 : Int32)), (.ref q)])) rfl (by rw [hml]; rfl) (Steps.refl _) (argsL := [(.int (0 : Int32))]) (rest := []) (lenOf pd_3 rfl) rfl (by show 2 * 0 + _ ≤ _; exact Nat.le_of_eq rfl) (hb hby at_121) (fun _ _ => ⟨rfl, e73, (by decide : 4 + 0 ≤ _), (by decide : 13 + 0 ≤ _)⟩)
    dsimp only [Pt.U, Pt.locs, Pt.cells, Pt.slots] at X76 l76 y76 z76 st76 hQ76
    subst l76 y76 z76
    obtain ⟨rfl, N76q, e76⟩ := hQ76
    have N76 := Fr.app N73 N76q
    refine Go.on (fun _ k => st76.trans k) ?_
    show Go _ _ _ _ _ _ _ _ (mkF m 124 #[.val (.int cnt), .val (.int i0), .val (.int i1), .val (.int i2), .val (.int i3), .val (.int (3 : Int32)), .val (.int d1), .val (.int d2), .val (.int d3), .val (.ref q), .val (.int (1 : Int32))] [(.int (if (0 : Int32) = (0 : Int32) then (clrI z3 (0 : Int32) ev3_0 ev3_1 ev3_2 cv3_0) else (if (0 : Int32) = (1 : Int32) then (clrI z3 (1 : Int32) ev3_0 ev3_1 ev3_2 cv3_1) else (clrI z3 (2 : Int32) ev3_0 ev3_1 ev3_2 cv3_2))))])
    have hc77 : (if (0 : Int32) = (0 : Int32) then (clrI z3 (0 : Int32) ev3_0 ev3_1 ev3_2 cv3_0) else (if (0 : Int32) = (1 : Int32) then (clrI z3 (1 : Int32) ev3_0 ev3_1 ev3_2 cv3_1) else (clrI z3 (2 : Int32) ev3_0 ev3_1 ev3_2 cv3_2))) = (0 : Int32) := own_k3_0 hd1 hd2 hd3 hsv1_0 hsv1_1 hsv1_2 hcv1_0 hcv1_1 hcv1_2 hev1_0 hev1_1 hev1_2 hz1 hsv2_0 hsv2_1 hsv2_2 hcv2_0 hcv2_1 hcv2_2 hev2_0 hev2_1 hev2_2 hz2 hsv3_0 hsv3_1 hsv3_2 hcv3_0 hcv3_1 hcv3_2 hev3_0 hev3_1 hev3_2 hz3
    refine Go.on (fun _ k => XS.ifNo X76.here hx rfl (hb hby at_124) rfl ((if0 _ _).trans (teq hc77).2) k) ?_
    show Go _ _ _ _ _ _ _ _ (mkF m 127 #[.val (.int cnt), .val (.int i0), .val (.int i1), .val (.int i2), .val (.int i3), .val (.int (3 : Int32)), .val (.int d1), .val (.int d2), .val (.int d3), .val (.ref q), .val (.int (1 : Int32))] [])
    refine Go.on (fun _ k => XS.aload X76.here hx rfl (hb hby at_127) rfl rfl k) ?_
    show Go _ _ _ _ _ _ _ _ (mkF m 129 #[.val (.int cnt), .val (.int i0), .val (.int i1), .val (.int i2), .val (.int i3), .val (.int (3 : Int32)), .val (.int d1), .val (.int d2), .val (.int d3), .val (.ref q), .val (.int (1 : Int32))] [(.ref q)])
    refine Go.on (fun _ k => XS.iconst X76.here hx rfl (hb hby at_129) k) ?_
    show Go _ _ _ _ _ _ _ _ (mkF m 130 #[.val (.int cnt), .val (.int i0), .val (.int i1), .val (.int i2), .val (.int i3), .val (.int (3 : Int32)), .val (.int d1), .val (.int d2), .val (.int d3), .val (.ref q), .val (.int (1 : Int32))] [(.int (1 : Int32)), (.ref q)])
    obtain ⟨cq78, kq78, q78a, q78b, q78c⟩ := isOf hZ e76 E_q
    obtain ⟨_, _, ⟨T78, L78, k78, n78⟩, -, X78, ⟨Lc78, hQ78, l78, y78, z78⟩, st78⟩ := X76.virtualBack hx (y := (⟨"com/example/clirtools/clirtools/DocumentSums", "count", "(I)I"⟩ : MethodName)) (z := (⟨"com/example/clirtools/clirtools/DocumentSums", "count", "(I)I"⟩ : MethodName)) hown (mvT hZ (hw _ (List.mem_of_getElem? (i := 29) rfl))) (mvT hZ (hw _ (List.mem_of_getElem? (i := 30) rfl))) (notFace_of_selects (args := #[]) (mvT hZ (hw _ (List.mem_of_getElem? (i := 32) rfl)))) (mvT hZ (hw _ (List.mem_of_getElem? (i := 32) rfl))) (mvT hZ (hw _ (List.mem_of_getElem? (i := 31) rfl))) (by decide) (backOf (W := 0) (rm5 l Z aw hw [] q (1 : Int32) ac k_ac (clrI z3 (0 : Int32) ev3_0 ev3_1 ev3_2 cv3_0) (clrI z3 (1 : Int32) ev3_0 ev3_1 ev3_2 cv3_1) (clrI z3 (2 : Int32) ev3_0 ev3_1 ev3_2 cv3_2) h72 n0 ZZ F_counts_q V_ac (by unfold Three; decide)) hZ (hw _ (List.mem_of_getElem? (i := 33) rfl)) (hw _ (List.mem_of_getElem? (i := 2) rfl)) (by decide) (by decide)) q78a q78c (g := (mkF m 130 #[.val (.int cnt), .val (.int i0), .val (.int i1), .val (.int i2), .val (.int i3), .val (.int (3 : Int32)), .val (.int d1), .val (.int d2), .val (.int d3), .val (.ref q), .val (.int (1 : Int32))] [(.int (1 : Int32)), (.ref q)])) rfl (by rw [hml]; rfl) (Steps.refl _) (argsL := [(.int (1 : Int32))]) (rest := []) (lenOf pd_3 rfl) rfl (by show 2 * 0 + _ ≤ _; exact Nat.le_of_eq rfl) (hb hby at_130) (fun _ _ => ⟨rfl, e76, (by decide : 4 + 0 ≤ _), (by decide : 13 + 0 ≤ _)⟩)
    dsimp only [Pt.U, Pt.locs, Pt.cells, Pt.slots] at X78 l78 y78 z78 st78 hQ78
    subst l78 y78 z78
    obtain ⟨rfl, N78q, e78⟩ := hQ78
    have N78 := Fr.app N76 N78q
    refine Go.on (fun _ k => st78.trans k) ?_
    show Go _ _ _ _ _ _ _ _ (mkF m 133 #[.val (.int cnt), .val (.int i0), .val (.int i1), .val (.int i2), .val (.int i3), .val (.int (3 : Int32)), .val (.int d1), .val (.int d2), .val (.int d3), .val (.ref q), .val (.int (1 : Int32))] [(.int (if (1 : Int32) = (0 : Int32) then (clrI z3 (0 : Int32) ev3_0 ev3_1 ev3_2 cv3_0) else (if (1 : Int32) = (1 : Int32) then (clrI z3 (1 : Int32) ev3_0 ev3_1 ev3_2 cv3_1) else (clrI z3 (2 : Int32) ev3_0 ev3_1 ev3_2 cv3_2))))])
    have hc79 : (if (1 : Int32) = (0 : Int32) then (clrI z3 (0 : Int32) ev3_0 ev3_1 ev3_2 cv3_0) else (if (1 : Int32) = (1 : Int32) then (clrI z3 (1 : Int32) ev3_0 ev3_1 ev3_2 cv3_1) else (clrI z3 (2 : Int32) ev3_0 ev3_1 ev3_2 cv3_2))) = (0 : Int32) := own_k3_1 hd1 hd2 hd3 hsv1_0 hsv1_1 hsv1_2 hcv1_0 hcv1_1 hcv1_2 hev1_0 hev1_1 hev1_2 hz1 hsv2_0 hsv2_1 hsv2_2 hcv2_0 hcv2_1 hcv2_2 hev2_0 hev2_1 hev2_2 hz2 hsv3_0 hsv3_1 hsv3_2 hcv3_0 hcv3_1 hcv3_2 hev3_0 hev3_1 hev3_2 hz3
    refine Go.on (fun _ k => XS.ifNo X78.here hx rfl (hb hby at_133) rfl ((if0 _ _).trans (teq hc79).2) k) ?_
    show Go _ _ _ _ _ _ _ _ (mkF m 136 #[.val (.int cnt), .val (.int i0), .val (.int i1), .val (.int i2), .val (.int i3), .val (.int (3 : Int32)), .val (.int d1), .val (.int d2), .val (.int d3), .val (.ref q), .val (.int (1 : Int32))] [])
    refine Go.on (fun _ k => XS.aload X78.here hx rfl (hb hby at_136) rfl rfl k) ?_
    show Go _ _ _ _ _ _ _ _ (mkF m 138 #[.val (.int cnt), .val (.int i0), .val (.int i1), .val (.int i2), .val (.int i3), .val (.int (3 : Int32)), .val (.int d1), .val (.int d2), .val (.int d3), .val (.ref q), .val (.int (1 : Int32))] [(.ref q)])
    refine Go.on (fun _ k => XS.iconst X78.here hx rfl (hb hby at_138) k) ?_
    show Go _ _ _ _ _ _ _ _ (mkF m 139 #[.val (.int cnt), .val (.int i0), .val (.int i1), .val (.int i2), .val (.int i3), .val (.int (3 : Int32)), .val (.int d1), .val (.int d2), .val (.int d3), .val (.ref q), .val (.int (1 : Int32))] [(.int (2 : Int32)), (.ref q)])
    obtain ⟨cq80, kq80, q80a, q80b, q80c⟩ := isOf hZ e78 E_q
    obtain ⟨_, _, ⟨T80, L80, k80, n80⟩, -, X80, ⟨Lc80, hQ80, l80, y80, z80⟩, st80⟩ := X78.virtualBack hx (y := (⟨"com/example/clirtools/clirtools/DocumentSums", "count", "(I)I"⟩ : MethodName)) (z := (⟨"com/example/clirtools/clirtools/DocumentSums", "count", "(I)I"⟩ : MethodName)) hown (mvT hZ (hw _ (List.mem_of_getElem? (i := 29) rfl))) (mvT hZ (hw _ (List.mem_of_getElem? (i := 30) rfl))) (notFace_of_selects (args := #[]) (mvT hZ (hw _ (List.mem_of_getElem? (i := 32) rfl)))) (mvT hZ (hw _ (List.mem_of_getElem? (i := 32) rfl))) (mvT hZ (hw _ (List.mem_of_getElem? (i := 31) rfl))) (by decide) (backOf (W := 0) (rm5 l Z aw hw [] q (2 : Int32) ac k_ac (clrI z3 (0 : Int32) ev3_0 ev3_1 ev3_2 cv3_0) (clrI z3 (1 : Int32) ev3_0 ev3_1 ev3_2 cv3_1) (clrI z3 (2 : Int32) ev3_0 ev3_1 ev3_2 cv3_2) h72 n0 ZZ F_counts_q V_ac (by unfold Three; decide)) hZ (hw _ (List.mem_of_getElem? (i := 33) rfl)) (hw _ (List.mem_of_getElem? (i := 2) rfl)) (by decide) (by decide)) q80a q80c (g := (mkF m 139 #[.val (.int cnt), .val (.int i0), .val (.int i1), .val (.int i2), .val (.int i3), .val (.int (3 : Int32)), .val (.int d1), .val (.int d2), .val (.int d3), .val (.ref q), .val (.int (1 : Int32))] [(.int (2 : Int32)), (.ref q)])) rfl (by rw [hml]; rfl) (Steps.refl _) (argsL := [(.int (2 : Int32))]) (rest := []) (lenOf pd_3 rfl) rfl (by show 2 * 0 + _ ≤ _; exact Nat.le_of_eq rfl) (hb hby at_139) (fun _ _ => ⟨rfl, e78, (by decide : 4 + 0 ≤ _), (by decide : 13 + 0 ≤ _)⟩)
    dsimp only [Pt.U, Pt.locs, Pt.cells, Pt.slots] at X80 l80 y80 z80 st80 hQ80
    subst l80 y80 z80
    obtain ⟨rfl, N80q, e80⟩ := hQ80
    have N80 := Fr.app N78 N80q
    refine Go.on (fun _ k => st80.trans k) ?_
    show Go _ _ _ _ _ _ _ _ (mkF m 142 #[.val (.int cnt), .val (.int i0), .val (.int i1), .val (.int i2), .val (.int i3), .val (.int (3 : Int32)), .val (.int d1), .val (.int d2), .val (.int d3), .val (.ref q), .val (.int (1 : Int32))] [(.int (if (2 : Int32) = (0 : Int32) then (clrI z3 (0 : Int32) ev3_0 ev3_1 ev3_2 cv3_0) else (if (2 : Int32) = (1 : Int32) then (clrI z3 (1 : Int32) ev3_0 ev3_1 ev3_2 cv3_1) else (clrI z3 (2 : Int32) ev3_0 ev3_1 ev3_2 cv3_2))))])
    have hc81 : (if (2 : Int32) = (0 : Int32) then (clrI z3 (0 : Int32) ev3_0 ev3_1 ev3_2 cv3_0) else (if (2 : Int32) = (1 : Int32) then (clrI z3 (1 : Int32) ev3_0 ev3_1 ev3_2 cv3_1) else (clrI z3 (2 : Int32) ev3_0 ev3_1 ev3_2 cv3_2))) = (0 : Int32) := own_k3_2 hd1 hd2 hd3 hsv1_0 hsv1_1 hsv1_2 hcv1_0 hcv1_1 hcv1_2 hev1_0 hev1_1 hev1_2 hz1 hsv2_0 hsv2_1 hsv2_2 hcv2_0 hcv2_1 hcv2_2 hev2_0 hev2_1 hev2_2 hz2 hsv3_0 hsv3_1 hsv3_2 hcv3_0 hcv3_1 hcv3_2 hev3_0 hev3_1 hev3_2 hz3
    refine Go.on (fun _ k => XS.ifNo X80.here hx rfl (hb hby at_142) rfl ((if0 _ _).trans (teq hc81).2) k) ?_
    show Go _ _ _ _ _ _ _ _ (mkF m 145 #[.val (.int cnt), .val (.int i0), .val (.int i1), .val (.int i2), .val (.int i3), .val (.int (3 : Int32)), .val (.int d1), .val (.int d2), .val (.int d3), .val (.ref q), .val (.int (1 : Int32))] [])
    refine Go.on (fun _ k => XS.iconst X80.here hx rfl (hb hby at_145) k) ?_
    show Go _ _ _ _ _ _ _ _ (mkF m 146 #[.val (.int cnt), .val (.int i0), .val (.int i1), .val (.int i2), .val (.int i3), .val (.int (3 : Int32)), .val (.int d1), .val (.int d2), .val (.int d3), .val (.ref q), .val (.int (1 : Int32))] [(.int (1 : Int32))])
    refine Go.on (fun _ k => XS.goto X80.here hx rfl (pc0 := 146) (pc' := 150) rfl (hb hby at_146) (by decide) (by decide) k) ?_
    show Go _ _ _ _ _ _ _ _ (mkF m 150 #[.val (.int cnt), .val (.int i0), .val (.int i1), .val (.int i2), .val (.int i3), .val (.int (3 : Int32)), .val (.int d1), .val (.int d2), .val (.int d3), .val (.ref q), .val (.int (1 : Int32))] [(.int (1 : Int32))])
    refine Go.on (fun _ k => XS.istore X80.here hx rfl (hb hby at_150) rfl (l' := #[.val (.int cnt), .val (.int i0), .val (.int i1), .val (.int i2), .val (.int i3), .val (.int (3 : Int32)), .val (.int d1), .val (.int d2), .val (.int d3), .val (.ref q), .val (.int (1 : Int32))]) rfl k) ?_
    show Go _ _ _ _ _ _ _ _ (mkF m 152 #[.val (.int cnt), .val (.int i0), .val (.int i1), .val (.int i2), .val (.int i3), .val (.int (3 : Int32)), .val (.int d1), .val (.int d2), .val (.int d3), .val (.ref q), .val (.int (1 : Int32))] [])
    refine Go.on (fun _ k => XS.iload X80.here hx rfl (hb hby at_152) rfl k) ?_
    show Go _ _ _ _ _ _ _ _ (mkF m 154 #[.val (.int cnt), .val (.int i0), .val (.int i1), .val (.int i2), .val (.int i3), .val (.int (3 : Int32)), .val (.int d1), .val (.int d2), .val (.int d3), .val (.ref q), .val (.int (1 : Int32))] [(.int (1 : Int32))])
    have hc82 : ¬ ((1 : Int32) = (0 : Int32)) := by decide
    refine Go.on (fun _ k => XS.ifNo X80.here hx rfl (hb hby at_154) rfl ((if0 _ _).trans (feq hc82).1) k) ?_
    show Go _ _ _ _ _ _ _ _ (mkF m 157 #[.val (.int cnt), .val (.int i0), .val (.int i1), .val (.int i2), .val (.int i3), .val (.int (3 : Int32)), .val (.int d1), .val (.int d2), .val (.int d3), .val (.ref q), .val (.int (1 : Int32))] [])
    refine Go.on (fun _ k => XS.aload X80.here hx rfl (hb hby at_157) rfl rfl k) ?_
    show Go _ _ _ _ _ _ _ _ (mkF m 159 #[.val (.int cnt), .val (.int i0), .val (.int i1), .val (.int i2), .val (.int i3), .val (.int (3 : Int32)), .val (.int d1), .val (.int d2), .val (.int d3), .val (.ref q), .val (.int (1 : Int32))] [(.ref q)])
    refine Go.on (fun _ k => XS.iconst X80.here hx rfl (hb hby at_159) k) ?_
    show Go _ _ _ _ _ _ _ _ (mkF m 160 #[.val (.int cnt), .val (.int i0), .val (.int i1), .val (.int i2), .val (.int i3), .val (.int (3 : Int32)), .val (.int d1), .val (.int d2), .val (.int d3), .val (.ref q), .val (.int (1 : Int32))] [(.int (0 : Int32)), (.ref q)])
    obtain ⟨cq83, kq83, q83a, q83b, q83c⟩ := isOf hZ e80 E_q
    obtain ⟨_, _, ⟨T83, L83, k83, n83⟩, -, X83, ⟨Lc83, hQ83, l83, y83, z83⟩, st83⟩ := X80.virtualBack hx (y := (⟨"com/example/clirtools/clirtools/DocumentSums", "sum", "(I)D"⟩ : MethodName)) (z := (⟨"com/example/clirtools/clirtools/DocumentSums", "sum", "(I)D"⟩ : MethodName)) hown (mvT hZ (hw _ (List.mem_of_getElem? (i := 34) rfl))) (mvT hZ (hw _ (List.mem_of_getElem? (i := 35) rfl))) (notFace_of_selects (args := #[]) (mvT hZ (hw _ (List.mem_of_getElem? (i := 37) rfl)))) (mvT hZ (hw _ (List.mem_of_getElem? (i := 37) rfl))) (mvT hZ (hw _ (List.mem_of_getElem? (i := 36) rfl))) (by decide) (backOf (W := 0) (rm6 l Z aw hw [] q (0 : Int32) as k_as (clrD z3 (0 : Int32) ev3_0 ev3_1 ev3_2 sv3_0) (clrD z3 (1 : Int32) ev3_0 ev3_1 ev3_2 sv3_1) (clrD z3 (2 : Int32) ev3_0 ev3_1 ev3_2 sv3_2) h72 n0 ZZ F_sums_q V_as (by unfold Three; decide)) hZ (hw _ (List.mem_of_getElem? (i := 38) rfl)) (hw _ (List.mem_of_getElem? (i := 2) rfl)) (by decide) (by decide)) q83a q83c (g := (mkF m 160 #[.val (.int cnt), .val (.int i0), .val (.int i1), .val (.int i2), .val (.int i3), .val (.int (3 : Int32)), .val (.int d1), .val (.int d2), .val (.int d3), .val (.ref q), .val (.int (1 : Int32))] [(.int (0 : Int32)), (.ref q)])) rfl (by rw [hml]; rfl) (Steps.refl _) (argsL := [(.int (0 : Int32))]) (rest := []) (lenOf pd_4 rfl) rfl (by show 2 * 0 + _ ≤ _; exact Nat.le_of_eq rfl) (hb hby at_160) (fun _ _ => ⟨rfl, e80, (by decide : 4 + 0 ≤ _), (by decide : 13 + 0 ≤ _)⟩)
    dsimp only [Pt.U, Pt.locs, Pt.cells, Pt.slots] at X83 l83 y83 z83 st83 hQ83
    subst l83 y83 z83
    obtain ⟨rfl, N83q, e83⟩ := hQ83
    have N83 := Fr.app N80 N83q
    refine Go.on (fun _ k => st83.trans k) ?_
    show Go _ _ _ _ _ _ _ _ (mkF m 163 #[.val (.int cnt), .val (.int i0), .val (.int i1), .val (.int i2), .val (.int i3), .val (.int (3 : Int32)), .val (.int d1), .val (.int d2), .val (.int d3), .val (.ref q), .val (.int (1 : Int32))] [(.double (if (0 : Int32) = (0 : Int32) then (clrD z3 (0 : Int32) ev3_0 ev3_1 ev3_2 sv3_0) else (if (0 : Int32) = (1 : Int32) then (clrD z3 (1 : Int32) ev3_0 ev3_1 ev3_2 sv3_1) else (clrD z3 (2 : Int32) ev3_0 ev3_1 ev3_2 sv3_2))))])
    refine Go.on (fun _ k => XS.dconst0 X83.here hx rfl (v := (0 : UInt64)) (hb hby at_163) rfl k) ?_
    show Go _ _ _ _ _ _ _ _ (mkF m 164 #[.val (.int cnt), .val (.int i0), .val (.int i1), .val (.int i2), .val (.int i3), .val (.int (3 : Int32)), .val (.int d1), .val (.int d2), .val (.int d3), .val (.ref q), .val (.int (1 : Int32))] [(.double (0 : UInt64)), (.double (if (0 : Int32) = (0 : Int32) then (clrD z3 (0 : Int32) ev3_0 ev3_1 ev3_2 sv3_0) else (if (0 : Int32) = (1 : Int32) then (clrD z3 (1 : Int32) ev3_0 ev3_1 ev3_2 sv3_1) else (clrD z3 (2 : Int32) ev3_0 ev3_1 ev3_2 sv3_2))))])
    refine Go.on (fun _ k => XS.dcmpS X83.here hx rfl (hb hby at_164) rfl rfl k) ?_
    show Go _ _ _ _ _ _ _ _ (mkF m 165 #[.val (.int cnt), .val (.int i0), .val (.int i1), .val (.int i2), .val (.int i3), .val (.int (3 : Int32)), .val (.int d1), .val (.int d2), .val (.int d3), .val (.ref q), .val (.int (1 : Int32))] [(.int (cmpValue (FP.dcmp (if (0 : Int32) = (0 : Int32) then (clrD z3 (0 : Int32) ev3_0 ev3_1 ev3_2 sv3_0) else (if (0 : Int32) = (1 : Int32) then (clrD z3 (1 : Int32) ev3_0 ev3_1 ev3_2 sv3_1) else (clrD z3 (2 : Int32) ev3_0 ev3_1 ev3_2 sv3_2))) (0 : UInt64)) .l))])
    have hc84 : (cmpValue (FP.dcmp (if (0 : Int32) = (0 : Int32) then (clrD z3 (0 : Int32) ev3_0 ev3_1 ev3_2 sv3_0) else (if (0 : Int32) = (1 : Int32) then (clrD z3 (1 : Int32) ev3_0 ev3_1 ev3_2 sv3_1) else (clrD z3 (2 : Int32) ev3_0 ev3_1 ev3_2 sv3_2))) (0 : UInt64)) .l) = (0 : Int32) := own_q3_0 hd1 hd2 hd3 hsv1_0 hsv1_1 hsv1_2 hcv1_0 hcv1_1 hcv1_2 hev1_0 hev1_1 hev1_2 hz1 hsv2_0 hsv2_1 hsv2_2 hcv2_0 hcv2_1 hcv2_2 hev2_0 hev2_1 hev2_2 hz2 hsv3_0 hsv3_1 hsv3_2 hcv3_0 hcv3_1 hcv3_2 hev3_0 hev3_1 hev3_2 hz3
    refine Go.on (fun _ k => XS.ifNo X83.here hx rfl (hb hby at_165) rfl ((if0 _ _).trans (teq hc84).2) k) ?_
    show Go _ _ _ _ _ _ _ _ (mkF m 168 #[.val (.int cnt), .val (.int i0), .val (.int i1), .val (.int i2), .val (.int i3), .val (.int (3 : Int32)), .val (.int d1), .val (.int d2), .val (.int d3), .val (.ref q), .val (.int (1 : Int32))] [])
    refine Go.on (fun _ k => XS.aload X83.here hx rfl (hb hby at_168) rfl rfl k) ?_
    show Go _ _ _ _ _ _ _ _ (mkF m 170 #[.val (.int cnt), .val (.int i0), .val (.int i1), .val (.int i2), .val (.int i3), .val (.int (3 : Int32)), .val (.int d1), .val (.int d2), .val (.int d3), .val (.ref q), .val (.int (1 : Int32))] [(.ref q)])
    refine Go.on (fun _ k => XS.iconst X83.here hx rfl (hb hby at_170) k) ?_
    show Go _ _ _ _ _ _ _ _ (mkF m 171 #[.val (.int cnt), .val (.int i0), .val (.int i1), .val (.int i2), .val (.int i3), .val (.int (3 : Int32)), .val (.int d1), .val (.int d2), .val (.int d3), .val (.ref q), .val (.int (1 : Int32))] [(.int (1 : Int32)), (.ref q)])
    obtain ⟨cq85, kq85, q85a, q85b, q85c⟩ := isOf hZ e83 E_q
    obtain ⟨_, _, ⟨T85, L85, k85, n85⟩, -, X85, ⟨Lc85, hQ85, l85, y85, z85⟩, st85⟩ := X83.virtualBack hx (y := (⟨"com/example/clirtools/clirtools/DocumentSums", "sum", "(I)D"⟩ : MethodName)) (z := (⟨"com/example/clirtools/clirtools/DocumentSums", "sum", "(I)D"⟩ : MethodName)) hown (mvT hZ (hw _ (List.mem_of_getElem? (i := 34) rfl))) (mvT hZ (hw _ (List.mem_of_getElem? (i := 35) rfl))) (notFace_of_selects (args := #[]) (mvT hZ (hw _ (List.mem_of_getElem? (i := 37) rfl)))) (mvT hZ (hw _ (List.mem_of_getElem? (i := 37) rfl))) (mvT hZ (hw _ (List.mem_of_getElem? (i := 36) rfl))) (by decide) (backOf (W := 0) (rm6 l Z aw hw [] q (1 : Int32) as k_as (clrD z3 (0 : Int32) ev3_0 ev3_1 ev3_2 sv3_0) (clrD z3 (1 : Int32) ev3_0 ev3_1 ev3_2 sv3_1) (clrD z3 (2 : Int32) ev3_0 ev3_1 ev3_2 sv3_2) h72 n0 ZZ F_sums_q V_as (by unfold Three; decide)) hZ (hw _ (List.mem_of_getElem? (i := 38) rfl)) (hw _ (List.mem_of_getElem? (i := 2) rfl)) (by decide) (by decide)) q85a q85c (g := (mkF m 171 #[.val (.int cnt), .val (.int i0), .val (.int i1), .val (.int i2), .val (.int i3), .val (.int (3 : Int32)), .val (.int d1), .val (.int d2), .val (.int d3), .val (.ref q), .val (.int (1 : Int32))] [(.int (1 : Int32)), (.ref q)])) rfl (by rw [hml]; rfl) (Steps.refl _) (argsL := [(.int (1 : Int32))]) (rest := []) (lenOf pd_4 rfl) rfl (by show 2 * 0 + _ ≤ _; exact Nat.le_of_eq rfl) (hb hby at_171) (fun _ _ => ⟨rfl, e83, (by decide : 4 + 0 ≤ _), (by decide : 13 + 0 ≤ _)⟩)
    dsimp only [Pt.U, Pt.locs, Pt.cells, Pt.slots] at X85 l85 y85 z85 st85 hQ85
    subst l85 y85 z85
    obtain ⟨rfl, N85q, e85⟩ := hQ85
    have N85 := Fr.app N83 N85q
    refine Go.on (fun _ k => st85.trans k) ?_
    show Go _ _ _ _ _ _ _ _ (mkF m 174 #[.val (.int cnt), .val (.int i0), .val (.int i1), .val (.int i2), .val (.int i3), .val (.int (3 : Int32)), .val (.int d1), .val (.int d2), .val (.int d3), .val (.ref q), .val (.int (1 : Int32))] [(.double (if (1 : Int32) = (0 : Int32) then (clrD z3 (0 : Int32) ev3_0 ev3_1 ev3_2 sv3_0) else (if (1 : Int32) = (1 : Int32) then (clrD z3 (1 : Int32) ev3_0 ev3_1 ev3_2 sv3_1) else (clrD z3 (2 : Int32) ev3_0 ev3_1 ev3_2 sv3_2))))])
    refine Go.on (fun _ k => XS.dconst0 X85.here hx rfl (v := (0 : UInt64)) (hb hby at_174) rfl k) ?_
    show Go _ _ _ _ _ _ _ _ (mkF m 175 #[.val (.int cnt), .val (.int i0), .val (.int i1), .val (.int i2), .val (.int i3), .val (.int (3 : Int32)), .val (.int d1), .val (.int d2), .val (.int d3), .val (.ref q), .val (.int (1 : Int32))] [(.double (0 : UInt64)), (.double (if (1 : Int32) = (0 : Int32) then (clrD z3 (0 : Int32) ev3_0 ev3_1 ev3_2 sv3_0) else (if (1 : Int32) = (1 : Int32) then (clrD z3 (1 : Int32) ev3_0 ev3_1 ev3_2 sv3_1) else (clrD z3 (2 : Int32) ev3_0 ev3_1 ev3_2 sv3_2))))])
    refine Go.on (fun _ k => XS.dcmpS X85.here hx rfl (hb hby at_175) rfl rfl k) ?_
    show Go _ _ _ _ _ _ _ _ (mkF m 176 #[.val (.int cnt), .val (.int i0), .val (.int i1), .val (.int i2), .val (.int i3), .val (.int (3 : Int32)), .val (.int d1), .val (.int d2), .val (.int d3), .val (.ref q), .val (.int (1 : Int32))] [(.int (cmpValue (FP.dcmp (if (1 : Int32) = (0 : Int32) then (clrD z3 (0 : Int32) ev3_0 ev3_1 ev3_2 sv3_0) else (if (1 : Int32) = (1 : Int32) then (clrD z3 (1 : Int32) ev3_0 ev3_1 ev3_2 sv3_1) else (clrD z3 (2 : Int32) ev3_0 ev3_1 ev3_2 sv3_2))) (0 : UInt64)) .l))])
    have hc86 : (cmpValue (FP.dcmp (if (1 : Int32) = (0 : Int32) then (clrD z3 (0 : Int32) ev3_0 ev3_1 ev3_2 sv3_0) else (if (1 : Int32) = (1 : Int32) then (clrD z3 (1 : Int32) ev3_0 ev3_1 ev3_2 sv3_1) else (clrD z3 (2 : Int32) ev3_0 ev3_1 ev3_2 sv3_2))) (0 : UInt64)) .l) = (0 : Int32) := own_q3_1 hd1 hd2 hd3 hsv1_0 hsv1_1 hsv1_2 hcv1_0 hcv1_1 hcv1_2 hev1_0 hev1_1 hev1_2 hz1 hsv2_0 hsv2_1 hsv2_2 hcv2_0 hcv2_1 hcv2_2 hev2_0 hev2_1 hev2_2 hz2 hsv3_0 hsv3_1 hsv3_2 hcv3_0 hcv3_1 hcv3_2 hev3_0 hev3_1 hev3_2 hz3
    refine Go.on (fun _ k => XS.ifNo X85.here hx rfl (hb hby at_176) rfl ((if0 _ _).trans (teq hc86).2) k) ?_
    show Go _ _ _ _ _ _ _ _ (mkF m 179 #[.val (.int cnt), .val (.int i0), .val (.int i1), .val (.int i2), .val (.int i3), .val (.int (3 : Int32)), .val (.int d1), .val (.int d2), .val (.int d3), .val (.ref q), .val (.int (1 : Int32))] [])
    refine Go.on (fun _ k => XS.aload X85.here hx rfl (hb hby at_179) rfl rfl k) ?_
    show Go _ _ _ _ _ _ _ _ (mkF m 181 #[.val (.int cnt), .val (.int i0), .val (.int i1), .val (.int i2), .val (.int i3), .val (.int (3 : Int32)), .val (.int d1), .val (.int d2), .val (.int d3), .val (.ref q), .val (.int (1 : Int32))] [(.ref q)])
    refine Go.on (fun _ k => XS.iconst X85.here hx rfl (hb hby at_181) k) ?_
    show Go _ _ _ _ _ _ _ _ (mkF m 182 #[.val (.int cnt), .val (.int i0), .val (.int i1), .val (.int i2), .val (.int i3), .val (.int (3 : Int32)), .val (.int d1), .val (.int d2), .val (.int d3), .val (.ref q), .val (.int (1 : Int32))] [(.int (2 : Int32)), (.ref q)])
    obtain ⟨cq87, kq87, q87a, q87b, q87c⟩ := isOf hZ e85 E_q
    obtain ⟨_, _, ⟨T87, L87, k87, n87⟩, -, X87, ⟨Lc87, hQ87, l87, y87, z87⟩, st87⟩ := X85.virtualBack hx (y := (⟨"com/example/clirtools/clirtools/DocumentSums", "sum", "(I)D"⟩ : MethodName)) (z := (⟨"com/example/clirtools/clirtools/DocumentSums", "sum", "(I)D"⟩ : MethodName)) hown (mvT hZ (hw _ (List.mem_of_getElem? (i := 34) rfl))) (mvT hZ (hw _ (List.mem_of_getElem? (i := 35) rfl))) (notFace_of_selects (args := #[]) (mvT hZ (hw _ (List.mem_of_getElem? (i := 37) rfl)))) (mvT hZ (hw _ (List.mem_of_getElem? (i := 37) rfl))) (mvT hZ (hw _ (List.mem_of_getElem? (i := 36) rfl))) (by decide) (backOf (W := 0) (rm6 l Z aw hw [] q (2 : Int32) as k_as (clrD z3 (0 : Int32) ev3_0 ev3_1 ev3_2 sv3_0) (clrD z3 (1 : Int32) ev3_0 ev3_1 ev3_2 sv3_1) (clrD z3 (2 : Int32) ev3_0 ev3_1 ev3_2 sv3_2) h72 n0 ZZ F_sums_q V_as (by unfold Three; decide)) hZ (hw _ (List.mem_of_getElem? (i := 38) rfl)) (hw _ (List.mem_of_getElem? (i := 2) rfl)) (by decide) (by decide)) q87a q87c (g := (mkF m 182 #[.val (.int cnt), .val (.int i0), .val (.int i1), .val (.int i2), .val (.int i3), .val (.int (3 : Int32)), .val (.int d1), .val (.int d2), .val (.int d3), .val (.ref q), .val (.int (1 : Int32))] [(.int (2 : Int32)), (.ref q)])) rfl (by rw [hml]; rfl) (Steps.refl _) (argsL := [(.int (2 : Int32))]) (rest := []) (lenOf pd_4 rfl) rfl (by show 2 * 0 + _ ≤ _; exact Nat.le_of_eq rfl) (hb hby at_182) (fun _ _ => ⟨rfl, e85, (by decide : 4 + 0 ≤ _), (by decide : 13 + 0 ≤ _)⟩)
    dsimp only [Pt.U, Pt.locs, Pt.cells, Pt.slots] at X87 l87 y87 z87 st87 hQ87
    subst l87 y87 z87
    obtain ⟨rfl, N87q, e87⟩ := hQ87
    have N87 := Fr.app N85 N87q
    refine Go.on (fun _ k => st87.trans k) ?_
    show Go _ _ _ _ _ _ _ _ (mkF m 185 #[.val (.int cnt), .val (.int i0), .val (.int i1), .val (.int i2), .val (.int i3), .val (.int (3 : Int32)), .val (.int d1), .val (.int d2), .val (.int d3), .val (.ref q), .val (.int (1 : Int32))] [(.double (if (2 : Int32) = (0 : Int32) then (clrD z3 (0 : Int32) ev3_0 ev3_1 ev3_2 sv3_0) else (if (2 : Int32) = (1 : Int32) then (clrD z3 (1 : Int32) ev3_0 ev3_1 ev3_2 sv3_1) else (clrD z3 (2 : Int32) ev3_0 ev3_1 ev3_2 sv3_2))))])
    refine Go.on (fun _ k => XS.dconst0 X87.here hx rfl (v := (0 : UInt64)) (hb hby at_185) rfl k) ?_
    show Go _ _ _ _ _ _ _ _ (mkF m 186 #[.val (.int cnt), .val (.int i0), .val (.int i1), .val (.int i2), .val (.int i3), .val (.int (3 : Int32)), .val (.int d1), .val (.int d2), .val (.int d3), .val (.ref q), .val (.int (1 : Int32))] [(.double (0 : UInt64)), (.double (if (2 : Int32) = (0 : Int32) then (clrD z3 (0 : Int32) ev3_0 ev3_1 ev3_2 sv3_0) else (if (2 : Int32) = (1 : Int32) then (clrD z3 (1 : Int32) ev3_0 ev3_1 ev3_2 sv3_1) else (clrD z3 (2 : Int32) ev3_0 ev3_1 ev3_2 sv3_2))))])
    refine Go.on (fun _ k => XS.dcmpS X87.here hx rfl (hb hby at_186) rfl rfl k) ?_
    show Go _ _ _ _ _ _ _ _ (mkF m 187 #[.val (.int cnt), .val (.int i0), .val (.int i1), .val (.int i2), .val (.int i3), .val (.int (3 : Int32)), .val (.int d1), .val (.int d2), .val (.int d3), .val (.ref q), .val (.int (1 : Int32))] [(.int (cmpValue (FP.dcmp (if (2 : Int32) = (0 : Int32) then (clrD z3 (0 : Int32) ev3_0 ev3_1 ev3_2 sv3_0) else (if (2 : Int32) = (1 : Int32) then (clrD z3 (1 : Int32) ev3_0 ev3_1 ev3_2 sv3_1) else (clrD z3 (2 : Int32) ev3_0 ev3_1 ev3_2 sv3_2))) (0 : UInt64)) .l))])
    have hc88 : (cmpValue (FP.dcmp (if (2 : Int32) = (0 : Int32) then (clrD z3 (0 : Int32) ev3_0 ev3_1 ev3_2 sv3_0) else (if (2 : Int32) = (1 : Int32) then (clrD z3 (1 : Int32) ev3_0 ev3_1 ev3_2 sv3_1) else (clrD z3 (2 : Int32) ev3_0 ev3_1 ev3_2 sv3_2))) (0 : UInt64)) .l) = (0 : Int32) := own_q3_2 hd1 hd2 hd3 hsv1_0 hsv1_1 hsv1_2 hcv1_0 hcv1_1 hcv1_2 hev1_0 hev1_1 hev1_2 hz1 hsv2_0 hsv2_1 hsv2_2 hcv2_0 hcv2_1 hcv2_2 hev2_0 hev2_1 hev2_2 hz2 hsv3_0 hsv3_1 hsv3_2 hcv3_0 hcv3_1 hcv3_2 hev3_0 hev3_1 hev3_2 hz3
    refine Go.on (fun _ k => XS.ifNo X87.here hx rfl (hb hby at_187) rfl ((if0 _ _).trans (teq hc88).2) k) ?_
    show Go _ _ _ _ _ _ _ _ (mkF m 190 #[.val (.int cnt), .val (.int i0), .val (.int i1), .val (.int i2), .val (.int i3), .val (.int (3 : Int32)), .val (.int d1), .val (.int d2), .val (.int d3), .val (.ref q), .val (.int (1 : Int32))] [])
    refine Go.on (fun _ k => XS.iconst X87.here hx rfl (hb hby at_190) k) ?_
    show Go _ _ _ _ _ _ _ _ (mkF m 191 #[.val (.int cnt), .val (.int i0), .val (.int i1), .val (.int i2), .val (.int i3), .val (.int (3 : Int32)), .val (.int d1), .val (.int d2), .val (.int d3), .val (.ref q), .val (.int (1 : Int32))] [(.int (1 : Int32))])
    refine Go.on (fun _ k => XS.goto X87.here hx rfl (pc0 := 191) (pc' := 195) rfl (hb hby at_191) (by decide) (by decide) k) ?_
    show Go _ _ _ _ _ _ _ _ (mkF m 195 #[.val (.int cnt), .val (.int i0), .val (.int i1), .val (.int i2), .val (.int i3), .val (.int (3 : Int32)), .val (.int d1), .val (.int d2), .val (.int d3), .val (.ref q), .val (.int (1 : Int32))] [(.int (1 : Int32))])
    refine Go.on (fun _ k => XS.istore X87.here hx rfl (hb hby at_195) rfl (l' := #[.val (.int cnt), .val (.int i0), .val (.int i1), .val (.int i2), .val (.int i3), .val (.int (3 : Int32)), .val (.int d1), .val (.int d2), .val (.int d3), .val (.ref q), .val (.int (1 : Int32))]) rfl k) ?_
    show Go _ _ _ _ _ _ _ _ (mkF m 197 #[.val (.int cnt), .val (.int i0), .val (.int i1), .val (.int i2), .val (.int i3), .val (.int (3 : Int32)), .val (.int d1), .val (.int d2), .val (.int d3), .val (.ref q), .val (.int (1 : Int32))] [])
    refine Go.on (fun _ k => XS.iload X87.here hx rfl (hb hby at_197) rfl k) ?_
    show Go _ _ _ _ _ _ _ _ (mkF m 199 #[.val (.int cnt), .val (.int i0), .val (.int i1), .val (.int i2), .val (.int i3), .val (.int (3 : Int32)), .val (.int d1), .val (.int d2), .val (.int d3), .val (.ref q), .val (.int (1 : Int32))] [(.int (1 : Int32))])
    refine Go.retN X87 hx (t := .boolean) Bd.returns (by simp) (hb hby at_199) ?_ (by rw [hK1]; decide) (by rw [hK2]; decide)
    rw [e87, ← hQQ]
    exact ⟨rfl, N87⟩
set_option maxRecDepth 65536 in
set_option maxHeartbeats 40000000 in
theorem comes_1 {Post : Tables → Env → Array Value → State → Outcome → State → Prop} (hpost : ∀ tb e args s v u, (limb_1_1.after args s (.returned v) u = true ∧ limb_1_2.after args s (.returned v) u = true ∧ True) → FrameEnd s (.returned v) u (Jvm.fieldLocs frame_1_writes args s ++ Jvm.arrayLocs frame_1_arrays args s ++ Jvm.staticLocs frame_1_statics s) 16 128 → Post tb e args s (.returned v) u) :
    ArmFor flags0 classFile x code maxLocals ret World_1 tables_1 room_1 Calls_1 rest_1 Pre_1 Post := by
  intro l hfl _ _ p e ha hc hk s m args below hf hA hF happ hP
  obtain ⟨hcalls, hrest, hpre⟩ := hP
  obtain ⟨-, -, -, hnamed, -, -, -, hat⟩ := (Spec.applies_iff hf).mp happ
  obtain ⟨hg, hn⟩ := and_e (Cond.before_iff.mp (show (Jvm.Cond.and given_1 narrow_1).before args s = true from hpre))
  obtain ⟨g0, r0⟩ := and_e hg
  obtain ⟨g1, r1⟩ := and_e r0
  obtain ⟨g2, r2⟩ := and_e r1
  obtain ⟨g3, r3⟩ := and_e r2
  obtain ⟨g4, g5⟩ := and_e r3
  obtain ⟨w0, w1, w2, w3, w4, rfl⟩ : ∃ w0 w1 w2 w3 w4 : Value, args = #[w0, w1, w2, w3, w4] := by
    have hs : args.size = 5 := by simpa [Cond.value, given_1] using g0
    obtain ⟨L⟩ := args
    match L, hs with
    | [w0, w1, w2, w3, w4], _ => exact ⟨w0, w1, w2, w3, w4, rfl⟩
  have hw := fun d (hd : d ∈ tables_1) => atoms_spec (ws := Jvm.Cond.code x code maxLocals ret :: tables_1) hat d (List.mem_cons_of_mem _ hd)
  have hfit : Fit s := fun {y c} hc i hi => by
    obtain ⟨ha, rfl⟩ := Array.getElem?_eq_some_iff.mp hc
    have q := List.all_eq_true.mp ((Array.all_eq_true_iff_forall_mem.mp hF) _ (Array.getElem_mem ha)) i (List.mem_range.mpr hi)
    simpa [Array.getElem?_eq_getElem hi] using q
  obtain ⟨i0, ei0⟩ := is_v g1
  obtain rfl : w0 = (.int i0) := Option.some.inj ei0
  obtain ⟨i1, ei1⟩ := is_v g2
  obtain rfl : w1 = (.int i1) := Option.some.inj ei1
  obtain ⟨i2, ei2⟩ := is_v g3
  obtain rfl : w2 = (.int i2) := Option.some.inj ei2
  obtain ⟨i3, ei3⟩ := is_v g4
  obtain rfl : w3 = (.int i3) := Option.some.inj ei3
  obtain ⟨i4, ei4⟩ := is_v g5
  obtain rfl : w4 = (.int i4) := Option.some.inj ei4
  obtain ⟨n, o, h1, h2, h3, _, L, rfl, ⟨rfl, N⟩, hq⟩ := rm0 l s _ hw tables_1 i0 i1 i2 i3 i4 s.heap s.heap.size (Nat.le_refl _) p e ha hc hk s m _ below hf ((Spec.applies_iff_loose hf).mp happ).1 ⟨rfl, State.Warmed39.refl s, rfl⟩ trivial
  refine ⟨n, _, h1, h2, h3, hpost _ _ _ _ _ _ ⟨Cond.after_iff.mpr rfl, Cond.after_iff.mpr (eq_i res_at (Term.int_eval (1)) rfl), trivial⟩ ⟨hq.1, hq.2.1, (hq.2.2.sift fun y hy => Or.inr (N y hy)).mono (by decide) (by decide)⟩⟩
theorem main_1_1 : Claimed_1_1 := comes_1 fun _ _ _ _ _ _ h hF => ⟨h.1, hF⟩
theorem main_1_2 : Claimed_1_2 := comes_1 fun _ _ _ _ _ _ h hF => ⟨h.2.1, hF⟩
end Jvm.Pilot.@@N@@
namespace Jvm.Pilot.@@N@@
open Jvm Jvm.ClassFile Sem Op Lib Jvm.Free Jvm.Stand Jvm.Pilot.@@N@@.Jvm.D
/-! MADE BY PROGRAM (witnessworld.py) out of the Statement's table words and the real class files: 11 classes; the members and pool entries that the words name. The judged class is class 1, her method 1. -/
namespace start1
open Jvm.ClassFile
def u (s : String) : CpInfo := .utf8 (stringToUtf16 s)
/-- a pool by its gaps: so many unusable entries, then the entry; so many at the end -/
def gap : Nat → List CpInfo → List CpInfo
  | 0, r => r
  | n + 1, r => .unusable :: gap n r
def poolList (es : List (Nat × CpInfo)) (last : Nat) : List CpInfo := es.foldr (fun e r => gap e.1 (e.2 :: r)) (gap last [])
def pool (es : List (Nat × CpInfo)) (last : Nat) : Array CpInfo := ⟨poolList es last⟩
def fileOf (pool : Array CpInfo) (this : Nat) (attrs : Array Attribute := #[]) (ms : Array MethodInfo := #[]) (fl : Nat := 33) (sup : Nat := 0) (ifs : Array Nat := #[]) (fds : Array FieldInfo := #[]) : ClassFile where
  minorVersion := 0
  majorVersion := 65
  constantPool := pool
  accessFlags := fl
  thisClass := this
  superClass := sup
  interfaces := ifs
  fields := fds
  methods := ms
  attributes := attrs
def plain (name : String) (sup : Option ClassId) : Class where
  name := name
  kind := .ordinary
  loader := none
  accessFlags := 33
  super := sup
  interfaces := #[]
  cf := none
  fields := #[]
  methods := #[]
  instanceTypes := #[]
  staticTypes := #[]
  resolved := #[]
  callSites := []
  init := .initialized
  statics := none
  mirror := none

def pool0 : Array CpInfo := pool [(5, u "<init>"), (0, u "()V"), (1, .class_ 10), (1, u "java/lang/Object")] 113

def k0c0 : Code := { maxStack := 0, maxLocals := 1, code := object_method_1_code, exceptionTable := #[], attributes := #[] }
def k0m0 : Method := { name := "<init>", desc := "()V", sig := { parameters := [], returnType := none }, accessFlags := 1, code := some k0c0 }
/-- java/lang/Object -/
def k0 : Class := { plain "java/lang/Object" none with
  accessFlags := 33
  interfaces := #[]
  cf := some (fileOf pool0 8 #[] #[{ accessFlags := 1, nameIndex := 5, descriptorIndex := 6, attributes := #[] }] 33 0 #[] #[])
  fields := #[]
  methods := #[k0m0]
  instanceTypes := #[]
  staticTypes := #[]
  resolved := Array.replicate 124 none
  statics := none }

def pool1 : Array CpInfo := pool [(2, .class_ 4), (1, u "java/lang/Object"), (0, u "<init>"), (0, u "()V"), (0, .class_ 8), (0, u "com/example/clirtools/clirtools/DocumentSums"), (0, .methodref 7 10), (0, .nameAndType 5 11), (0, u "(I)V"), (0, .methodref 7 13), (0, .nameAndType 14 15), (0, u "add"), (0, u "(ID)V"), (0, .methodref 7 17), (0, .nameAndType 18 6), (0, u "clear"), (0, .methodref 7 20), (0, .nameAndType 21 22), (0, u "size"), (0, u "()I"), (0, .methodref 7 24), (0, .nameAndType 25 26), (0, u "count"), (0, u "(I)I"), (0, .methodref 7 28), (0, .nameAndType 29 30), (0, u "sum"), (0, u "(I)D"), (0, .class_ 32), (0, u "com/example/clirtools/clirtools/DocumentSumsClearPinLaw"), (2, u "law"), (0, u "(IIIII)Z")] 3

def k1m0 : Method := { name := "<init>", desc := "()V", sig := { parameters := [], returnType := none }, accessFlags := 1, code := none }
def k1c1 : Code := { maxStack := 4, maxLocals := 11, code := code, exceptionTable := #[], attributes := #[] }
def k1m1 : Method := { name := "law", desc := "(IIIII)Z", sig := { parameters := [.int, .int, .int, .int, .int], returnType := some .boolean }, accessFlags := 9, code := some k1c1 }
/-- com/example/clirtools/clirtools/DocumentSumsClearPinLaw -/
def k1 : Class := { plain "com/example/clirtools/clirtools/DocumentSumsClearPinLaw" (some 0) with
  accessFlags := 49
  interfaces := #[]
  cf := some (fileOf pool1 31 #[] #[{ accessFlags := 1, nameIndex := 5, descriptorIndex := 6, attributes := #[] }, { accessFlags := 9, nameIndex := 35, descriptorIndex := 36, attributes := #[] }] 49 2 #[] #[])
  fields := #[]
  methods := #[k1m0, k1m1]
  instanceTypes := #[]
  staticTypes := #[]
  resolved := Array.replicate 40 none
  statics := none }

def pool2 : Array CpInfo := pool [(1, .methodref 2 3), (0, .class_ 4), (0, .nameAndType 5 6), (0, u "java/lang/Object"), (0, u "<init>"), (0, u "()V"), (0, .fieldref 8 9), (0, .class_ 10), (0, .nameAndType 11 12), (0, u "com/example/clirtools/clirtools/DocumentSums"), (0, u "sums"), (0, u "[D"), (0, .fieldref 8 14), (0, .nameAndType 15 16), (0, u "counts"), (0, u "[I"), (0, .fieldref 8 18), (0, .nameAndType 19 16), (0, u "documents"), (0, .fieldref 8 21), (0, .nameAndType 22 23), (0, u "size"), (0, u "I"), (0, u "(I)V"), (2, u "add"), (0, u "(ID)V"), (1, u "()I"), (1, u "(I)I"), (0, u "sum"), (0, u "(I)D"), (0, u "count"), (0, u "clear")] 2

def k2c0 : Code := { maxStack := 2, maxLocals := 2, code := prog_10_method_1_code, exceptionTable := #[], attributes := #[] }
def k2m0 : Method := { name := "<init>", desc := "(I)V", sig := { parameters := [.int], returnType := none }, accessFlags := 0, code := some k2c0 }
def k2c1 : Code := { maxStack := 6, maxLocals := 4, code := prog_10_method_2_code, exceptionTable := #[], attributes := #[] }
def k2m1 : Method := { name := "add", desc := "(ID)V", sig := { parameters := [.int, .double], returnType := none }, accessFlags := 0, code := some k2c1 }
def k2c2 : Code := { maxStack := 1, maxLocals := 1, code := prog_10_method_3_code, exceptionTable := #[], attributes := #[] }
def k2m2 : Method := { name := "size", desc := "()I", sig := { parameters := [], returnType := some .int }, accessFlags := 0, code := some k2c2 }
def k2c3 : Code := { maxStack := 2, maxLocals := 2, code := prog_10_method_5_code, exceptionTable := #[], attributes := #[] }
def k2m3 : Method := { name := "sum", desc := "(I)D", sig := { parameters := [.int], returnType := some .double }, accessFlags := 0, code := some k2c3 }
def k2c4 : Code := { maxStack := 2, maxLocals := 2, code := prog_10_method_6_code, exceptionTable := #[], attributes := #[] }
def k2m4 : Method := { name := "count", desc := "(I)I", sig := { parameters := [.int], returnType := some .int }, accessFlags := 0, code := some k2c4 }
def k2c5 : Code := { maxStack := 4, maxLocals := 3, code := prog_10_method_7_code, exceptionTable := #[], attributes := #[] }
def k2m5 : Method := { name := "clear", desc := "()V", sig := { parameters := [], returnType := none }, accessFlags := 0, code := some k2c5 }
/-- com/example/clirtools/clirtools/DocumentSums -/
def k2 : Class := { plain "com/example/clirtools/clirtools/DocumentSums" (some 0) with
  accessFlags := 32
  interfaces := #[]
  cf := some (fileOf pool2 8 #[] #[{ accessFlags := 0, nameIndex := 5, descriptorIndex := 24, attributes := #[] }, { accessFlags := 0, nameIndex := 27, descriptorIndex := 28, attributes := #[] }, { accessFlags := 0, nameIndex := 22, descriptorIndex := 30, attributes := #[] }, { accessFlags := 0, nameIndex := 33, descriptorIndex := 34, attributes := #[] }, { accessFlags := 0, nameIndex := 35, descriptorIndex := 32, attributes := #[] }, { accessFlags := 0, nameIndex := 36, descriptorIndex := 6, attributes := #[] }] 32 2 #[] #[{ accessFlags := 18, nameIndex := 11, descriptorIndex := 12, attributes := #[] }, { accessFlags := 18, nameIndex := 15, descriptorIndex := 16, attributes := #[] }, { accessFlags := 18, nameIndex := 19, descriptorIndex := 16, attributes := #[] }, { accessFlags := 2, nameIndex := 22, descriptorIndex := 23, attributes := #[] }])
  fields := #[{ name := "sums", type := (.array .double), accessFlags := 18, slot := 0, constantValue := 0 }, { name := "counts", type := (.array .int), accessFlags := 18, slot := 1, constantValue := 0 }, { name := "documents", type := (.array .int), accessFlags := 18, slot := 2, constantValue := 0 }, { name := "size", type := .int, accessFlags := 2, slot := 3, constantValue := 0 }]
  methods := #[k2m0, k2m1, k2m2, k2m3, k2m4, k2m5]
  instanceTypes := #[(.array .double), (.array .int), (.array .int), .int]
  staticTypes := #[]
  resolved := Array.replicate 39 none
  statics := none }

def pool3 : Array CpInfo := pool [(1, u "java/lang/Cloneable"), (0, .class_ 1), (0, u "java/lang/Object"), (0, .class_ 3)] 3

/-- java/lang/Cloneable -/
def k3 : Class := { plain "java/lang/Cloneable" (some 0) with
  accessFlags := 1537
  interfaces := #[]
  cf := some (fileOf pool3 2 #[] #[] 1537 4 #[] #[])
  fields := #[]
  methods := #[]
  instanceTypes := #[]
  staticTypes := #[]
  resolved := Array.replicate 8 none
  statics := none }

def pool4 : Array CpInfo := pool [(1, u "java/io/Serializable"), (0, .class_ 1), (0, u "java/lang/Object"), (0, .class_ 3)] 3

/-- java/io/Serializable -/
def k4 : Class := { plain "java/io/Serializable" (some 0) with
  accessFlags := 1537
  interfaces := #[]
  cf := some (fileOf pool4 2 #[] #[] 1537 4 #[] #[])
  fields := #[]
  methods := #[]
  instanceTypes := #[]
  staticTypes := #[]
  resolved := Array.replicate 8 none
  statics := none }

/-- the primitive byte -/
def k5 : Class := { plain "byte" none with kind := .primitive 'B', accessFlags := 0x411 }
/-- [B -/
def k6 : Class := { plain "[B" (some 0) with kind := .array 5 .byte, interfaces := #[3, 4], accessFlags := 1041 }

/-- the primitive double -/
def k7 : Class := { plain "double" none with kind := .primitive 'D', accessFlags := 0x411 }
/-- [D -/
def k8 : Class := { plain "[D" (some 0) with kind := .array 7 .double, interfaces := #[3, 4], accessFlags := 1041 }

/-- the primitive int -/
def k9 : Class := { plain "int" none with kind := .primitive 'I', accessFlags := 0x411 }
/-- [I -/
def k10 : Class := { plain "[I" (some 0) with kind := .array 9 .int, interfaces := #[3, 4], accessFlags := 1041 }

def heap : Heap := #[]
def classes : Array Class := #[k0, k1, k2, k3, k4, k5, k6, k7, k8, k9, k10]
def interned : List (Array UInt16 × Addr) := []
def slotsUsed : Nat := 0
def theMethod : MethodId := ⟨1, 1⟩
def args0 : Array Value := #[.int 5, .int 300, .int 7, .int 300, .int 7]
def aboutOver (below : List Frame) : State where
  vm := { classes := classes, interned := interned.toArray }
  heap := heap
  slotsUsed := slotsUsed
  threads := #[{ frames := .invoking theMethod args0 :: below }]
def below0 : List Frame := [.native { method := ⟨0, 0⟩, args := #[] }]
def about1 : State := aboutOver below0
def p0 : Program := .bare "" "" ""
def e0 : Env := launch0.env 0 0 0
theorem w_frames : about1.frames = Frame.invoking theMethod args0 :: below0 := rfl
set_option maxRecDepth 65536 in
theorem w_args : argsFit about1.vm theMethod args0 = true := by decide +kernel
set_option maxRecDepth 65536 in
theorem w_heap : heapFits about1 = true := by decide +kernel
set_option maxRecDepth 65536 in
theorem w_runnable : about1.curStatus? = some .runnable := by decide +kernel
set_option maxRecDepth 65536 in
theorem w_alone : about1.alone = true := by decide +kernel
set_option maxRecDepth 65536 in
theorem w_named : about1.methodNamed? x = some theMethod := by decide +kernel
set_option maxRecDepth 65536 in
theorem w_hears : about1.hears theMethod below0 = true := by decide +kernel
set_option maxRecDepth 65536 in
theorem w_ripe : about1.ripe theMethod args0 below0 = true := by decide +kernel
theorem w_running : about1.status = .running := rfl
set_option maxRecDepth 65536 in
theorem w_room : about1.hasRoom e0.platform room_1 = true :=
  launch0.hasRoom_least _ room_1 (by decide +kernel) (by decide +kernel) (by decide +kernel) (by decide +kernel) (by decide +kernel) (by decide +kernel)
theorem allAtoms_all (ts : List Jvm.Cond) (a : Array Jvm.Value) (st : Jvm.State) : (allAtoms ts).before a st = ts.all (fun c => c.before a st) := by
  induction ts with
  | nil => rfl
  | cons c t ih =>
    show (Jvm.Cond.and c (allAtoms t)).before a st = _
    rw [Jvm.Cond.before_and, ih, List.all_cons]
def words1 : List Jvm.Cond := Jvm.Cond.code x code maxLocals ret :: tables_1
/-- a 'code' word, met by the world's own term for the bytes: nothing is compared byte by byte -/
theorem code_word {y : MethodName} {bytes : ByteArray} {mx : Nat} {rt : Option FieldType} {a : Array Value} {s : State} {m : MethodId} {meth : Method} {c : Code} (h1 : s.methodNamed? y = some m) (h2 : s.vm.method? m = some meth) (h3 : meth.code = some c) (h4 : c.code = bytes)
    (h5 : (c.maxLocals == mx && c.exceptionTable.isEmpty && decide (c.maxStack ≤ mostOperands) && decide (meth.sig.returnType = rt) && !meth.locks && decide (parseMethodDescriptor y.desc = some meth.sig)) = true) : (Jvm.Cond.code y bytes mx rt).before a s = true := by
  simp only [Bool.and_eq_true, beq_iff_eq, Bool.not_eq_true', decide_eq_true_eq] at h5
  obtain ⟨⟨⟨⟨⟨g1, g2⟩, g3⟩, g4⟩, g5⟩, g6⟩ := h5
  simp [Cond.before, Cond.holds, Cond.value, h1, h2, h3, h4, g1, g2, g3, g4, g5, g6]
def isCode : Jvm.Cond → Bool
  | .code _ _ _ _ => true
  | _ => false
theorem all_split {L : List Jvm.Cond} {P : Jvm.Cond → Bool} (h1 : L.all (fun c => isCode c || P c) = true) (h2 : ∀ c ∈ L.filter isCode, P c = true) : L.all P = true := by
  refine List.all_eq_true.mpr fun c hc => ?_
  have h := List.all_eq_true.mp h1 c hc
  rcases Bool.eq_false_or_eq_true (isCode c) with hi | hi
  · exact h2 c (List.mem_filter.mpr ⟨hc, hi⟩)
  · simpa [hi] using h
set_option maxRecDepth 65536 in
theorem w_c0 : (Jvm.Cond.code x code maxLocals ret).before args0 about1 = true := code_word (m := ⟨1, 1⟩) (meth := k1m1) (c := k1c1) (by decide +kernel) rfl rfl rfl (by decide +kernel)
set_option maxRecDepth 65536 in
theorem w_c1 : (Jvm.Cond.code ({ cls := "com/example/clirtools/clirtools/DocumentSums", name := "<init>", desc := "(I)V" } : Jvm.MethodName) prog_10_method_1_code (2 : Nat) (Option.none : Option Jvm.ClassFile.FieldType)).before args0 about1 = true := code_word (m := ⟨2, 0⟩) (meth := k2m0) (c := k2c0) (by decide +kernel) rfl rfl rfl (by decide +kernel)
set_option maxRecDepth 65536 in
theorem w_c2 : (Jvm.Cond.code ({ cls := "java/lang/Object", name := "<init>", desc := "()V" } : Jvm.MethodName) object_method_1_code (1 : Nat) (Option.none : Option Jvm.ClassFile.FieldType)).before args0 about1 = true := code_word (m := ⟨0, 0⟩) (meth := k0m0) (c := k0c0) (by decide +kernel) rfl rfl rfl (by decide +kernel)
set_option maxRecDepth 65536 in
theorem w_c3 : (Jvm.Cond.code ({ cls := "com/example/clirtools/clirtools/DocumentSums", name := "clear", desc := "()V" } : Jvm.MethodName) prog_10_method_7_code (3 : Nat) (Option.none : Option Jvm.ClassFile.FieldType)).before args0 about1 = true := code_word (m := ⟨2, 5⟩) (meth := k2m5) (c := k2c5) (by decide +kernel) rfl rfl rfl (by decide +kernel)
set_option maxRecDepth 65536 in
theorem w_c4 : (Jvm.Cond.code ({ cls := "com/example/clirtools/clirtools/DocumentSums", name := "size", desc := "()I" } : Jvm.MethodName) prog_10_method_3_code (1 : Nat) (Option.some Jvm.ClassFile.FieldType.int)).before args0 about1 = true := code_word (m := ⟨2, 2⟩) (meth := k2m2) (c := k2c2) (by decide +kernel) rfl rfl rfl (by decide +kernel)
set_option maxRecDepth 65536 in
theorem w_c5 : (Jvm.Cond.code ({ cls := "com/example/clirtools/clirtools/DocumentSums", name := "count", desc := "(I)I" } : Jvm.MethodName) prog_10_method_6_code (2 : Nat) (Option.some Jvm.ClassFile.FieldType.int)).before args0 about1 = true := code_word (m := ⟨2, 4⟩) (meth := k2m4) (c := k2c4) (by decide +kernel) rfl rfl rfl (by decide +kernel)
set_option maxRecDepth 65536 in
theorem w_c6 : (Jvm.Cond.code ({ cls := "com/example/clirtools/clirtools/DocumentSums", name := "sum", desc := "(I)D" } : Jvm.MethodName) prog_10_method_5_code (2 : Nat) (Option.some Jvm.ClassFile.FieldType.double)).before args0 about1 = true := code_word (m := ⟨2, 3⟩) (meth := k2m3) (c := k2c3) (by decide +kernel) rfl rfl rfl (by decide +kernel)
set_option maxRecDepth 65536 in
theorem w_c7 : (Jvm.Cond.code ({ cls := "com/example/clirtools/clirtools/DocumentSums", name := "add", desc := "(ID)V" } : Jvm.MethodName) prog_10_method_2_code (4 : Nat) (Option.none : Option Jvm.ClassFile.FieldType)).before args0 about1 = true := code_word (m := ⟨2, 1⟩) (meth := k2m1) (c := k2c1) (by decide +kernel) rfl rfl rfl (by decide +kernel)
def codes1 : List Jvm.Cond := [Jvm.Cond.code x code maxLocals ret, Jvm.Cond.code ({ cls := "com/example/clirtools/clirtools/DocumentSums", name := "<init>", desc := "(I)V" } : Jvm.MethodName) prog_10_method_1_code (2 : Nat) (Option.none : Option Jvm.ClassFile.FieldType), Jvm.Cond.code ({ cls := "java/lang/Object", name := "<init>", desc := "()V" } : Jvm.MethodName) object_method_1_code (1 : Nat) (Option.none : Option Jvm.ClassFile.FieldType), Jvm.Cond.code ({ cls := "com/example/clirtools/clirtools/DocumentSums", name := "clear", desc := "()V" } : Jvm.MethodName) prog_10_method_7_code (3 : Nat) (Option.none : Option Jvm.ClassFile.FieldType), Jvm.Cond.code ({ cls := "com/example/clirtools/clirtools/DocumentSums", name := "size", desc := "()I" } : Jvm.MethodName) prog_10_method_3_code (1 : Nat) (Option.some Jvm.ClassFile.FieldType.int), Jvm.Cond.code ({ cls := "com/example/clirtools/clirtools/DocumentSums", name := "count", desc := "(I)I" } : Jvm.MethodName) prog_10_method_6_code (2 : Nat) (Option.some Jvm.ClassFile.FieldType.int), Jvm.Cond.code ({ cls := "com/example/clirtools/clirtools/DocumentSums", name := "sum", desc := "(I)D" } : Jvm.MethodName) prog_10_method_5_code (2 : Nat) (Option.some Jvm.ClassFile.FieldType.double), Jvm.Cond.code ({ cls := "com/example/clirtools/clirtools/DocumentSums", name := "add", desc := "(ID)V" } : Jvm.MethodName) prog_10_method_2_code (4 : Nat) (Option.none : Option Jvm.ClassFile.FieldType)]
set_option maxRecDepth 65536 in
theorem codes_eq : words1.filter isCode = codes1 := rfl
theorem w_codes : ∀ c ∈ words1.filter isCode, c.before args0 about1 = true := by
  rw [codes_eq]
  intro c hc
  simp only [codes1, List.mem_cons, List.not_mem_nil, or_false] at hc
  rcases hc with rfl | rfl | rfl | rfl | rfl | rfl | rfl | rfl
  · exact w_c0
  · exact w_c1
  · exact w_c2
  · exact w_c3
  · exact w_c4
  · exact w_c5
  · exact w_c6
  · exact w_c7
set_option maxRecDepth 65536 in
theorem w_t1 : (words1.take 24).all (fun c => isCode c || c.before args0 about1) = true := by decide +kernel
set_option maxRecDepth 65536 in
theorem w_t2 : (words1.drop 24).all (fun c => isCode c || c.before args0 about1) = true := by decide +kernel
theorem w_tables : (allAtoms (Jvm.Cond.code x code maxLocals ret :: tables_1)).before args0 about1 = true := by
  rw [allAtoms_all]
  show words1.all (fun c => c.before args0 about1) = true
  refine all_split ?_ w_codes
  rw [← List.take_append_drop 24 words1, List.all_append, w_t1, w_t2]
  rfl
set_option maxRecDepth 65536 in
theorem w_case : (Jvm.Cond.and given_1 narrow_1).before args0 about1 = true := by decide +kernel
theorem w_applies : (headSpec (Jvm.Cond.code x code maxLocals ret :: tables_1) room_1).applies x e0.platform about1 = true :=
  (Spec.applies_iff w_frames).mpr ⟨w_running, w_runnable, w_alone, w_named, w_hears, w_ripe, w_room, w_tables⟩
theorem atStart : AtStart classFile x code maxLocals ret World_1 tables_1 room_1 Calls_1 rest_1 Pre_1 launch0 p0 e0 about1 theMethod args0 below0 :=
  ⟨lists_1, trivial, launch0.admits_env _ _ _, launch0.least_env, fairChoices_fair.cas, fairChoices_fair.clock, w_frames, w_args, w_heap, w_applies, trivial, trivial, w_case⟩
end start1
theorem witness_1 : WitnessClaimed_1 := ⟨start1.p0, start1.e0, start1.about1, start1.theMethod, start1.args0, start1.below0, start1.atStart⟩
end Jvm.Pilot.@@N@@
