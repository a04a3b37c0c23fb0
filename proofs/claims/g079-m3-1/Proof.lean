import JvmDerived
import JvmDerived.Pilot.@@N@@Statement
import JvmDerived.Pilot.@@N@@Code
set_option linter.unusedVariables false
set_option linter.unusedSimpArgs false
@@BLOCK:NumsL.lean.txt@@
namespace Jvm.Pilot.@@N@@
open Jvm Jvm.ClassFile Sem Op Lib Jvm.Free Jvm.Stand Jvm.LawKit Jvm.RoadKit Bundle Jvm.Pilot.@@N@@.Jvm.D
section OwnGo
variable {p : Program} {l : Launch} {e : Env} {R : Room} {s : State} {m : MethodId} {args : Array Value} {below : List Frame} {meth : Method} {c : Code} {T T' : State} {locs : List Loc} {cells slots K1 K2 : Nat} {Q : Option Value → Heap → List Loc → Prop}
/-- from T at the frame f the run comes to an end that meets Q -/
def Go (p : Program) (e : Env) (below : List Frame) (s : State) (K1 K2 : Nat) (Q : Option Value → Heap → List Loc → Prop) (T : State) (f : JFrame) : Prop :=
  ∃ s₂ o, Steps p.tables e below (T.setTop f) s₂ ∧ s₂.status = .running ∧ Ended s₂ below o ∧ ∃ v L, o = .returned v ∧ Q v s₂.heap L ∧ FrameEnd s o s₂ L K1 K2
theorem Go.on {f f' : JFrame} (h : ∀ t, Steps p.tables e below (T'.setTop f') t → Steps p.tables e below (T.setTop f) t) (g : Go p e below s K1 K2 Q T' f') : Go p e below s K1 K2 Q T f := by
  obtain ⟨s₂, o, h1, r⟩ := g
  exact ⟨s₂, o, h _ h1, r⟩
theorem Go.cast {f f' : JFrame} (h : f = f') (g : Go p e below s K1 K2 Q T f') : Go p e below s K1 K2 Q T f := h ▸ g
theorem Go.gen {f : JFrame} (h : ∀ k1 k2 q, k1 = K1 → k2 = K2 → Q = q → Go p e below s k1 k2 q T f) : Go p e below s K1 K2 Q T f := h _ _ _ rfl rfl rfl
theorem Go.retV (X : Stand p l e R s m args below meth c T locs cells slots) (hx : p.tables.exec = Jvm.exec) {pc : Nat} {Ls : Array Slot} {w : Value} {t : FieldType} {i : Instr} {rest : List Value} (hret : meth.sig.returnType = some t) (hn : narrow t w = w)
    (hi : (i = .ireturn ∧ (t = .int ∨ t = .boolean ∨ t = .byte ∨ t = .char ∨ t = .short) ∧ ∃ z, w = .int z) ∨ (i = .lreturn ∧ t = .long ∧ ∃ z, w = .long z) ∨ (i = .dreturn ∧ t = .double ∧ ∃ z, w = .double z) ∨ (i = .freturn ∧ t = .float ∧ ∃ z, w = .float z) ∨ (i = .areturn ∧ t.isReference = true ∧ w.isRef = true))
    (hd : decode c.code pc = .ok (i, 1)) (hq : Q (some w) T.heap locs) (hc : cells ≤ K1) (hs : slots ≤ K2) (hlk : meth.locks = false := by assumption) : Go p e below s K1 K2 Q T (mkF m pc Ls (w :: rest)) := by
  obtain ⟨fs, hr, hrun, hended, hW, hsame⟩ := X.leave (v := some w) (fun h => by rw [hret] at h; cases h) hlk
  exact ⟨_, _, retOut X hx hret hn hi hd hr, hrun, hended, _, _, rfl, hq, ⟨_, rfl⟩, hW, hsame.mono hc hs⟩
theorem Go.retN (X : Stand p l e R s m args below meth c T locs cells slots) (hx : p.tables.exec = Jvm.exec) {pc : Nat} {Ls : Array Slot} {z : Int32} {t : FieldType} {rest : List Value} (hret : meth.sig.returnType = some t) (ht : t = .boolean ∨ t = .byte ∨ t = .char ∨ t = .short)
    (hd : decode c.code pc = .ok (.ireturn, 1)) (hq : Q (some (.int (nar t z))) T.heap locs) (hc : cells ≤ K1) (hs : slots ≤ K2) (hlk : meth.locks = false := by assumption) : Go p e below s K1 K2 Q T (mkF m pc Ls (.int z :: rest)) := by
  obtain ⟨fs, hr, hrun, hended, hW, hsame⟩ := X.leave (v := some (.int (nar t z))) (fun h => by rw [hret] at h; cases h) hlk
  exact ⟨_, _, Jvm.RoadKit.retN X hx hret ht hd hr, hrun, hended, _, _, rfl, hq, ⟨_, rfl⟩, hW, hsame.mono hc hs⟩
theorem Go.ret0 (X : Stand p l e R s m args below meth c T locs cells slots) (hx : p.tables.exec = Jvm.exec) {pc : Nat} {Ls : Array Slot} (hret : meth.sig.returnType = none)
    (hd : decode c.code pc = .ok (.return_, 1)) (hq : Q none T.heap locs) (hc : cells ≤ K1) (hs : slots ≤ K2) (hlk : meth.locks = false := by assumption) : Go p e below s K1 K2 Q T (mkF m pc Ls []) := by
  obtain ⟨fs, hr, hrun, hended, hW, hsame⟩ := X.leave (v := none) (fun _ => rfl) hlk
  exact ⟨_, _, X.returnOut hx hret hd hr, hrun, hended, _, _, rfl, hq, ⟨_, rfl⟩, hW, hsame.mono hc hs⟩
theorem own_lc_lt {a b : Int64} : lcmpW a b < 0 ↔ a < b := by rw [lcW]; exact lc_lt a b
theorem own_lc_gt {a b : Int64} : 0 < lcmpW a b ↔ b < a := by rw [lcW]; exact lc_gt a b
theorem own_lc_eq {a b : Int64} : lcmpW a b = 0 ↔ a = b := by rw [lcW]; exact lc_eq a b
theorem own_lremM {g : JFrame} {target : State} (X : Stand p l e R s m args below meth c T locs cells slots) (hx : p.tables.exec = Jvm.exec) (hg : g.method = m) {x y : Int64} {rest : List Value} (hd : decode c.code g.pc = .ok (.lrem, 1)) (hs : g.stack = .long y :: .long x :: rest) (hy : y ≠ 0)
    (hr : Steps p.tables e below (T.setTop { g with pc := g.pc + 1, stack := .long (x % y) :: rest }) target) : Steps p.tables e below (T.setTop g) target := by
  have q : x - x / y * y = x % y := by
    apply Int64.toInt_inj.mp
    have h1 := Int64.le_toInt (x % y)
    have h2 := Int64.toInt_lt (x % y)
    rw [Int64.toInt_sub, Int64.toInt_mul, Int64.toInt_div, Int.bmod_mul_bmod, Int.sub_bmod_bmod, Int.mul_comm (x.toInt.tdiv y.toInt), ← Int.tmod_def, ← Int64.toInt_mod]
    exact Int.bmod_eq_of_le_mul_two (by omega) (by omega)
  exact XS.lrem X.here hx hg hd hs hy (by rw [q]; exact hr)
theorem own_cl_gt {o : Option Ordering} : 0 < cmpValue o .l ↔ o = some .gt := by rcases o with _ | (_ | _ | _) <;> decide
theorem own_cl_lt {o : Option Ordering} : cmpValue o .l < 0 ↔ ¬ (o = some .gt ∨ o = some .eq) := by rcases o with _ | (_ | _ | _) <;> decide
theorem own_cg_lt {o : Option Ordering} : cmpValue o .g < 0 ↔ o = some .lt := by rcases o with _ | (_ | _ | _) <;> decide
theorem own_cg_gt {o : Option Ordering} : 0 < cmpValue o .g ↔ ¬ (o = some .lt ∨ o = some .eq) := by rcases o with _ | (_ | _ | _) <;> decide
theorem own_c_eq {o : Option Ordering} {k : CmpOp} : cmpValue o k = 0 ↔ o = some .eq := by cases k <;> rcases o with _ | (_ | _ | _) <;> decide
end OwnGo
section OwnFp
open Jvm.FP.Core
variable {a b V : UInt64} {x y z v : Int}
/-- the double a is finite and worth x units of 2^-1074 -/
def ZV (a : UInt64) (x : Int) : Prop := DFin a ∧ zval b64 (val64 a) = x
theorem ZV.ne (h : ZV a x) : val64 a ≠ .nan := h.1.ne_nan
theorem ZV.nn (h : ZV a x) : Jvm.Free.Fl.NoNaN64 a := Jvm.Free.Fl.noNaN64_no.mpr h.1.notNaN
theorem ZV.cmp (ha : ZV a x) (hb : ZV b y) : FP.dcmp a b = some (compare x y) := by
  show FP.Core.dcmp a b = _
  rw [dcmp_zval ha.ne hb.ne, ha.2, hb.2]
theorem ZV.uniq (ha : ZV a x) (hb : ZV a y) : x = y := ha.2.symm.trans hb.2
theorem own_fin_of {W : UInt64} (hn : val64 a ≠ .nan) (hW : DFin W) (h : zmag b64 (val64 a) ≤ zmag b64 (val64 W)) : DFin a := by
  cases h2 : val64 a with
  | nan => exact absurd h2 hn
  | inf s =>
    rw [h2] at h
    have := hW.zval_lt
    have e : zmag b64 (.inf s) = b64.tails * 2 ^ (b64.exps - 2) := rfl
    rw [e] at h
    omega
  | fin s c q => exact ⟨s, c, q, h2⟩
theorem own_natAbs (d : Datum) : (zval b64 d).natAbs = zmag b64 d := natAbs_signed _ _
theorem own_fin_of_z {W : UInt64} (hn : val64 a ≠ .nan) (hW : DFin W) (h : (zval b64 (val64 a)).natAbs ≤ (zval b64 (val64 W)).natAbs) : DFin a := by
  rw [own_natAbs, own_natAbs] at h; exact own_fin_of hn hW h
theorem ZV.add (ha : ZV a x) (hb : ZV b y) (hv : ZV V (x + y)) : ZV (FP.dadd a b) (x + y) := by
  have hn : val64 (FP.Core.dadd a b) ≠ .nan := (notNaN_iff _).mp (FP.Core.dadd_out ha.1.notNaN hb.1)
  have e : zval b64 (val64 (FP.Core.dadd a b)) = x + y := by
    have h1 := sum_le good_b64 ha.1 hb.1 (val64_fits a) (val64_fits b) (val64_fits V) hv.ne (by rw [ha.2, hb.2, hv.2]; exact Int.le_refl _)
    have h2 := sum_ge good_b64 ha.1 hb.1 (val64_fits a) (val64_fits b) (val64_fits V) hv.ne (by rw [ha.2, hb.2, hv.2]; exact Int.le_refl _)
    rw [← val64_dadd, hv.2] at h1 h2
    exact Int.le_antisymm h1 h2
  exact ⟨own_fin_of_z hn hv.1 (by rw [e, hv.2]; exact Nat.le_refl _), e⟩
theorem own_neg_fin {d : Datum} (h : ∃ s c q, d = .fin s c q) : ∃ s c q, negate d = .fin s c q := by
  obtain ⟨s, c, q, rfl⟩ := h; exact ⟨_, _, _, rfl⟩
theorem ZV.sub (ha : ZV a x) (hb : ZV b y) (hv : ZV V (x - y)) : ZV (FP.dsub a b) (x - y) := by
  have hn : val64 (FP.Core.dsub a b) ≠ .nan := (notNaN_iff _).mp (FP.Core.dsub_out ha.1.notNaN hb.1)
  have e : zval b64 (val64 (FP.Core.dsub a b)) = x - y := by
    have h1 := sum_le good_b64 ha.1 (own_neg_fin hb.1) (val64_fits a) (negate_fits (val64_fits b)) (val64_fits V) hv.ne (by rw [ha.2, zval_negate, hb.2, hv.2]; omega)
    have h2 := sum_ge good_b64 ha.1 (own_neg_fin hb.1) (val64_fits a) (negate_fits (val64_fits b)) (val64_fits V) hv.ne (by rw [ha.2, zval_negate, hb.2, hv.2]; omega)
    rw [← val64_dsub, hv.2] at h1 h2
    exact Int.le_antisymm h1 h2
  exact ⟨own_fin_of_z hn hv.1 (by rw [e, hv.2]; exact Nat.le_refl _), e⟩
/-- a sum or a difference lies between what bounds it -/
theorem ZV.add_le (ha : ZV a x) (hb : ZV b y) (hv : ZV V v) (h : x + y ≤ v) : zval b64 (val64 (FP.dadd a b)) ≤ v := by
  have h1 := sum_le good_b64 ha.1 hb.1 (val64_fits a) (val64_fits b) (val64_fits V) hv.ne (by rw [ha.2, hb.2, hv.2]; exact h)
  rw [← val64_dadd, hv.2] at h1; exact h1
theorem ZV.add_ge (ha : ZV a x) (hb : ZV b y) (hv : ZV V v) (h : v ≤ x + y) : v ≤ zval b64 (val64 (FP.dadd a b)) := by
  have h1 := sum_ge good_b64 ha.1 hb.1 (val64_fits a) (val64_fits b) (val64_fits V) hv.ne (by rw [ha.2, hb.2, hv.2]; exact h)
  rw [← val64_dadd, hv.2] at h1; exact h1
theorem ZV.sub_le (ha : ZV a x) (hb : ZV b y) (hv : ZV V v) (h : x - y ≤ v) : zval b64 (val64 (FP.dsub a b)) ≤ v := by
  have h1 := sum_le good_b64 ha.1 (own_neg_fin hb.1) (val64_fits a) (negate_fits (val64_fits b)) (val64_fits V) hv.ne (by rw [ha.2, zval_negate, hb.2, hv.2]; omega)
  rw [← val64_dsub, hv.2] at h1; exact h1
theorem ZV.sub_ge (ha : ZV a x) (hb : ZV b y) (hv : ZV V v) (h : v ≤ x - y) : v ≤ zval b64 (val64 (FP.dsub a b)) := by
  have h1 := sum_ge good_b64 ha.1 (own_neg_fin hb.1) (val64_fits a) (negate_fits (val64_fits b)) (val64_fits V) hv.ne (by rw [ha.2, zval_negate, hb.2, hv.2]; omega)
  rw [← val64_dsub, hv.2] at h1; exact h1
/-- the product's bounds -/
theorem own_mul_le (ha : ZV a x) (hb : ZV b y) (hv : ZV V v) (h : x * y ≤ v * (one64 : Int)) : zval b64 (val64 (FP.dmul a b)) ≤ v := by
  obtain ⟨⟨s, c, q, h1⟩, ex⟩ := ha
  obtain ⟨⟨t, d, r, h2⟩, ey⟩ := hb
  have f1 := val64_fits a; have f2 := val64_fits b
  rw [h1] at f1 ex; rw [h2] at f2 ey
  obtain ⟨p1, p2, p3⟩ := product_units f1 f2
  show zval b64 (val64 (FP.Core.dmul a b)) ≤ v
  rw [val64_dmul, h1, h2, p1, ← hv.2]
  refine zval_round_le good_b64 (val64_fits V) hv.ne (e0 := 2 * b64.qmin) (by decide) p2 ?_
  rw [p3, show (b64.qmin - 2 * b64.qmin).toNat = (-b64.qmin).toNat from by decide, pow_qmin64, hv.2, signed_xor]
  have : zval b64 (.fin s c q) * zval b64 (.fin t d r) ≤ v * (one64 : Int) := by rw [ex, ey]; exact h
  exact this
theorem own_mul_ge (ha : ZV a x) (hb : ZV b y) (hv : ZV V v) (h : v * (one64 : Int) ≤ x * y) : v ≤ zval b64 (val64 (FP.dmul a b)) := by
  obtain ⟨⟨s, c, q, h1⟩, ex⟩ := ha
  obtain ⟨⟨t, d, r, h2⟩, ey⟩ := hb
  have f1 := val64_fits a; have f2 := val64_fits b
  rw [h1] at f1 ex; rw [h2] at f2 ey
  obtain ⟨p1, p2, p3⟩ := product_units f1 f2
  show v ≤ zval b64 (val64 (FP.Core.dmul a b))
  rw [val64_dmul, h1, h2, p1, ← hv.2]
  refine zval_round_ge good_b64 (val64_fits V) hv.ne (e0 := 2 * b64.qmin) (by decide) p2 ?_
  rw [p3, show (b64.qmin - 2 * b64.qmin).toNat = (-b64.qmin).toNat from by decide, pow_qmin64, hv.2, signed_xor]
  have : v * (one64 : Int) ≤ zval b64 (.fin s c q) * zval b64 (.fin t d r) := by rw [ex, ey]; exact h
  exact this
theorem ZV.mul (ha : ZV a x) (hb : ZV b y) (hv : ZV V z) (h : x * y = z * (one64 : Int)) : ZV (FP.dmul a b) z := by
  have hn : val64 (FP.Core.dmul a b) ≠ .nan := (notNaN_iff _).mp (FP.Core.dmul_out ha.1 hb.1)
  have e : zval b64 (val64 (FP.Core.dmul a b)) = z := Int.le_antisymm (own_mul_le ha hb hv (Int.le_of_eq h)) (own_mul_ge ha hb hv (Int.le_of_eq h.symm))
  exact ⟨own_fin_of_z hn hv.1 (by rw [e, hv.2]; exact Nat.le_refl _), e⟩
/-- the quotient of finite doubles, the divisor not nought: its datum -/
theorem own_quot (ha : ZV a x) (hb : ZV b y) (hy : y ≠ 0) : ∃ s c q t d r, val64 a = .fin s c q ∧ val64 b = .fin t d r ∧ 0 < d ∧ val64 (FP.ddiv a b) = roundRatio b64 (s != t) c d (q - r) ∧ FP.Core.fits b64 (.fin s c q) ∧ FP.Core.fits b64 (.fin t d r) := by
  obtain ⟨⟨s, c, q, h1⟩, ex⟩ := ha
  obtain ⟨⟨t, d, r, h2⟩, ey⟩ := hb
  have f1 := val64_fits a; have f2 := val64_fits b
  rw [h1] at f1; rw [h2] at f2
  have hd : d ≠ 0 := fun q => by
    subst q
    rw [h2] at ey
    apply hy; rw [← ey]; show signed t (inUnits 0 r _) = 0
    unfold inUnits; rw [Nat.zero_mul, signed_zero]
  refine ⟨s, c, q, t, d, r, h1, h2, Nat.pos_of_ne_zero hd, ?_, f1, f2⟩
  show val64 (FP.Core.ddiv a b) = _
  rw [val64_ddiv, h1, h2]
  show (if d = 0 then _ else _) = _
  rw [if_neg hd]
theorem own_div_mag_le {c d : Nat} {q r : Int} {s t sg : Bool} (f1 : FP.Core.fits b64 (.fin s c q)) (f2 : FP.Core.fits b64 (.fin t d r)) (hd : 0 < d) {W : Datum} (fW : FP.Core.fits b64 W) (hW : W ≠ .nan)
    (h : inUnits c q b64.qmin * one64 ≤ zmag b64 W * inUnits d r b64.qmin) : zmag b64 (roundRatio b64 sg c d (q - r)) ≤ zmag b64 W := by
  have h1 := f1.2.1
  have h2 := f2.2.1
  have hq : b64.qmin < 0 := by decide
  refine zmag_roundRatio_le good_b64 hd fW hW (e0 := 2 * b64.qmin - r) (by omega) (by omega) ?_
  have e1 : (b64.qmin - (2 * b64.qmin - r)).toNat = (r - b64.qmin).toNat := by congr 1; omega
  rw [e1]
  have e2 : inUnits c (q - r) (2 * b64.qmin - r) = inUnits c q b64.qmin * one64 := by
    unfold inUnits
    rw [← pow_qmin64, Nat.mul_assoc, ← Nat.pow_add]
    congr 2; omega
  rw [e2]
  refine Nat.le_trans h (Nat.le_of_eq ?_)
  unfold inUnits
  rw [Nat.mul_comm d, Nat.mul_assoc]
theorem own_div_mag_ge {c d : Nat} {q r : Int} {s t sg : Bool} (f1 : FP.Core.fits b64 (.fin s c q)) (f2 : FP.Core.fits b64 (.fin t d r)) (hd : 0 < d) {W : Datum} (fW : FP.Core.fits b64 W)
    (h : zmag b64 W * inUnits d r b64.qmin ≤ inUnits c q b64.qmin * one64) : zmag b64 W ≤ zmag b64 (roundRatio b64 sg c d (q - r)) := by
  have h1 := f1.2.1
  have h2 := f2.2.1
  have hq : b64.qmin < 0 := by decide
  refine zmag_roundRatio_ge good_b64 hd fW (e0 := 2 * b64.qmin - r) (by omega) (by omega) ?_
  have e1 : (b64.qmin - (2 * b64.qmin - r)).toNat = (r - b64.qmin).toNat := by congr 1; omega
  rw [e1]
  have e2 : inUnits c (q - r) (2 * b64.qmin - r) = inUnits c q b64.qmin * one64 := by
    unfold inUnits
    rw [← pow_qmin64, Nat.mul_assoc, ← Nat.pow_add]
    congr 2; omega
  rw [e2]
  refine Nat.le_trans (Nat.le_of_eq ?_) h
  unfold inUnits
  rw [Nat.mul_comm d, Nat.mul_assoc]
/-- what is said of a quotient: r its units -/
def Quo (x y r : Int) : Prop := ∀ (V : UInt64) (v : Int), ZV V v → (x * (one64 : Int) ≤ v * y → r ≤ v) ∧ (v * y ≤ x * (one64 : Int) → v ≤ r)
theorem own_sgn_z (s : Bool) (m : Nat) : signed s m = if s then -(m : Int) else m := rfl
theorem ZV.neg_ex (h : ZV a x) : ∃ V, ZV V (-x) := by
  refine ⟨FP.Core.dneg a, ?_, ?_⟩
  · obtain ⟨⟨s, c, q, h1⟩, -⟩ := h; exact ⟨!s, c, q, by rw [val64_dneg, h1]; rfl⟩
  · rw [val64_dneg, zval_negate, h.2]
theorem own_mag {s : Bool} {c : Nat} {q : Int} : zval b64 (.fin s c q) = signed s (inUnits c q b64.qmin) := rfl
/-- the quotient by a positive double of at least one -/
theorem ZV.div (ha : ZV a x) (hb : ZV b y) (hy : (one64 : Int) ≤ y) : ∃ r, ZV (FP.ddiv a b) r ∧ Quo x y r := by
  have o1 := one64_pos
  obtain ⟨s, c, q, t, d, r, h1, h2, hd, h3, f1, f2⟩ := own_quot ha hb (by omega)
  have ey := hb.2; rw [h2, own_mag] at ey
  have ex := ha.2; rw [h1, own_mag] at ex
  have t0 : t = false := by
    cases t
    · rfl
    · simp only [own_sgn_z, if_true] at ey; omega
  subst t0
  have hy0 : (0 : Int) < y := by omega
  have ey' : ((inUnits d r b64.qmin : Nat) : Int) = y := ey
  generalize hu : inUnits d r b64.qmin = u at *
  generalize hc : inUnits c q b64.qmin = k at *
  have hsg : sgn (val64 (FP.ddiv a b)) = s := by rw [h3, sgn_roundRatio]; cases s <;> rfl
  have hne : val64 (FP.ddiv a b) ≠ .nan := by rw [h3]; exact roundRatio_ne_nan _ _ _ _ _
  have hz : zval b64 (val64 (FP.ddiv a b)) = signed s (zmag b64 (val64 (FP.ddiv a b))) := by rw [zval, hsg]
  have up : ∀ W : UInt64, val64 W ≠ .nan → k * one64 ≤ zmag b64 (val64 W) * u → zmag b64 (val64 (FP.ddiv a b)) ≤ zmag b64 (val64 W) := fun W hW h => by
    rw [h3]; exact own_div_mag_le f1 f2 hd (val64_fits W) hW (by rw [hu, hc]; exact h)
  have dn : ∀ W : UInt64, zmag b64 (val64 W) * u ≤ k * one64 → zmag b64 (val64 W) ≤ zmag b64 (val64 (FP.ddiv a b)) := fun W h => by
    rw [h3]; exact own_div_mag_ge f1 f2 hd (val64_fits W) (by rw [hu, hc]; exact h)
  have hk : k = zmag b64 (val64 a) := by rw [h1]; exact hc.symm
  have hfin : DFin (FP.ddiv a b) := own_fin_of hne ha.1 (up a ha.ne (by rw [← hk]; exact Nat.mul_le_mul_left _ (by omega)))
  refine ⟨_, ⟨hfin, rfl⟩, fun V v hv => ?_⟩
  rw [hz]
  generalize hm : zmag b64 (val64 (FP.ddiv a b)) = m at *
  have hV := own_natAbs (val64 V)
  rw [hv.2] at hV
  have upV := up V hv.ne
  have dnV := dn V
  rw [← hV] at upV dnV
  clear up dn
  have cast : ∀ p q : Nat, ((p * q : Nat) : Int) = (p : Int) * q := fun p q => by simp
  cases s
  · have ex' : (k : Int) = x := ex
    have em : signed false m = (m : Int) := rfl
    rw [em]
    constructor
    · intro h
      by_cases hv0 : 0 ≤ v
      · have e1 : (v.natAbs : Int) = v := Int.natAbs_of_nonneg hv0
        have : k * one64 ≤ v.natAbs * u := by apply Int.ofNat_le.mp; rw [cast, cast, ex', e1, ey']; exact h
        have := upV this; omega
      · exfalso
        have h5 : v * y < 0 := Int.mul_neg_of_neg_of_pos (by omega) hy0
        have h6 : 0 ≤ x * (one64 : Int) := Int.mul_nonneg (by omega) (by omega)
        omega
    · intro h
      by_cases hv0 : 0 ≤ v
      · have e1 : (v.natAbs : Int) = v := Int.natAbs_of_nonneg hv0
        have : v.natAbs * u ≤ k * one64 := by apply Int.ofNat_le.mp; rw [cast, cast, ex', e1, ey']; exact h
        have := dnV this; omega
      · omega
  · have ex' : -(k : Int) = x := ex
    have em : signed true m = -(m : Int) := rfl
    rw [em]
    have ek : (k : Int) = -x := by omega
    constructor
    · intro h
      by_cases hv0 : 0 ≤ v
      · omega
      · have e1 : (v.natAbs : Int) = -v := by omega
        have : v.natAbs * u ≤ k * one64 := by
          apply Int.ofNat_le.mp; rw [cast, cast, ek, e1, ey', Int.neg_mul, Int.neg_mul]; omega
        have := dnV this; omega
    · intro h
      by_cases hv0 : v ≤ 0
      · have e1 : (v.natAbs : Int) = -v := by omega
        have : k * one64 ≤ v.natAbs * u := by
          apply Int.ofNat_le.mp; rw [cast, cast, ek, e1, ey', Int.neg_mul, Int.neg_mul]; omega
        have := upV this; omega
      · exfalso
        have h5 : 0 < v * y := Int.mul_pos (by omega) hy0
        have h6 : x * (one64 : Int) ≤ 0 := by
          have : 0 ≤ (k : Int) * (one64 : Int) := Int.mul_nonneg (by omega) (by omega)
          rw [ek, Int.neg_mul] at this; omega
        omega
theorem ZV.div_exact (ha : ZV a x) (hb : ZV b y) (hy : (one64 : Int) ≤ y) (hv : ZV V z) (h : x * (one64 : Int) = z * y) : ZV (FP.ddiv a b) z := by
  obtain ⟨r, h1, h2⟩ := ha.div hb hy
  have h3 := h2 V z hv
  have : r = z := Int.le_antisymm (h3.1 (Int.le_of_eq h)) (h3.2 (Int.le_of_eq h.symm))
  exact this ▸ h1
/-- i * 2^k units are a double -/
theorem own_rep (i : Int) (k : Nat) (hi : i.natAbs < 2 ^ 53) (hk : k ≤ 2045) : ∃ V, ZV V (i * ((2 ^ k : Nat) : Int)) := by
  obtain ⟨c', q', h1, h2⟩ := round_exact good_b64 (decide (i < 0)) (c := i.natAbs) (q := (k : Int) + b64.qmin) hi (by omega) (by rw [show b64.qmax = 971 from by decide, qmin_b64]; omega)
  have hf : FP.Core.fits b64 (.fin (decide (i < 0)) c' q') := by rw [← h1]; exact round_fits good_b64 _
  refine ⟨of64 (.fin (decide (i < 0)) c' q'), ⟨_, _, _, val64_of64 hf⟩, ?_⟩
  rw [val64_of64 hf, own_mag, h2]
  unfold inUnits
  rw [show ((k : Int) + b64.qmin - b64.qmin).toNat = k from by omega, signed_mul, own_sgn_z]
  congr 1
  by_cases h : i < 0
  · simp only [h, decide_true, if_true]; omega
  · simp only [h, decide_false]; simp only [Bool.false_eq_true, if_false]; omega
theorem own_one64 : (one64 : Int) = ((2 ^ 1074 : Nat) : Int) := rfl
theorem ZV.of_int {i : Int} (h : DInt i a) : ZV a (i * (one64 : Int)) := by
  refine ⟨?_, DInt_zval h⟩
  unfold DInt at h
  cases h2 : val64 a with
  | nan => rw [h2] at h; exact h.elim
  | inf s => rw [h2] at h; exact h.elim
  | fin s c q => exact ⟨s, c, q, h2⟩
theorem own_i2d (n : Int32) : ZV (FP.i2d n) (n.toInt * (one64 : Int)) := ZV.of_int (i2d_int n)
theorem own_l2d {n : Int64} (h : n.toInt.natAbs ≤ 2 ^ 53) : ZV (FP.l2d n) (n.toInt * (one64 : Int)) := ZV.of_int (l2d_int h)
theorem own_ddiv_nn (ha : DFin a) (hb : DFin b) : FP.ddiv (FP.Core.dneg a) (FP.Core.dneg b) = FP.ddiv a b ∨ val64 (FP.ddiv a b) = .nan := by
  by_cases hn : val64 (FP.ddiv a b) = .nan
  · exact Or.inr hn
  · refine Or.inl (val64_inj hn ?_).symm
    obtain ⟨s, c, q, h1⟩ := ha
    obtain ⟨t, d, r, h2⟩ := hb
    show val64 (FP.Core.ddiv a b) = val64 (FP.Core.ddiv _ _)
    rw [val64_ddiv, val64_ddiv, val64_dneg, val64_dneg, h1, h2]
    show quotient b64 (.fin s c q) (.fin t d r) = quotient b64 (.fin (!s) c q) (.fin (!t) d r)
    simp only [quotient]
    have : ((!s) != (!t)) = (s != t) := by cases s <;> cases t <;> rfl
    rw [this]
theorem ZV.dneg (h : ZV a x) : ZV (FP.Core.dneg a) (-x) := by
  refine ⟨?_, by rw [val64_dneg, zval_negate, h.2]⟩
  obtain ⟨⟨s, c, q, h1⟩, -⟩ := h; exact ⟨!s, c, q, by rw [val64_dneg, h1]; rfl⟩
/-- the quotient by a negative double of at most minus one -/
theorem ZV.div_neg (ha : ZV a x) (hb : ZV b y) (hy : y ≤ -(one64 : Int)) : ∃ r, ZV (FP.ddiv a b) r ∧ Quo (-x) (-y) r := by
  obtain ⟨r, h1, h2⟩ := ha.dneg.div hb.dneg (by omega)
  have o1 := one64_pos
  obtain ⟨s, c, q, t, d, r', -, -, -, h3, -⟩ := own_quot ha hb (by omega)
  rcases own_ddiv_nn ha.1 hb.1 with h | h
  · exact ⟨r, h ▸ h1, h2⟩
  · rw [h3] at h; exact absurd h (roundRatio_ne_nan _ _ _ _ _)
/-- n / D against i / 2^j -/
theorem own_quo_int {n D r : Int} (h : Quo (n * (one64 : Int)) (D * (one64 : Int)) r) (i : Int) (j : Nat) (hj : j ≤ 1074) (hi : i.natAbs < 2 ^ 53) :
    (n * ((2 ^ j : Nat) : Int) ≤ i * D → r ≤ i * ((2 ^ (1074 - j) : Nat) : Int)) ∧ (i * D ≤ n * ((2 ^ j : Nat) : Int) → i * ((2 ^ (1074 - j) : Nat) : Int) ≤ r) := by
  obtain ⟨V, hV⟩ := own_rep i (1074 - j) hi (by omega)
  have q := h V _ hV
  have e : (one64 : Int) = ((2 ^ j : Nat) : Int) * ((2 ^ (1074 - j) : Nat) : Int) := by
    rw [own_one64, ← Int.natCast_mul, ← Nat.pow_add]; congr 2; omega
  have hu : (0 : Int) ≤ ((2 ^ (1074 - j) : Nat) : Int) * (one64 : Int) := Int.mul_nonneg (Int.natCast_nonneg _) (Int.natCast_nonneg _)
  have e1 : n * (one64 : Int) * (one64 : Int) = n * ((2 ^ j : Nat) : Int) * (((2 ^ (1074 - j) : Nat) : Int) * (one64 : Int)) := by
    conv => lhs; arg 1; rw [e]
    rw [← Int.mul_assoc n, Int.mul_assoc (n * _)]
  have e2 : i * ((2 ^ (1074 - j) : Nat) : Int) * (D * (one64 : Int)) = i * D * (((2 ^ (1074 - j) : Nat) : Int) * (one64 : Int)) := by rw [Int.mul_assoc i, Int.mul_left_comm _ D, ← Int.mul_assoc i D]
  rw [e1, e2] at q
  exact ⟨fun z => q.1 (Int.mul_le_mul_of_nonneg_right z hu), fun z => q.2 (Int.mul_le_mul_of_nonneg_right z hu)⟩
theorem own_zero : ZV (0 : UInt64) 0 := ⟨⟨_, _, _, val64_zero⟩, zval64_zero⟩
theorem own_one : ZV (4607182418800017408 : UInt64) (one64 : Int) := by
  have := ZV.of_int dint_one; rwa [Int.one_mul] at this
theorem own_cmp_gt {x y : Int} : some (compare x y) = some Ordering.gt ↔ y < x := by rw [Option.some.injEq]; exact compare_gt_iff x y
theorem own_cmp_lt {x y : Int} : some (compare x y) = some Ordering.lt ↔ x < y := by rw [Option.some.injEq]; exact compare_lt_iff x y
theorem own_cmp_eq {x y : Int} : some (compare x y) = some Ordering.eq ↔ x = y := by rw [Option.some.injEq]; exact compare_eq_iff x y
theorem own_dnn {i : Int} {a : UInt64} (h : DInt i a) : Jvm.Free.Fl.NoNaN64 a := (ZV.of_int h).nn
theorem own_nnd' {a : UInt64} (ha : DFin a) (n : Int32) (hn : n ≠ 0) : Jvm.Free.Fl.NoNaN64 (FP.ddiv a (FP.i2d n)) :=
  Jvm.Free.Fl.noNaN64_no.mpr (FP.Core.ddiv_out ha.notNaN (i2d_fin n) (fun q => i2d_ne_zero hn (by rwa [zero_bits2] at q)))
theorem own_nnd (s : Int64) (n : Int32) (hn : n ≠ 0) : Jvm.Free.Fl.NoNaN64 (FP.ddiv (FP.l2d s) (FP.i2d n)) := own_nnd' (l2d_fin s) n hn
theorem own_dz : DInt 0 (0 : UInt64) := by
  have : (0 : UInt64) = FP.l2d 0 := FP.Core.l2d_zero.symm
  rw [this]; exact l2d_int (a := 0) (by decide)
theorem own_div_eq {S S' : UInt64} {s : Int} (h : DInt s S) (h' : DInt s S') (n : Int32) (hn : 1 ≤ n.toInt) : FP.dcmp (FP.ddiv S (FP.i2d n)) (FP.ddiv S' (FP.i2d n)) = some .eq := by
  have hy : (one64 : Int) ≤ n.toInt * (one64 : Int) := by
    have := Int.mul_le_mul_of_nonneg_right hn (show (0 : Int) ≤ (one64 : Int) by omega)
    rwa [Int.one_mul] at this
  by_cases hs : s = 0
  · subst hs
    have z1 := ZV.of_int h
    have z2 := ZV.of_int h'
    rw [Int.zero_mul] at z1 z2
    have q1 := z1.div_exact (own_i2d n) hy own_zero (by rw [Int.zero_mul, Int.zero_mul])
    have q2 := z2.div_exact (own_i2d n) hy own_zero (by rw [Int.zero_mul, Int.zero_mul])
    rw [q1.cmp q2, own_cmp_eq]
  · have e := dint_unique hs h h'
    subst e
    have hz : n ≠ 0 := fun q => by subst q; revert hn; decide
    exact dcmp_refl (Jvm.Free.Fl.noNaN64_no.mp (own_nnd' (ZV.of_int h).1 n hz))
theorem own_ib (x : Int32) : x.toInt.natAbs ≤ 2147483648 := by have := x.le_toInt; have := x.toInt_lt; omega
end OwnFp
theorem d1_0 : decode prog_22_method_5_code 0 = .ok (.aload_n 0, 1) := by decide +kernel
theorem d1_1 : decode prog_22_method_5_code 1 = .ok (.getstatic 10, 3) := by decide +kernel
theorem d1_4 : decode prog_22_method_5_code 4 = .ok (.if_acmp .ne 10, 3) := by decide +kernel
theorem d1_7 : decode prog_22_method_5_code 7 = .ok (.dload_n 1, 1) := by decide +kernel
theorem d1_8 : decode prog_22_method_5_code 8 = .ok (.iload_n 3, 1) := by decide +kernel
theorem d1_9 : decode prog_22_method_5_code 9 = .ok (.i2d, 1) := by decide +kernel
theorem d1_10 : decode prog_22_method_5_code 10 = .ok (.ddiv, 1) := by decide +kernel
theorem d1_11 : decode prog_22_method_5_code 11 = .ok (.goto 4, 3) := by decide +kernel
theorem d1_15 : decode prog_22_method_5_code 15 = .ok (.dreturn, 1) := by decide +kernel
theorem pn_0 : plainName "com/example/clirtools/clirtools/Pooling" = true := by first | (simp [plainName, overriddenIn]; done) | decide +kernel
theorem ef_sc_mean (m : MethodId) (a0 : Addr) (d1 : UInt64) (i2 : Int32) : entryFrame m #[(.ref a0), (.double d1), (.int i2)] 4 = mkF m 0 #[.val (.ref a0), .val (.double d1), .second, .val (.int i2)] [] := by first | (simp [entryFrame, mkF, argsToLocals, Value.category]; done) | rfl
def Q_sc_mean (Z : State) (a0 : Addr) (d1 : UInt64) (i2 : Int32) (h0 : Heap) (n0 : Nat) (v : Option Value) (h : Heap) (L : List Loc) : Prop := v = some (.double (FP.ddiv d1 (FP.i2d i2))) ∧ Fr n0 L ∧ h = h0
set_option maxRecDepth 65536 in
set_option maxHeartbeats 40000000 in
theorem sc_mean (l : Launch) (Z : State) (aw : Array Value) (hw : ∀ d ∈ tables_1, d.before aw Z = true) (ws : List Jvm.Cond) (a0 : Addr) (d1 : UInt64) (i2 : Int32) (h0 : Heap) (n0 : Nat) (Z0 : n0 ≤ h0.size) (S_MEAN : Sta Z h0 "com/example/clirtools/clirtools/Pooling" "MEAN" "Lcom/example/clirtools/clirtools/Pooling;" (.ref a0)) (hn : Jvm.Free.Fl.NoNaN64 (FP.ddiv d1 (FP.i2d i2))) :
    MetFree l (⟨"com/example/clirtools/clirtools/Pooling", "score", "(DI)D"⟩ : MethodName) (head1 (Jvm.Cond.code (⟨"com/example/clirtools/clirtools/Pooling", "score", "(DI)D"⟩ : MethodName) prog_22_method_5_code 4 (some .double) :: ws) ({ frames := 0, cells := 0, slots := 0, locals := 0 } : Room)) (fun a U => a = #[(.ref a0), (.double d1), (.int i2)] ∧ Z.Warmed39 U.vm ∧ U.heap = h0) (fun _ _ _ _ _ => True) (fun _ U o U' => ∃ v L, o = .returned v ∧ Q_sc_mean Z a0 d1 i2 h0 n0 v U'.heap L ∧ FrameEnd U o U' L ({ frames := 0, cells := 0, slots := 0, locals := 0 } : Room).cells ({ frames := 0, cells := 0, slots := 0, locals := 0 } : Room).slots) := by
  refine MetFree.of_bodySF (plainFor_of_name pn_0) hisR ?_
  intro p e s m args below meth c s₁ Bd hml0 hP hK
  obtain ⟨rfl, hZ, hh⟩ := hP
  have hx := Bd.exec
  have hby := Bd.bytes
  have hml : c.maxLocals = 4 := hml0
  have hown : s.vm.findClass "com/example/clirtools/clirtools/Pooling" = some m.cls := findClass_of_methodNamed Bd.named
  have hnm := (name_of_methodNamed Bd.named Bd.method).1
  have hlk : meth.locks = false := BodyLoose.notSynchronized Bd
  have X0 : Stand p l e ({ frames := 0, cells := 0, slots := 0, locals := 0 } : Room) s m #[(.ref a0), (.double d1), (.int i2)] below meth c s₁ [] 0 0 := Stand.of_body Bd
  have e0 : s₁.heap = h0 := by rw [← hh, Bd.state]; rfl
  have N0 := Fr.nil n0
  have ZZ := Z0
  show Go p e below s ({ frames := 0, cells := 0, slots := 0, locals := 0 } : Room).cells ({ frames := 0, cells := 0, slots := 0, locals := 0 } : Room).slots (fun v h L => Q_sc_mean Z a0 d1 i2 h0 n0 v h L) s₁ (entryFrame m #[(.ref a0), (.double d1), (.int i2)] 4)
  refine Go.cast (ef_sc_mean m a0 d1 i2) ?_
  refine Go.gen ?_
  intro K1 K2 QQ hK1 hK2 hQQ
  refine Go.on (fun _ k => XS.aloadN X0.here hx rfl (hb hby d1_0) rfl rfl k) ?_
  show Go _ _ _ _ _ _ _ _ (mkF m 1 #[.val (.ref a0), .val (.double d1), .second, .val (.int i2)] [(.ref a0)])
  obtain ⟨T1, X1, e1, st1⟩ := getS2 X0 hx hZ hown (host := "") (Or.inl (hw _ (List.mem_of_getElem? (i := 10) rfl))) Via.refl e0 S_MEAN (g := (mkF m 1 #[.val (.ref a0), .val (.double d1), .second, .val (.int i2)] [(.ref a0)])) rfl (hb hby d1_1)
  refine Go.on st1 ?_
  show Go _ _ _ _ _ _ _ _ (mkF m 4 #[.val (.ref a0), .val (.double d1), .second, .val (.int i2)] [(.ref a0), (.ref a0)])
  refine Go.on (fun _ k => Jvm.RoadKit.acmp (g := (mkF m 4 #[.val (.ref a0), .val (.double d1), .second, .val (.int i2)] [(.ref a0), (.ref a0)])) X1 hx rfl rfl rfl (pc0 := 4) (pc' := 7) (same := true) rfl (hb hby d1_4) rfl (decide_eq_true (congrArg Value.ref (rfl))) (by decide) (by decide) k) ?_
  show Go _ _ _ _ _ _ _ _ (mkF m 7 #[.val (.ref a0), .val (.double d1), .second, .val (.int i2)] [])
  refine Go.on (fun _ k => XS.dloadN X1.here hx rfl (hb hby d1_7) rfl k) ?_
  show Go _ _ _ _ _ _ _ _ (mkF m 8 #[.val (.ref a0), .val (.double d1), .second, .val (.int i2)] [(.double d1)])
  refine Go.on (fun _ k => XS.iloadN X1.here hx rfl (hb hby d1_8) rfl k) ?_
  show Go _ _ _ _ _ _ _ _ (mkF m 9 #[.val (.ref a0), .val (.double d1), .second, .val (.int i2)] [(.int i2), (.double d1)])
  refine Go.on (fun _ k => XS.i2dS X1.here hx rfl (hb hby d1_9) rfl rfl k) ?_
  show Go _ _ _ _ _ _ _ _ (mkF m 10 #[.val (.ref a0), .val (.double d1), .second, .val (.int i2)] [(.double (FP.i2d i2)), (.double d1)])
  refine Go.on (fun _ k => XS.ddivS X1.here hx rfl (hb hby d1_10) rfl (hn) rfl k) ?_
  show Go _ _ _ _ _ _ _ _ (mkF m 11 #[.val (.ref a0), .val (.double d1), .second, .val (.int i2)] [(.double (FP.ddiv d1 (FP.i2d i2)))])
  refine Go.on (fun _ k => XS.goto X1.here hx rfl (pc0 := 11) (pc' := 15) rfl (hb hby d1_11) (by decide) (by decide) k) ?_
  show Go _ _ _ _ _ _ _ _ (mkF m 15 #[.val (.ref a0), .val (.double d1), .second, .val (.int i2)] [(.double (FP.ddiv d1 (FP.i2d i2)))])
  refine Go.retV X1 hx Bd.returns rfl (Or.inr (Or.inr (Or.inl ⟨rfl, rfl, _, rfl⟩))) (hb hby d1_15) ?_ (by rw [hK1]; decide) (by rw [hK2]; decide)
  rw [e1, ← hQQ]
  exact ⟨rfl, N0, rfl⟩
theorem d1_14 : decode prog_22_method_5_code 14 = .ok (.dload_n 1, 1) := by decide +kernel
theorem ef_sc_other (m : MethodId) (a0 : Addr) (d1 : UInt64) (i2 : Int32) : entryFrame m #[(.ref a0), (.double d1), (.int i2)] 4 = mkF m 0 #[.val (.ref a0), .val (.double d1), .second, .val (.int i2)] [] := by first | (simp [entryFrame, mkF, argsToLocals, Value.category]; done) | rfl
def Q_sc_other (Z : State) (a0 : Addr) (d1 : UInt64) (i2 : Int32) (am : Addr) (h0 : Heap) (n0 : Nat) (v : Option Value) (h : Heap) (L : List Loc) : Prop := v = some (.double d1) ∧ Fr n0 L ∧ h = h0
set_option maxRecDepth 65536 in
set_option maxHeartbeats 40000000 in
theorem sc_other (l : Launch) (Z : State) (aw : Array Value) (hw : ∀ d ∈ tables_1, d.before aw Z = true) (ws : List Jvm.Cond) (a0 : Addr) (d1 : UInt64) (i2 : Int32) (am : Addr) (h0 : Heap) (n0 : Nat) (Z0 : n0 ≤ h0.size) (S_MEAN : Sta Z h0 "com/example/clirtools/clirtools/Pooling" "MEAN" "Lcom/example/clirtools/clirtools/Pooling;" (.ref am)) (hne : ¬ (a0 = am)) :
    MetFree l (⟨"com/example/clirtools/clirtools/Pooling", "score", "(DI)D"⟩ : MethodName) (head1 (Jvm.Cond.code (⟨"com/example/clirtools/clirtools/Pooling", "score", "(DI)D"⟩ : MethodName) prog_22_method_5_code 4 (some .double) :: ws) ({ frames := 0, cells := 0, slots := 0, locals := 0 } : Room)) (fun a U => a = #[(.ref a0), (.double d1), (.int i2)] ∧ Z.Warmed39 U.vm ∧ U.heap = h0) (fun _ _ _ _ _ => True) (fun _ U o U' => ∃ v L, o = .returned v ∧ Q_sc_other Z a0 d1 i2 am h0 n0 v U'.heap L ∧ FrameEnd U o U' L ({ frames := 0, cells := 0, slots := 0, locals := 0 } : Room).cells ({ frames := 0, cells := 0, slots := 0, locals := 0 } : Room).slots) := by
  refine MetFree.of_bodySF (plainFor_of_name pn_0) hisR ?_
  intro p e s m args below meth c s₁ Bd hml0 hP hK
  obtain ⟨rfl, hZ, hh⟩ := hP
  have hx := Bd.exec
  have hby := Bd.bytes
  have hml : c.maxLocals = 4 := hml0
  have hown : s.vm.findClass "com/example/clirtools/clirtools/Pooling" = some m.cls := findClass_of_methodNamed Bd.named
  have hnm := (name_of_methodNamed Bd.named Bd.method).1
  have hlk : meth.locks = false := BodyLoose.notSynchronized Bd
  have X0 : Stand p l e ({ frames := 0, cells := 0, slots := 0, locals := 0 } : Room) s m #[(.ref a0), (.double d1), (.int i2)] below meth c s₁ [] 0 0 := Stand.of_body Bd
  have e0 : s₁.heap = h0 := by rw [← hh, Bd.state]; rfl
  have N0 := Fr.nil n0
  have ZZ := Z0
  show Go p e below s ({ frames := 0, cells := 0, slots := 0, locals := 0 } : Room).cells ({ frames := 0, cells := 0, slots := 0, locals := 0 } : Room).slots (fun v h L => Q_sc_other Z a0 d1 i2 am h0 n0 v h L) s₁ (entryFrame m #[(.ref a0), (.double d1), (.int i2)] 4)
  refine Go.cast (ef_sc_other m a0 d1 i2) ?_
  refine Go.gen ?_
  intro K1 K2 QQ hK1 hK2 hQQ
  refine Go.on (fun _ k => XS.aloadN X0.here hx rfl (hb hby d1_0) rfl rfl k) ?_
  show Go _ _ _ _ _ _ _ _ (mkF m 1 #[.val (.ref a0), .val (.double d1), .second, .val (.int i2)] [(.ref a0)])
  obtain ⟨T1, X1, e1, st1⟩ := getS2 X0 hx hZ hown (host := "") (Or.inl (hw _ (List.mem_of_getElem? (i := 10) rfl))) Via.refl e0 S_MEAN (g := (mkF m 1 #[.val (.ref a0), .val (.double d1), .second, .val (.int i2)] [(.ref a0)])) rfl (hb hby d1_1)
  refine Go.on st1 ?_
  show Go _ _ _ _ _ _ _ _ (mkF m 4 #[.val (.ref a0), .val (.double d1), .second, .val (.int i2)] [(.ref am), (.ref a0)])
  refine Go.on (fun _ k => Jvm.RoadKit.acmp (g := (mkF m 4 #[.val (.ref a0), .val (.double d1), .second, .val (.int i2)] [(.ref am), (.ref a0)])) X1 hx rfl rfl rfl (pc0 := 4) (pc' := 14) (same := false) rfl (hb hby d1_4) rfl (decide_eq_false fun q => (hne) (Value.ref.inj q)) (by decide) (by decide) k) ?_
  show Go _ _ _ _ _ _ _ _ (mkF m 14 #[.val (.ref a0), .val (.double d1), .second, .val (.int i2)] [])
  refine Go.on (fun _ k => XS.dloadN X1.here hx rfl (hb hby d1_14) rfl k) ?_
  show Go _ _ _ _ _ _ _ _ (mkF m 15 #[.val (.ref a0), .val (.double d1), .second, .val (.int i2)] [(.double d1)])
  refine Go.retV X1 hx Bd.returns rfl (Or.inr (Or.inr (Or.inl ⟨rfl, rfl, _, rfl⟩))) (hb hby d1_15) ?_ (by rw [hK1]; decide) (by rw [hK2]; decide)
  rw [e1, ← hQQ]
  exact ⟨rfl, N0, rfl⟩
section PureLaw
open Jvm.FP.Core
theorem own_cn {c cn : Int32} (h : ((c &&& (2097151 : Int32)) + (1 : Int32)) = cn) : 1 ≤ cn.toInt ∧ cn.toInt ≤ 2097152 := by
  have e1 : (c &&& 2097151).toInt = c.toInt % 2 ^ 21 := Jvm.Kit.i32_mask c 2097151 (k := 21) (by decide) (by decide)
  have l1 : (1 : Int32).toInt = 1 := by decide
  rw [← h, Jvm.Kit.i32_add (by rw [e1, l1]; omega) (by rw [e1, l1]; omega), e1, l1]; omega
theorem own_pr {q c cn : Int32} {pr : Int64} (h : ((c &&& (2097151 : Int32)) + (1 : Int32)) = cn) (hp : ((q.toInt64) * (cn.toInt64)) = pr) : pr.toInt = q.toInt * cn.toInt ∧ pr.toInt.natAbs ≤ 2 ^ 53 := by
  have b := own_cn h
  have bq := own_ib q
  have e1 : q.toInt64.toInt = q.toInt := Int32.toInt_toInt64 q
  have e2 : cn.toInt64.toInt = cn.toInt := Int32.toInt_toInt64 cn
  have m : (q.toInt * cn.toInt).natAbs ≤ 2147483648 * 2097152 := by rw [Int.natAbs_mul]; exact Nat.mul_le_mul bq (by omega)
  have e : pr.toInt = q.toInt * cn.toInt := by rw [← hp, Jvm.Kit.i64_mul (by rw [e1, e2]; omega) (by rw [e1, e2]; omega), e1, e2]
  exact ⟨e, by rw [e]; omega⟩
theorem own_quo {q c cn : Int32} {pr : Int64} {sm : UInt64} (h : ((c &&& (2097151 : Int32)) + (1 : Int32)) = cn) (hp : ((q.toInt64) * (cn.toInt64)) = pr) (hs : FP.l2d pr = sm) : ZV (FP.ddiv sm (FP.i2d cn)) (q.toInt * (one64 : Int)) := by
  have b := own_cn h
  have e := own_pr h hp
  have zs : ZV sm (q.toInt * cn.toInt * (one64 : Int)) := by rw [← hs, ← e.1]; exact own_l2d e.2
  refine zs.div_exact (own_i2d cn) ?_ (own_i2d q) ?_
  · have := Int.mul_le_mul_of_nonneg_right b.1 (show (0 : Int) ≤ (one64 : Int) by omega)
    rwa [Int.one_mul] at this
  · generalize (one64 : Int) = o; ac_rfl
theorem own_nn {q c cn : Int32} {pr : Int64} {sm : UInt64} (h : ((c &&& (2097151 : Int32)) + (1 : Int32)) = cn) (hp : ((q.toInt64) * (cn.toInt64)) = pr) (hs : FP.l2d pr = sm) : Jvm.Free.Fl.NoNaN64 (FP.ddiv sm (FP.i2d cn)) := (own_quo h hp hs).nn
theorem own_kk {i kk : Int32} (h : ((i &&& (2147483647 : Int32)) % (3 : Int32)) = kk) : 0 ≤ kk.toInt ∧ kk.toInt ≤ 2 := by
  have e1 : (i &&& 2147483647).toInt = i.toInt % 2 ^ 31 := Jvm.Kit.i32_mask i 2147483647 (k := 31) (by decide) (by decide)
  have l3 : (3 : Int32).toInt = 3 := by decide
  rw [← h, Int32.toInt_mod, e1, l3, Int.tmod_eq_emod_of_nonneg (by omega)]; omega
theorem own_k2 {i kk : Int32} (h : ((i &&& (2147483647 : Int32)) % (3 : Int32)) = kk) (h0 : ¬ kk = (0 : Int32)) (h1 : ¬ kk = (1 : Int32)) : kk = (2 : Int32) := by
  have b := own_kk h
  have k0 : (0 : Int32).toInt = 0 := by decide
  have k1 : (1 : Int32).toInt = 1 := by decide
  have k2 : (2 : Int32).toInt = 2 := by decide
  simp only [← Int32.toInt_inj, k0, k1, k2] at h0 h1 ⊢; omega
theorem own_kn {kk j : Int32} (h : kk = j) (hj : ¬ j = (2 : Int32) := by decide) : ¬ (kk = (2 : Int32)) := h ▸ hj
theorem own_pure2 {q c cn v : Int32} {pr : Int64} {sm got : UInt64} (h : ((c &&& (2097151 : Int32)) + (1 : Int32)) = cn) (hp : ((q.toInt64) * (cn.toInt64)) = pr) (hs : FP.l2d pr = sm) (hg : FP.ddiv sm (FP.i2d cn) = got)
    (hv : v = (if (cmpValue (FP.dcmp got (FP.i2d q)) .l) = (0 : Int32) then (1 : Int32) else (0 : Int32))) : v = 1 := by
  have z := own_quo h hp hs
  rw [hg] at z
  rw [hv, if_pos (by rw [own_c_eq, z.cmp (own_i2d q), own_cmp_eq])]
theorem own_pure1 {pr : Int64} {sm : UInt64} {v : Int32} (hs : FP.l2d pr = sm) (hv : v = (if (cmpValue (FP.dcmp sm sm) .l) = (0 : Int32) then (1 : Int32) else (0 : Int32))) : v = 1 := by
  rw [hv, ← hs, show FP.dcmp (FP.l2d pr) (FP.l2d pr) = some .eq from dcmp_refl (l2d_fin pr).notNaN]; decide
end PureLaw
theorem own_eqi {a : Term} {args : Array Value} {s : State} {i : Int32} (h : (Jvm.Cond.eq a (Term.int i)).value args s none s [] = some true) : a.eval args s none [] s = some (.int i) := by
  cases ha : a.eval args s none [] s with
  | none => simp [Cond.value, ha] at h
  | some v =>
    cases v <;> simp [Cond.value, ha, Term.eval] at h ⊢
    exact h
theorem own_ord {C n n' d f g e' : String} {args : Array Value} {s : State} {x y : Addr} {i j : Int32} (ex : (Term.static C n d).eval args s none [] s = some (.ref x)) (ey : (Term.static C n' d).eval args s none [] s = some (.ref y)) (q : x = y)
    (h1 : (Jvm.Cond.eq (Term.field (Term.static C n d) f g e') (Term.int i)).value args s none s [] = some true) (h2 : (Jvm.Cond.eq (Term.field (Term.static C n' d) f g e') (Term.int j)).value args s none s [] = some true) (hij : ¬ i = j) : False := by
  subst q
  have e1 : (Term.field (Term.static C n d) f g e').eval args s none [] s = (Term.field (Term.static C n' d) f g e').eval args s none [] s := by rw [fld_at ex, fld_at ey]
  rw [own_eqi h1, own_eqi h2] at e1
  exact hij (Value.int.inj (Option.some.inj e1))

theorem pd_0 : parseMethodDescriptor "(DI)D" = some ⟨[.double, .int], some .double⟩ := by decide +kernel
theorem pn_1 : plainName "com/example/clirtools/clirtools/PoolingScorePinLaw" = true := by first | (simp [plainName, overriddenIn]; done) | decide +kernel
theorem ef_rm0 (m : MethodId) (i0 : Int32) (i1 : Int32) (i2 : Int32) : entryFrame m #[(.int i0), (.int i1), (.int i2)] maxLocals = mkF m 0 #[.val (.int i0), .val (.int i1), .val (.int i2), .unset, .unset, .unset, .unset, .unset, .unset, .unset, .unset, .unset] [] := by first | (simp [entryFrame, mkF, argsToLocals, Value.category, maxLocals]; done) | rfl
def Q_rm0 (Z : State) (i0 : Int32) (i1 : Int32) (i2 : Int32) (aj : Addr) (asu : Addr) (am : Addr) (h0 : Heap) (n0 : Nat) (v : Option Value) (h : Heap) (L : List Loc) : Prop := v = some (.int 1) ∧ Fr n0 L
set_option maxRecDepth 65536 in
set_option maxHeartbeats 40000000 in
theorem rm0 (l : Launch) (Z : State) (aw : Array Value) (hw : ∀ d ∈ tables_1, d.before aw Z = true) (ws : List Jvm.Cond) (i0 : Int32) (i1 : Int32) (i2 : Int32) (aj : Addr) (asu : Addr) (am : Addr) (h0 : Heap) (n0 : Nat) (Z0 : n0 ≤ h0.size) (S_JOINT : Sta Z h0 "com/example/clirtools/clirtools/Pooling" "JOINT" "Lcom/example/clirtools/clirtools/Pooling;" (.ref aj)) (S_SUM : Sta Z h0 "com/example/clirtools/clirtools/Pooling" "SUM" "Lcom/example/clirtools/clirtools/Pooling;" (.ref asu)) (S_MEAN : Sta Z h0 "com/example/clirtools/clirtools/Pooling" "MEAN" "Lcom/example/clirtools/clirtools/Pooling;" (.ref am)) (E_aj : Exa Z h0 aj "com/example/clirtools/clirtools/Pooling") (E_asu : Exa Z h0 asu "com/example/clirtools/clirtools/Pooling") (E_am : Exa Z h0 am "com/example/clirtools/clirtools/Pooling") (hjm : ¬ (aj = am)) (hsm : ¬ (asu = am)) :
    MetFree l x (head1 (Jvm.Cond.code x code maxLocals ret :: ws) room_1) (fun a U => a = #[(.int i0), (.int i1), (.int i2)] ∧ Z.Warmed39 U.vm ∧ U.heap = h0) (fun _ _ _ _ _ => True) (fun _ U o U' => ∃ v L, o = .returned v ∧ Q_rm0 Z i0 i1 i2 aj asu am h0 n0 v U'.heap L ∧ FrameEnd U o U' L 0 0) := by
  refine MetFree.of_bodySF (plainFor_of_name pn_1) hisR ?_
  intro p e s m args below meth c s₁ Bd hml0 hP hK
  obtain ⟨rfl, hZ, hh⟩ := hP
  have hx := Bd.exec
  have hby := Bd.bytes
  have hml : c.maxLocals = 12 := hml0
  have hown : s.vm.findClass "com/example/clirtools/clirtools/PoolingScorePinLaw" = some m.cls := findClass_of_methodNamed Bd.named
  have hnm := (name_of_methodNamed Bd.named Bd.method).1
  have hlk : meth.locks = false := BodyLoose.notSynchronized Bd
  have X0 : Stand p l e room_1 s m #[(.int i0), (.int i1), (.int i2)] below meth c s₁ [] 0 0 := Stand.of_body Bd
  have e0 : s₁.heap = h0 := by rw [← hh, Bd.state]; rfl
  have N0 := Fr.nil n0
  have ZZ := Z0
  show Go p e below s 0 0 (fun v h L => Q_rm0 Z i0 i1 i2 aj asu am h0 n0 v h L) s₁ (entryFrame m #[(.int i0), (.int i1), (.int i2)] maxLocals)
  refine Go.cast (ef_rm0 m i0 i1 i2) ?_
  refine Go.gen ?_
  intro K1 K2 QQ hK1 hK2 hQQ
  refine Go.on (fun _ k => XS.iloadN X0.here hx rfl (hb hby at_0) rfl k) ?_
  show Go _ _ _ _ _ _ _ _ (mkF m 1 #[.val (.int i0), .val (.int i1), .val (.int i2), .unset, .unset, .unset, .unset, .unset, .unset, .unset, .unset, .unset] [(.int i0)])
  refine Go.on (fun _ k => X0.ldcI hx hown (mvT hZ (hw _ (List.mem_of_getElem? (i := 0) rfl))) rfl (hb hby at_1) k) ?_
  show Go _ _ _ _ _ _ _ _ (mkF m 3 #[.val (.int i0), .val (.int i1), .val (.int i2), .unset, .unset, .unset, .unset, .unset, .unset, .unset, .unset, .unset] [(.int (2147483647 : Int32)), (.int i0)])
  refine Go.on (fun _ k => XS.iand X0.here hx rfl (hb hby at_3) rfl k) ?_
  show Go _ _ _ _ _ _ _ _ (mkF m 4 #[.val (.int i0), .val (.int i1), .val (.int i2), .unset, .unset, .unset, .unset, .unset, .unset, .unset, .unset, .unset] [(.int (i0 &&& (2147483647 : Int32)))])
  refine Go.on (fun _ k => XS.iconst X0.here hx rfl (hb hby at_4) k) ?_
  show Go _ _ _ _ _ _ _ _ (mkF m 5 #[.val (.int i0), .val (.int i1), .val (.int i2), .unset, .unset, .unset, .unset, .unset, .unset, .unset, .unset, .unset] [(.int (3 : Int32)), (.int (i0 &&& (2147483647 : Int32)))])
  refine Go.on (fun _ k => iremM X0 hx rfl (hb hby at_5) rfl (by decide) k) ?_
  show Go _ _ _ _ _ _ _ _ (mkF m 6 #[.val (.int i0), .val (.int i1), .val (.int i2), .unset, .unset, .unset, .unset, .unset, .unset, .unset, .unset, .unset] [(.int ((i0 &&& (2147483647 : Int32)) % (3 : Int32)))])
  refine Go.on (fun _ k => XS.istoreN X0.here hx rfl (hb hby at_6) rfl (l' := #[.val (.int i0), .val (.int i1), .val (.int i2), .val (.int ((i0 &&& (2147483647 : Int32)) % (3 : Int32))), .unset, .unset, .unset, .unset, .unset, .unset, .unset, .unset]) rfl k) ?_
  show Go _ _ _ _ _ _ _ _ (mkF m 7 #[.val (.int i0), .val (.int i1), .val (.int i2), .val (.int ((i0 &&& (2147483647 : Int32)) % (3 : Int32))), .unset, .unset, .unset, .unset, .unset, .unset, .unset, .unset] [])
  generalize hkk : ((i0 &&& (2147483647 : Int32)) % (3 : Int32)) = kk
  show Go _ _ _ _ _ _ _ _ (mkF m 7 #[.val (.int i0), .val (.int i1), .val (.int i2), .val (.int kk), .unset, .unset, .unset, .unset, .unset, .unset, .unset, .unset] [])
  refine Go.on (fun _ k => XS.iloadN X0.here hx rfl (hb hby at_7) rfl k) ?_
  show Go _ _ _ _ _ _ _ _ (mkF m 8 #[.val (.int i0), .val (.int i1), .val (.int i2), .val (.int kk), .unset, .unset, .unset, .unset, .unset, .unset, .unset, .unset] [(.int kk)])
  by_cases hc1 : kk = (0 : Int32)
  · -- pc 8 yes
    refine Go.on (fun _ k => XS.ifNo X0.here hx rfl (hb hby at_8) rfl ((if0 _ _).trans (teq hc1).2) k) ?_
    show Go _ _ _ _ _ _ _ _ (mkF m 11 #[.val (.int i0), .val (.int i1), .val (.int i2), .val (.int kk), .unset, .unset, .unset, .unset, .unset, .unset, .unset, .unset] [])
    obtain ⟨T2, X2, e2, st2⟩ := getS2 X0 hx hZ hown (host := "") (Or.inl (hw _ (List.mem_of_getElem? (i := 1) rfl))) Via.refl e0 S_JOINT (g := (mkF m 11 #[.val (.int i0), .val (.int i1), .val (.int i2), .val (.int kk), .unset, .unset, .unset, .unset, .unset, .unset, .unset, .unset] [])) rfl (hb hby at_11)
    refine Go.on st2 ?_
    show Go _ _ _ _ _ _ _ _ (mkF m 14 #[.val (.int i0), .val (.int i1), .val (.int i2), .val (.int kk), .unset, .unset, .unset, .unset, .unset, .unset, .unset, .unset] [(.ref aj)])
    refine Go.on (fun _ k => XS.goto X2.here hx rfl (pc0 := 14) (pc' := 31) rfl (hb hby at_14) (by decide) (by decide) k) ?_
    show Go _ _ _ _ _ _ _ _ (mkF m 31 #[.val (.int i0), .val (.int i1), .val (.int i2), .val (.int kk), .unset, .unset, .unset, .unset, .unset, .unset, .unset, .unset] [(.ref aj)])
    refine Go.on (fun _ k => XS.astore X2.here hx rfl (hb hby at_31) rfl rfl (l' := #[.val (.int i0), .val (.int i1), .val (.int i2), .val (.int kk), .val (.ref aj), .unset, .unset, .unset, .unset, .unset, .unset, .unset]) rfl k) ?_
    show Go _ _ _ _ _ _ _ _ (mkF m 33 #[.val (.int i0), .val (.int i1), .val (.int i2), .val (.int kk), .val (.ref aj), .unset, .unset, .unset, .unset, .unset, .unset, .unset] [])
    refine Go.on (fun _ k => XS.iloadN X2.here hx rfl (hb hby at_33) rfl k) ?_
    show Go _ _ _ _ _ _ _ _ (mkF m 34 #[.val (.int i0), .val (.int i1), .val (.int i2), .val (.int kk), .val (.ref aj), .unset, .unset, .unset, .unset, .unset, .unset, .unset] [(.int i2)])
    refine Go.on (fun _ k => X2.ldcI hx hown (mvT hZ (hw _ (List.mem_of_getElem? (i := 4) rfl))) rfl (hb hby at_34) k) ?_
    show Go _ _ _ _ _ _ _ _ (mkF m 36 #[.val (.int i0), .val (.int i1), .val (.int i2), .val (.int kk), .val (.ref aj), .unset, .unset, .unset, .unset, .unset, .unset, .unset] [(.int (2097151 : Int32)), (.int i2)])
    refine Go.on (fun _ k => XS.iand X2.here hx rfl (hb hby at_36) rfl k) ?_
    show Go _ _ _ _ _ _ _ _ (mkF m 37 #[.val (.int i0), .val (.int i1), .val (.int i2), .val (.int kk), .val (.ref aj), .unset, .unset, .unset, .unset, .unset, .unset, .unset] [(.int (i2 &&& (2097151 : Int32)))])
    refine Go.on (fun _ k => XS.iconst X2.here hx rfl (hb hby at_37) k) ?_
    show Go _ _ _ _ _ _ _ _ (mkF m 38 #[.val (.int i0), .val (.int i1), .val (.int i2), .val (.int kk), .val (.ref aj), .unset, .unset, .unset, .unset, .unset, .unset, .unset] [(.int (1 : Int32)), (.int (i2 &&& (2097151 : Int32)))])
    refine Go.on (fun _ k => XS.iadd X2.here hx rfl (hb hby at_38) rfl k) ?_
    show Go _ _ _ _ _ _ _ _ (mkF m 39 #[.val (.int i0), .val (.int i1), .val (.int i2), .val (.int kk), .val (.ref aj), .unset, .unset, .unset, .unset, .unset, .unset, .unset] [(.int ((i2 &&& (2097151 : Int32)) + (1 : Int32)))])
    refine Go.on (fun _ k => XS.istore X2.here hx rfl (hb hby at_39) rfl (l' := #[.val (.int i0), .val (.int i1), .val (.int i2), .val (.int kk), .val (.ref aj), .val (.int ((i2 &&& (2097151 : Int32)) + (1 : Int32))), .unset, .unset, .unset, .unset, .unset, .unset]) rfl k) ?_
    show Go _ _ _ _ _ _ _ _ (mkF m 41 #[.val (.int i0), .val (.int i1), .val (.int i2), .val (.int kk), .val (.ref aj), .val (.int ((i2 &&& (2097151 : Int32)) + (1 : Int32))), .unset, .unset, .unset, .unset, .unset, .unset] [])
    generalize hcn : ((i2 &&& (2097151 : Int32)) + (1 : Int32)) = cn
    show Go _ _ _ _ _ _ _ _ (mkF m 41 #[.val (.int i0), .val (.int i1), .val (.int i2), .val (.int kk), .val (.ref aj), .val (.int cn), .unset, .unset, .unset, .unset, .unset, .unset] [])
    refine Go.on (fun _ k => XS.iloadN X2.here hx rfl (hb hby at_41) rfl k) ?_
    show Go _ _ _ _ _ _ _ _ (mkF m 42 #[.val (.int i0), .val (.int i1), .val (.int i2), .val (.int kk), .val (.ref aj), .val (.int cn), .unset, .unset, .unset, .unset, .unset, .unset] [(.int i1)])
    refine Go.on (fun _ k => XS.i2l X2.here hx rfl (hb hby at_42) rfl k) ?_
    show Go _ _ _ _ _ _ _ _ (mkF m 43 #[.val (.int i0), .val (.int i1), .val (.int i2), .val (.int kk), .val (.ref aj), .val (.int cn), .unset, .unset, .unset, .unset, .unset, .unset] [(.long (i1.toInt64))])
    refine Go.on (fun _ k => XS.iload X2.here hx rfl (hb hby at_43) rfl k) ?_
    show Go _ _ _ _ _ _ _ _ (mkF m 45 #[.val (.int i0), .val (.int i1), .val (.int i2), .val (.int kk), .val (.ref aj), .val (.int cn), .unset, .unset, .unset, .unset, .unset, .unset] [(.int cn), (.long (i1.toInt64))])
    refine Go.on (fun _ k => XS.i2l X2.here hx rfl (hb hby at_45) rfl k) ?_
    show Go _ _ _ _ _ _ _ _ (mkF m 46 #[.val (.int i0), .val (.int i1), .val (.int i2), .val (.int kk), .val (.ref aj), .val (.int cn), .unset, .unset, .unset, .unset, .unset, .unset] [(.long (cn.toInt64)), (.long (i1.toInt64))])
    refine Go.on (fun _ k => XS.lmul X2.here hx rfl (hb hby at_46) rfl k) ?_
    show Go _ _ _ _ _ _ _ _ (mkF m 47 #[.val (.int i0), .val (.int i1), .val (.int i2), .val (.int kk), .val (.ref aj), .val (.int cn), .unset, .unset, .unset, .unset, .unset, .unset] [(.long ((i1.toInt64) * (cn.toInt64)))])
    refine Go.on (fun _ k => XS.lstore X2.here hx rfl (hb hby at_47) rfl (l' := #[.val (.int i0), .val (.int i1), .val (.int i2), .val (.int kk), .val (.ref aj), .val (.int cn), .val (.long ((i1.toInt64) * (cn.toInt64))), .second, .unset, .unset, .unset, .unset]) rfl k) ?_
    show Go _ _ _ _ _ _ _ _ (mkF m 49 #[.val (.int i0), .val (.int i1), .val (.int i2), .val (.int kk), .val (.ref aj), .val (.int cn), .val (.long ((i1.toInt64) * (cn.toInt64))), .second, .unset, .unset, .unset, .unset] [])
    generalize hpr : ((i1.toInt64) * (cn.toInt64)) = pr
    show Go _ _ _ _ _ _ _ _ (mkF m 49 #[.val (.int i0), .val (.int i1), .val (.int i2), .val (.int kk), .val (.ref aj), .val (.int cn), .val (.long pr), .second, .unset, .unset, .unset, .unset] [])
    refine Go.on (fun _ k => XS.lload X2.here hx rfl (hb hby at_49) rfl k) ?_
    show Go _ _ _ _ _ _ _ _ (mkF m 51 #[.val (.int i0), .val (.int i1), .val (.int i2), .val (.int kk), .val (.ref aj), .val (.int cn), .val (.long pr), .second, .unset, .unset, .unset, .unset] [(.long pr)])
    refine Go.on (fun _ k => XS.l2dS X2.here hx rfl (hb hby at_51) rfl rfl k) ?_
    show Go _ _ _ _ _ _ _ _ (mkF m 52 #[.val (.int i0), .val (.int i1), .val (.int i2), .val (.int kk), .val (.ref aj), .val (.int cn), .val (.long pr), .second, .unset, .unset, .unset, .unset] [(.double (FP.l2d pr))])
    refine Go.on (fun _ k => XS.dstore X2.here hx rfl (hb hby at_52) rfl (l' := #[.val (.int i0), .val (.int i1), .val (.int i2), .val (.int kk), .val (.ref aj), .val (.int cn), .val (.long pr), .second, .val (.double (FP.l2d pr)), .second, .unset, .unset]) rfl k) ?_
    show Go _ _ _ _ _ _ _ _ (mkF m 54 #[.val (.int i0), .val (.int i1), .val (.int i2), .val (.int kk), .val (.ref aj), .val (.int cn), .val (.long pr), .second, .val (.double (FP.l2d pr)), .second, .unset, .unset] [])
    generalize hsm_ : (FP.l2d pr) = sm_
    show Go _ _ _ _ _ _ _ _ (mkF m 54 #[.val (.int i0), .val (.int i1), .val (.int i2), .val (.int kk), .val (.ref aj), .val (.int cn), .val (.long pr), .second, .val (.double sm_), .second, .unset, .unset] [])
    refine Go.on (fun _ k => XS.aload X2.here hx rfl (hb hby at_54) rfl rfl k) ?_
    show Go _ _ _ _ _ _ _ _ (mkF m 56 #[.val (.int i0), .val (.int i1), .val (.int i2), .val (.int kk), .val (.ref aj), .val (.int cn), .val (.long pr), .second, .val (.double sm_), .second, .unset, .unset] [(.ref aj)])
    refine Go.on (fun _ k => XS.dload X2.here hx rfl (hb hby at_56) rfl k) ?_
    show Go _ _ _ _ _ _ _ _ (mkF m 58 #[.val (.int i0), .val (.int i1), .val (.int i2), .val (.int kk), .val (.ref aj), .val (.int cn), .val (.long pr), .second, .val (.double sm_), .second, .unset, .unset] [(.double sm_), (.ref aj)])
    refine Go.on (fun _ k => XS.iload X2.here hx rfl (hb hby at_58) rfl k) ?_
    show Go _ _ _ _ _ _ _ _ (mkF m 60 #[.val (.int i0), .val (.int i1), .val (.int i2), .val (.int kk), .val (.ref aj), .val (.int cn), .val (.long pr), .second, .val (.double sm_), .second, .unset, .unset] [(.int cn), (.double sm_), (.ref aj)])
    obtain ⟨cq3, kq3, q3a, q3b, q3c⟩ := isOf hZ e2 E_aj
    obtain ⟨_, _, ⟨T3, L3, k3, n3⟩, -, X3, ⟨Lc3, hQ3, l3, y3, z3⟩, st3⟩ := X2.virtualBack hx (y := (⟨"com/example/clirtools/clirtools/Pooling", "score", "(DI)D"⟩ : MethodName)) (z := (⟨"com/example/clirtools/clirtools/Pooling", "score", "(DI)D"⟩ : MethodName)) hown (mvT hZ (hw _ (List.mem_of_getElem? (i := 5) rfl))) (mvT hZ (hw _ (List.mem_of_getElem? (i := 6) rfl))) (notFace_of_selects (args := #[]) (mvT hZ (hw _ (List.mem_of_getElem? (i := 8) rfl)))) (mvT hZ (hw _ (List.mem_of_getElem? (i := 8) rfl))) (mvT hZ (hw _ (List.mem_of_getElem? (i := 7) rfl))) (by decide) (backOf (W := 0) (sc_other l Z aw hw [] aj sm_ cn am h0 n0 ZZ S_MEAN hjm) hZ (hw _ (List.mem_of_getElem? (i := 9) rfl)) (hw _ (List.mem_of_getElem? (i := 2) rfl)) (by decide) (by decide)) q3a q3c (g := (mkF m 60 #[.val (.int i0), .val (.int i1), .val (.int i2), .val (.int kk), .val (.ref aj), .val (.int cn), .val (.long pr), .second, .val (.double sm_), .second, .unset, .unset] [(.int cn), (.double sm_), (.ref aj)])) rfl (by rw [hml]; rfl) (Steps.refl _) (argsL := [(.double sm_), (.int cn)]) (rest := []) (lenOf pd_0 rfl) rfl (by show 2 * 0 + _ ≤ _; exact Nat.le_of_eq rfl) (hb hby at_60) (fun _ _ => ⟨rfl, e2, (by decide : 0 + 0 ≤ _), (by decide : 0 + 0 ≤ _)⟩)
    dsimp only [Pt.U, Pt.locs, Pt.cells, Pt.slots] at X3 l3 y3 z3 st3 hQ3
    subst l3 y3 z3
    obtain ⟨rfl, N3q, e3⟩ := hQ3
    have N3 := Fr.app N0 N3q
    refine Go.on (fun _ k => st3.trans k) ?_
    show Go _ _ _ _ _ _ _ _ (mkF m 63 #[.val (.int i0), .val (.int i1), .val (.int i2), .val (.int kk), .val (.ref aj), .val (.int cn), .val (.long pr), .second, .val (.double sm_), .second, .unset, .unset] [(.double sm_)])
    refine Go.on (fun _ k => XS.dstore X3.here hx rfl (hb hby at_63) rfl (l' := #[.val (.int i0), .val (.int i1), .val (.int i2), .val (.int kk), .val (.ref aj), .val (.int cn), .val (.long pr), .second, .val (.double sm_), .second, .val (.double sm_), .second]) rfl k) ?_
    show Go _ _ _ _ _ _ _ _ (mkF m 65 #[.val (.int i0), .val (.int i1), .val (.int i2), .val (.int kk), .val (.ref aj), .val (.int cn), .val (.long pr), .second, .val (.double sm_), .second, .val (.double sm_), .second] [])
    refine Go.on (fun _ k => XS.iloadN X3.here hx rfl (hb hby at_65) rfl k) ?_
    show Go _ _ _ _ _ _ _ _ (mkF m 66 #[.val (.int i0), .val (.int i1), .val (.int i2), .val (.int kk), .val (.ref aj), .val (.int cn), .val (.long pr), .second, .val (.double sm_), .second, .val (.double sm_), .second] [(.int kk)])
    refine Go.on (fun _ k => XS.iconst X3.here hx rfl (hb hby at_66) k) ?_
    show Go _ _ _ _ _ _ _ _ (mkF m 67 #[.val (.int i0), .val (.int i1), .val (.int i2), .val (.int kk), .val (.ref aj), .val (.int cn), .val (.long pr), .second, .val (.double sm_), .second, .val (.double sm_), .second] [(.int (2 : Int32)), (.int kk)])
    have hc4 : ¬ (kk = (2 : Int32)) := own_kn hc1
    refine Go.on (fun _ k => XS.icmpYes X3.here hx rfl (pc0 := 67) (pc' := 84) rfl (hb hby at_67) rfl (feq hc4).2 (by decide) (by decide) k) ?_
    show Go _ _ _ _ _ _ _ _ (mkF m 84 #[.val (.int i0), .val (.int i1), .val (.int i2), .val (.int kk), .val (.ref aj), .val (.int cn), .val (.long pr), .second, .val (.double sm_), .second, .val (.double sm_), .second] [])
    refine Go.on (fun _ k => XS.dload X3.here hx rfl (hb hby at_84) rfl k) ?_
    show Go _ _ _ _ _ _ _ _ (mkF m 86 #[.val (.int i0), .val (.int i1), .val (.int i2), .val (.int kk), .val (.ref aj), .val (.int cn), .val (.long pr), .second, .val (.double sm_), .second, .val (.double sm_), .second] [(.double sm_)])
    refine Go.on (fun _ k => XS.dload X3.here hx rfl (hb hby at_86) rfl k) ?_
    show Go _ _ _ _ _ _ _ _ (mkF m 88 #[.val (.int i0), .val (.int i1), .val (.int i2), .val (.int kk), .val (.ref aj), .val (.int cn), .val (.long pr), .second, .val (.double sm_), .second, .val (.double sm_), .second] [(.double sm_), (.double sm_)])
    refine Go.on (fun _ k => XS.dcmpS X3.here hx rfl (hb hby at_88) rfl rfl k) ?_
    show Go _ _ _ _ _ _ _ _ (mkF m 89 #[.val (.int i0), .val (.int i1), .val (.int i2), .val (.int kk), .val (.ref aj), .val (.int cn), .val (.long pr), .second, .val (.double sm_), .second, .val (.double sm_), .second] [(.int (cmpValue (FP.dcmp sm_ sm_) .l))])
    suffices hJ6 : ∀ (v5 : Int32), v5 = (if (cmpValue (FP.dcmp sm_ sm_) .l) = (0 : Int32) then (1 : Int32) else (0 : Int32)) → Go p e below s K1 K2 QQ T3 (mkF m 97 #[.val (.int i0), .val (.int i1), .val (.int i2), .val (.int kk), .val (.ref aj), .val (.int cn), .val (.long pr), .second, .val (.double sm_), .second, .val (.double sm_), .second] [(.int v5)]) by
      by_cases hc7 : (cmpValue (FP.dcmp sm_ sm_) .l) = (0 : Int32)
      · -- pc 89 yes
        refine Go.on (fun _ k => XS.ifNo X3.here hx rfl (hb hby at_89) rfl ((if0 _ _).trans (teq hc7).2) k) ?_
        show Go _ _ _ _ _ _ _ _ (mkF m 92 #[.val (.int i0), .val (.int i1), .val (.int i2), .val (.int kk), .val (.ref aj), .val (.int cn), .val (.long pr), .second, .val (.double sm_), .second, .val (.double sm_), .second] [])
        refine Go.on (fun _ k => XS.iconst X3.here hx rfl (hb hby at_92) k) ?_
        show Go _ _ _ _ _ _ _ _ (mkF m 93 #[.val (.int i0), .val (.int i1), .val (.int i2), .val (.int kk), .val (.ref aj), .val (.int cn), .val (.long pr), .second, .val (.double sm_), .second, .val (.double sm_), .second] [(.int (1 : Int32))])
        refine Go.on (fun _ k => XS.goto X3.here hx rfl (pc0 := 93) (pc' := 97) rfl (hb hby at_93) (by decide) (by decide) k) ?_
        show Go _ _ _ _ _ _ _ _ (mkF m 97 #[.val (.int i0), .val (.int i1), .val (.int i2), .val (.int kk), .val (.ref aj), .val (.int cn), .val (.long pr), .second, .val (.double sm_), .second, .val (.double sm_), .second] [(.int (1 : Int32))])
        exact hJ6 _ (by rw [if_pos hc7])
      · -- pc 89 no
        refine Go.on (fun _ k => XS.ifYes X3.here hx rfl (pc0 := 89) (pc' := 96) rfl (hb hby at_89) rfl ((if0 _ _).trans (feq hc7).2) (by decide) (by decide) k) ?_
        show Go _ _ _ _ _ _ _ _ (mkF m 96 #[.val (.int i0), .val (.int i1), .val (.int i2), .val (.int kk), .val (.ref aj), .val (.int cn), .val (.long pr), .second, .val (.double sm_), .second, .val (.double sm_), .second] [])
        refine Go.on (fun _ k => XS.iconst X3.here hx rfl (hb hby at_96) k) ?_
        show Go _ _ _ _ _ _ _ _ (mkF m 97 #[.val (.int i0), .val (.int i1), .val (.int i2), .val (.int kk), .val (.ref aj), .val (.int cn), .val (.long pr), .second, .val (.double sm_), .second, .val (.double sm_), .second] [(.int (0 : Int32))])
        exact hJ6 _ (by rw [if_neg hc7])
    intro v5 hv5
    refine Go.retN X3 hx (t := .boolean) Bd.returns (by simp) (hb hby at_97) ?_ (by rw [hK1]; decide) (by rw [hK2]; decide)
    rw [e3, ← hQQ]
    have hres : v5 = 1 := own_pure1 hsm_ hv5
    rw [hres]
    exact ⟨rfl, N3⟩
  · -- pc 8 no
    refine Go.on (fun _ k => XS.ifYes X0.here hx rfl (pc0 := 8) (pc' := 17) rfl (hb hby at_8) rfl ((if0 _ _).trans (feq hc1).2) (by decide) (by decide) k) ?_
    show Go _ _ _ _ _ _ _ _ (mkF m 17 #[.val (.int i0), .val (.int i1), .val (.int i2), .val (.int kk), .unset, .unset, .unset, .unset, .unset, .unset, .unset, .unset] [])
    refine Go.on (fun _ k => XS.iloadN X0.here hx rfl (hb hby at_17) rfl k) ?_
    show Go _ _ _ _ _ _ _ _ (mkF m 18 #[.val (.int i0), .val (.int i1), .val (.int i2), .val (.int kk), .unset, .unset, .unset, .unset, .unset, .unset, .unset, .unset] [(.int kk)])
    refine Go.on (fun _ k => XS.iconst X0.here hx rfl (hb hby at_18) k) ?_
    show Go _ _ _ _ _ _ _ _ (mkF m 19 #[.val (.int i0), .val (.int i1), .val (.int i2), .val (.int kk), .unset, .unset, .unset, .unset, .unset, .unset, .unset, .unset] [(.int (1 : Int32)), (.int kk)])
    by_cases hc8 : kk = (1 : Int32)
    · -- pc 19 yes
      refine Go.on (fun _ k => XS.icmpNo X0.here hx rfl (hb hby at_19) rfl (teq hc8).2 k) ?_
      show Go _ _ _ _ _ _ _ _ (mkF m 22 #[.val (.int i0), .val (.int i1), .val (.int i2), .val (.int kk), .unset, .unset, .unset, .unset, .unset, .unset, .unset, .unset] [])
      obtain ⟨T9, X9, e9, st9⟩ := getS2 X0 hx hZ hown (host := "") (Or.inl (hw _ (List.mem_of_getElem? (i := 12) rfl))) Via.refl e0 S_SUM (g := (mkF m 22 #[.val (.int i0), .val (.int i1), .val (.int i2), .val (.int kk), .unset, .unset, .unset, .unset, .unset, .unset, .unset, .unset] [])) rfl (hb hby at_22)
      refine Go.on st9 ?_
      show Go _ _ _ _ _ _ _ _ (mkF m 25 #[.val (.int i0), .val (.int i1), .val (.int i2), .val (.int kk), .unset, .unset, .unset, .unset, .unset, .unset, .unset, .unset] [(.ref asu)])
      refine Go.on (fun _ k => XS.goto X9.here hx rfl (pc0 := 25) (pc' := 31) rfl (hb hby at_25) (by decide) (by decide) k) ?_
      show Go _ _ _ _ _ _ _ _ (mkF m 31 #[.val (.int i0), .val (.int i1), .val (.int i2), .val (.int kk), .unset, .unset, .unset, .unset, .unset, .unset, .unset, .unset] [(.ref asu)])
      refine Go.on (fun _ k => XS.astore X9.here hx rfl (hb hby at_31) rfl rfl (l' := #[.val (.int i0), .val (.int i1), .val (.int i2), .val (.int kk), .val (.ref asu), .unset, .unset, .unset, .unset, .unset, .unset, .unset]) rfl k) ?_
      show Go _ _ _ _ _ _ _ _ (mkF m 33 #[.val (.int i0), .val (.int i1), .val (.int i2), .val (.int kk), .val (.ref asu), .unset, .unset, .unset, .unset, .unset, .unset, .unset] [])
      refine Go.on (fun _ k => XS.iloadN X9.here hx rfl (hb hby at_33) rfl k) ?_
      show Go _ _ _ _ _ _ _ _ (mkF m 34 #[.val (.int i0), .val (.int i1), .val (.int i2), .val (.int kk), .val (.ref asu), .unset, .unset, .unset, .unset, .unset, .unset, .unset] [(.int i2)])
      refine Go.on (fun _ k => X9.ldcI hx hown (mvT hZ (hw _ (List.mem_of_getElem? (i := 4) rfl))) rfl (hb hby at_34) k) ?_
      show Go _ _ _ _ _ _ _ _ (mkF m 36 #[.val (.int i0), .val (.int i1), .val (.int i2), .val (.int kk), .val (.ref asu), .unset, .unset, .unset, .unset, .unset, .unset, .unset] [(.int (2097151 : Int32)), (.int i2)])
      refine Go.on (fun _ k => XS.iand X9.here hx rfl (hb hby at_36) rfl k) ?_
      show Go _ _ _ _ _ _ _ _ (mkF m 37 #[.val (.int i0), .val (.int i1), .val (.int i2), .val (.int kk), .val (.ref asu), .unset, .unset, .unset, .unset, .unset, .unset, .unset] [(.int (i2 &&& (2097151 : Int32)))])
      refine Go.on (fun _ k => XS.iconst X9.here hx rfl (hb hby at_37) k) ?_
      show Go _ _ _ _ _ _ _ _ (mkF m 38 #[.val (.int i0), .val (.int i1), .val (.int i2), .val (.int kk), .val (.ref asu), .unset, .unset, .unset, .unset, .unset, .unset, .unset] [(.int (1 : Int32)), (.int (i2 &&& (2097151 : Int32)))])
      refine Go.on (fun _ k => XS.iadd X9.here hx rfl (hb hby at_38) rfl k) ?_
      show Go _ _ _ _ _ _ _ _ (mkF m 39 #[.val (.int i0), .val (.int i1), .val (.int i2), .val (.int kk), .val (.ref asu), .unset, .unset, .unset, .unset, .unset, .unset, .unset] [(.int ((i2 &&& (2097151 : Int32)) + (1 : Int32)))])
      refine Go.on (fun _ k => XS.istore X9.here hx rfl (hb hby at_39) rfl (l' := #[.val (.int i0), .val (.int i1), .val (.int i2), .val (.int kk), .val (.ref asu), .val (.int ((i2 &&& (2097151 : Int32)) + (1 : Int32))), .unset, .unset, .unset, .unset, .unset, .unset]) rfl k) ?_
      show Go _ _ _ _ _ _ _ _ (mkF m 41 #[.val (.int i0), .val (.int i1), .val (.int i2), .val (.int kk), .val (.ref asu), .val (.int ((i2 &&& (2097151 : Int32)) + (1 : Int32))), .unset, .unset, .unset, .unset, .unset, .unset] [])
      generalize hcn : ((i2 &&& (2097151 : Int32)) + (1 : Int32)) = cn
      show Go _ _ _ _ _ _ _ _ (mkF m 41 #[.val (.int i0), .val (.int i1), .val (.int i2), .val (.int kk), .val (.ref asu), .val (.int cn), .unset, .unset, .unset, .unset, .unset, .unset] [])
      refine Go.on (fun _ k => XS.iloadN X9.here hx rfl (hb hby at_41) rfl k) ?_
      show Go _ _ _ _ _ _ _ _ (mkF m 42 #[.val (.int i0), .val (.int i1), .val (.int i2), .val (.int kk), .val (.ref asu), .val (.int cn), .unset, .unset, .unset, .unset, .unset, .unset] [(.int i1)])
      refine Go.on (fun _ k => XS.i2l X9.here hx rfl (hb hby at_42) rfl k) ?_
      show Go _ _ _ _ _ _ _ _ (mkF m 43 #[.val (.int i0), .val (.int i1), .val (.int i2), .val (.int kk), .val (.ref asu), .val (.int cn), .unset, .unset, .unset, .unset, .unset, .unset] [(.long (i1.toInt64))])
      refine Go.on (fun _ k => XS.iload X9.here hx rfl (hb hby at_43) rfl k) ?_
      show Go _ _ _ _ _ _ _ _ (mkF m 45 #[.val (.int i0), .val (.int i1), .val (.int i2), .val (.int kk), .val (.ref asu), .val (.int cn), .unset, .unset, .unset, .unset, .unset, .unset] [(.int cn), (.long (i1.toInt64))])
      refine Go.on (fun _ k => XS.i2l X9.here hx rfl (hb hby at_45) rfl k) ?_
      show Go _ _ _ _ _ _ _ _ (mkF m 46 #[.val (.int i0), .val (.int i1), .val (.int i2), .val (.int kk), .val (.ref asu), .val (.int cn), .unset, .unset, .unset, .unset, .unset, .unset] [(.long (cn.toInt64)), (.long (i1.toInt64))])
      refine Go.on (fun _ k => XS.lmul X9.here hx rfl (hb hby at_46) rfl k) ?_
      show Go _ _ _ _ _ _ _ _ (mkF m 47 #[.val (.int i0), .val (.int i1), .val (.int i2), .val (.int kk), .val (.ref asu), .val (.int cn), .unset, .unset, .unset, .unset, .unset, .unset] [(.long ((i1.toInt64) * (cn.toInt64)))])
      refine Go.on (fun _ k => XS.lstore X9.here hx rfl (hb hby at_47) rfl (l' := #[.val (.int i0), .val (.int i1), .val (.int i2), .val (.int kk), .val (.ref asu), .val (.int cn), .val (.long ((i1.toInt64) * (cn.toInt64))), .second, .unset, .unset, .unset, .unset]) rfl k) ?_
      show Go _ _ _ _ _ _ _ _ (mkF m 49 #[.val (.int i0), .val (.int i1), .val (.int i2), .val (.int kk), .val (.ref asu), .val (.int cn), .val (.long ((i1.toInt64) * (cn.toInt64))), .second, .unset, .unset, .unset, .unset] [])
      generalize hpr : ((i1.toInt64) * (cn.toInt64)) = pr
      show Go _ _ _ _ _ _ _ _ (mkF m 49 #[.val (.int i0), .val (.int i1), .val (.int i2), .val (.int kk), .val (.ref asu), .val (.int cn), .val (.long pr), .second, .unset, .unset, .unset, .unset] [])
      refine Go.on (fun _ k => XS.lload X9.here hx rfl (hb hby at_49) rfl k) ?_
      show Go _ _ _ _ _ _ _ _ (mkF m 51 #[.val (.int i0), .val (.int i1), .val (.int i2), .val (.int kk), .val (.ref asu), .val (.int cn), .val (.long pr), .second, .unset, .unset, .unset, .unset] [(.long pr)])
      refine Go.on (fun _ k => XS.l2dS X9.here hx rfl (hb hby at_51) rfl rfl k) ?_
      show Go _ _ _ _ _ _ _ _ (mkF m 52 #[.val (.int i0), .val (.int i1), .val (.int i2), .val (.int kk), .val (.ref asu), .val (.int cn), .val (.long pr), .second, .unset, .unset, .unset, .unset] [(.double (FP.l2d pr))])
      refine Go.on (fun _ k => XS.dstore X9.here hx rfl (hb hby at_52) rfl (l' := #[.val (.int i0), .val (.int i1), .val (.int i2), .val (.int kk), .val (.ref asu), .val (.int cn), .val (.long pr), .second, .val (.double (FP.l2d pr)), .second, .unset, .unset]) rfl k) ?_
      show Go _ _ _ _ _ _ _ _ (mkF m 54 #[.val (.int i0), .val (.int i1), .val (.int i2), .val (.int kk), .val (.ref asu), .val (.int cn), .val (.long pr), .second, .val (.double (FP.l2d pr)), .second, .unset, .unset] [])
      generalize hsm_ : (FP.l2d pr) = sm_
      show Go _ _ _ _ _ _ _ _ (mkF m 54 #[.val (.int i0), .val (.int i1), .val (.int i2), .val (.int kk), .val (.ref asu), .val (.int cn), .val (.long pr), .second, .val (.double sm_), .second, .unset, .unset] [])
      refine Go.on (fun _ k => XS.aload X9.here hx rfl (hb hby at_54) rfl rfl k) ?_
      show Go _ _ _ _ _ _ _ _ (mkF m 56 #[.val (.int i0), .val (.int i1), .val (.int i2), .val (.int kk), .val (.ref asu), .val (.int cn), .val (.long pr), .second, .val (.double sm_), .second, .unset, .unset] [(.ref asu)])
      refine Go.on (fun _ k => XS.dload X9.here hx rfl (hb hby at_56) rfl k) ?_
      show Go _ _ _ _ _ _ _ _ (mkF m 58 #[.val (.int i0), .val (.int i1), .val (.int i2), .val (.int kk), .val (.ref asu), .val (.int cn), .val (.long pr), .second, .val (.double sm_), .second, .unset, .unset] [(.double sm_), (.ref asu)])
      refine Go.on (fun _ k => XS.iload X9.here hx rfl (hb hby at_58) rfl k) ?_
      show Go _ _ _ _ _ _ _ _ (mkF m 60 #[.val (.int i0), .val (.int i1), .val (.int i2), .val (.int kk), .val (.ref asu), .val (.int cn), .val (.long pr), .second, .val (.double sm_), .second, .unset, .unset] [(.int cn), (.double sm_), (.ref asu)])
      obtain ⟨cq10, kq10, q10a, q10b, q10c⟩ := isOf hZ e9 E_asu
      obtain ⟨_, _, ⟨T10, L10, k10, n10⟩, -, X10, ⟨Lc10, hQ10, l10, y10, z10⟩, st10⟩ := X9.virtualBack hx (y := (⟨"com/example/clirtools/clirtools/Pooling", "score", "(DI)D"⟩ : MethodName)) (z := (⟨"com/example/clirtools/clirtools/Pooling", "score", "(DI)D"⟩ : MethodName)) hown (mvT hZ (hw _ (List.mem_of_getElem? (i := 5) rfl))) (mvT hZ (hw _ (List.mem_of_getElem? (i := 6) rfl))) (notFace_of_selects (args := #[]) (mvT hZ (hw _ (List.mem_of_getElem? (i := 8) rfl)))) (mvT hZ (hw _ (List.mem_of_getElem? (i := 8) rfl))) (mvT hZ (hw _ (List.mem_of_getElem? (i := 7) rfl))) (by decide) (backOf (W := 0) (sc_other l Z aw hw [] asu sm_ cn am h0 n0 ZZ S_MEAN hsm) hZ (hw _ (List.mem_of_getElem? (i := 9) rfl)) (hw _ (List.mem_of_getElem? (i := 2) rfl)) (by decide) (by decide)) q10a q10c (g := (mkF m 60 #[.val (.int i0), .val (.int i1), .val (.int i2), .val (.int kk), .val (.ref asu), .val (.int cn), .val (.long pr), .second, .val (.double sm_), .second, .unset, .unset] [(.int cn), (.double sm_), (.ref asu)])) rfl (by rw [hml]; rfl) (Steps.refl _) (argsL := [(.double sm_), (.int cn)]) (rest := []) (lenOf pd_0 rfl) rfl (by show 2 * 0 + _ ≤ _; exact Nat.le_of_eq rfl) (hb hby at_60) (fun _ _ => ⟨rfl, e9, (by decide : 0 + 0 ≤ _), (by decide : 0 + 0 ≤ _)⟩)
      dsimp only [Pt.U, Pt.locs, Pt.cells, Pt.slots] at X10 l10 y10 z10 st10 hQ10
      subst l10 y10 z10
      obtain ⟨rfl, N10q, e10⟩ := hQ10
      have N10 := Fr.app N0 N10q
      refine Go.on (fun _ k => st10.trans k) ?_
      show Go _ _ _ _ _ _ _ _ (mkF m 63 #[.val (.int i0), .val (.int i1), .val (.int i2), .val (.int kk), .val (.ref asu), .val (.int cn), .val (.long pr), .second, .val (.double sm_), .second, .unset, .unset] [(.double sm_)])
      refine Go.on (fun _ k => XS.dstore X10.here hx rfl (hb hby at_63) rfl (l' := #[.val (.int i0), .val (.int i1), .val (.int i2), .val (.int kk), .val (.ref asu), .val (.int cn), .val (.long pr), .second, .val (.double sm_), .second, .val (.double sm_), .second]) rfl k) ?_
      show Go _ _ _ _ _ _ _ _ (mkF m 65 #[.val (.int i0), .val (.int i1), .val (.int i2), .val (.int kk), .val (.ref asu), .val (.int cn), .val (.long pr), .second, .val (.double sm_), .second, .val (.double sm_), .second] [])
      refine Go.on (fun _ k => XS.iloadN X10.here hx rfl (hb hby at_65) rfl k) ?_
      show Go _ _ _ _ _ _ _ _ (mkF m 66 #[.val (.int i0), .val (.int i1), .val (.int i2), .val (.int kk), .val (.ref asu), .val (.int cn), .val (.long pr), .second, .val (.double sm_), .second, .val (.double sm_), .second] [(.int kk)])
      refine Go.on (fun _ k => XS.iconst X10.here hx rfl (hb hby at_66) k) ?_
      show Go _ _ _ _ _ _ _ _ (mkF m 67 #[.val (.int i0), .val (.int i1), .val (.int i2), .val (.int kk), .val (.ref asu), .val (.int cn), .val (.long pr), .second, .val (.double sm_), .second, .val (.double sm_), .second] [(.int (2 : Int32)), (.int kk)])
      have hc11 : ¬ (kk = (2 : Int32)) := own_kn hc8
      refine Go.on (fun _ k => XS.icmpYes X10.here hx rfl (pc0 := 67) (pc' := 84) rfl (hb hby at_67) rfl (feq hc11).2 (by decide) (by decide) k) ?_
      show Go _ _ _ _ _ _ _ _ (mkF m 84 #[.val (.int i0), .val (.int i1), .val (.int i2), .val (.int kk), .val (.ref asu), .val (.int cn), .val (.long pr), .second, .val (.double sm_), .second, .val (.double sm_), .second] [])
      refine Go.on (fun _ k => XS.dload X10.here hx rfl (hb hby at_84) rfl k) ?_
      show Go _ _ _ _ _ _ _ _ (mkF m 86 #[.val (.int i0), .val (.int i1), .val (.int i2), .val (.int kk), .val (.ref asu), .val (.int cn), .val (.long pr), .second, .val (.double sm_), .second, .val (.double sm_), .second] [(.double sm_)])
      refine Go.on (fun _ k => XS.dload X10.here hx rfl (hb hby at_86) rfl k) ?_
      show Go _ _ _ _ _ _ _ _ (mkF m 88 #[.val (.int i0), .val (.int i1), .val (.int i2), .val (.int kk), .val (.ref asu), .val (.int cn), .val (.long pr), .second, .val (.double sm_), .second, .val (.double sm_), .second] [(.double sm_), (.double sm_)])
      refine Go.on (fun _ k => XS.dcmpS X10.here hx rfl (hb hby at_88) rfl rfl k) ?_
      show Go _ _ _ _ _ _ _ _ (mkF m 89 #[.val (.int i0), .val (.int i1), .val (.int i2), .val (.int kk), .val (.ref asu), .val (.int cn), .val (.long pr), .second, .val (.double sm_), .second, .val (.double sm_), .second] [(.int (cmpValue (FP.dcmp sm_ sm_) .l))])
      suffices hJ13 : ∀ (v12 : Int32), v12 = (if (cmpValue (FP.dcmp sm_ sm_) .l) = (0 : Int32) then (1 : Int32) else (0 : Int32)) → Go p e below s K1 K2 QQ T10 (mkF m 97 #[.val (.int i0), .val (.int i1), .val (.int i2), .val (.int kk), .val (.ref asu), .val (.int cn), .val (.long pr), .second, .val (.double sm_), .second, .val (.double sm_), .second] [(.int v12)]) by
        by_cases hc14 : (cmpValue (FP.dcmp sm_ sm_) .l) = (0 : Int32)
        · -- pc 89 yes
          refine Go.on (fun _ k => XS.ifNo X10.here hx rfl (hb hby at_89) rfl ((if0 _ _).trans (teq hc14).2) k) ?_
          show Go _ _ _ _ _ _ _ _ (mkF m 92 #[.val (.int i0), .val (.int i1), .val (.int i2), .val (.int kk), .val (.ref asu), .val (.int cn), .val (.long pr), .second, .val (.double sm_), .second, .val (.double sm_), .second] [])
          refine Go.on (fun _ k => XS.iconst X10.here hx rfl (hb hby at_92) k) ?_
          show Go _ _ _ _ _ _ _ _ (mkF m 93 #[.val (.int i0), .val (.int i1), .val (.int i2), .val (.int kk), .val (.ref asu), .val (.int cn), .val (.long pr), .second, .val (.double sm_), .second, .val (.double sm_), .second] [(.int (1 : Int32))])
          refine Go.on (fun _ k => XS.goto X10.here hx rfl (pc0 := 93) (pc' := 97) rfl (hb hby at_93) (by decide) (by decide) k) ?_
          show Go _ _ _ _ _ _ _ _ (mkF m 97 #[.val (.int i0), .val (.int i1), .val (.int i2), .val (.int kk), .val (.ref asu), .val (.int cn), .val (.long pr), .second, .val (.double sm_), .second, .val (.double sm_), .second] [(.int (1 : Int32))])
          exact hJ13 _ (by rw [if_pos hc14])
        · -- pc 89 no
          refine Go.on (fun _ k => XS.ifYes X10.here hx rfl (pc0 := 89) (pc' := 96) rfl (hb hby at_89) rfl ((if0 _ _).trans (feq hc14).2) (by decide) (by decide) k) ?_
          show Go _ _ _ _ _ _ _ _ (mkF m 96 #[.val (.int i0), .val (.int i1), .val (.int i2), .val (.int kk), .val (.ref asu), .val (.int cn), .val (.long pr), .second, .val (.double sm_), .second, .val (.double sm_), .second] [])
          refine Go.on (fun _ k => XS.iconst X10.here hx rfl (hb hby at_96) k) ?_
          show Go _ _ _ _ _ _ _ _ (mkF m 97 #[.val (.int i0), .val (.int i1), .val (.int i2), .val (.int kk), .val (.ref asu), .val (.int cn), .val (.long pr), .second, .val (.double sm_), .second, .val (.double sm_), .second] [(.int (0 : Int32))])
          exact hJ13 _ (by rw [if_neg hc14])
      intro v12 hv12
      refine Go.retN X10 hx (t := .boolean) Bd.returns (by simp) (hb hby at_97) ?_ (by rw [hK1]; decide) (by rw [hK2]; decide)
      rw [e10, ← hQQ]
      have hres : v12 = 1 := own_pure1 hsm_ hv12
      rw [hres]
      exact ⟨rfl, N10⟩
    · -- pc 19 no
      refine Go.on (fun _ k => XS.icmpYes X0.here hx rfl (pc0 := 19) (pc' := 28) rfl (hb hby at_19) rfl (feq hc8).2 (by decide) (by decide) k) ?_
      show Go _ _ _ _ _ _ _ _ (mkF m 28 #[.val (.int i0), .val (.int i1), .val (.int i2), .val (.int kk), .unset, .unset, .unset, .unset, .unset, .unset, .unset, .unset] [])
      obtain ⟨T15, X15, e15, st15⟩ := getS2 X0 hx hZ hown (host := "") (Or.inl (hw _ (List.mem_of_getElem? (i := 14) rfl))) Via.refl e0 S_MEAN (g := (mkF m 28 #[.val (.int i0), .val (.int i1), .val (.int i2), .val (.int kk), .unset, .unset, .unset, .unset, .unset, .unset, .unset, .unset] [])) rfl (hb hby at_28)
      refine Go.on st15 ?_
      show Go _ _ _ _ _ _ _ _ (mkF m 31 #[.val (.int i0), .val (.int i1), .val (.int i2), .val (.int kk), .unset, .unset, .unset, .unset, .unset, .unset, .unset, .unset] [(.ref am)])
      refine Go.on (fun _ k => XS.astore X15.here hx rfl (hb hby at_31) rfl rfl (l' := #[.val (.int i0), .val (.int i1), .val (.int i2), .val (.int kk), .val (.ref am), .unset, .unset, .unset, .unset, .unset, .unset, .unset]) rfl k) ?_
      show Go _ _ _ _ _ _ _ _ (mkF m 33 #[.val (.int i0), .val (.int i1), .val (.int i2), .val (.int kk), .val (.ref am), .unset, .unset, .unset, .unset, .unset, .unset, .unset] [])
      refine Go.on (fun _ k => XS.iloadN X15.here hx rfl (hb hby at_33) rfl k) ?_
      show Go _ _ _ _ _ _ _ _ (mkF m 34 #[.val (.int i0), .val (.int i1), .val (.int i2), .val (.int kk), .val (.ref am), .unset, .unset, .unset, .unset, .unset, .unset, .unset] [(.int i2)])
      refine Go.on (fun _ k => X15.ldcI hx hown (mvT hZ (hw _ (List.mem_of_getElem? (i := 4) rfl))) rfl (hb hby at_34) k) ?_
      show Go _ _ _ _ _ _ _ _ (mkF m 36 #[.val (.int i0), .val (.int i1), .val (.int i2), .val (.int kk), .val (.ref am), .unset, .unset, .unset, .unset, .unset, .unset, .unset] [(.int (2097151 : Int32)), (.int i2)])
      refine Go.on (fun _ k => XS.iand X15.here hx rfl (hb hby at_36) rfl k) ?_
      show Go _ _ _ _ _ _ _ _ (mkF m 37 #[.val (.int i0), .val (.int i1), .val (.int i2), .val (.int kk), .val (.ref am), .unset, .unset, .unset, .unset, .unset, .unset, .unset] [(.int (i2 &&& (2097151 : Int32)))])
      refine Go.on (fun _ k => XS.iconst X15.here hx rfl (hb hby at_37) k) ?_
      show Go _ _ _ _ _ _ _ _ (mkF m 38 #[.val (.int i0), .val (.int i1), .val (.int i2), .val (.int kk), .val (.ref am), .unset, .unset, .unset, .unset, .unset, .unset, .unset] [(.int (1 : Int32)), (.int (i2 &&& (2097151 : Int32)))])
      refine Go.on (fun _ k => XS.iadd X15.here hx rfl (hb hby at_38) rfl k) ?_
      show Go _ _ _ _ _ _ _ _ (mkF m 39 #[.val (.int i0), .val (.int i1), .val (.int i2), .val (.int kk), .val (.ref am), .unset, .unset, .unset, .unset, .unset, .unset, .unset] [(.int ((i2 &&& (2097151 : Int32)) + (1 : Int32)))])
      refine Go.on (fun _ k => XS.istore X15.here hx rfl (hb hby at_39) rfl (l' := #[.val (.int i0), .val (.int i1), .val (.int i2), .val (.int kk), .val (.ref am), .val (.int ((i2 &&& (2097151 : Int32)) + (1 : Int32))), .unset, .unset, .unset, .unset, .unset, .unset]) rfl k) ?_
      show Go _ _ _ _ _ _ _ _ (mkF m 41 #[.val (.int i0), .val (.int i1), .val (.int i2), .val (.int kk), .val (.ref am), .val (.int ((i2 &&& (2097151 : Int32)) + (1 : Int32))), .unset, .unset, .unset, .unset, .unset, .unset] [])
      generalize hcn : ((i2 &&& (2097151 : Int32)) + (1 : Int32)) = cn
      show Go _ _ _ _ _ _ _ _ (mkF m 41 #[.val (.int i0), .val (.int i1), .val (.int i2), .val (.int kk), .val (.ref am), .val (.int cn), .unset, .unset, .unset, .unset, .unset, .unset] [])
      refine Go.on (fun _ k => XS.iloadN X15.here hx rfl (hb hby at_41) rfl k) ?_
      show Go _ _ _ _ _ _ _ _ (mkF m 42 #[.val (.int i0), .val (.int i1), .val (.int i2), .val (.int kk), .val (.ref am), .val (.int cn), .unset, .unset, .unset, .unset, .unset, .unset] [(.int i1)])
      refine Go.on (fun _ k => XS.i2l X15.here hx rfl (hb hby at_42) rfl k) ?_
      show Go _ _ _ _ _ _ _ _ (mkF m 43 #[.val (.int i0), .val (.int i1), .val (.int i2), .val (.int kk), .val (.ref am), .val (.int cn), .unset, .unset, .unset, .unset, .unset, .unset] [(.long (i1.toInt64))])
      refine Go.on (fun _ k => XS.iload X15.here hx rfl (hb hby at_43) rfl k) ?_
      show Go _ _ _ _ _ _ _ _ (mkF m 45 #[.val (.int i0), .val (.int i1), .val (.int i2), .val (.int kk), .val (.ref am), .val (.int cn), .unset, .unset, .unset, .unset, .unset, .unset] [(.int cn), (.long (i1.toInt64))])
      refine Go.on (fun _ k => XS.i2l X15.here hx rfl (hb hby at_45) rfl k) ?_
      show Go _ _ _ _ _ _ _ _ (mkF m 46 #[.val (.int i0), .val (.int i1), .val (.int i2), .val (.int kk), .val (.ref am), .val (.int cn), .unset, .unset, .unset, .unset, .unset, .unset] [(.long (cn.toInt64)), (.long (i1.toInt64))])
      refine Go.on (fun _ k => XS.lmul X15.here hx rfl (hb hby at_46) rfl k) ?_
      show Go _ _ _ _ _ _ _ _ (mkF m 47 #[.val (.int i0), .val (.int i1), .val (.int i2), .val (.int kk), .val (.ref am), .val (.int cn), .unset, .unset, .unset, .unset, .unset, .unset] [(.long ((i1.toInt64) * (cn.toInt64)))])
      refine Go.on (fun _ k => XS.lstore X15.here hx rfl (hb hby at_47) rfl (l' := #[.val (.int i0), .val (.int i1), .val (.int i2), .val (.int kk), .val (.ref am), .val (.int cn), .val (.long ((i1.toInt64) * (cn.toInt64))), .second, .unset, .unset, .unset, .unset]) rfl k) ?_
      show Go _ _ _ _ _ _ _ _ (mkF m 49 #[.val (.int i0), .val (.int i1), .val (.int i2), .val (.int kk), .val (.ref am), .val (.int cn), .val (.long ((i1.toInt64) * (cn.toInt64))), .second, .unset, .unset, .unset, .unset] [])
      generalize hpr : ((i1.toInt64) * (cn.toInt64)) = pr
      show Go _ _ _ _ _ _ _ _ (mkF m 49 #[.val (.int i0), .val (.int i1), .val (.int i2), .val (.int kk), .val (.ref am), .val (.int cn), .val (.long pr), .second, .unset, .unset, .unset, .unset] [])
      refine Go.on (fun _ k => XS.lload X15.here hx rfl (hb hby at_49) rfl k) ?_
      show Go _ _ _ _ _ _ _ _ (mkF m 51 #[.val (.int i0), .val (.int i1), .val (.int i2), .val (.int kk), .val (.ref am), .val (.int cn), .val (.long pr), .second, .unset, .unset, .unset, .unset] [(.long pr)])
      refine Go.on (fun _ k => XS.l2dS X15.here hx rfl (hb hby at_51) rfl rfl k) ?_
      show Go _ _ _ _ _ _ _ _ (mkF m 52 #[.val (.int i0), .val (.int i1), .val (.int i2), .val (.int kk), .val (.ref am), .val (.int cn), .val (.long pr), .second, .unset, .unset, .unset, .unset] [(.double (FP.l2d pr))])
      refine Go.on (fun _ k => XS.dstore X15.here hx rfl (hb hby at_52) rfl (l' := #[.val (.int i0), .val (.int i1), .val (.int i2), .val (.int kk), .val (.ref am), .val (.int cn), .val (.long pr), .second, .val (.double (FP.l2d pr)), .second, .unset, .unset]) rfl k) ?_
      show Go _ _ _ _ _ _ _ _ (mkF m 54 #[.val (.int i0), .val (.int i1), .val (.int i2), .val (.int kk), .val (.ref am), .val (.int cn), .val (.long pr), .second, .val (.double (FP.l2d pr)), .second, .unset, .unset] [])
      generalize hsm_ : (FP.l2d pr) = sm_
      show Go _ _ _ _ _ _ _ _ (mkF m 54 #[.val (.int i0), .val (.int i1), .val (.int i2), .val (.int kk), .val (.ref am), .val (.int cn), .val (.long pr), .second, .val (.double sm_), .second, .unset, .unset] [])
      refine Go.on (fun _ k => XS.aload X15.here hx rfl (hb hby at_54) rfl rfl k) ?_
      show Go _ _ _ _ _ _ _ _ (mkF m 56 #[.val (.int i0), .val (.int i1), .val (.int i2), .val (.int kk), .val (.ref am), .val (.int cn), .val (.long pr), .second, .val (.double sm_), .second, .unset, .unset] [(.ref am)])
      refine Go.on (fun _ k => XS.dload X15.here hx rfl (hb hby at_56) rfl k) ?_
      show Go _ _ _ _ _ _ _ _ (mkF m 58 #[.val (.int i0), .val (.int i1), .val (.int i2), .val (.int kk), .val (.ref am), .val (.int cn), .val (.long pr), .second, .val (.double sm_), .second, .unset, .unset] [(.double sm_), (.ref am)])
      refine Go.on (fun _ k => XS.iload X15.here hx rfl (hb hby at_58) rfl k) ?_
      show Go _ _ _ _ _ _ _ _ (mkF m 60 #[.val (.int i0), .val (.int i1), .val (.int i2), .val (.int kk), .val (.ref am), .val (.int cn), .val (.long pr), .second, .val (.double sm_), .second, .unset, .unset] [(.int cn), (.double sm_), (.ref am)])
      obtain ⟨cq16, kq16, q16a, q16b, q16c⟩ := isOf hZ e15 E_am
      obtain ⟨_, _, ⟨T16, L16, k16, n16⟩, -, X16, ⟨Lc16, hQ16, l16, y16, z16⟩, st16⟩ := X15.virtualBack hx (y := (⟨"com/example/clirtools/clirtools/Pooling", "score", "(DI)D"⟩ : MethodName)) (z := (⟨"com/example/clirtools/clirtools/Pooling", "score", "(DI)D"⟩ : MethodName)) hown (mvT hZ (hw _ (List.mem_of_getElem? (i := 5) rfl))) (mvT hZ (hw _ (List.mem_of_getElem? (i := 6) rfl))) (notFace_of_selects (args := #[]) (mvT hZ (hw _ (List.mem_of_getElem? (i := 8) rfl)))) (mvT hZ (hw _ (List.mem_of_getElem? (i := 8) rfl))) (mvT hZ (hw _ (List.mem_of_getElem? (i := 7) rfl))) (by decide) (backOf (W := 0) (sc_mean l Z aw hw [] am sm_ cn  h0 n0 ZZ S_MEAN (own_nn hcn hpr hsm_)) hZ (hw _ (List.mem_of_getElem? (i := 9) rfl)) (hw _ (List.mem_of_getElem? (i := 2) rfl)) (by decide) (by decide)) q16a q16c (g := (mkF m 60 #[.val (.int i0), .val (.int i1), .val (.int i2), .val (.int kk), .val (.ref am), .val (.int cn), .val (.long pr), .second, .val (.double sm_), .second, .unset, .unset] [(.int cn), (.double sm_), (.ref am)])) rfl (by rw [hml]; rfl) (Steps.refl _) (argsL := [(.double sm_), (.int cn)]) (rest := []) (lenOf pd_0 rfl) rfl (by show 2 * 0 + _ ≤ _; exact Nat.le_of_eq rfl) (hb hby at_60) (fun _ _ => ⟨rfl, e15, (by decide : 0 + 0 ≤ _), (by decide : 0 + 0 ≤ _)⟩)
      dsimp only [Pt.U, Pt.locs, Pt.cells, Pt.slots] at X16 l16 y16 z16 st16 hQ16
      subst l16 y16 z16
      obtain ⟨rfl, N16q, e16⟩ := hQ16
      have N16 := Fr.app N0 N16q
      refine Go.on (fun _ k => st16.trans k) ?_
      show Go _ _ _ _ _ _ _ _ (mkF m 63 #[.val (.int i0), .val (.int i1), .val (.int i2), .val (.int kk), .val (.ref am), .val (.int cn), .val (.long pr), .second, .val (.double sm_), .second, .unset, .unset] [(.double (FP.ddiv sm_ (FP.i2d cn)))])
      generalize hgot : (FP.ddiv sm_ (FP.i2d cn)) = got
      show Go _ _ _ _ _ _ _ _ (mkF m 63 #[.val (.int i0), .val (.int i1), .val (.int i2), .val (.int kk), .val (.ref am), .val (.int cn), .val (.long pr), .second, .val (.double sm_), .second, .unset, .unset] [(.double got)])
      refine Go.on (fun _ k => XS.dstore X16.here hx rfl (hb hby at_63) rfl (l' := #[.val (.int i0), .val (.int i1), .val (.int i2), .val (.int kk), .val (.ref am), .val (.int cn), .val (.long pr), .second, .val (.double sm_), .second, .val (.double got), .second]) rfl k) ?_
      show Go _ _ _ _ _ _ _ _ (mkF m 65 #[.val (.int i0), .val (.int i1), .val (.int i2), .val (.int kk), .val (.ref am), .val (.int cn), .val (.long pr), .second, .val (.double sm_), .second, .val (.double got), .second] [])
      refine Go.on (fun _ k => XS.iloadN X16.here hx rfl (hb hby at_65) rfl k) ?_
      show Go _ _ _ _ _ _ _ _ (mkF m 66 #[.val (.int i0), .val (.int i1), .val (.int i2), .val (.int kk), .val (.ref am), .val (.int cn), .val (.long pr), .second, .val (.double sm_), .second, .val (.double got), .second] [(.int kk)])
      refine Go.on (fun _ k => XS.iconst X16.here hx rfl (hb hby at_66) k) ?_
      show Go _ _ _ _ _ _ _ _ (mkF m 67 #[.val (.int i0), .val (.int i1), .val (.int i2), .val (.int kk), .val (.ref am), .val (.int cn), .val (.long pr), .second, .val (.double sm_), .second, .val (.double got), .second] [(.int (2 : Int32)), (.int kk)])
      have hc17 : kk = (2 : Int32) := own_k2 hkk hc1 hc8
      refine Go.on (fun _ k => XS.icmpNo X16.here hx rfl (hb hby at_67) rfl (teq hc17).2 k) ?_
      show Go _ _ _ _ _ _ _ _ (mkF m 70 #[.val (.int i0), .val (.int i1), .val (.int i2), .val (.int kk), .val (.ref am), .val (.int cn), .val (.long pr), .second, .val (.double sm_), .second, .val (.double got), .second] [])
      refine Go.on (fun _ k => XS.dload X16.here hx rfl (hb hby at_70) rfl k) ?_
      show Go _ _ _ _ _ _ _ _ (mkF m 72 #[.val (.int i0), .val (.int i1), .val (.int i2), .val (.int kk), .val (.ref am), .val (.int cn), .val (.long pr), .second, .val (.double sm_), .second, .val (.double got), .second] [(.double got)])
      refine Go.on (fun _ k => XS.iloadN X16.here hx rfl (hb hby at_72) rfl k) ?_
      show Go _ _ _ _ _ _ _ _ (mkF m 73 #[.val (.int i0), .val (.int i1), .val (.int i2), .val (.int kk), .val (.ref am), .val (.int cn), .val (.long pr), .second, .val (.double sm_), .second, .val (.double got), .second] [(.int i1), (.double got)])
      refine Go.on (fun _ k => XS.i2dS X16.here hx rfl (hb hby at_73) rfl rfl k) ?_
      show Go _ _ _ _ _ _ _ _ (mkF m 74 #[.val (.int i0), .val (.int i1), .val (.int i2), .val (.int kk), .val (.ref am), .val (.int cn), .val (.long pr), .second, .val (.double sm_), .second, .val (.double got), .second] [(.double (FP.i2d i1)), (.double got)])
      refine Go.on (fun _ k => XS.dcmpS X16.here hx rfl (hb hby at_74) rfl rfl k) ?_
      show Go _ _ _ _ _ _ _ _ (mkF m 75 #[.val (.int i0), .val (.int i1), .val (.int i2), .val (.int kk), .val (.ref am), .val (.int cn), .val (.long pr), .second, .val (.double sm_), .second, .val (.double got), .second] [(.int (cmpValue (FP.dcmp got (FP.i2d i1)) .l))])
      suffices hJ19 : ∀ (v18 : Int32), v18 = (if (cmpValue (FP.dcmp got (FP.i2d i1)) .l) = (0 : Int32) then (1 : Int32) else (0 : Int32)) → Go p e below s K1 K2 QQ T16 (mkF m 83 #[.val (.int i0), .val (.int i1), .val (.int i2), .val (.int kk), .val (.ref am), .val (.int cn), .val (.long pr), .second, .val (.double sm_), .second, .val (.double got), .second] [(.int v18)]) by
        by_cases hc20 : (cmpValue (FP.dcmp got (FP.i2d i1)) .l) = (0 : Int32)
        · -- pc 75 yes
          refine Go.on (fun _ k => XS.ifNo X16.here hx rfl (hb hby at_75) rfl ((if0 _ _).trans (teq hc20).2) k) ?_
          show Go _ _ _ _ _ _ _ _ (mkF m 78 #[.val (.int i0), .val (.int i1), .val (.int i2), .val (.int kk), .val (.ref am), .val (.int cn), .val (.long pr), .second, .val (.double sm_), .second, .val (.double got), .second] [])
          refine Go.on (fun _ k => XS.iconst X16.here hx rfl (hb hby at_78) k) ?_
          show Go _ _ _ _ _ _ _ _ (mkF m 79 #[.val (.int i0), .val (.int i1), .val (.int i2), .val (.int kk), .val (.ref am), .val (.int cn), .val (.long pr), .second, .val (.double sm_), .second, .val (.double got), .second] [(.int (1 : Int32))])
          refine Go.on (fun _ k => XS.goto X16.here hx rfl (pc0 := 79) (pc' := 83) rfl (hb hby at_79) (by decide) (by decide) k) ?_
          show Go _ _ _ _ _ _ _ _ (mkF m 83 #[.val (.int i0), .val (.int i1), .val (.int i2), .val (.int kk), .val (.ref am), .val (.int cn), .val (.long pr), .second, .val (.double sm_), .second, .val (.double got), .second] [(.int (1 : Int32))])
          exact hJ19 _ (by rw [if_pos hc20])
        · -- pc 75 no
          refine Go.on (fun _ k => XS.ifYes X16.here hx rfl (pc0 := 75) (pc' := 82) rfl (hb hby at_75) rfl ((if0 _ _).trans (feq hc20).2) (by decide) (by decide) k) ?_
          show Go _ _ _ _ _ _ _ _ (mkF m 82 #[.val (.int i0), .val (.int i1), .val (.int i2), .val (.int kk), .val (.ref am), .val (.int cn), .val (.long pr), .second, .val (.double sm_), .second, .val (.double got), .second] [])
          refine Go.on (fun _ k => XS.iconst X16.here hx rfl (hb hby at_82) k) ?_
          show Go _ _ _ _ _ _ _ _ (mkF m 83 #[.val (.int i0), .val (.int i1), .val (.int i2), .val (.int kk), .val (.ref am), .val (.int cn), .val (.long pr), .second, .val (.double sm_), .second, .val (.double got), .second] [(.int (0 : Int32))])
          exact hJ19 _ (by rw [if_neg hc20])
      intro v18 hv18
      refine Go.retN X16 hx (t := .boolean) Bd.returns (by simp) (hb hby at_83) ?_ (by rw [hK1]; decide) (by rw [hK2]; decide)
      rw [e16, ← hQQ]
      have hres : v18 = 1 := own_pure2 hcn hpr hsm_ hgot hv18
      rw [hres]
      exact ⟨rfl, N16⟩
set_option maxRecDepth 65536 in
set_option maxHeartbeats 40000000 in
theorem comes_1 {Post : Tables → Env → Array Value → State → Outcome → State → Prop} (hpost : ∀ tb e args s v u, (limb_1_1.after args s (.returned v) u = true ∧ limb_1_2.after args s (.returned v) u = true ∧ True) → FrameEnd s (.returned v) u (Jvm.fieldLocs frame_1_writes args s ++ Jvm.arrayLocs frame_1_arrays args s ++ Jvm.staticLocs frame_1_statics s) 0 0 → Post tb e args s (.returned v) u) :
    ArmFor flags0 classFile x code maxLocals ret World_1 tables_1 room_1 Calls_1 rest_1 Pre_1 Post := by
  intro l hfl _ _ p e ha hc hk s m args below hf hA hF happ hP
  obtain ⟨hcalls, hrest, hpre⟩ := hP
  obtain ⟨-, -, -, hnamed, -, -, -, hat⟩ := (Spec.applies_iff hf).mp happ
  obtain ⟨hg, hn⟩ := and_e (Cond.before_iff.mp (show (Jvm.Cond.and given_1 narrow_1).before args s = true from hpre))
  obtain ⟨g0, r0⟩ := and_e hg
  obtain ⟨g1, r1⟩ := and_e r0
  obtain ⟨g2, g3⟩ := and_e r1
  obtain ⟨w0, w1, w2, rfl⟩ : ∃ w0 w1 w2 : Value, args = #[w0, w1, w2] := by
    have hs : args.size = 3 := by simpa [Cond.value, given_1] using g0
    obtain ⟨L⟩ := args
    match L, hs with
    | [w0, w1, w2], _ => exact ⟨w0, w1, w2, rfl⟩
  have hw := fun d (hd : d ∈ tables_1) => atoms_spec (ws := Jvm.Cond.code x code maxLocals ret :: tables_1) hat d (List.mem_cons_of_mem _ hd)
  have hfit : Fit s := fun {y c} hc i hi => by
    obtain ⟨ha, rfl⟩ := Array.getElem?_eq_some_iff.mp hc
    have q := List.all_eq_true.mp ((Array.all_eq_true_iff_forall_mem.mp hF) _ (Array.getElem_mem ha)) i (List.mem_range.mpr hi)
    simpa [Array.getElem?_eq_getElem hi] using q
  obtain ⟨i0, ei0⟩ := is_v g1
  obtain rfl : w0 = (.int i0) := Option.some.inj ei0
  obtain ⟨i1, ei1⟩ := is_v g2
  obtain rfl : w1 = (.int i1) := Option.some.inj ei1
  obtain ⟨i2, ei2⟩ := is_v g3
  obtain rfl : w2 = (.int i2) := Option.some.inj ei2
  obtain ⟨n1, m1⟩ := and_e hn
  obtain ⟨n2, m2⟩ := and_e m1
  obtain ⟨n3, m3⟩ := and_e m2
  obtain ⟨n4, m4⟩ := and_e m3
  obtain ⟨n5, n6⟩ := and_e m4
  obtain ⟨aj, ej⟩ := exa_v n1
  obtain ⟨am, em⟩ := exa_v n2
  obtain ⟨asu, es⟩ := exa_v n5
  have Sj := Sta.start ej (Or.inr ⟨hw _ (List.mem_of_getElem? (i := 2) rfl), hw _ (List.mem_of_getElem? (i := 3) rfl)⟩)
  have Sm := Sta.start em (Or.inr ⟨hw _ (List.mem_of_getElem? (i := 2) rfl), hw _ (List.mem_of_getElem? (i := 11) rfl)⟩)
  have Ss := Sta.start es (Or.inr ⟨hw _ (List.mem_of_getElem? (i := 2) rfl), hw _ (List.mem_of_getElem? (i := 13) rfl)⟩)
  have Ej := Exa.start ej n1
  have Em := Exa.start em n2
  have Es := Exa.start es n5
  have hjm : ¬ (aj = am) := fun q => own_ord ej em q n3 n4 (by decide)
  have hsm : ¬ (asu = am) := fun q => own_ord es em q n6 n4 (by decide)
  obtain ⟨n, o, h1, h2, h3, _, L, rfl, ⟨rfl, N⟩, hq⟩ := rm0 l s _ hw tables_1 i0 i1 i2 aj asu am s.heap s.heap.size (Nat.le_refl _) Sj Ss Sm Ej Es Em hjm hsm p e ha hc hk s m _ below hf ((Spec.applies_iff_loose hf).mp happ).1 ⟨rfl, State.Warmed39.refl s, rfl⟩ trivial
  refine ⟨n, _, h1, h2, h3, hpost _ _ _ _ _ _ ⟨Cond.after_iff.mpr rfl, Cond.after_iff.mpr (eq_i res_at (Term.int_eval (1)) rfl), trivial⟩ ⟨hq.1, hq.2.1, (hq.2.2.sift fun y hy => Or.inr (N y hy)).mono (by decide) (by decide)⟩⟩
theorem main_1_1 : Claimed_1_1 := comes_1 fun _ _ _ _ _ _ h hF => ⟨h.1, hF⟩
theorem main_1_2 : Claimed_1_2 := comes_1 fun _ _ _ _ _ _ h hF => ⟨h.2.1, hF⟩
end Jvm.Pilot.@@N@@
namespace Jvm.Pilot.@@N@@
open Jvm Jvm.ClassFile Sem Op Lib Jvm.Free Jvm.Stand Jvm.Pilot.@@N@@.Jvm.D
/-! MADE BY PROGRAM (witnessworld.py) out of the Statement's table words and the real class files: 12 classes; the members and pool entries that the words name. The judged class is class 1, her method 1. -/
namespace start1
open Jvm.ClassFile
def u (s : String) : CpInfo := .utf8 (stringToUtf16 s)
/-- a pool by its gaps: so many unusable entries, then the entry; so many at the end -/
def gap : Nat → List CpInfo → List CpInfo
  | 0, r => r
  | n + 1, r => .unusable :: gap n r
def poolList (es : List (Nat × CpInfo)) (last : Nat) : List CpInfo := es.foldr (fun e r => gap e.1 (e.2 :: r)) (gap last [])
def pool (es : List (Nat × CpInfo)) (last : Nat) : Array CpInfo := ⟨poolList es last⟩
def fileOf (pool : Array CpInfo) (this : Nat) (attrs : Array Attribute := #[]) (ms : Array MethodInfo := #[]) (fl : Nat := 33) (sup : Nat := 0) (ifs : Array Nat := #[]) (fds : Array FieldInfo := #[]) : ClassFile where
  minorVersion := 0
  majorVersion := 65
  constantPool := pool
  accessFlags := fl
  thisClass := this
  superClass := sup
  interfaces := ifs
  fields := fds
  methods := ms
  attributes := attrs
def plain (name : String) (sup : Option ClassId) : Class where
  name := name
  kind := .ordinary
  loader := none
  accessFlags := 33
  super := sup
  interfaces := #[]
  cf := none
  fields := #[]
  methods := #[]
  instanceTypes := #[]
  staticTypes := #[]
  resolved := #[]
  callSites := []
  init := .initialized
  statics := none
  mirror := none

def pool0 : Array CpInfo := pool [(5, u "<init>"), (0, u "()V"), (1, .class_ 10), (1, u "java/lang/Object")] 113

def k0m0 : Method := { name := "<init>", desc := "()V", sig := { parameters := [], returnType := none }, accessFlags := 1, code := none }
/-- java/lang/Object -/
def k0 : Class := { plain "java/lang/Object" none with
  accessFlags := 33
  interfaces := #[]
  cf := some (fileOf pool0 8 #[] #[{ accessFlags := 1, nameIndex := 5, descriptorIndex := 6, attributes := #[] }] 33 0 #[] #[])
  fields := #[]
  methods := #[k0m0]
  instanceTypes := #[]
  staticTypes := #[]
  resolved := Array.replicate 124 none
  statics := none }

def pool1 : Array CpInfo := pool [(2, .class_ 4), (1, u "java/lang/Object"), (0, u "<init>"), (0, u "()V"), (0, .integer 2147483647), (0, .fieldref 9 10), (0, .class_ 11), (0, .nameAndType 12 13), (0, u "com/example/clirtools/clirtools/Pooling"), (0, u "JOINT"), (0, u "Lcom/example/clirtools/clirtools/Pooling;"), (0, .fieldref 9 15), (0, .nameAndType 16 13), (0, u "SUM"), (0, .fieldref 9 18), (0, .nameAndType 19 13), (0, u "MEAN"), (0, .integer 2097151), (0, .methodref 9 22), (0, .nameAndType 23 24), (0, u "score"), (0, u "(DI)D"), (0, .class_ 26), (0, u "com/example/clirtools/clirtools/PoolingScorePinLaw"), (2, u "law"), (0, u "(III)Z")] 3

def k1m0 : Method := { name := "<init>", desc := "()V", sig := { parameters := [], returnType := none }, accessFlags := 1, code := none }
def k1c1 : Code := { maxStack := 4, maxLocals := 12, code := code, exceptionTable := #[], attributes := #[] }
def k1m1 : Method := { name := "law", desc := "(III)Z", sig := { parameters := [.int, .int, .int], returnType := some .boolean }, accessFlags := 9, code := some k1c1 }
/-- com/example/clirtools/clirtools/PoolingScorePinLaw -/
def k1 : Class := { plain "com/example/clirtools/clirtools/PoolingScorePinLaw" (some 0) with
  accessFlags := 49
  interfaces := #[]
  cf := some (fileOf pool1 25 #[] #[{ accessFlags := 1, nameIndex := 5, descriptorIndex := 6, attributes := #[] }, { accessFlags := 9, nameIndex := 29, descriptorIndex := 30, attributes := #[] }] 49 2 #[] #[])
  fields := #[]
  methods := #[k1m0, k1m1]
  instanceTypes := #[]
  staticTypes := #[]
  resolved := Array.replicate 34 none
  statics := none }

def pool2 : Array CpInfo := pool [(1, .class_ 2), (0, u "java/lang/constant/Constable"), (0, .class_ 4), (0, u "java/lang/Object")] 6

/-- java/lang/constant/Constable -/
def k2 : Class := { plain "java/lang/constant/Constable" (some 0) with
  accessFlags := 1537
  interfaces := #[]
  cf := some (fileOf pool2 1 #[] #[] 1537 3 #[] #[])
  fields := #[]
  methods := #[]
  instanceTypes := #[]
  staticTypes := #[]
  resolved := Array.replicate 11 none
  statics := none }

def pool3 : Array CpInfo := pool [(1, .class_ 2), (0, u "java/lang/Comparable"), (0, .class_ 4), (0, u "java/lang/Object")] 7

/-- java/lang/Comparable -/
def k3 : Class := { plain "java/lang/Comparable" (some 0) with
  accessFlags := 1537
  interfaces := #[]
  cf := some (fileOf pool3 1 #[] #[] 1537 3 #[] #[])
  fields := #[]
  methods := #[]
  instanceTypes := #[]
  staticTypes := #[]
  resolved := Array.replicate 12 none
  statics := none }

def pool4 : Array CpInfo := pool [(1, .class_ 2), (0, u "java/io/Serializable"), (0, .class_ 4), (0, u "java/lang/Object")] 2

/-- java/io/Serializable -/
def k4 : Class := { plain "java/io/Serializable" (some 0) with
  accessFlags := 1537
  interfaces := #[]
  cf := some (fileOf pool4 1 #[] #[] 1537 3 #[] #[])
  fields := #[]
  methods := #[]
  instanceTypes := #[]
  staticTypes := #[]
  resolved := Array.replicate 7 none
  statics := none }

def pool5 : Array CpInfo := pool [(2, .class_ 4), (1, u "java/lang/Enum"), (0, u "name"), (0, u "Ljava/lang/String;"), (2, u "ordinal"), (0, u "I"), (1, .class_ 14), (1, u "java/lang/Object"), (4, u "hash"), (86, .class_ 108), (1, u "java/lang/Enum$EnumDesc"), (2, .class_ 112), (0, u "java/lang/constant/Constable"), (0, .class_ 114), (0, u "java/lang/Comparable"), (0, .class_ 116), (0, u "java/io/Serializable")] 87

/-- java/lang/Enum -/
def k5 : Class := { plain "java/lang/Enum" (some 0) with
  accessFlags := 1057
  interfaces := #[2, 3, 4]
  cf := some (fileOf pool5 2 #[.nestMembers #[106]] #[] 1057 12 #[111, 113, 115] #[{ accessFlags := 18, nameIndex := 5, descriptorIndex := 6, attributes := #[] }, { accessFlags := 18, nameIndex := 9, descriptorIndex := 10, attributes := #[] }, { accessFlags := 2, nameIndex := 19, descriptorIndex := 10, attributes := #[] }])
  fields := #[{ name := "name", type := (.object "java/lang/String"), accessFlags := 18, slot := 0, constantValue := 0 }, { name := "ordinal", type := .int, accessFlags := 18, slot := 1, constantValue := 0 }, { name := "hash", type := .int, accessFlags := 2, slot := 2, constantValue := 0 }]
  methods := #[]
  instanceTypes := #[(.object "java/lang/String"), .int, .int]
  staticTypes := #[]
  resolved := Array.replicate 204 none
  statics := none }

def pool6 : Array CpInfo := pool [(1, .class_ 2), (0, u "com/example/clirtools/clirtools/Pooling"), (2, u "JOINT"), (0, u "Lcom/example/clirtools/clirtools/Pooling;"), (2, u "SUM"), (0, .fieldref 1 11), (0, .nameAndType 12 6), (0, u "MEAN"), (2, u "$VALUES"), (0, u "[Lcom/example/clirtools/clirtools/Pooling;"), (6, .class_ 25), (1, u "java/lang/Enum"), (74, u "score"), (0, u "(DI)D")] 6

def k6c0 : Code := { maxStack := 4, maxLocals := 4, code := prog_22_method_5_code, exceptionTable := #[], attributes := #[] }
def k6m0 : Method := { name := "score", desc := "(DI)D", sig := { parameters := [.double, .int], returnType := some .double }, accessFlags := 0, code := some k6c0 }
/-- com/example/clirtools/clirtools/Pooling -/
def k6 : Class := { plain "com/example/clirtools/clirtools/Pooling" (some 5) with
  accessFlags := 16432
  interfaces := #[]
  cf := some (fileOf pool6 1 #[] #[{ accessFlags := 0, nameIndex := 100, descriptorIndex := 101, attributes := #[] }] 16432 23 #[] #[{ accessFlags := 16409, nameIndex := 5, descriptorIndex := 6, attributes := #[] }, { accessFlags := 16409, nameIndex := 9, descriptorIndex := 6, attributes := #[] }, { accessFlags := 16409, nameIndex := 12, descriptorIndex := 6, attributes := #[] }, { accessFlags := 4122, nameIndex := 15, descriptorIndex := 16, attributes := #[] }])
  fields := #[{ name := "JOINT", type := (.object "com/example/clirtools/clirtools/Pooling"), accessFlags := 16409, slot := 0, constantValue := 0 }, { name := "SUM", type := (.object "com/example/clirtools/clirtools/Pooling"), accessFlags := 16409, slot := 1, constantValue := 0 }, { name := "MEAN", type := (.object "com/example/clirtools/clirtools/Pooling"), accessFlags := 16409, slot := 2, constantValue := 0 }, { name := "$VALUES", type := (.array (.object "com/example/clirtools/clirtools/Pooling")), accessFlags := 4122, slot := 3, constantValue := 0 }]
  methods := #[k6m0]
  instanceTypes := #[(.object "java/lang/String"), .int, .int]
  staticTypes := #[(.object "com/example/clirtools/clirtools/Pooling"), (.object "com/example/clirtools/clirtools/Pooling"), (.object "com/example/clirtools/clirtools/Pooling"), (.array (.object "com/example/clirtools/clirtools/Pooling"))]
  resolved := Array.replicate 108 none
  statics := some 0 }

def pool7 : Array CpInfo := pool [(1, u "java/lang/Cloneable"), (0, .class_ 1), (0, u "java/lang/Object"), (0, .class_ 3)] 3

/-- java/lang/Cloneable -/
def k7 : Class := { plain "java/lang/Cloneable" (some 0) with
  accessFlags := 1537
  interfaces := #[]
  cf := some (fileOf pool7 2 #[] #[] 1537 4 #[] #[])
  fields := #[]
  methods := #[]
  instanceTypes := #[]
  staticTypes := #[]
  resolved := Array.replicate 8 none
  statics := none }

/-- the primitive byte -/
def k8 : Class := { plain "byte" none with kind := .primitive 'B', accessFlags := 0x411 }
/-- [B -/
def k9 : Class := { plain "[B" (some 0) with kind := .array 8 .byte, interfaces := #[7, 4], accessFlags := 1041 }

/-- the primitive int -/
def k10 : Class := { plain "int" none with kind := .primitive 'I', accessFlags := 0x411 }
/-- [I -/
def k11 : Class := { plain "[I" (some 0) with kind := .array 10 .int, interfaces := #[7, 4], accessFlags := 1041 }

def heap : Heap := #[{ cls := 6, slots := #[.ref 1, .ref 2, .ref 3, .null], vm := .statics 6 },
  { cls := 6, slots := #[.null, .int 0, .int 0], vm := .none },
  { cls := 6, slots := #[.null, .int 1, .int 0], vm := .none },
  { cls := 6, slots := #[.null, .int 2, .int 0], vm := .none }]
def classes : Array Class := #[k0, k1, k2, k3, k4, k5, k6, k7, k8, k9, k10, k11]
def interned : List (Array UInt16 × Addr) := []
def slotsUsed : Nat := 13
def theMethod : MethodId := ⟨1, 1⟩
def args0 : Array Value := #[.int 5, .int 7, .int 9]
def aboutOver (below : List Frame) : State where
  vm := { classes := classes, interned := interned.toArray }
  heap := heap
  slotsUsed := slotsUsed
  threads := #[{ frames := .invoking theMethod args0 :: below }]
def below0 : List Frame := [.native { method := ⟨0, 0⟩, args := #[] }]
def about1 : State := aboutOver below0
def p0 : Program := .bare "" "" ""
def e0 : Env := launch0.env 0 0 0
theorem w_frames : about1.frames = Frame.invoking theMethod args0 :: below0 := rfl
set_option maxRecDepth 65536 in
theorem w_args : argsFit about1.vm theMethod args0 = true := by decide +kernel
set_option maxRecDepth 65536 in
theorem w_heap : heapFits about1 = true := by decide +kernel
set_option maxRecDepth 65536 in
theorem w_runnable : about1.curStatus? = some .runnable := by decide +kernel
set_option maxRecDepth 65536 in
theorem w_alone : about1.alone = true := by decide +kernel
set_option maxRecDepth 65536 in
theorem w_named : about1.methodNamed? x = some theMethod := by decide +kernel
set_option maxRecDepth 65536 in
theorem w_hears : about1.hears theMethod below0 = true := by decide +kernel
set_option maxRecDepth 65536 in
theorem w_ripe : about1.ripe theMethod args0 below0 = true := by decide +kernel
theorem w_running : about1.status = .running := rfl
set_option maxRecDepth 65536 in
theorem w_room : about1.hasRoom e0.platform room_1 = true :=
  launch0.hasRoom_least _ room_1 (by decide +kernel) (by decide +kernel) (by decide +kernel) (by decide +kernel) (by decide +kernel) (by decide +kernel)
theorem allAtoms_all (ts : List Jvm.Cond) (a : Array Jvm.Value) (st : Jvm.State) : (allAtoms ts).before a st = ts.all (fun c => c.before a st) := by
  induction ts with
  | nil => rfl
  | cons c t ih =>
    show (Jvm.Cond.and c (allAtoms t)).before a st = _
    rw [Jvm.Cond.before_and, ih, List.all_cons]
def words1 : List Jvm.Cond := Jvm.Cond.code x code maxLocals ret :: tables_1
/-- a 'code' word, met by the world's own term for the bytes: nothing is compared byte by byte -/
theorem code_word {y : MethodName} {bytes : ByteArray} {mx : Nat} {rt : Option FieldType} {a : Array Value} {s : State} {m : MethodId} {meth : Method} {c : Code} (h1 : s.methodNamed? y = some m) (h2 : s.vm.method? m = some meth) (h3 : meth.code = some c) (h4 : c.code = bytes)
    (h5 : (c.maxLocals == mx && c.exceptionTable.isEmpty && decide (c.maxStack ≤ mostOperands) && decide (meth.sig.returnType = rt) && !meth.locks && decide (parseMethodDescriptor y.desc = some meth.sig)) = true) : (Jvm.Cond.code y bytes mx rt).before a s = true := by
  simp only [Bool.and_eq_true, beq_iff_eq, Bool.not_eq_true', decide_eq_true_eq] at h5
  obtain ⟨⟨⟨⟨⟨g1, g2⟩, g3⟩, g4⟩, g5⟩, g6⟩ := h5
  simp [Cond.before, Cond.holds, Cond.value, h1, h2, h3, h4, g1, g2, g3, g4, g5, g6]
def isCode : Jvm.Cond → Bool
  | .code _ _ _ _ => true
  | _ => false
theorem all_split {L : List Jvm.Cond} {P : Jvm.Cond → Bool} (h1 : L.all (fun c => isCode c || P c) = true) (h2 : ∀ c ∈ L.filter isCode, P c = true) : L.all P = true := by
  refine List.all_eq_true.mpr fun c hc => ?_
  have h := List.all_eq_true.mp h1 c hc
  rcases Bool.eq_false_or_eq_true (isCode c) with hi | hi
  · exact h2 c (List.mem_filter.mpr ⟨hc, hi⟩)
  · simpa [hi] using h
set_option maxRecDepth 65536 in
theorem w_c0 : (Jvm.Cond.code x code maxLocals ret).before args0 about1 = true := code_word (m := ⟨1, 1⟩) (meth := k1m1) (c := k1c1) (by decide +kernel) rfl rfl rfl (by decide +kernel)
set_option maxRecDepth 65536 in
theorem w_c1 : (Jvm.Cond.code ({ cls := "com/example/clirtools/clirtools/Pooling", name := "score", desc := "(DI)D" } : Jvm.MethodName) prog_22_method_5_code (4 : Nat) (Option.some Jvm.ClassFile.FieldType.double)).before args0 about1 = true := code_word (m := ⟨6, 0⟩) (meth := k6m0) (c := k6c0) (by decide +kernel) rfl rfl rfl (by decide +kernel)
def codes1 : List Jvm.Cond := [Jvm.Cond.code x code maxLocals ret, Jvm.Cond.code ({ cls := "com/example/clirtools/clirtools/Pooling", name := "score", desc := "(DI)D" } : Jvm.MethodName) prog_22_method_5_code (4 : Nat) (Option.some Jvm.ClassFile.FieldType.double)]
set_option maxRecDepth 65536 in
theorem codes_eq : words1.filter isCode = codes1 := rfl
theorem w_codes : ∀ c ∈ words1.filter isCode, c.before args0 about1 = true := by
  rw [codes_eq]
  intro c hc
  simp only [codes1, List.mem_cons, List.not_mem_nil, or_false] at hc
  rcases hc with rfl | rfl
  · exact w_c0
  · exact w_c1
set_option maxRecDepth 65536 in
theorem w_t1 : words1.all (fun c => isCode c || c.before args0 about1) = true := by decide +kernel
theorem w_tables : (allAtoms (Jvm.Cond.code x code maxLocals ret :: tables_1)).before args0 about1 = true := by
  rw [allAtoms_all]
  show words1.all (fun c => c.before args0 about1) = true
  refine all_split ?_ w_codes
  rw [w_t1]
set_option maxRecDepth 65536 in
theorem w_case : (Jvm.Cond.and given_1 narrow_1).before args0 about1 = true := by decide +kernel
theorem w_applies : (headSpec (Jvm.Cond.code x code maxLocals ret :: tables_1) room_1).applies x e0.platform about1 = true :=
  (Spec.applies_iff w_frames).mpr ⟨w_running, w_runnable, w_alone, w_named, w_hears, w_ripe, w_room, w_tables⟩
theorem atStart : AtStart classFile x code maxLocals ret World_1 tables_1 room_1 Calls_1 rest_1 Pre_1 launch0 p0 e0 about1 theMethod args0 below0 :=
  ⟨lists_1, trivial, launch0.admits_env _ _ _, launch0.least_env, fairChoices_fair.cas, fairChoices_fair.clock, w_frames, w_args, w_heap, w_applies, trivial, trivial, w_case⟩
end start1
theorem witness_1 : WitnessClaimed_1 := ⟨start1.p0, start1.e0, start1.about1, start1.theMethod, start1.args0, start1.below0, start1.atStart⟩
end Jvm.Pilot.@@N@@
