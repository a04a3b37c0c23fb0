import JvmDerived
import JvmDerived.Pilot.@@N@@Statement
import JvmDerived.Pilot.@@N@@Code
set_option linter.unusedVariables false
set_option linter.unusedSimpArgs false
@@BLOCK:NumsL.lean.txt@@
namespace Jvm.Pilot.@@N@@
open Jvm Jvm.ClassFile Sem Op Lib Jvm.Free Jvm.Stand Jvm.LawKit Jvm.RoadKit Bundle Jvm.Pilot.@@N@@.Jvm.D
section OwnGo
variable {p : Program} {l : Launch} {e : Env} {R : Room} {s : State} {m : MethodId} {args : Array Value} {below : List Frame} {meth : Method} {c : Code} {T T' : State} {locs : List Loc} {cells slots K1 K2 : Nat} {Q : Option Value → Heap → List Loc → Prop}
/-- from T at the frame f the run comes to an end that meets Q -/
def Go (p : Program) (e : Env) (below : List Frame) (s : State) (K1 K2 : Nat) (Q : Option Value → Heap → List Loc → Prop) (T : State) (f : JFrame) : Prop :=
  ∃ s₂ o, Steps p.tables e below (T.setTop f) s₂ ∧ s₂.status = .running ∧ Ended s₂ below o ∧ ∃ v L, o = .returned v ∧ Q v s₂.heap L ∧ FrameEnd s o s₂ L K1 K2
theorem Go.on {f f' : JFrame} (h : ∀ t, Steps p.tables e below (T'.setTop f') t → Steps p.tables e below (T.setTop f) t) (g : Go p e below s K1 K2 Q T' f') : Go p e below s K1 K2 Q T f := by
  obtain ⟨s₂, o, h1, r⟩ := g
  exact ⟨s₂, o, h _ h1, r⟩
theorem Go.cast {f f' : JFrame} (h : f = f') (g : Go p e below s K1 K2 Q T f') : Go p e below s K1 K2 Q T f := h ▸ g
theorem Go.gen {f : JFrame} (h : ∀ k1 k2 q, k1 = K1 → k2 = K2 → Q = q → Go p e below s k1 k2 q T f) : Go p e below s K1 K2 Q T f := h _ _ _ rfl rfl rfl
theorem Go.retV (X : Stand p l e R s m args below meth c T locs cells slots) (hx : p.tables.exec = Jvm.exec) {pc : Nat} {Ls : Array Slot} {w : Value} {t : FieldType} {i : Instr} {rest : List Value} (hret : meth.sig.returnType = some t) (hn : narrow t w = w)
    (hi : (i = .ireturn ∧ (t = .int ∨ t = .boolean ∨ t = .byte ∨ t = .char ∨ t = .short) ∧ ∃ z, w = .int z) ∨ (i = .lreturn ∧ t = .long ∧ ∃ z, w = .long z) ∨ (i = .dreturn ∧ t = .double ∧ ∃ z, w = .double z) ∨ (i = .freturn ∧ t = .float ∧ ∃ z, w = .float z) ∨ (i = .areturn ∧ t.isReference = true ∧ w.isRef = true))
    (hd : decode c.code pc = .ok (i, 1)) (hq : Q (some w) T.heap locs) (hc : cells ≤ K1) (hs : slots ≤ K2) (hlk : meth.locks = false := by assumption) : Go p e below s K1 K2 Q T (mkF m pc Ls (w :: rest)) := by
  obtain ⟨fs, hr, hrun, hended, hW, hsame⟩ := X.leave (v := some w) (fun h => by rw [hret] at h; cases h) hlk
  exact ⟨_, _, retOut X hx hret hn hi hd hr, hrun, hended, _, _, rfl, hq, ⟨_, rfl⟩, hW, hsame.mono hc hs⟩
theorem Go.retN (X : Stand p l e R s m args below meth c T locs cells slots) (hx : p.tables.exec = Jvm.exec) {pc : Nat} {Ls : Array Slot} {z : Int32} {t : FieldType} {rest : List Value} (hret : meth.sig.returnType = some t) (ht : t = .boolean ∨ t = .byte ∨ t = .char ∨ t = .short)
    (hd : decode c.code pc = .ok (.ireturn, 1)) (hq : Q (some (.int (nar t z))) T.heap locs) (hc : cells ≤ K1) (hs : slots ≤ K2) (hlk : meth.locks = false := by assumption) : Go p e below s K1 K2 Q T (mkF m pc Ls (.int z :: rest)) := by
  obtain ⟨fs, hr, hrun, hended, hW, hsame⟩ := X.leave (v := some (.int (nar t z))) (fun h => by rw [hret] at h; cases h) hlk
  exact ⟨_, _, Jvm.RoadKit.retN X hx hret ht hd hr, hrun, hended, _, _, rfl, hq, ⟨_, rfl⟩, hW, hsame.mono hc hs⟩
theorem Go.ret0 (X : Stand p l e R s m args below meth c T locs cells slots) (hx : p.tables.exec = Jvm.exec) {pc : Nat} {Ls : Array Slot} (hret : meth.sig.returnType = none)
    (hd : decode c.code pc = .ok (.return_, 1)) (hq : Q none T.heap locs) (hc : cells ≤ K1) (hs : slots ≤ K2) (hlk : meth.locks = false := by assumption) : Go p e below s K1 K2 Q T (mkF m pc Ls []) := by
  obtain ⟨fs, hr, hrun, hended, hW, hsame⟩ := X.leave (v := none) (fun _ => rfl) hlk
  exact ⟨_, _, X.returnOut hx hret hd hr, hrun, hended, _, _, rfl, hq, ⟨_, rfl⟩, hW, hsame.mono hc hs⟩
theorem own_lc_lt {a b : Int64} : lcmpW a b < 0 ↔ a < b := by rw [lcW]; exact lc_lt a b
theorem own_lc_gt {a b : Int64} : 0 < lcmpW a b ↔ b < a := by rw [lcW]; exact lc_gt a b
theorem own_lc_eq {a b : Int64} : lcmpW a b = 0 ↔ a = b := by rw [lcW]; exact lc_eq a b
theorem own_lremM {g : JFrame} {target : State} (X : Stand p l e R s m args below meth c T locs cells slots) (hx : p.tables.exec = Jvm.exec) (hg : g.method = m) {x y : Int64} {rest : List Value} (hd : decode c.code g.pc = .ok (.lrem, 1)) (hs : g.stack = .long y :: .long x :: rest) (hy : y ≠ 0)
    (hr : Steps p.tables e below (T.setTop { g with pc := g.pc + 1, stack := .long (x % y) :: rest }) target) : Steps p.tables e below (T.setTop g) target := by
  have q : x - x / y * y = x % y := by
    apply Int64.toInt_inj.mp
    have h1 := Int64.le_toInt (x % y)
    have h2 := Int64.toInt_lt (x % y)
    rw [Int64.toInt_sub, Int64.toInt_mul, Int64.toInt_div, Int.bmod_mul_bmod, Int.sub_bmod_bmod, Int.mul_comm (x.toInt.tdiv y.toInt), ← Int.tmod_def, ← Int64.toInt_mod]
    exact Int.bmod_eq_of_le_mul_two (by omega) (by omega)
  exact XS.lrem X.here hx hg hd hs hy (by rw [q]; exact hr)
theorem own_cl_gt {o : Option Ordering} : 0 < cmpValue o .l ↔ o = some .gt := by rcases o with _ | (_ | _ | _) <;> decide
theorem own_cl_lt {o : Option Ordering} : cmpValue o .l < 0 ↔ ¬ (o = some .gt ∨ o = some .eq) := by rcases o with _ | (_ | _ | _) <;> decide
theorem own_cg_lt {o : Option Ordering} : cmpValue o .g < 0 ↔ o = some .lt := by rcases o with _ | (_ | _ | _) <;> decide
theorem own_cg_gt {o : Option Ordering} : 0 < cmpValue o .g ↔ ¬ (o = some .lt ∨ o = some .eq) := by rcases o with _ | (_ | _ | _) <;> decide
theorem own_c_eq {o : Option Ordering} {k : CmpOp} : cmpValue o k = 0 ↔ o = some .eq := by cases k <;> rcases o with _ | (_ | _ | _) <;> decide
end OwnGo
section OwnFp
open Jvm.FP.Core
variable {a b V : UInt64} {x y z v : Int}
/-- the double a is finite and worth x units of 2^-1074 -/
def ZV (a : UInt64) (x : Int) : Prop := DFin a ∧ zval b64 (val64 a) = x
theorem ZV.ne (h : ZV a x) : val64 a ≠ .nan := h.1.ne_nan
theorem ZV.nn (h : ZV a x) : Jvm.Free.Fl.NoNaN64 a := Jvm.Free.Fl.noNaN64_no.mpr h.1.notNaN
theorem ZV.cmp (ha : ZV a x) (hb : ZV b y) : FP.dcmp a b = some (compare x y) := by
  show FP.Core.dcmp a b = _
  rw [dcmp_zval ha.ne hb.ne, ha.2, hb.2]
theorem ZV.uniq (ha : ZV a x) (hb : ZV a y) : x = y := ha.2.symm.trans hb.2
theorem own_fin_of {W : UInt64} (hn : val64 a ≠ .nan) (hW : DFin W) (h : zmag b64 (val64 a) ≤ zmag b64 (val64 W)) : DFin a := by
  cases h2 : val64 a with
  | nan => exact absurd h2 hn
  | inf s =>
    rw [h2] at h
    have := hW.zval_lt
    have e : zmag b64 (.inf s) = b64.tails * 2 ^ (b64.exps - 2) := rfl
    rw [e] at h
    omega
  | fin s c q => exact ⟨s, c, q, h2⟩
theorem own_natAbs (d : Datum) : (zval b64 d).natAbs = zmag b64 d := natAbs_signed _ _
theorem own_fin_of_z {W : UInt64} (hn : val64 a ≠ .nan) (hW : DFin W) (h : (zval b64 (val64 a)).natAbs ≤ (zval b64 (val64 W)).natAbs) : DFin a := by
  rw [own_natAbs, own_natAbs] at h; exact own_fin_of hn hW h
theorem ZV.add (ha : ZV a x) (hb : ZV b y) (hv : ZV V (x + y)) : ZV (FP.dadd a b) (x + y) := by
  have hn : val64 (FP.Core.dadd a b) ≠ .nan := (notNaN_iff _).mp (FP.Core.dadd_out ha.1.notNaN hb.1)
  have e : zval b64 (val64 (FP.Core.dadd a b)) = x + y := by
    have h1 := sum_le good_b64 ha.1 hb.1 (val64_fits a) (val64_fits b) (val64_fits V) hv.ne (by rw [ha.2, hb.2, hv.2]; exact Int.le_refl _)
    have h2 := sum_ge good_b64 ha.1 hb.1 (val64_fits a) (val64_fits b) (val64_fits V) hv.ne (by rw [ha.2, hb.2, hv.2]; exact Int.le_refl _)
    rw [← val64_dadd, hv.2] at h1 h2
    exact Int.le_antisymm h1 h2
  exact ⟨own_fin_of_z hn hv.1 (by rw [e, hv.2]; exact Nat.le_refl _), e⟩
theorem own_neg_fin {d : Datum} (h : ∃ s c q, d = .fin s c q) : ∃ s c q, negate d = .fin s c q := by
  obtain ⟨s, c, q, rfl⟩ := h; exact ⟨_, _, _, rfl⟩
theorem ZV.sub (ha : ZV a x) (hb : ZV b y) (hv : ZV V (x - y)) : ZV (FP.dsub a b) (x - y) := by
  have hn : val64 (FP.Core.dsub a b) ≠ .nan := (notNaN_iff _).mp (FP.Core.dsub_out ha.1.notNaN hb.1)
  have e : zval b64 (val64 (FP.Core.dsub a b)) = x - y := by
    have h1 := sum_le good_b64 ha.1 (own_neg_fin hb.1) (val64_fits a) (negate_fits (val64_fits b)) (val64_fits V) hv.ne (by rw [ha.2, zval_negate, hb.2, hv.2]; omega)
    have h2 := sum_ge good_b64 ha.1 (own_neg_fin hb.1) (val64_fits a) (negate_fits (val64_fits b)) (val64_fits V) hv.ne (by rw [ha.2, zval_negate, hb.2, hv.2]; omega)
    rw [← val64_dsub, hv.2] at h1 h2
    exact Int.le_antisymm h1 h2
  exact ⟨own_fin_of_z hn hv.1 (by rw [e, hv.2]; exact Nat.le_refl _), e⟩
/-- a sum or a difference lies between what bounds it -/
theorem ZV.add_le (ha : ZV a x) (hb : ZV b y) (hv : ZV V v) (h : x + y ≤ v) : zval b64 (val64 (FP.dadd a b)) ≤ v := by
  have h1 := sum_le good_b64 ha.1 hb.1 (val64_fits a) (val64_fits b) (val64_fits V) hv.ne (by rw [ha.2, hb.2, hv.2]; exact h)
  rw [← val64_dadd, hv.2] at h1; exact h1
theorem ZV.add_ge (ha : ZV a x) (hb : ZV b y) (hv : ZV V v) (h : v ≤ x + y) : v ≤ zval b64 (val64 (FP.dadd a b)) := by
  have h1 := sum_ge good_b64 ha.1 hb.1 (val64_fits a) (val64_fits b) (val64_fits V) hv.ne (by rw [ha.2, hb.2, hv.2]; exact h)
  rw [← val64_dadd, hv.2] at h1; exact h1
theorem ZV.sub_le (ha : ZV a x) (hb : ZV b y) (hv : ZV V v) (h : x - y ≤ v) : zval b64 (val64 (FP.dsub a b)) ≤ v := by
  have h1 := sum_le good_b64 ha.1 (own_neg_fin hb.1) (val64_fits a) (negate_fits (val64_fits b)) (val64_fits V) hv.ne (by rw [ha.2, zval_negate, hb.2, hv.2]; omega)
  rw [← val64_dsub, hv.2] at h1; exact h1
theorem ZV.sub_ge (ha : ZV a x) (hb : ZV b y) (hv : ZV V v) (h : v ≤ x - y) : v ≤ zval b64 (val64 (FP.dsub a b)) := by
  have h1 := sum_ge good_b64 ha.1 (own_neg_fin hb.1) (val64_fits a) (negate_fits (val64_fits b)) (val64_fits V) hv.ne (by rw [ha.2, zval_negate, hb.2, hv.2]; omega)
  rw [← val64_dsub, hv.2] at h1; exact h1
/-- the product's bounds -/
theorem own_mul_le (ha : ZV a x) (hb : ZV b y) (hv : ZV V v) (h : x * y ≤ v * (one64 : Int)) : zval b64 (val64 (FP.dmul a b)) ≤ v := by
  obtain ⟨⟨s, c, q, h1⟩, ex⟩ := ha
  obtain ⟨⟨t, d, r, h2⟩, ey⟩ := hb
  have f1 := val64_fits a; have f2 := val64_fits b
  rw [h1] at f1 ex; rw [h2] at f2 ey
  obtain ⟨p1, p2, p3⟩ := product_units f1 f2
  show zval b64 (val64 (FP.Core.dmul a b)) ≤ v
  rw [val64_dmul, h1, h2, p1, ← hv.2]
  refine zval_round_le good_b64 (val64_fits V) hv.ne (e0 := 2 * b64.qmin) (by decide) p2 ?_
  rw [p3, show (b64.qmin - 2 * b64.qmin).toNat = (-b64.qmin).toNat from by decide, pow_qmin64, hv.2, signed_xor]
  have : zval b64 (.fin s c q) * zval b64 (.fin t d r) ≤ v * (one64 : Int) := by rw [ex, ey]; exact h
  exact this
theorem own_mul_ge (ha : ZV a x) (hb : ZV b y) (hv : ZV V v) (h : v * (one64 : Int) ≤ x * y) : v ≤ zval b64 (val64 (FP.dmul a b)) := by
  obtain ⟨⟨s, c, q, h1⟩, ex⟩ := ha
  obtain ⟨⟨t, d, r, h2⟩, ey⟩ := hb
  have f1 := val64_fits a; have f2 := val64_fits b
  rw [h1] at f1 ex; rw [h2] at f2 ey
  obtain ⟨p1, p2, p3⟩ := product_units f1 f2
  show v ≤ zval b64 (val64 (FP.Core.dmul a b))
  rw [val64_dmul, h1, h2, p1, ← hv.2]
  refine zval_round_ge good_b64 (val64_fits V) hv.ne (e0 := 2 * b64.qmin) (by decide) p2 ?_
  rw [p3, show (b64.qmin - 2 * b64.qmin).toNat = (-b64.qmin).toNat from by decide, pow_qmin64, hv.2, signed_xor]
  have : v * (one64 : Int) ≤ zval b64 (.fin s c q) * zval b64 (.fin t d r) := by rw [ex, ey]; exact h
  exact this
theorem ZV.mul (ha : ZV a x) (hb : ZV b y) (hv : ZV V z) (h : x * y = z * (one64 : Int)) : ZV (FP.dmul a b) z := by
  have hn : val64 (FP.Core.dmul a b) ≠ .nan := (notNaN_iff _).mp (FP.Core.dmul_out ha.1 hb.1)
  have e : zval b64 (val64 (FP.Core.dmul a b)) = z := Int.le_antisymm (own_mul_le ha hb hv (Int.le_of_eq h)) (own_mul_ge ha hb hv (Int.le_of_eq h.symm))
  exact ⟨own_fin_of_z hn hv.1 (by rw [e, hv.2]; exact Nat.le_refl _), e⟩
/-- the quotient of finite doubles, the divisor not nought: its datum -/
theorem own_quot (ha : ZV a x) (hb : ZV b y) (hy : y ≠ 0) : ∃ s c q t d r, val64 a = .fin s c q ∧ val64 b = .fin t d r ∧ 0 < d ∧ val64 (FP.ddiv a b) = roundRatio b64 (s != t) c d (q - r) ∧ FP.Core.fits b64 (.fin s c q) ∧ FP.Core.fits b64 (.fin t d r) := by
  obtain ⟨⟨s, c, q, h1⟩, ex⟩ := ha
  obtain ⟨⟨t, d, r, h2⟩, ey⟩ := hb
  have f1 := val64_fits a; have f2 := val64_fits b
  rw [h1] at f1; rw [h2] at f2
  have hd : d ≠ 0 := fun q => by
    subst q
    rw [h2] at ey
    apply hy; rw [← ey]; show signed t (inUnits 0 r _) = 0
    unfold inUnits; rw [Nat.zero_mul, signed_zero]
  refine ⟨s, c, q, t, d, r, h1, h2, Nat.pos_of_ne_zero hd, ?_, f1, f2⟩
  show val64 (FP.Core.ddiv a b) = _
  rw [val64_ddiv, h1, h2]
  show (if d = 0 then _ else _) = _
  rw [if_neg hd]
theorem own_div_mag_le {c d : Nat} {q r : Int} {s t sg : Bool} (f1 : FP.Core.fits b64 (.fin s c q)) (f2 : FP.Core.fits b64 (.fin t d r)) (hd : 0 < d) {W : Datum} (fW : FP.Core.fits b64 W) (hW : W ≠ .nan)
    (h : inUnits c q b64.qmin * one64 ≤ zmag b64 W * inUnits d r b64.qmin) : zmag b64 (roundRatio b64 sg c d (q - r)) ≤ zmag b64 W := by
  have h1 := f1.2.1
  have h2 := f2.2.1
  have hq : b64.qmin < 0 := by decide
  refine zmag_roundRatio_le good_b64 hd fW hW (e0 := 2 * b64.qmin - r) (by omega) (by omega) ?_
  have e1 : (b64.qmin - (2 * b64.qmin - r)).toNat = (r - b64.qmin).toNat := by congr 1; omega
  rw [e1]
  have e2 : inUnits c (q - r) (2 * b64.qmin - r) = inUnits c q b64.qmin * one64 := by
    unfold inUnits
    rw [← pow_qmin64, Nat.mul_assoc, ← Nat.pow_add]
    congr 2; omega
  rw [e2]
  refine Nat.le_trans h (Nat.le_of_eq ?_)
  unfold inUnits
  rw [Nat.mul_comm d, Nat.mul_assoc]
theorem own_div_mag_ge {c d : Nat} {q r : Int} {s t sg : Bool} (f1 : FP.Core.fits b64 (.fin s c q)) (f2 : FP.Core.fits b64 (.fin t d r)) (hd : 0 < d) {W : Datum} (fW : FP.Core.fits b64 W)
    (h : zmag b64 W * inUnits d r b64.qmin ≤ inUnits c q b64.qmin * one64) : zmag b64 W ≤ zmag b64 (roundRatio b64 sg c d (q - r)) := by
  have h1 := f1.2.1
  have h2 := f2.2.1
  have hq : b64.qmin < 0 := by decide
  refine zmag_roundRatio_ge good_b64 hd fW (e0 := 2 * b64.qmin - r) (by omega) (by omega) ?_
  have e1 : (b64.qmin - (2 * b64.qmin - r)).toNat = (r - b64.qmin).toNat := by congr 1; omega
  rw [e1]
  have e2 : inUnits c (q - r) (2 * b64.qmin - r) = inUnits c q b64.qmin * one64 := by
    unfold inUnits
    rw [← pow_qmin64, Nat.mul_assoc, ← Nat.pow_add]
    congr 2; omega
  rw [e2]
  refine Nat.le_trans (Nat.le_of_eq ?_) h
  unfold inUnits
  rw [Nat.mul_comm d, Nat.mul_assoc]
/-- what is said of a quotient: r its units -/
def Quo (x y r : Int) : Prop := ∀ (V : UInt64) (v : Int), ZV V v → (x * (one64 : Int) ≤ v * y → r ≤ v) ∧ (v * y ≤ x * (one64 : Int) → v ≤ r)
theorem own_sgn_z (s : Bool) (m : Nat) : signed s m = if s then -(m : Int) else m := rfl
theorem ZV.neg_ex (h : ZV a x) : ∃ V, ZV V (-x) := by
  refine ⟨FP.Core.dneg a, ?_, ?_⟩
  · obtain ⟨⟨s, c, q, h1⟩, -⟩ := h; exact ⟨!s, c, q, by rw [val64_dneg, h1]; rfl⟩
  · rw [val64_dneg, zval_negate, h.2]
theorem own_mag {s : Bool} {c : Nat} {q : Int} : zval b64 (.fin s c q) = signed s (inUnits c q b64.qmin) := rfl
/-- the quotient by a positive double of at least one -/
theorem ZV.div (ha : ZV a x) (hb : ZV b y) (hy : (one64 : Int) ≤ y) : ∃ r, ZV (FP.ddiv a b) r ∧ Quo x y r := by
  have o1 := one64_pos
  obtain ⟨s, c, q, t, d, r, h1, h2, hd, h3, f1, f2⟩ := own_quot ha hb (by omega)
  have ey := hb.2; rw [h2, own_mag] at ey
  have ex := ha.2; rw [h1, own_mag] at ex
  have t0 : t = false := by
    cases t
    · rfl
    · simp only [own_sgn_z, if_true] at ey; omega
  subst t0
  have hy0 : (0 : Int) < y := by omega
  have ey' : ((inUnits d r b64.qmin : Nat) : Int) = y := ey
  generalize hu : inUnits d r b64.qmin = u at *
  generalize hc : inUnits c q b64.qmin = k at *
  have hsg : sgn (val64 (FP.ddiv a b)) = s := by rw [h3, sgn_roundRatio]; cases s <;> rfl
  have hne : val64 (FP.ddiv a b) ≠ .nan := by rw [h3]; exact roundRatio_ne_nan _ _ _ _ _
  have hz : zval b64 (val64 (FP.ddiv a b)) = signed s (zmag b64 (val64 (FP.ddiv a b))) := by rw [zval, hsg]
  have up : ∀ W : UInt64, val64 W ≠ .nan → k * one64 ≤ zmag b64 (val64 W) * u → zmag b64 (val64 (FP.ddiv a b)) ≤ zmag b64 (val64 W) := fun W hW h => by
    rw [h3]; exact own_div_mag_le f1 f2 hd (val64_fits W) hW (by rw [hu, hc]; exact h)
  have dn : ∀ W : UInt64, zmag b64 (val64 W) * u ≤ k * one64 → zmag b64 (val64 W) ≤ zmag b64 (val64 (FP.ddiv a b)) := fun W h => by
    rw [h3]; exact own_div_mag_ge f1 f2 hd (val64_fits W) (by rw [hu, hc]; exact h)
  have hk : k = zmag b64 (val64 a) := by rw [h1]; exact hc.symm
  have hfin : DFin (FP.ddiv a b) := own_fin_of hne ha.1 (up a ha.ne (by rw [← hk]; exact Nat.mul_le_mul_left _ (by omega)))
  refine ⟨_, ⟨hfin, rfl⟩, fun V v hv => ?_⟩
  rw [hz]
  generalize hm : zmag b64 (val64 (FP.ddiv a b)) = m at *
  have hV := own_natAbs (val64 V)
  rw [hv.2] at hV
  have upV := up V hv.ne
  have dnV := dn V
  rw [← hV] at upV dnV
  clear up dn
  have cast : ∀ p q : Nat, ((p * q : Nat) : Int) = (p : Int) * q := fun p q => by simp
  cases s
  · have ex' : (k : Int) = x := ex
    have em : signed false m = (m : Int) := rfl
    rw [em]
    constructor
    · intro h
      by_cases hv0 : 0 ≤ v
      · have e1 : (v.natAbs : Int) = v := Int.natAbs_of_nonneg hv0
        have : k * one64 ≤ v.natAbs * u := by apply Int.ofNat_le.mp; rw [cast, cast, ex', e1, ey']; exact h
        have := upV this; omega
      · exfalso
        have h5 : v * y < 0 := Int.mul_neg_of_neg_of_pos (by omega) hy0
        have h6 : 0 ≤ x * (one64 : Int) := Int.mul_nonneg (by omega) (by omega)
        omega
    · intro h
      by_cases hv0 : 0 ≤ v
      · have e1 : (v.natAbs : Int) = v := Int.natAbs_of_nonneg hv0
        have : v.natAbs * u ≤ k * one64 := by apply Int.ofNat_le.mp; rw [cast, cast, ex', e1, ey']; exact h
        have := dnV this; omega
      · omega
  · have ex' : -(k : Int) = x := ex
    have em : signed true m = -(m : Int) := rfl
    rw [em]
    have ek : (k : Int) = -x := by omega
    constructor
    · intro h
      by_cases hv0 : 0 ≤ v
      · omega
      · have e1 : (v.natAbs : Int) = -v := by omega
        have : v.natAbs * u ≤ k * one64 := by
          apply Int.ofNat_le.mp; rw [cast, cast, ek, e1, ey', Int.neg_mul, Int.neg_mul]; omega
        have := dnV this; omega
    · intro h
      by_cases hv0 : v ≤ 0
      · have e1 : (v.natAbs : Int) = -v := by omega
        have : k * one64 ≤ v.natAbs * u := by
          apply Int.ofNat_le.mp; rw [cast, cast, ek, e1, ey', Int.neg_mul, Int.neg_mul]; omega
        have := upV this; omega
      · exfalso
        have h5 : 0 < v * y := Int.mul_pos (by omega) hy0
        have h6 : x * (one64 : Int) ≤ 0 := by
          have : 0 ≤ (k : Int) * (one64 : Int) := Int.mul_nonneg (by omega) (by omega)
          rw [ek, Int.neg_mul] at this; omega
        omega
theorem ZV.div_exact (ha : ZV a x) (hb : ZV b y) (hy : (one64 : Int) ≤ y) (hv : ZV V z) (h : x * (one64 : Int) = z * y) : ZV (FP.ddiv a b) z := by
  obtain ⟨r, h1, h2⟩ := ha.div hb hy
  have h3 := h2 V z hv
  have : r = z := Int.le_antisymm (h3.1 (Int.le_of_eq h)) (h3.2 (Int.le_of_eq h.symm))
  exact this ▸ h1
/-- i * 2^k units are a double -/
theorem own_rep (i : Int) (k : Nat) (hi : i.natAbs < 2 ^ 53) (hk : k ≤ 2045) : ∃ V, ZV V (i * ((2 ^ k : Nat) : Int)) := by
  obtain ⟨c', q', h1, h2⟩ := round_exact good_b64 (decide (i < 0)) (c := i.natAbs) (q := (k : Int) + b64.qmin) hi (by omega) (by rw [show b64.qmax = 971 from by decide, qmin_b64]; omega)
  have hf : FP.Core.fits b64 (.fin (decide (i < 0)) c' q') := by rw [← h1]; exact round_fits good_b64 _
  refine ⟨of64 (.fin (decide (i < 0)) c' q'), ⟨_, _, _, val64_of64 hf⟩, ?_⟩
  rw [val64_of64 hf, own_mag, h2]
  unfold inUnits
  rw [show ((k : Int) + b64.qmin - b64.qmin).toNat = k from by omega, signed_mul, own_sgn_z]
  congr 1
  by_cases h : i < 0
  · simp only [h, decide_true, if_true]; omega
  · simp only [h, decide_false]; simp only [Bool.false_eq_true, if_false]; omega
theorem own_one64 : (one64 : Int) = ((2 ^ 1074 : Nat) : Int) := rfl
theorem ZV.of_int {i : Int} (h : DInt i a) : ZV a (i * (one64 : Int)) := by
  refine ⟨?_, DInt_zval h⟩
  unfold DInt at h
  cases h2 : val64 a with
  | nan => rw [h2] at h; exact h.elim
  | inf s => rw [h2] at h; exact h.elim
  | fin s c q => exact ⟨s, c, q, h2⟩
theorem own_i2d (n : Int32) : ZV (FP.i2d n) (n.toInt * (one64 : Int)) := ZV.of_int (i2d_int n)
theorem own_l2d {n : Int64} (h : n.toInt.natAbs ≤ 2 ^ 53) : ZV (FP.l2d n) (n.toInt * (one64 : Int)) := ZV.of_int (l2d_int h)
theorem own_ddiv_nn (ha : DFin a) (hb : DFin b) : FP.ddiv (FP.Core.dneg a) (FP.Core.dneg b) = FP.ddiv a b ∨ val64 (FP.ddiv a b) = .nan := by
  by_cases hn : val64 (FP.ddiv a b) = .nan
  · exact Or.inr hn
  · refine Or.inl (val64_inj hn ?_).symm
    obtain ⟨s, c, q, h1⟩ := ha
    obtain ⟨t, d, r, h2⟩ := hb
    show val64 (FP.Core.ddiv a b) = val64 (FP.Core.ddiv _ _)
    rw [val64_ddiv, val64_ddiv, val64_dneg, val64_dneg, h1, h2]
    show quotient b64 (.fin s c q) (.fin t d r) = quotient b64 (.fin (!s) c q) (.fin (!t) d r)
    simp only [quotient]
    have : ((!s) != (!t)) = (s != t) := by cases s <;> cases t <;> rfl
    rw [this]
theorem ZV.dneg (h : ZV a x) : ZV (FP.Core.dneg a) (-x) := by
  refine ⟨?_, by rw [val64_dneg, zval_negate, h.2]⟩
  obtain ⟨⟨s, c, q, h1⟩, -⟩ := h; exact ⟨!s, c, q, by rw [val64_dneg, h1]; rfl⟩
/-- the quotient by a negative double of at most minus one -/
theorem ZV.div_neg (ha : ZV a x) (hb : ZV b y) (hy : y ≤ -(one64 : Int)) : ∃ r, ZV (FP.ddiv a b) r ∧ Quo (-x) (-y) r := by
  obtain ⟨r, h1, h2⟩ := ha.dneg.div hb.dneg (by omega)
  have o1 := one64_pos
  obtain ⟨s, c, q, t, d, r', -, -, -, h3, -⟩ := own_quot ha hb (by omega)
  rcases own_ddiv_nn ha.1 hb.1 with h | h
  · exact ⟨r, h ▸ h1, h2⟩
  · rw [h3] at h; exact absurd h (roundRatio_ne_nan _ _ _ _ _)
/-- n / D against i / 2^j -/
theorem own_quo_int {n D r : Int} (h : Quo (n * (one64 : Int)) (D * (one64 : Int)) r) (i : Int) (j : Nat) (hj : j ≤ 1074) (hi : i.natAbs < 2 ^ 53) :
    (n * ((2 ^ j : Nat) : Int) ≤ i * D → r ≤ i * ((2 ^ (1074 - j) : Nat) : Int)) ∧ (i * D ≤ n * ((2 ^ j : Nat) : Int) → i * ((2 ^ (1074 - j) : Nat) : Int) ≤ r) := by
  obtain ⟨V, hV⟩ := own_rep i (1074 - j) hi (by omega)
  have q := h V _ hV
  have e : (one64 : Int) = ((2 ^ j : Nat) : Int) * ((2 ^ (1074 - j) : Nat) : Int) := by
    rw [own_one64, ← Int.natCast_mul, ← Nat.pow_add]; congr 2; omega
  have hu : (0 : Int) ≤ ((2 ^ (1074 - j) : Nat) : Int) * (one64 : Int) := Int.mul_nonneg (Int.natCast_nonneg _) (Int.natCast_nonneg _)
  have e1 : n * (one64 : Int) * (one64 : Int) = n * ((2 ^ j : Nat) : Int) * (((2 ^ (1074 - j) : Nat) : Int) * (one64 : Int)) := by
    conv => lhs; arg 1; rw [e]
    rw [← Int.mul_assoc n, Int.mul_assoc (n * _)]
  have e2 : i * ((2 ^ (1074 - j) : Nat) : Int) * (D * (one64 : Int)) = i * D * (((2 ^ (1074 - j) : Nat) : Int) * (one64 : Int)) := by rw [Int.mul_assoc i, Int.mul_left_comm _ D, ← Int.mul_assoc i D]
  rw [e1, e2] at q
  exact ⟨fun z => q.1 (Int.mul_le_mul_of_nonneg_right z hu), fun z => q.2 (Int.mul_le_mul_of_nonneg_right z hu)⟩
theorem own_zero : ZV (0 : UInt64) 0 := ⟨⟨_, _, _, val64_zero⟩, zval64_zero⟩
theorem own_one : ZV (4607182418800017408 : UInt64) (one64 : Int) := by
  have := ZV.of_int dint_one; rwa [Int.one_mul] at this
theorem own_cmp_gt {x y : Int} : some (compare x y) = some Ordering.gt ↔ y < x := by rw [Option.some.injEq]; exact compare_gt_iff x y
theorem own_cmp_lt {x y : Int} : some (compare x y) = some Ordering.lt ↔ x < y := by rw [Option.some.injEq]; exact compare_lt_iff x y
theorem own_cmp_eq {x y : Int} : some (compare x y) = some Ordering.eq ↔ x = y := by rw [Option.some.injEq]; exact compare_eq_iff x y
theorem own_dnn {i : Int} {a : UInt64} (h : DInt i a) : Jvm.Free.Fl.NoNaN64 a := (ZV.of_int h).nn
theorem own_nnd' {a : UInt64} (ha : DFin a) (n : Int32) (hn : n ≠ 0) : Jvm.Free.Fl.NoNaN64 (FP.ddiv a (FP.i2d n)) :=
  Jvm.Free.Fl.noNaN64_no.mpr (FP.Core.ddiv_out ha.notNaN (i2d_fin n) (fun q => i2d_ne_zero hn (by rwa [zero_bits2] at q)))
theorem own_nnd (s : Int64) (n : Int32) (hn : n ≠ 0) : Jvm.Free.Fl.NoNaN64 (FP.ddiv (FP.l2d s) (FP.i2d n)) := own_nnd' (l2d_fin s) n hn
theorem own_dz : DInt 0 (0 : UInt64) := by
  have : (0 : UInt64) = FP.l2d 0 := FP.Core.l2d_zero.symm
  rw [this]; exact l2d_int (a := 0) (by decide)
theorem own_div_eq {S S' : UInt64} {s : Int} (h : DInt s S) (h' : DInt s S') (n : Int32) (hn : 1 ≤ n.toInt) : FP.dcmp (FP.ddiv S (FP.i2d n)) (FP.ddiv S' (FP.i2d n)) = some .eq := by
  have hy : (one64 : Int) ≤ n.toInt * (one64 : Int) := by
    have := Int.mul_le_mul_of_nonneg_right hn (show (0 : Int) ≤ (one64 : Int) by omega)
    rwa [Int.one_mul] at this
  by_cases hs : s = 0
  · subst hs
    have z1 := ZV.of_int h
    have z2 := ZV.of_int h'
    rw [Int.zero_mul] at z1 z2
    have q1 := z1.div_exact (own_i2d n) hy own_zero (by rw [Int.zero_mul, Int.zero_mul])
    have q2 := z2.div_exact (own_i2d n) hy own_zero (by rw [Int.zero_mul, Int.zero_mul])
    rw [q1.cmp q2, own_cmp_eq]
  · have e := dint_unique hs h h'
    subst e
    have hz : n ≠ 0 := fun q => by subst q; revert hn; decide
    exact dcmp_refl (Jvm.Free.Fl.noNaN64_no.mp (own_nnd' (ZV.of_int h).1 n hz))
theorem own_ib (x : Int32) : x.toInt.natAbs ≤ 2147483648 := by have := x.le_toInt; have := x.toInt_lt; omega
end OwnFp
def indexV (x len : Int32) : Int32 := ((((x.toUInt32 >>> ((1 : Int32) &&& 31).toUInt32).toInt32) &&& (1073741823 : Int32)) % len)
def signV (x : Int32) : Int32 := if (x &&& (1 : Int32)) = (0 : Int32) then (1 : Int32) else (-1 : Int32)
def contribV (x k len : Int32) : Int32 := if (indexV x len) = k then (signV x) else (0 : Int32)
def compT (X Y : UInt64) (n S : Int32) : Int32 := if (cmpValue (FP.dcmp X (FP.ddiv (FP.i2d S) (FP.i2d n))) .l) = (0 : Int32) then (if (cmpValue (FP.dcmp Y (FP.ddiv (FP.i2d S) (FP.i2d n))) .l) = (0 : Int32) then (1 : Int32) else (0 : Int32)) else (0 : Int32)
def compV (X Y : UInt64) (k len n a b c : Int32) : Int32 :=
  if n < (2 : Int32) then (if n < (3 : Int32) then compT X Y n (contribV a k len) else compT X Y n (contribV a k len + contribV c k len))
  else (if n < (3 : Int32) then compT X Y n (contribV a k len + contribV b k len) else compT X Y n (contribV a k len + contribV b k len + contribV c k len))
theorem own_ixr {x len : Int32} (h : 1 ≤ len.toInt) : 0 ≤ (indexV x len).toInt ∧ (indexV x len).toInt < len.toInt := by
  unfold indexV
  generalize (x.toUInt32 >>> ((1 : Int32) &&& 31).toUInt32).toInt32 = y
  have e1 : (y &&& 1073741823).toInt = y.toInt % 2 ^ 30 := Jvm.Kit.i32_mask y 1073741823 (k := 30) (by decide) (by decide)
  rw [Int32.toInt_mod, e1, Int.tmod_eq_emod_of_nonneg (by omega)]
  exact ⟨Int.emod_nonneg _ (by omega), Int.emod_lt_of_pos _ (by omega)⟩
theorem own_ix1 (x : Int32) : (indexV x (1 : Int32) = (0 : Int32)) := by
  have := own_ixr (x := x) (len := 1) (by decide)
  have k0 : (0 : Int32).toInt = 0 := by decide
  have k1 : (1 : Int32).toInt = 1 := by decide
  simp only [← Int32.toInt_inj, k0]; omega
theorem own_ix2 (x : Int32) : (indexV x (2 : Int32) = (0 : Int32) ∨ indexV x (2 : Int32) = (1 : Int32)) := by
  have := own_ixr (x := x) (len := 2) (by decide)
  have k0 : (0 : Int32).toInt = 0 := by decide
  have k1 : (1 : Int32).toInt = 1 := by decide
  have k2 : (2 : Int32).toInt = 2 := by decide
  simp only [← Int32.toInt_inj, k0, k1]; omega
theorem own_ix3 (x : Int32) : (indexV x (3 : Int32) = (0 : Int32) ∨ indexV x (3 : Int32) = (1 : Int32) ∨ indexV x (3 : Int32) = (2 : Int32)) := by
  have := own_ixr (x := x) (len := 3) (by decide)
  have k0 : (0 : Int32).toInt = 0 := by decide
  have k1 : (1 : Int32).toInt = 1 := by decide
  have k2 : (2 : Int32).toInt = 2 := by decide
  have k3 : (3 : Int32).toInt = 3 := by decide
  simp only [← Int32.toInt_inj, k0, k1, k2]; omega
theorem own_ix4 (x : Int32) : (indexV x (4 : Int32) = (0 : Int32) ∨ indexV x (4 : Int32) = (1 : Int32) ∨ indexV x (4 : Int32) = (2 : Int32) ∨ indexV x (4 : Int32) = (3 : Int32)) := by
  have := own_ixr (x := x) (len := 4) (by decide)
  have k0 : (0 : Int32).toInt = 0 := by decide
  have k1 : (1 : Int32).toInt = 1 := by decide
  have k2 : (2 : Int32).toInt = 2 := by decide
  have k3 : (3 : Int32).toInt = 3 := by decide
  have k4 : (4 : Int32).toInt = 4 := by decide
  simp only [← Int32.toInt_inj, k0, k1, k2, k3]; omega

theorem own_set1 {j : Int32} (h : (j = (0 : Int32))) (x0 v : UInt64) : [Value.double x0].set j.toNatClampNeg (.double v) = [Value.double (if j = (0 : Int32) then v else x0)] := by rcases h with rfl <;> rfl
theorem own_get1 {j : Int32} (h : (j = (0 : Int32))) (x0 : UInt64) (d : Value) : [Value.double x0].getD j.toNatClampNeg d = .double x0 := by rcases h with rfl <;> rfl
theorem own_inb1 {j : Int32} (h : (j = (0 : Int32))) : ¬ j < 0 ∧ j < (1 : Int32) := by rcases h with rfl <;> decide
theorem own_lt1 {j : Int32} (h : (j = (0 : Int32))) (x0 : Value) : j.toNatClampNeg < [x0].length := by rcases h with rfl <;> exact Nat.le_of_ble_eq_true rfl
theorem own_set2 {j : Int32} (h : (j = (0 : Int32) ∨ j = (1 : Int32))) (x0 x1 v : UInt64) : [Value.double x0, Value.double x1].set j.toNatClampNeg (.double v) = [Value.double (if j = (0 : Int32) then v else x0), Value.double (if j = (1 : Int32) then v else x1)] := by rcases h with rfl | rfl <;> rfl
theorem own_get2 {j : Int32} (h : (j = (0 : Int32) ∨ j = (1 : Int32))) (x0 x1 : UInt64) (d : Value) : [Value.double x0, Value.double x1].getD j.toNatClampNeg d = .double (if j = (0 : Int32) then x0 else x1) := by rcases h with rfl | rfl <;> rfl
theorem own_inb2 {j : Int32} (h : (j = (0 : Int32) ∨ j = (1 : Int32))) : ¬ j < 0 ∧ j < (2 : Int32) := by rcases h with rfl | rfl <;> decide
theorem own_lt2 {j : Int32} (h : (j = (0 : Int32) ∨ j = (1 : Int32))) (x0 x1 : Value) : j.toNatClampNeg < [x0, x1].length := by rcases h with rfl | rfl <;> exact Nat.le_of_ble_eq_true rfl
theorem own_set3 {j : Int32} (h : (j = (0 : Int32) ∨ j = (1 : Int32) ∨ j = (2 : Int32))) (x0 x1 x2 v : UInt64) : [Value.double x0, Value.double x1, Value.double x2].set j.toNatClampNeg (.double v) = [Value.double (if j = (0 : Int32) then v else x0), Value.double (if j = (1 : Int32) then v else x1), Value.double (if j = (2 : Int32) then v else x2)] := by rcases h with rfl | rfl | rfl <;> rfl
theorem own_get3 {j : Int32} (h : (j = (0 : Int32) ∨ j = (1 : Int32) ∨ j = (2 : Int32))) (x0 x1 x2 : UInt64) (d : Value) : [Value.double x0, Value.double x1, Value.double x2].getD j.toNatClampNeg d = .double (if j = (0 : Int32) then x0 else (if j = (1 : Int32) then x1 else x2)) := by rcases h with rfl | rfl | rfl <;> rfl
theorem own_inb3 {j : Int32} (h : (j = (0 : Int32) ∨ j = (1 : Int32) ∨ j = (2 : Int32))) : ¬ j < 0 ∧ j < (3 : Int32) := by rcases h with rfl | rfl | rfl <;> decide
theorem own_lt3 {j : Int32} (h : (j = (0 : Int32) ∨ j = (1 : Int32) ∨ j = (2 : Int32))) (x0 x1 x2 : Value) : j.toNatClampNeg < [x0, x1, x2].length := by rcases h with rfl | rfl | rfl <;> exact Nat.le_of_ble_eq_true rfl
theorem own_set4 {j : Int32} (h : (j = (0 : Int32) ∨ j = (1 : Int32) ∨ j = (2 : Int32) ∨ j = (3 : Int32))) (x0 x1 x2 x3 v : UInt64) : [Value.double x0, Value.double x1, Value.double x2, Value.double x3].set j.toNatClampNeg (.double v) = [Value.double (if j = (0 : Int32) then v else x0), Value.double (if j = (1 : Int32) then v else x1), Value.double (if j = (2 : Int32) then v else x2), Value.double (if j = (3 : Int32) then v else x3)] := by rcases h with rfl | rfl | rfl | rfl <;> rfl
theorem own_get4 {j : Int32} (h : (j = (0 : Int32) ∨ j = (1 : Int32) ∨ j = (2 : Int32) ∨ j = (3 : Int32))) (x0 x1 x2 x3 : UInt64) (d : Value) : [Value.double x0, Value.double x1, Value.double x2, Value.double x3].getD j.toNatClampNeg d = .double (if j = (0 : Int32) then x0 else (if j = (1 : Int32) then x1 else (if j = (2 : Int32) then x2 else x3))) := by rcases h with rfl | rfl | rfl | rfl <;> rfl
theorem own_inb4 {j : Int32} (h : (j = (0 : Int32) ∨ j = (1 : Int32) ∨ j = (2 : Int32) ∨ j = (3 : Int32))) : ¬ j < 0 ∧ j < (4 : Int32) := by rcases h with rfl | rfl | rfl | rfl <;> decide
theorem own_lt4 {j : Int32} (h : (j = (0 : Int32) ∨ j = (1 : Int32) ∨ j = (2 : Int32) ∨ j = (3 : Int32))) (x0 x1 x2 x3 : Value) : j.toNatClampNeg < [x0, x1, x2, x3].length := by rcases h with rfl | rfl | rfl | rfl <;> exact Nat.le_of_ble_eq_true rfl
theorem d4_0 : decode method_3_code 0 = .ok (.iload_n 0, 1) := by decide +kernel
theorem d4_1 : decode method_3_code 1 = .ok (.iconst 1, 1) := by decide +kernel
theorem d4_2 : decode method_3_code 2 = .ok (.iushr, 1) := by decide +kernel
theorem d4_3 : decode method_3_code 3 = .ok (.ldc 30, 2) := by decide +kernel
theorem d4_5 : decode method_3_code 5 = .ok (.iand, 1) := by decide +kernel
theorem d4_6 : decode method_3_code 6 = .ok (.iload_n 1, 1) := by decide +kernel
theorem d4_7 : decode method_3_code 7 = .ok (.irem, 1) := by decide +kernel
theorem d4_8 : decode method_3_code 8 = .ok (.ireturn, 1) := by decide +kernel
theorem pn_0 : plainName "com/example/d2rank/d2rank/rerank/CentroidMeanPinLaw" = true := by first | (simp [plainName, overriddenIn]; done) | decide +kernel
theorem ef_rm4 (m : MethodId) (i0 : Int32) (i1 : Int32) : entryFrame m #[(.int i0), (.int i1)] 2 = mkF m 0 #[.val (.int i0), .val (.int i1)] [] := by first | (simp [entryFrame, mkF, argsToLocals, Value.category]; done) | rfl
def Q_rm4 (Z : State) (i0 : Int32) (i1 : Int32) (h0 : Heap) (n0 : Nat) (v : Option Value) (h : Heap) (L : List Loc) : Prop := v = some (.int (indexV i0 i1)) ∧ Fr n0 L ∧ h = h0
set_option maxRecDepth 65536 in
set_option maxHeartbeats 40000000 in
theorem rm4 (l : Launch) (Z : State) (aw : Array Value) (hw : ∀ d ∈ tables_1, d.before aw Z = true) (ws : List Jvm.Cond) (i0 : Int32) (i1 : Int32) (h0 : Heap) (n0 : Nat) (Z0 : n0 ≤ h0.size) (hnz : i1 ≠ 0) :
    MetFree l (⟨"com/example/d2rank/d2rank/rerank/CentroidMeanPinLaw", "index", "(II)I"⟩ : MethodName) (head1 (Jvm.Cond.code (⟨"com/example/d2rank/d2rank/rerank/CentroidMeanPinLaw", "index", "(II)I"⟩ : MethodName) method_3_code 2 (some .int) :: ws) ({ frames := 0, cells := 0, slots := 0, locals := 0 } : Room)) (fun a U => a = #[(.int i0), (.int i1)] ∧ Z.Warmed39 U.vm ∧ U.heap = h0) (fun _ _ _ _ _ => True) (fun _ U o U' => ∃ v L, o = .returned v ∧ Q_rm4 Z i0 i1 h0 n0 v U'.heap L ∧ FrameEnd U o U' L ({ frames := 0, cells := 0, slots := 0, locals := 0 } : Room).cells ({ frames := 0, cells := 0, slots := 0, locals := 0 } : Room).slots) := by
  refine MetFree.of_bodySF (plainFor_of_name pn_0) hisR ?_
  intro p e s m args below meth c s₁ Bd hml0 hP hK
  obtain ⟨rfl, hZ, hh⟩ := hP
  have hx := Bd.exec
  have hby := Bd.bytes
  have hml : c.maxLocals = 2 := hml0
  have hown : s.vm.findClass "com/example/d2rank/d2rank/rerank/CentroidMeanPinLaw" = some m.cls := findClass_of_methodNamed Bd.named
  have hnm := (name_of_methodNamed Bd.named Bd.method).1
  have hlk : meth.locks = false := BodyLoose.notSynchronized Bd
  have X0 : Stand p l e ({ frames := 0, cells := 0, slots := 0, locals := 0 } : Room) s m #[(.int i0), (.int i1)] below meth c s₁ [] 0 0 := Stand.of_body Bd
  have e0 : s₁.heap = h0 := by rw [← hh, Bd.state]; rfl
  have N0 := Fr.nil n0
  have ZZ := Z0
  show Go p e below s ({ frames := 0, cells := 0, slots := 0, locals := 0 } : Room).cells ({ frames := 0, cells := 0, slots := 0, locals := 0 } : Room).slots (fun v h L => Q_rm4 Z i0 i1 h0 n0 v h L) s₁ (entryFrame m #[(.int i0), (.int i1)] 2)
  refine Go.cast (ef_rm4 m i0 i1) ?_
  refine Go.gen ?_
  intro K1 K2 QQ hK1 hK2 hQQ
  refine Go.on (fun _ k => XS.iloadN X0.here hx rfl (hb hby d4_0) rfl k) ?_
  show Go _ _ _ _ _ _ _ _ (mkF m 1 #[.val (.int i0), .val (.int i1)] [(.int i0)])
  refine Go.on (fun _ k => XS.iconst X0.here hx rfl (hb hby d4_1) k) ?_
  show Go _ _ _ _ _ _ _ _ (mkF m 2 #[.val (.int i0), .val (.int i1)] [(.int (1 : Int32)), (.int i0)])
  refine Go.on (fun _ k => XS.iushr X0.here hx rfl (hb hby d4_2) rfl k) ?_
  show Go _ _ _ _ _ _ _ _ (mkF m 3 #[.val (.int i0), .val (.int i1)] [(.int ((i0.toUInt32 >>> ((1 : Int32) &&& 31).toUInt32).toInt32))])
  refine Go.on (fun _ k => X0.ldcI hx hown (mvT hZ (hw _ (List.mem_of_getElem? (i := 19) rfl))) rfl (hb hby d4_3) k) ?_
  show Go _ _ _ _ _ _ _ _ (mkF m 5 #[.val (.int i0), .val (.int i1)] [(.int (1073741823 : Int32)), (.int ((i0.toUInt32 >>> ((1 : Int32) &&& 31).toUInt32).toInt32))])
  refine Go.on (fun _ k => XS.iand X0.here hx rfl (hb hby d4_5) rfl k) ?_
  show Go _ _ _ _ _ _ _ _ (mkF m 6 #[.val (.int i0), .val (.int i1)] [(.int (((i0.toUInt32 >>> ((1 : Int32) &&& 31).toUInt32).toInt32) &&& (1073741823 : Int32)))])
  refine Go.on (fun _ k => XS.iloadN X0.here hx rfl (hb hby d4_6) rfl k) ?_
  show Go _ _ _ _ _ _ _ _ (mkF m 7 #[.val (.int i0), .val (.int i1)] [(.int i1), (.int (((i0.toUInt32 >>> ((1 : Int32) &&& 31).toUInt32).toInt32) &&& (1073741823 : Int32)))])
  refine Go.on (fun _ k => iremM X0 hx rfl (hb hby d4_7) rfl (hnz) k) ?_
  show Go _ _ _ _ _ _ _ _ (mkF m 8 #[.val (.int i0), .val (.int i1)] [(.int ((((i0.toUInt32 >>> ((1 : Int32) &&& 31).toUInt32).toInt32) &&& (1073741823 : Int32)) % i1))])
  refine Go.retV X0 hx Bd.returns rfl (Or.inl ⟨rfl, Or.inl rfl, _, rfl⟩) (hb hby d4_8) ?_ (by rw [hK1]; decide) (by rw [hK2]; decide)
  rw [e0, ← hQQ]
  exact ⟨rfl, N0, rfl⟩
theorem d5_0 : decode method_4_code 0 = .ok (.iload_n 0, 1) := by decide +kernel
theorem d5_1 : decode method_4_code 1 = .ok (.iconst 1, 1) := by decide +kernel
theorem d5_2 : decode method_4_code 2 = .ok (.iand, 1) := by decide +kernel
theorem d5_3 : decode method_4_code 3 = .ok (.ifCond .eq 7, 3) := by decide +kernel
theorem d5_6 : decode method_4_code 6 = .ok (.iconst (-1), 1) := by decide +kernel
theorem d5_7 : decode method_4_code 7 = .ok (.goto 4, 3) := by decide +kernel
theorem d5_10 : decode method_4_code 10 = .ok (.iconst 1, 1) := by decide +kernel
theorem d5_11 : decode method_4_code 11 = .ok (.ireturn, 1) := by decide +kernel
theorem ef_rm5 (m : MethodId) (i0 : Int32) : entryFrame m #[(.int i0)] 1 = mkF m 0 #[.val (.int i0)] [] := by first | (simp [entryFrame, mkF, argsToLocals, Value.category]; done) | rfl
def Q_rm5 (Z : State) (i0 : Int32) (h0 : Heap) (n0 : Nat) (v : Option Value) (h : Heap) (L : List Loc) : Prop := v = some (.int (signV i0)) ∧ Fr n0 L ∧ h = h0
set_option maxRecDepth 65536 in
set_option maxHeartbeats 40000000 in
theorem rm5 (l : Launch) (Z : State) (aw : Array Value) (hw : ∀ d ∈ tables_1, d.before aw Z = true) (ws : List Jvm.Cond) (i0 : Int32) (h0 : Heap) (n0 : Nat) (Z0 : n0 ≤ h0.size) :
    MetFree l (⟨"com/example/d2rank/d2rank/rerank/CentroidMeanPinLaw", "sign", "(I)I"⟩ : MethodName) (head1 (Jvm.Cond.code (⟨"com/example/d2rank/d2rank/rerank/CentroidMeanPinLaw", "sign", "(I)I"⟩ : MethodName) method_4_code 1 (some .int) :: ws) ({ frames := 0, cells := 0, slots := 0, locals := 0 } : Room)) (fun a U => a = #[(.int i0)] ∧ Z.Warmed39 U.vm ∧ U.heap = h0) (fun _ _ _ _ _ => True) (fun _ U o U' => ∃ v L, o = .returned v ∧ Q_rm5 Z i0 h0 n0 v U'.heap L ∧ FrameEnd U o U' L ({ frames := 0, cells := 0, slots := 0, locals := 0 } : Room).cells ({ frames := 0, cells := 0, slots := 0, locals := 0 } : Room).slots) := by
  refine MetFree.of_bodySF (plainFor_of_name pn_0) hisR ?_
  intro p e s m args below meth c s₁ Bd hml0 hP hK
  obtain ⟨rfl, hZ, hh⟩ := hP
  have hx := Bd.exec
  have hby := Bd.bytes
  have hml : c.maxLocals = 1 := hml0
  have hown : s.vm.findClass "com/example/d2rank/d2rank/rerank/CentroidMeanPinLaw" = some m.cls := findClass_of_methodNamed Bd.named
  have hnm := (name_of_methodNamed Bd.named Bd.method).1
  have hlk : meth.locks = false := BodyLoose.notSynchronized Bd
  have X0 : Stand p l e ({ frames := 0, cells := 0, slots := 0, locals := 0 } : Room) s m #[(.int i0)] below meth c s₁ [] 0 0 := Stand.of_body Bd
  have e0 : s₁.heap = h0 := by rw [← hh, Bd.state]; rfl
  have N0 := Fr.nil n0
  have ZZ := Z0
  show Go p e below s ({ frames := 0, cells := 0, slots := 0, locals := 0 } : Room).cells ({ frames := 0, cells := 0, slots := 0, locals := 0 } : Room).slots (fun v h L => Q_rm5 Z i0 h0 n0 v h L) s₁ (entryFrame m #[(.int i0)] 1)
  refine Go.cast (ef_rm5 m i0) ?_
  refine Go.gen ?_
  intro K1 K2 QQ hK1 hK2 hQQ
  refine Go.on (fun _ k => XS.iloadN X0.here hx rfl (hb hby d5_0) rfl k) ?_
  show Go _ _ _ _ _ _ _ _ (mkF m 1 #[.val (.int i0)] [(.int i0)])
  refine Go.on (fun _ k => XS.iconst X0.here hx rfl (hb hby d5_1) k) ?_
  show Go _ _ _ _ _ _ _ _ (mkF m 2 #[.val (.int i0)] [(.int (1 : Int32)), (.int i0)])
  refine Go.on (fun _ k => XS.iand X0.here hx rfl (hb hby d5_2) rfl k) ?_
  show Go _ _ _ _ _ _ _ _ (mkF m 3 #[.val (.int i0)] [(.int (i0 &&& (1 : Int32)))])
  suffices hJ2 : ∀ (v1 : Int32), v1 = (if (i0 &&& (1 : Int32)) = (0 : Int32) then (1 : Int32) else (-1 : Int32)) → Go p e below s K1 K2 QQ s₁ (mkF m 11 #[.val (.int i0)] [(.int v1)]) by
    by_cases hc3 : (i0 &&& (1 : Int32)) = (0 : Int32)
    · -- pc 3 yes
      refine Go.on (fun _ k => XS.ifYes X0.here hx rfl (pc0 := 3) (pc' := 10) rfl (hb hby d5_3) rfl ((if0 _ _).trans (teq hc3).1) (by decide) (by decide) k) ?_
      show Go _ _ _ _ _ _ _ _ (mkF m 10 #[.val (.int i0)] [])
      refine Go.on (fun _ k => XS.iconst X0.here hx rfl (hb hby d5_10) k) ?_
      show Go _ _ _ _ _ _ _ _ (mkF m 11 #[.val (.int i0)] [(.int (1 : Int32))])
      exact hJ2 _ (by rw [if_pos hc3])
    · -- pc 3 no
      refine Go.on (fun _ k => XS.ifNo X0.here hx rfl (hb hby d5_3) rfl ((if0 _ _).trans (feq hc3).1) k) ?_
      show Go _ _ _ _ _ _ _ _ (mkF m 6 #[.val (.int i0)] [])
      refine Go.on (fun _ k => XS.iconst X0.here hx rfl (hb hby d5_6) k) ?_
      show Go _ _ _ _ _ _ _ _ (mkF m 7 #[.val (.int i0)] [(.int (-1 : Int32))])
      refine Go.on (fun _ k => XS.goto X0.here hx rfl (pc0 := 7) (pc' := 11) rfl (hb hby d5_7) (by decide) (by decide) k) ?_
      show Go _ _ _ _ _ _ _ _ (mkF m 11 #[.val (.int i0)] [(.int (-1 : Int32))])
      exact hJ2 _ (by rw [if_neg hc3])
  intro v1 hv1
  refine Go.retV X0 hx Bd.returns rfl (Or.inl ⟨rfl, Or.inl rfl, _, rfl⟩) (hb hby d5_11) ?_ (by rw [hK1]; decide) (by rw [hK2]; decide)
  rw [e0, ← hQQ]
  refine ⟨?_, N0, rfl⟩
  unfold signV; rw [hv1]
theorem pd_0 : parseMethodDescriptor "(II)I" = some ⟨[.int, .int], some .int⟩ := by decide +kernel
theorem pd_1 : parseMethodDescriptor "(I)I" = some ⟨[.int], some .int⟩ := by decide +kernel
theorem d9_0 : decode method_6_code 0 = .ok (.iload_n 0, 1) := by decide +kernel
theorem d9_1 : decode method_6_code 1 = .ok (.iload_n 2, 1) := by decide +kernel
theorem d9_2 : decode method_6_code 2 = .ok (.invokestatic 31, 3) := by decide +kernel
theorem d9_5 : decode method_6_code 5 = .ok (.iload_n 1, 1) := by decide +kernel
theorem d9_6 : decode method_6_code 6 = .ok (.if_icmp .ne 10, 3) := by decide +kernel
theorem d9_9 : decode method_6_code 9 = .ok (.iload_n 0, 1) := by decide +kernel
theorem d9_10 : decode method_6_code 10 = .ok (.invokestatic 35, 3) := by decide +kernel
theorem d9_13 : decode method_6_code 13 = .ok (.goto 4, 3) := by decide +kernel
theorem d9_16 : decode method_6_code 16 = .ok (.iconst 0, 1) := by decide +kernel
theorem d9_17 : decode method_6_code 17 = .ok (.ireturn, 1) := by decide +kernel
theorem ef_rm9 (m : MethodId) (i0 : Int32) (i1 : Int32) (i2 : Int32) : entryFrame m #[(.int i0), (.int i1), (.int i2)] 3 = mkF m 0 #[.val (.int i0), .val (.int i1), .val (.int i2)] [] := by first | (simp [entryFrame, mkF, argsToLocals, Value.category]; done) | rfl
def Q_rm9 (Z : State) (i0 : Int32) (i1 : Int32) (i2 : Int32) (h0 : Heap) (n0 : Nat) (v : Option Value) (h : Heap) (L : List Loc) : Prop := v = some (.int (contribV i0 i1 i2)) ∧ Fr n0 L ∧ h = h0
set_option maxRecDepth 65536 in
set_option maxHeartbeats 40000000 in
theorem rm9 (l : Launch) (Z : State) (aw : Array Value) (hw : ∀ d ∈ tables_1, d.before aw Z = true) (ws : List Jvm.Cond) (i0 : Int32) (i1 : Int32) (i2 : Int32) (h0 : Heap) (n0 : Nat) (Z0 : n0 ≤ h0.size) (hnz : i2 ≠ 0) :
    MetFree l (⟨"com/example/d2rank/d2rank/rerank/CentroidMeanPinLaw", "contrib", "(III)I"⟩ : MethodName) (head1 (Jvm.Cond.code (⟨"com/example/d2rank/d2rank/rerank/CentroidMeanPinLaw", "contrib", "(III)I"⟩ : MethodName) method_6_code 3 (some .int) :: ws) ({ frames := 1, cells := 0, slots := 0, locals := 13 } : Room)) (fun a U => a = #[(.int i0), (.int i1), (.int i2)] ∧ Z.Warmed39 U.vm ∧ U.heap = h0) (fun _ _ _ _ _ => True) (fun _ U o U' => ∃ v L, o = .returned v ∧ Q_rm9 Z i0 i1 i2 h0 n0 v U'.heap L ∧ FrameEnd U o U' L ({ frames := 1, cells := 0, slots := 0, locals := 13 } : Room).cells ({ frames := 1, cells := 0, slots := 0, locals := 13 } : Room).slots) := by
  refine MetFree.of_bodySF (plainFor_of_name pn_0) hisR ?_
  intro p e s m args below meth c s₁ Bd hml0 hP hK
  obtain ⟨rfl, hZ, hh⟩ := hP
  have hx := Bd.exec
  have hby := Bd.bytes
  have hml : c.maxLocals = 3 := hml0
  have hown : s.vm.findClass "com/example/d2rank/d2rank/rerank/CentroidMeanPinLaw" = some m.cls := findClass_of_methodNamed Bd.named
  have hnm := (name_of_methodNamed Bd.named Bd.method).1
  have hlk : meth.locks = false := BodyLoose.notSynchronized Bd
  have X0 : Stand p l e ({ frames := 1, cells := 0, slots := 0, locals := 13 } : Room) s m #[(.int i0), (.int i1), (.int i2)] below meth c s₁ [] 0 0 := Stand.of_body Bd
  have e0 : s₁.heap = h0 := by rw [← hh, Bd.state]; rfl
  have N0 := Fr.nil n0
  have ZZ := Z0
  show Go p e below s ({ frames := 1, cells := 0, slots := 0, locals := 13 } : Room).cells ({ frames := 1, cells := 0, slots := 0, locals := 13 } : Room).slots (fun v h L => Q_rm9 Z i0 i1 i2 h0 n0 v h L) s₁ (entryFrame m #[(.int i0), (.int i1), (.int i2)] 3)
  refine Go.cast (ef_rm9 m i0 i1 i2) ?_
  refine Go.gen ?_
  intro K1 K2 QQ hK1 hK2 hQQ
  refine Go.on (fun _ k => XS.iloadN X0.here hx rfl (hb hby d9_0) rfl k) ?_
  show Go _ _ _ _ _ _ _ _ (mkF m 1 #[.val (.int i0), .val (.int i1), .val (.int i2)] [(.int i0)])
  refine Go.on (fun _ k => XS.iloadN X0.here hx rfl (hb hby d9_1) rfl k) ?_
  show Go _ _ _ _ _ _ _ _ (mkF m 2 #[.val (.int i0), .val (.int i1), .val (.int i2)] [(.int i2), (.int i0)])
  obtain ⟨_, _, ⟨T1, L1, k1, n1⟩, -, X1, ⟨Lc1, hQ1, l1, y1, z1⟩, st1⟩ := Jvm.LawKit.callS X0 hx (y := (⟨"com/example/d2rank/d2rank/rerank/CentroidMeanPinLaw", "index", "(II)I"⟩ : MethodName)) hown (mvT hZ (hw _ (List.mem_of_getElem? (i := 16) rfl))) (mvT hZ (hw _ (List.mem_of_getElem? (i := 17) rfl))) (mvT hZ (hw _ (List.mem_of_getElem? (i := 14) rfl))) (mvT hZ (hw _ (List.mem_of_getElem? (i := 18) rfl))) (by decide) (backOf (W := 0) (rm4 l Z aw hw [] i0 i2  h0 n0 ZZ hnz) hZ (hw _ (List.mem_of_getElem? (i := 18) rfl)) (hw _ (List.mem_of_getElem? (i := 14) rfl)) (by decide) (by decide)) (g := (mkF m 2 #[.val (.int i0), .val (.int i1), .val (.int i2)] [(.int i2), (.int i0)])) rfl (by rw [hml]; rfl) (argsL := [(.int i0), (.int i2)]) (rest := []) (lenOf pd_0 rfl) rfl (by show 2 * 0 + _ ≤ _; exact Nat.le_of_eq rfl) (hb hby d9_2) (fun _ _ => ⟨rfl, e0, (by decide : 0 + 0 ≤ _), (by decide : 0 + 0 ≤ _)⟩)
  dsimp only [Pt.U, Pt.locs, Pt.cells, Pt.slots] at X1 l1 y1 z1 st1 hQ1
  subst l1 y1 z1
  obtain ⟨rfl, N1q, e1⟩ := hQ1
  have N1 := Fr.app N0 N1q
  refine Go.on st1 ?_
  show Go _ _ _ _ _ _ _ _ (mkF m 5 #[.val (.int i0), .val (.int i1), .val (.int i2)] [(.int (indexV i0 i2))])
  refine Go.on (fun _ k => XS.iloadN X1.here hx rfl (hb hby d9_5) rfl k) ?_
  show Go _ _ _ _ _ _ _ _ (mkF m 6 #[.val (.int i0), .val (.int i1), .val (.int i2)] [(.int i1), (.int (indexV i0 i2))])
  by_cases hc2 : (indexV i0 i2) = i1
  · -- pc 6 yes
    refine Go.on (fun _ k => XS.icmpNo X1.here hx rfl (hb hby d9_6) rfl (teq hc2).2 k) ?_
    show Go _ _ _ _ _ _ _ _ (mkF m 9 #[.val (.int i0), .val (.int i1), .val (.int i2)] [])
    refine Go.on (fun _ k => XS.iloadN X1.here hx rfl (hb hby d9_9) rfl k) ?_
    show Go _ _ _ _ _ _ _ _ (mkF m 10 #[.val (.int i0), .val (.int i1), .val (.int i2)] [(.int i0)])
    obtain ⟨_, _, ⟨T3, L3, k3, n3⟩, -, X3, ⟨Lc3, hQ3, l3, y3, z3⟩, st3⟩ := Jvm.LawKit.callS X1 hx (y := (⟨"com/example/d2rank/d2rank/rerank/CentroidMeanPinLaw", "sign", "(I)I"⟩ : MethodName)) hown (mvT hZ (hw _ (List.mem_of_getElem? (i := 20) rfl))) (mvT hZ (hw _ (List.mem_of_getElem? (i := 21) rfl))) (mvT hZ (hw _ (List.mem_of_getElem? (i := 14) rfl))) (mvT hZ (hw _ (List.mem_of_getElem? (i := 22) rfl))) (by decide) (backOf (W := 0) (rm5 l Z aw hw [] i0  h0 n0 ZZ ) hZ (hw _ (List.mem_of_getElem? (i := 22) rfl)) (hw _ (List.mem_of_getElem? (i := 14) rfl)) (by decide) (by decide)) (g := (mkF m 10 #[.val (.int i0), .val (.int i1), .val (.int i2)] [(.int i0)])) rfl (by rw [hml]; rfl) (argsL := [(.int i0)]) (rest := []) (lenOf pd_1 rfl) rfl (by show 2 * 0 + _ ≤ _; exact Nat.le_of_eq rfl) (hb hby d9_10) (fun _ _ => ⟨rfl, e1, (by decide : 0 + 0 ≤ _), (by decide : 0 + 0 ≤ _)⟩)
    dsimp only [Pt.U, Pt.locs, Pt.cells, Pt.slots] at X3 l3 y3 z3 st3 hQ3
    subst l3 y3 z3
    obtain ⟨rfl, N3q, e3⟩ := hQ3
    have N3 := Fr.app N1 N3q
    refine Go.on st3 ?_
    show Go _ _ _ _ _ _ _ _ (mkF m 13 #[.val (.int i0), .val (.int i1), .val (.int i2)] [(.int (signV i0))])
    refine Go.on (fun _ k => XS.goto X3.here hx rfl (pc0 := 13) (pc' := 17) rfl (hb hby d9_13) (by decide) (by decide) k) ?_
    show Go _ _ _ _ _ _ _ _ (mkF m 17 #[.val (.int i0), .val (.int i1), .val (.int i2)] [(.int (signV i0))])
    refine Go.retV X3 hx Bd.returns rfl (Or.inl ⟨rfl, Or.inl rfl, _, rfl⟩) (hb hby d9_17) ?_ (by rw [hK1]; decide) (by rw [hK2]; decide)
    rw [e3, ← hQQ]
    refine ⟨?_, N3, rfl⟩
    unfold contribV; rw [if_pos hc2]
  · -- pc 6 no
    refine Go.on (fun _ k => XS.icmpYes X1.here hx rfl (pc0 := 6) (pc' := 16) rfl (hb hby d9_6) rfl (feq hc2).2 (by decide) (by decide) k) ?_
    show Go _ _ _ _ _ _ _ _ (mkF m 16 #[.val (.int i0), .val (.int i1), .val (.int i2)] [])
    refine Go.on (fun _ k => XS.iconst X1.here hx rfl (hb hby d9_16) k) ?_
    show Go _ _ _ _ _ _ _ _ (mkF m 17 #[.val (.int i0), .val (.int i1), .val (.int i2)] [(.int (0 : Int32))])
    refine Go.retV X1 hx Bd.returns rfl (Or.inl ⟨rfl, Or.inl rfl, _, rfl⟩) (hb hby d9_17) ?_ (by rw [hK1]; decide) (by rw [hK2]; decide)
    rw [e1, ← hQQ]
    refine ⟨?_, N1, rfl⟩
    unfold contribV; rw [if_neg hc2]
theorem d3_0 : decode method_5_code 0 = .ok (.iload_n 1, 1) := by decide +kernel
theorem d3_1 : decode method_5_code 1 = .ok (.newarray .double, 2) := by decide +kernel
theorem d3_3 : decode method_5_code 3 = .ok (.astore_n 2, 1) := by decide +kernel
theorem d3_4 : decode method_5_code 4 = .ok (.aload_n 2, 1) := by decide +kernel
theorem d3_5 : decode method_5_code 5 = .ok (.iload_n 0, 1) := by decide +kernel
theorem d3_6 : decode method_5_code 6 = .ok (.iload_n 1, 1) := by decide +kernel
theorem d3_7 : decode method_5_code 7 = .ok (.invokestatic 31, 3) := by decide +kernel
theorem d3_10 : decode method_5_code 10 = .ok (.iload_n 0, 1) := by decide +kernel
theorem d3_11 : decode method_5_code 11 = .ok (.invokestatic 35, 3) := by decide +kernel
theorem d3_14 : decode method_5_code 14 = .ok (.i2d, 1) := by decide +kernel
theorem d3_15 : decode method_5_code 15 = .ok (.dastore, 1) := by decide +kernel
theorem d3_16 : decode method_5_code 16 = .ok (.aload_n 2, 1) := by decide +kernel
theorem d3_17 : decode method_5_code 17 = .ok (.areturn, 1) := by decide +kernel
theorem ef_un_1 (m : MethodId) (i0 : Int32) : entryFrame m #[(.int i0), (.int (1 : Int32))] 3 = mkF m 0 #[.val (.int i0), .val (.int (1 : Int32)), .unset] [] := by first | (simp [entryFrame, mkF, argsToLocals, Value.category]; done) | rfl
def Q_un_1 (Z : State) (i0 : Int32) (h0 : Heap) (n0 : Nat) (v : Option Value) (h : Heap) (L : List Loc) : Prop := ∃ (ar : Addr) (k_ar : ClassId), v = some (.ref ar) ∧ Fr n0 L ∧ Keep h0 h [] ∧ h0.size ≤ ar ∧ Arv Z h ar k_ar .double (1 : Int32) [(.double (if (indexV i0 (1 : Int32)) = (0 : Int32) then (FP.i2d (signV i0)) else (0 : UInt64)))] (.double (0 : UInt64))
set_option maxRecDepth 65536 in
set_option maxHeartbeats 40000000 in
theorem un_1 (l : Launch) (Z : State) (aw : Array Value) (hw : ∀ d ∈ tables_1, d.before aw Z = true) (ws : List Jvm.Cond) (i0 : Int32) (h0 : Heap) (n0 : Nat) (Z0 : n0 ≤ h0.size) :
    MetFree l (⟨"com/example/d2rank/d2rank/rerank/CentroidMeanPinLaw", "unit", "(II)[D"⟩ : MethodName) (head1 (Jvm.Cond.code (⟨"com/example/d2rank/d2rank/rerank/CentroidMeanPinLaw", "unit", "(II)[D"⟩ : MethodName) method_5_code 3 (some (.array .double)) :: ws) ({ frames := 1, cells := 1, slots := 1, locals := 14 } : Room)) (fun a U => a = #[(.int i0), (.int (1 : Int32))] ∧ Z.Warmed39 U.vm ∧ U.heap = h0) (fun _ _ _ _ _ => True) (fun _ U o U' => ∃ v L, o = .returned v ∧ Q_un_1 Z i0 h0 n0 v U'.heap L ∧ FrameEnd U o U' L ({ frames := 1, cells := 1, slots := 1, locals := 14 } : Room).cells ({ frames := 1, cells := 1, slots := 1, locals := 14 } : Room).slots) := by
  refine MetFree.of_bodySF (plainFor_of_name pn_0) hisR ?_
  intro p e s m args below meth c s₁ Bd hml0 hP hK
  obtain ⟨rfl, hZ, hh⟩ := hP
  have hx := Bd.exec
  have hby := Bd.bytes
  have hml : c.maxLocals = 3 := hml0
  have hown : s.vm.findClass "com/example/d2rank/d2rank/rerank/CentroidMeanPinLaw" = some m.cls := findClass_of_methodNamed Bd.named
  have hnm := (name_of_methodNamed Bd.named Bd.method).1
  have hlk : meth.locks = false := BodyLoose.notSynchronized Bd
  have X0 : Stand p l e ({ frames := 1, cells := 1, slots := 1, locals := 14 } : Room) s m #[(.int i0), (.int (1 : Int32))] below meth c s₁ [] 0 0 := Stand.of_body Bd
  have e0 : s₁.heap = h0 := by rw [← hh, Bd.state]; rfl
  have N0 := Fr.nil n0
  have ZZ := Z0
  show Go p e below s ({ frames := 1, cells := 1, slots := 1, locals := 14 } : Room).cells ({ frames := 1, cells := 1, slots := 1, locals := 14 } : Room).slots (fun v h L => Q_un_1 Z i0 h0 n0 v h L) s₁ (entryFrame m #[(.int i0), (.int (1 : Int32))] 3)
  refine Go.cast (ef_un_1 m i0) ?_
  refine Go.gen ?_
  intro K1 K2 QQ hK1 hK2 hQQ
  have KP : Keep h0 h0 [] := Keep.refl _ _
  refine Go.on (fun _ k => XS.iloadN X0.here hx rfl (hb hby d3_0) rfl k) ?_
  show Go _ _ _ _ _ _ _ _ (mkF m 1 #[.val (.int i0), .val (.int (1 : Int32)), .unset] [(.int (1 : Int32))])
  obtain ⟨T1, h1, k_ar, X1, e1, E1, A1, st1⟩ := newP X0 hx hZ (hw _ (List.mem_of_getElem? (i := 9) rfl)) e0 (g := (mkF m 1 #[.val (.int i0), .val (.int (1 : Int32)), .unset] [(.int (1 : Int32))])) rfl (hb hby d3_1) rfl (by decide) (cap := 1) (by decide) (by decide) (by decide) (by decide)
  obtain ⟨ar, g1⟩ : ∃ z, z = h0.size := ⟨_, rfl⟩
  have g_ar : n0 ≤ ar := Nat.le_trans ZZ (Nat.le_of_eq g1.symm)
  have sz_ar : h0.size ≤ ar := Nat.le_trans KP.1 (Nat.le_of_eq g1.symm)
  rw [← g1] at A1 st1
  replace ZZ := Nat.le_trans ZZ E1.1
  replace KP := KP.ext E1
  have V_ar : Arv Z h1 ar k_ar .double (1 : Int32) [(.double (0 : UInt64))] (.double (0 : UInt64)) := (Arv.new A1 (by decide)).pad (pad_rep [] (.double (0 : UInt64)) 1)
  refine Go.on st1 ?_
  show Go _ _ _ _ _ _ _ _ (mkF m 3 #[.val (.int i0), .val (.int (1 : Int32)), .unset] [(.ref ar)])
  refine Go.on (fun _ k => XS.astoreN X1.here hx rfl (hb hby d3_3) rfl rfl (l' := #[.val (.int i0), .val (.int (1 : Int32)), .val (.ref ar)]) rfl k) ?_
  show Go _ _ _ _ _ _ _ _ (mkF m 4 #[.val (.int i0), .val (.int (1 : Int32)), .val (.ref ar)] [])
  refine Go.on (fun _ k => XS.aloadN X1.here hx rfl (hb hby d3_4) rfl rfl k) ?_
  show Go _ _ _ _ _ _ _ _ (mkF m 5 #[.val (.int i0), .val (.int (1 : Int32)), .val (.ref ar)] [(.ref ar)])
  refine Go.on (fun _ k => XS.iloadN X1.here hx rfl (hb hby d3_5) rfl k) ?_
  show Go _ _ _ _ _ _ _ _ (mkF m 6 #[.val (.int i0), .val (.int (1 : Int32)), .val (.ref ar)] [(.int i0), (.ref ar)])
  refine Go.on (fun _ k => XS.iloadN X1.here hx rfl (hb hby d3_6) rfl k) ?_
  show Go _ _ _ _ _ _ _ _ (mkF m 7 #[.val (.int i0), .val (.int (1 : Int32)), .val (.ref ar)] [(.int (1 : Int32)), (.int i0), (.ref ar)])
  obtain ⟨_, _, ⟨T2, L2, k2, n2⟩, -, X2, ⟨Lc2, hQ2, l2, y2, z2⟩, st2⟩ := Jvm.LawKit.callS X1 hx (y := (⟨"com/example/d2rank/d2rank/rerank/CentroidMeanPinLaw", "index", "(II)I"⟩ : MethodName)) hown (mvT hZ (hw _ (List.mem_of_getElem? (i := 16) rfl))) (mvT hZ (hw _ (List.mem_of_getElem? (i := 17) rfl))) (mvT hZ (hw _ (List.mem_of_getElem? (i := 14) rfl))) (mvT hZ (hw _ (List.mem_of_getElem? (i := 18) rfl))) (by decide) (backOf (W := 1) (rm4 l Z aw hw [] i0 (1 : Int32)  h1 n0 ZZ (by decide)) hZ (hw _ (List.mem_of_getElem? (i := 18) rfl)) (hw _ (List.mem_of_getElem? (i := 14) rfl)) (by decide) (by decide)) (g := (mkF m 7 #[.val (.int i0), .val (.int (1 : Int32)), .val (.ref ar)] [(.int (1 : Int32)), (.int i0), (.ref ar)])) rfl (by rw [hml]; rfl) (argsL := [(.int i0), (.int (1 : Int32))]) (rest := [(.ref ar)]) (lenOf pd_0 rfl) rfl (by show 2 * 0 + _ ≤ _; exact Nat.le_of_eq rfl) (hb hby d3_7) (fun _ _ => ⟨rfl, e1, (by decide : 1 + 0 ≤ _), (by decide : 1 + 0 ≤ _)⟩)
  dsimp only [Pt.U, Pt.locs, Pt.cells, Pt.slots] at X2 l2 y2 z2 st2 hQ2
  subst l2 y2 z2
  obtain ⟨rfl, N2q, e2⟩ := hQ2
  have N2 := Fr.app N0 N2q
  refine Go.on st2 ?_
  show Go _ _ _ _ _ _ _ _ (mkF m 10 #[.val (.int i0), .val (.int (1 : Int32)), .val (.ref ar)] [(.int (indexV i0 (1 : Int32))), (.ref ar)])
  refine Go.on (fun _ k => XS.iloadN X2.here hx rfl (hb hby d3_10) rfl k) ?_
  show Go _ _ _ _ _ _ _ _ (mkF m 11 #[.val (.int i0), .val (.int (1 : Int32)), .val (.ref ar)] [(.int i0), (.int (indexV i0 (1 : Int32))), (.ref ar)])
  obtain ⟨_, _, ⟨T3, L3, k3, n3⟩, -, X3, ⟨Lc3, hQ3, l3, y3, z3⟩, st3⟩ := Jvm.LawKit.callS X2 hx (y := (⟨"com/example/d2rank/d2rank/rerank/CentroidMeanPinLaw", "sign", "(I)I"⟩ : MethodName)) hown (mvT hZ (hw _ (List.mem_of_getElem? (i := 20) rfl))) (mvT hZ (hw _ (List.mem_of_getElem? (i := 21) rfl))) (mvT hZ (hw _ (List.mem_of_getElem? (i := 14) rfl))) (mvT hZ (hw _ (List.mem_of_getElem? (i := 22) rfl))) (by decide) (backOf (W := 2) (rm5 l Z aw hw [] i0  h1 n0 ZZ ) hZ (hw _ (List.mem_of_getElem? (i := 22) rfl)) (hw _ (List.mem_of_getElem? (i := 14) rfl)) (by decide) (by decide)) (g := (mkF m 11 #[.val (.int i0), .val (.int (1 : Int32)), .val (.ref ar)] [(.int i0), (.int (indexV i0 (1 : Int32))), (.ref ar)])) rfl (by rw [hml]; rfl) (argsL := [(.int i0)]) (rest := [(.int (indexV i0 (1 : Int32))), (.ref ar)]) (lenOf pd_1 rfl) rfl (by show 2 * 0 + _ ≤ _; exact Nat.le_of_eq rfl) (hb hby d3_11) (fun _ _ => ⟨rfl, e2, (by decide : 1 + 0 ≤ _), (by decide : 1 + 0 ≤ _)⟩)
  dsimp only [Pt.U, Pt.locs, Pt.cells, Pt.slots] at X3 l3 y3 z3 st3 hQ3
  subst l3 y3 z3
  obtain ⟨rfl, N3q, e3⟩ := hQ3
  have N3 := Fr.app N2 N3q
  refine Go.on st3 ?_
  show Go _ _ _ _ _ _ _ _ (mkF m 14 #[.val (.int i0), .val (.int (1 : Int32)), .val (.ref ar)] [(.int (signV i0)), (.int (indexV i0 (1 : Int32))), (.ref ar)])
  refine Go.on (fun _ k => XS.i2dS X3.here hx rfl (hb hby d3_14) rfl rfl k) ?_
  show Go _ _ _ _ _ _ _ _ (mkF m 15 #[.val (.int i0), .val (.int (1 : Int32)), .val (.ref ar)] [(.double (FP.i2d (signV i0))), (.int (indexV i0 (1 : Int32))), (.ref ar)])
  obtain ⟨cl4, Ar4, q4, S4, N4n, H4, G4⟩ := id V_ar
  have hin4 : ¬ ((indexV i0 (1 : Int32)) < 0 ∨ cl4.slots.size ≤ ((indexV i0 (1 : Int32))).toNatClampNeg) := inb_of S4 (own_inb1 (own_ix1 _))
  obtain ⟨T4, h4, X4, e4, W4, st4⟩ := stD X3 hx hZ e3 Ar4 (j := (indexV i0 (1 : Int32))) hin4 (g := (mkF m 15 #[.val (.int i0), .val (.int (1 : Int32)), .val (.ref ar)] [(.double (FP.i2d (signV i0))), (.int (indexV i0 (1 : Int32))), (.ref ar)])) rfl rfl (hb hby d3_15)
  replace V_ar := Arv.set Ar4 q4 S4 N4n H4 G4 rfl W4 _ rfl (own_lt1 (own_ix1 _) _)
  refine Go.on st4 ?_
  have N4 := Fr.snoc X4 N3 g_ar
  replace ZZ := Nat.le_trans ZZ (Keep.of_wr W4).1
  replace KP := KP.wr W4 (Or.inr sz_ar)
  rw [own_set1 (own_ix1 _)] at V_ar
  show Go _ _ _ _ _ _ _ _ (mkF m 16 #[.val (.int i0), .val (.int (1 : Int32)), .val (.ref ar)] [])
  refine Go.on (fun _ k => XS.aloadN X4.here hx rfl (hb hby d3_16) rfl rfl k) ?_
  show Go _ _ _ _ _ _ _ _ (mkF m 17 #[.val (.int i0), .val (.int (1 : Int32)), .val (.ref ar)] [(.ref ar)])
  refine Go.retV X4 hx Bd.returns rfl (Or.inr (Or.inr (Or.inr (Or.inr ⟨rfl, rfl, rfl⟩)))) (hb hby d3_17) ?_ (by rw [hK1]; decide) (by rw [hK2]; decide)
  rw [e4, ← hQQ]
  exact ⟨ar, k_ar, rfl, N4, KP, sz_ar, V_ar⟩
theorem d1_0 : decode prog_44_method_1_code 0 = .ok (.aload_n 0, 1) := by decide +kernel
theorem d1_1 : decode prog_44_method_1_code 1 = .ok (.invokespecial 1, 3) := by decide +kernel
theorem d1_4 : decode prog_44_method_1_code 4 = .ok (.aload_n 0, 1) := by decide +kernel
theorem d1_5 : decode prog_44_method_1_code 5 = .ok (.iload_n 1, 1) := by decide +kernel
theorem d1_6 : decode prog_44_method_1_code 6 = .ok (.newarray .double, 2) := by decide +kernel
theorem d1_8 : decode prog_44_method_1_code 8 = .ok (.putfield 7, 3) := by decide +kernel
theorem d1_11 : decode prog_44_method_1_code 11 = .ok (.return_, 1) := by decide +kernel
theorem pn_1 : plainName "com/example/d2rank/d2rank/rerank/Centroid" = true := by first | (simp [plainName, overriddenIn]; done) | decide +kernel
theorem ef_ci_1 (m : MethodId) (a0 : Addr) : entryFrame m #[(.ref a0), (.int (1 : Int32))] 2 = mkF m 0 #[.val (.ref a0), .val (.int (1 : Int32))] [] := by first | (simp [entryFrame, mkF, argsToLocals, Value.category]; done) | rfl
def Q_ci_1 (Z : State) (a0 : Addr) (u0 : Value) (h0 : Heap) (n0 : Nat) (v : Option Value) (h : Heap) (L : List Loc) : Prop := v = none ∧ Fr n0 L ∧ ∃ (ar : Addr) (k_ar : ClassId), Keep h0 h [a0] ∧ h0.size ≤ ar ∧ Exa Z h a0 "com/example/d2rank/d2rank/rerank/Centroid" ∧ Fld Z h a0 "com/example/d2rank/d2rank/rerank/Centroid" "sum" "[D" (.ref ar) ∧ Fld Z h a0 "com/example/d2rank/d2rank/rerank/Centroid" "count" "I" (.int (0 : Int32)) ∧ Arv Z h ar k_ar .double (1 : Int32) [(.double (0 : UInt64))] (.double (0 : UInt64))
set_option maxRecDepth 65536 in
set_option maxHeartbeats 40000000 in
theorem ci_1 (l : Launch) (Z : State) (aw : Array Value) (hw : ∀ d ∈ tables_1, d.before aw Z = true) (ws : List Jvm.Cond) (a0 : Addr) (u0 : Value) (h0 : Heap) (n0 : Nat) (Z0 : n0 ≤ h0.size) (E_a0 : Exa Z h0 a0 "com/example/d2rank/d2rank/rerank/Centroid") (F_sum_a0 : Fld Z h0 a0 "com/example/d2rank/d2rank/rerank/Centroid" "sum" "[D" u0) (F_count_a0 : Fld Z h0 a0 "com/example/d2rank/d2rank/rerank/Centroid" "count" "I" (.int (0 : Int32))) (g_a0 : n0 ≤ a0) :
    MetFree l (⟨"com/example/d2rank/d2rank/rerank/Centroid", "<init>", "(I)V"⟩ : MethodName) (head1 (Jvm.Cond.code (⟨"com/example/d2rank/d2rank/rerank/Centroid", "<init>", "(I)V"⟩ : MethodName) prog_44_method_1_code 2 none :: ws) ({ frames := 1, cells := 1, slots := 1, locals := 12 } : Room)) (fun a U => a = #[(.ref a0), (.int (1 : Int32))] ∧ Z.Warmed39 U.vm ∧ U.heap = h0) (fun _ _ _ _ _ => True) (fun _ U o U' => ∃ v L, o = .returned v ∧ Q_ci_1 Z a0 u0 h0 n0 v U'.heap L ∧ FrameEnd U o U' L ({ frames := 1, cells := 1, slots := 1, locals := 12 } : Room).cells ({ frames := 1, cells := 1, slots := 1, locals := 12 } : Room).slots) := by
  refine MetFree.of_bodySF (plainFor_of_name pn_1) hisR ?_
  intro p e s m args below meth c s₁ Bd hml0 hP hK
  obtain ⟨rfl, hZ, hh⟩ := hP
  have hx := Bd.exec
  have hby := Bd.bytes
  have hml : c.maxLocals = 2 := hml0
  have hown : s.vm.findClass "com/example/d2rank/d2rank/rerank/Centroid" = some m.cls := findClass_of_methodNamed Bd.named
  have hnm := (name_of_methodNamed Bd.named Bd.method).1
  have hlk : meth.locks = false := BodyLoose.notSynchronized Bd
  have X0 : Stand p l e ({ frames := 1, cells := 1, slots := 1, locals := 12 } : Room) s m #[(.ref a0), (.int (1 : Int32))] below meth c s₁ [] 0 0 := Stand.of_body Bd
  have e0 : s₁.heap = h0 := by rw [← hh, Bd.state]; rfl
  have N0 := Fr.nil n0
  have ZZ := Z0
  show Go p e below s ({ frames := 1, cells := 1, slots := 1, locals := 12 } : Room).cells ({ frames := 1, cells := 1, slots := 1, locals := 12 } : Room).slots (fun v h L => Q_ci_1 Z a0 u0 h0 n0 v h L) s₁ (entryFrame m #[(.ref a0), (.int (1 : Int32))] 2)
  refine Go.cast (ef_ci_1 m a0) ?_
  refine Go.gen ?_
  intro K1 K2 QQ hK1 hK2 hQQ
  have KP : Keep h0 h0 [a0] := Keep.refl _ _
  refine Go.on (fun _ k => XS.aloadN X0.here hx rfl (hb hby d1_0) rfl rfl k) ?_
  show Go _ _ _ _ _ _ _ _ (mkF m 1 #[.val (.ref a0), .val (.int (1 : Int32))] [(.ref a0)])
  obtain ⟨T1, X1, e1, st1⟩ := initO X0 hx hZ hown (hw _ (List.mem_of_getElem? (i := 6) rfl)) (hw _ (List.mem_of_getElem? (i := 7) rfl)) (hw _ (List.mem_of_getElem? (i := 8) rfl)) e0 (g := (mkF m 1 #[.val (.ref a0), .val (.int (1 : Int32))] [(.ref a0)])) rfl (by rw [hml]; rfl) rfl (hb hby d1_1) (by decide) (W := 0) (by show 2 * 0 + _ ≤ _; exact Nat.le_of_eq rfl) (by decide)
  refine Go.on st1 ?_
  show Go _ _ _ _ _ _ _ _ (mkF m 4 #[.val (.ref a0), .val (.int (1 : Int32))] [])
  refine Go.on (fun _ k => XS.aloadN X1.here hx rfl (hb hby d1_4) rfl rfl k) ?_
  show Go _ _ _ _ _ _ _ _ (mkF m 5 #[.val (.ref a0), .val (.int (1 : Int32))] [(.ref a0)])
  refine Go.on (fun _ k => XS.iloadN X1.here hx rfl (hb hby d1_5) rfl k) ?_
  show Go _ _ _ _ _ _ _ _ (mkF m 6 #[.val (.ref a0), .val (.int (1 : Int32))] [(.int (1 : Int32)), (.ref a0)])
  obtain ⟨T2, h2, k_ar, X2, e2, E2, A2, st2⟩ := newP X1 hx hZ (hw _ (List.mem_of_getElem? (i := 9) rfl)) e1 (g := (mkF m 6 #[.val (.ref a0), .val (.int (1 : Int32))] [(.int (1 : Int32)), (.ref a0)])) rfl (hb hby d1_6) rfl (by decide) (cap := 1) (by decide) (by decide) (by decide) (by decide)
  obtain ⟨ar, g2⟩ : ∃ z, z = h0.size := ⟨_, rfl⟩
  have ne_a0_ar : a0 ≠ ar := Nat.ne_of_lt (Nat.lt_of_lt_of_le E_a0.lt (Nat.le_of_eq g2.symm))
  have g_ar : n0 ≤ ar := Nat.le_trans ZZ (Nat.le_of_eq g2.symm)
  have sz_ar : h0.size ≤ ar := Nat.le_trans KP.1 (Nat.le_of_eq g2.symm)
  rw [← g2] at A2 st2
  replace E_a0 := E_a0.ext E2
  replace F_sum_a0 := F_sum_a0.ext E2
  replace F_count_a0 := F_count_a0.ext E2
  replace ZZ := Nat.le_trans ZZ E2.1
  replace KP := KP.ext E2
  have V_ar : Arv Z h2 ar k_ar .double (1 : Int32) [(.double (0 : UInt64))] (.double (0 : UInt64)) := (Arv.new A2 (by decide)).pad (pad_rep [] (.double (0 : UInt64)) 1)
  refine Go.on st2 ?_
  show Go _ _ _ _ _ _ _ _ (mkF m 8 #[.val (.ref a0), .val (.int (1 : Int32))] [(.ref ar), (.ref a0)])
  obtain ⟨T3, h3, X3, e3, W3, st3⟩ := putF X2 hx hZ hown (host := "") (Or.inl (hw _ (List.mem_of_getElem? (i := 10) rfl))) Via.refl e2 F_sum_a0 E_a0 (Or.inr ⟨(hw _ (List.mem_of_getElem? (i := 11) rfl)), rfl, hnm⟩) (hw _ (List.mem_of_getElem? (i := 1) rfl)) (ty := (.array .double)) (by decide) rfl rfl (g := (mkF m 8 #[.val (.ref a0), .val (.int (1 : Int32))] [(.ref ar), (.ref a0)])) rfl rfl (hb hby d1_8)
  refine Go.on st3 ?_
  replace F_sum_a0 := F_sum_a0.same W3
  replace E_a0 := E_a0.wr W3
  replace F_count_a0 := F_count_a0.other W3 (Or.inr (slot_ne (Or.inl (hw _ (List.mem_of_getElem? (i := 29) rfl))) (Or.inr (hw _ (List.mem_of_getElem? (i := 11) rfl))) (by decide) (t := .int) (t' := (.array .double)) (by decide) (by decide)))
  replace V_ar := V_ar.other W3 (Ne.symm ne_a0_ar)
  have N3 := Fr.snoc X3 N0 g_a0
  replace ZZ := Nat.le_trans ZZ (Keep.of_wr W3).1
  replace KP := KP.wr W3 (Or.inl (List.mem_of_getElem? (i := 0) rfl))
  show Go _ _ _ _ _ _ _ _ (mkF m 11 #[.val (.ref a0), .val (.int (1 : Int32))] [])
  refine Go.ret0 X3 hx Bd.returns (hb hby d1_11) ?_ (by rw [hK1]; decide) (by rw [hK2]; decide)
  rw [e3, ← hQQ]
  exact ⟨rfl, N3, ar, k_ar, KP, sz_ar, E_a0, F_sum_a0, F_count_a0, V_ar⟩
theorem d6_0 : decode prog_44_method_2_code 0 = .ok (.iconst 0, 1) := by decide +kernel
theorem d6_1 : decode prog_44_method_2_code 1 = .ok (.istore_n 2, 1) := by decide +kernel
theorem d6_2 : decode prog_44_method_2_code 2 = .ok (.iload_n 2, 1) := by decide +kernel
theorem d6_3 : decode prog_44_method_2_code 3 = .ok (.aload_n 0, 1) := by decide +kernel
theorem d6_4 : decode prog_44_method_2_code 4 = .ok (.getfield 7, 3) := by decide +kernel
theorem d6_7 : decode prog_44_method_2_code 7 = .ok (.arraylength, 1) := by decide +kernel
theorem d6_8 : decode prog_44_method_2_code 8 = .ok (.if_icmp .ge 21, 3) := by decide +kernel
theorem d6_11 : decode prog_44_method_2_code 11 = .ok (.aload_n 0, 1) := by decide +kernel
theorem d6_12 : decode prog_44_method_2_code 12 = .ok (.getfield 7, 3) := by decide +kernel
theorem d6_15 : decode prog_44_method_2_code 15 = .ok (.iload_n 2, 1) := by decide +kernel
theorem d6_16 : decode prog_44_method_2_code 16 = .ok (.dup2, 1) := by decide +kernel
theorem d6_17 : decode prog_44_method_2_code 17 = .ok (.daload, 1) := by decide +kernel
theorem d6_18 : decode prog_44_method_2_code 18 = .ok (.aload_n 1, 1) := by decide +kernel
theorem d6_19 : decode prog_44_method_2_code 19 = .ok (.iload_n 2, 1) := by decide +kernel
theorem d6_20 : decode prog_44_method_2_code 20 = .ok (.daload, 1) := by decide +kernel
theorem d6_21 : decode prog_44_method_2_code 21 = .ok (.dadd, 1) := by decide +kernel
theorem d6_22 : decode prog_44_method_2_code 22 = .ok (.dastore, 1) := by decide +kernel
theorem d6_23 : decode prog_44_method_2_code 23 = .ok (.iinc 2 1, 3) := by decide +kernel
theorem d6_26 : decode prog_44_method_2_code 26 = .ok (.goto (-24), 3) := by decide +kernel
theorem d6_29 : decode prog_44_method_2_code 29 = .ok (.aload_n 0, 1) := by decide +kernel
theorem d6_30 : decode prog_44_method_2_code 30 = .ok (.dup, 1) := by decide +kernel
theorem d6_31 : decode prog_44_method_2_code 31 = .ok (.getfield 13, 3) := by decide +kernel
theorem d6_34 : decode prog_44_method_2_code 34 = .ok (.iconst 1, 1) := by decide +kernel
theorem d6_35 : decode prog_44_method_2_code 35 = .ok (.iadd, 1) := by decide +kernel
theorem d6_36 : decode prog_44_method_2_code 36 = .ok (.putfield 13, 3) := by decide +kernel
theorem d6_39 : decode prog_44_method_2_code 39 = .ok (.return_, 1) := by decide +kernel
theorem ef_ca_1 (m : MethodId) (a0 : Addr) (a1 : Addr) : entryFrame m #[(.ref a0), (.ref a1)] 3 = mkF m 0 #[.val (.ref a0), .val (.ref a1), .unset] [] := by first | (simp [entryFrame, mkF, argsToLocals, Value.category]; done) | rfl
def Q_ca_1 (Z : State) (a0 : Addr) (a1 : Addr) (as : Addr) (ct : Int32) (k_as : ClassId) (x0 : UInt64) (k_a1 : ClassId) (y0 : UInt64) (h0 : Heap) (n0 : Nat) (v : Option Value) (h : Heap) (L : List Loc) : Prop := v = none ∧ Fr n0 L ∧ Keep h0 h [a0, as] ∧ Exa Z h a0 "com/example/d2rank/d2rank/rerank/Centroid" ∧ Fld Z h a0 "com/example/d2rank/d2rank/rerank/Centroid" "sum" "[D" (.ref as) ∧ Fld Z h a0 "com/example/d2rank/d2rank/rerank/Centroid" "count" "I" (.int (ct + (1 : Int32))) ∧ Arv Z h as k_as .double (1 : Int32) [(.double (FP.dadd x0 y0))] (.double (0 : UInt64))
set_option maxRecDepth 65536 in
set_option maxHeartbeats 40000000 in
theorem ca_1 (l : Launch) (Z : State) (aw : Array Value) (hw : ∀ d ∈ tables_1, d.before aw Z = true) (ws : List Jvm.Cond) (a0 : Addr) (a1 : Addr) (as : Addr) (ct : Int32) (k_as : ClassId) (x0 : UInt64) (k_a1 : ClassId) (y0 : UInt64) (h0 : Heap) (n0 : Nat) (Z0 : n0 ≤ h0.size) (E_a0 : Exa Z h0 a0 "com/example/d2rank/d2rank/rerank/Centroid") (F_sum_a0 : Fld Z h0 a0 "com/example/d2rank/d2rank/rerank/Centroid" "sum" "[D" (.ref as)) (F_count_a0 : Fld Z h0 a0 "com/example/d2rank/d2rank/rerank/Centroid" "count" "I" (.int ct)) (V_as : Arv Z h0 as k_as .double (1 : Int32) [(.double x0)] (.double (0 : UInt64))) (V_a1 : Arv Z h0 a1 k_a1 .double (1 : Int32) [(.double y0)] (.double (0 : UInt64))) (g_a0 : n0 ≤ a0) (g_as : n0 ≤ as) (ne_a0_as : a0 ≠ as) (ne_a1_as : a1 ≠ as) (ne_a1_a0 : a1 ≠ a0) (hs0 : Jvm.Free.Fl.NoNaN64 (FP.dadd x0 y0)) :
    MetFree l (⟨"com/example/d2rank/d2rank/rerank/Centroid", "add", "([D)V"⟩ : MethodName) (head1 (Jvm.Cond.code (⟨"com/example/d2rank/d2rank/rerank/Centroid", "add", "([D)V"⟩ : MethodName) prog_44_method_2_code 3 none :: ws) ({ frames := 0, cells := 0, slots := 0, locals := 0 } : Room)) (fun a U => a = #[(.ref a0), (.ref a1)] ∧ Z.Warmed39 U.vm ∧ U.heap = h0) (fun _ _ _ _ _ => True) (fun _ U o U' => ∃ v L, o = .returned v ∧ Q_ca_1 Z a0 a1 as ct k_as x0 k_a1 y0 h0 n0 v U'.heap L ∧ FrameEnd U o U' L ({ frames := 0, cells := 0, slots := 0, locals := 0 } : Room).cells ({ frames := 0, cells := 0, slots := 0, locals := 0 } : Room).slots) := by
  refine MetFree.of_bodySF (plainFor_of_name pn_1) hisR ?_
  intro p e s m args below meth c s₁ Bd hml0 hP hK
  obtain ⟨rfl, hZ, hh⟩ := hP
  have hx := Bd.exec
  have hby := Bd.bytes
  have hml : c.maxLocals = 3 := hml0
  have hown : s.vm.findClass "com/example/d2rank/d2rank/rerank/Centroid" = some m.cls := findClass_of_methodNamed Bd.named
  have hnm := (name_of_methodNamed Bd.named Bd.method).1
  have hlk : meth.locks = false := BodyLoose.notSynchronized Bd
  have X0 : Stand p l e ({ frames := 0, cells := 0, slots := 0, locals := 0 } : Room) s m #[(.ref a0), (.ref a1)] below meth c s₁ [] 0 0 := Stand.of_body Bd
  have e0 : s₁.heap = h0 := by rw [← hh, Bd.state]; rfl
  have N0 := Fr.nil n0
  have ZZ := Z0
  show Go p e below s ({ frames := 0, cells := 0, slots := 0, locals := 0 } : Room).cells ({ frames := 0, cells := 0, slots := 0, locals := 0 } : Room).slots (fun v h L => Q_ca_1 Z a0 a1 as ct k_as x0 k_a1 y0 h0 n0 v h L) s₁ (entryFrame m #[(.ref a0), (.ref a1)] 3)
  refine Go.cast (ef_ca_1 m a0 a1) ?_
  refine Go.gen ?_
  intro K1 K2 QQ hK1 hK2 hQQ
  have KP : Keep h0 h0 [a0, as] := Keep.refl _ _
  refine Go.on (fun _ k => XS.iconst X0.here hx rfl (hb hby d6_0) k) ?_
  show Go _ _ _ _ _ _ _ _ (mkF m 1 #[.val (.ref a0), .val (.ref a1), .unset] [(.int (0 : Int32))])
  refine Go.on (fun _ k => XS.istoreN X0.here hx rfl (hb hby d6_1) rfl (l' := #[.val (.ref a0), .val (.ref a1), .val (.int (0 : Int32))]) rfl k) ?_
  show Go _ _ _ _ _ _ _ _ (mkF m 2 #[.val (.ref a0), .val (.ref a1), .val (.int (0 : Int32))] [])
  refine Go.on (fun _ k => XS.iloadN X0.here hx rfl (hb hby d6_2) rfl k) ?_
  show Go _ _ _ _ _ _ _ _ (mkF m 3 #[.val (.ref a0), .val (.ref a1), .val (.int (0 : Int32))] [(.int (0 : Int32))])
  refine Go.on (fun _ k => XS.aloadN X0.here hx rfl (hb hby d6_3) rfl rfl k) ?_
  show Go _ _ _ _ _ _ _ _ (mkF m 4 #[.val (.ref a0), .val (.ref a1), .val (.int (0 : Int32))] [(.ref a0), (.int (0 : Int32))])
  obtain ⟨T1, X1, e1, st1⟩ := getF X0 hx hZ hown (host := "") (Or.inl (hw _ (List.mem_of_getElem? (i := 10) rfl))) Via.refl e0 F_sum_a0 (g := (mkF m 4 #[.val (.ref a0), .val (.ref a1), .val (.int (0 : Int32))] [(.ref a0), (.int (0 : Int32))])) rfl rfl (hb hby d6_4)
  refine Go.on st1 ?_
  show Go _ _ _ _ _ _ _ _ (mkF m 7 #[.val (.ref a0), .val (.ref a1), .val (.int (0 : Int32))] [(.ref as), (.int (0 : Int32))])
  obtain ⟨cl2, Ar2, -, S2, N2n, -, -⟩ := id V_as
  refine Go.on (X1.arraylength hx (by rw [e1]; exact Ar2.1) (State.isArrayOf_alike hZ.alike Ar2.2.1) (g := (mkF m 7 #[.val (.ref a0), .val (.ref a1), .val (.int (0 : Int32))] [(.ref as), (.int (0 : Int32))])) rfl rfl (hb hby d6_7)) ?_
  rw [len_of S2 N2n]
  show Go _ _ _ _ _ _ _ _ (mkF m 8 #[.val (.ref a0), .val (.ref a1), .val (.int (0 : Int32))] [(.int (1 : Int32)), (.int (0 : Int32))])
  have hc3 : (0 : Int32) < (1 : Int32) := by decide
  refine Go.on (fun _ k => XS.icmpNo X1.here hx rfl (hb hby d6_8) rfl (tlt hc3).2.1 k) ?_
  show Go _ _ _ _ _ _ _ _ (mkF m 11 #[.val (.ref a0), .val (.ref a1), .val (.int (0 : Int32))] [])
  refine Go.on (fun _ k => XS.aloadN X1.here hx rfl (hb hby d6_11) rfl rfl k) ?_
  show Go _ _ _ _ _ _ _ _ (mkF m 12 #[.val (.ref a0), .val (.ref a1), .val (.int (0 : Int32))] [(.ref a0)])
  obtain ⟨T4, X4, e4, st4⟩ := getF X1 hx hZ hown (host := "") (Or.inl (hw _ (List.mem_of_getElem? (i := 10) rfl))) Via.refl e1 F_sum_a0 (g := (mkF m 12 #[.val (.ref a0), .val (.ref a1), .val (.int (0 : Int32))] [(.ref a0)])) rfl rfl (hb hby d6_12)
  refine Go.on st4 ?_
  show Go _ _ _ _ _ _ _ _ (mkF m 15 #[.val (.ref a0), .val (.ref a1), .val (.int (0 : Int32))] [(.ref as)])
  refine Go.on (fun _ k => XS.iloadN X4.here hx rfl (hb hby d6_15) rfl k) ?_
  show Go _ _ _ _ _ _ _ _ (mkF m 16 #[.val (.ref a0), .val (.ref a1), .val (.int (0 : Int32))] [(.int (0 : Int32)), (.ref as)])
  refine Go.on (fun _ k => Jvm.Free.XT.dup2 X4.here hx rfl (hb hby d6_16) rfl rfl rfl k) ?_
  show Go _ _ _ _ _ _ _ _ (mkF m 17 #[.val (.ref a0), .val (.ref a1), .val (.int (0 : Int32))] [(.int (0 : Int32)), (.ref as), (.int (0 : Int32)), (.ref as)])
  obtain ⟨cl5, Ar5, -, S5, -, H5, -⟩ := id V_as
  have hin5 : ¬ ((0 : Int32) < 0 ∨ cl5.slots.size ≤ ((0 : Int32)).toNatClampNeg) := inb_of S5 ⟨by decide, by decide⟩
  refine Go.on (X4.daload hx (j := (0 : Int32)) (v := (.double x0)) (by rw [e4]; exact Ar5.1) (State.isArrayOf_alike hZ.alike Ar5.2.1) Ar5.2.2 hin5 (H5.at hin5 (rfl)) (g := (mkF m 17 #[.val (.ref a0), .val (.ref a1), .val (.int (0 : Int32))] [(.int (0 : Int32)), (.ref as), (.int (0 : Int32)), (.ref as)])) rfl rfl (hb hby d6_17)) ?_
  show Go _ _ _ _ _ _ _ _ (mkF m 18 #[.val (.ref a0), .val (.ref a1), .val (.int (0 : Int32))] [(.double x0), (.int (0 : Int32)), (.ref as)])
  refine Go.on (fun _ k => XS.aloadN X4.here hx rfl (hb hby d6_18) rfl rfl k) ?_
  show Go _ _ _ _ _ _ _ _ (mkF m 19 #[.val (.ref a0), .val (.ref a1), .val (.int (0 : Int32))] [(.ref a1), (.double x0), (.int (0 : Int32)), (.ref as)])
  refine Go.on (fun _ k => XS.iloadN X4.here hx rfl (hb hby d6_19) rfl k) ?_
  show Go _ _ _ _ _ _ _ _ (mkF m 20 #[.val (.ref a0), .val (.ref a1), .val (.int (0 : Int32))] [(.int (0 : Int32)), (.ref a1), (.double x0), (.int (0 : Int32)), (.ref as)])
  obtain ⟨cl6, Ar6, -, S6, -, H6, -⟩ := id V_a1
  have hin6 : ¬ ((0 : Int32) < 0 ∨ cl6.slots.size ≤ ((0 : Int32)).toNatClampNeg) := inb_of S6 ⟨by decide, by decide⟩
  refine Go.on (X4.daload hx (j := (0 : Int32)) (v := (.double y0)) (by rw [e4]; exact Ar6.1) (State.isArrayOf_alike hZ.alike Ar6.2.1) Ar6.2.2 hin6 (H6.at hin6 (rfl)) (g := (mkF m 20 #[.val (.ref a0), .val (.ref a1), .val (.int (0 : Int32))] [(.int (0 : Int32)), (.ref a1), (.double x0), (.int (0 : Int32)), (.ref as)])) rfl rfl (hb hby d6_20)) ?_
  show Go _ _ _ _ _ _ _ _ (mkF m 21 #[.val (.ref a0), .val (.ref a1), .val (.int (0 : Int32))] [(.double y0), (.double x0), (.int (0 : Int32)), (.ref as)])
  refine Go.on (fun _ k => XS.daddS X4.here hx rfl (hb hby d6_21) rfl (hs0) rfl k) ?_
  show Go _ _ _ _ _ _ _ _ (mkF m 22 #[.val (.ref a0), .val (.ref a1), .val (.int (0 : Int32))] [(.double (FP.dadd x0 y0)), (.int (0 : Int32)), (.ref as)])
  obtain ⟨cl7, Ar7, q7, S7, N7n, H7, G7⟩ := id V_as
  have hin7 : ¬ ((0 : Int32) < 0 ∨ cl7.slots.size ≤ ((0 : Int32)).toNatClampNeg) := inb_of S7 ⟨by decide, by decide⟩
  obtain ⟨T7, h7, X7, e7, W7, st7⟩ := stD X4 hx hZ e4 Ar7 (j := (0 : Int32)) hin7 (g := (mkF m 22 #[.val (.ref a0), .val (.ref a1), .val (.int (0 : Int32))] [(.double (FP.dadd x0 y0)), (.int (0 : Int32)), (.ref as)])) rfl rfl (hb hby d6_22)
  replace V_as := Arv.set Ar7 q7 S7 N7n H7 G7 rfl W7 0 rfl (Nat.le_of_ble_eq_true rfl)
  replace E_a0 := E_a0.wr W7
  replace F_sum_a0 := F_sum_a0.other W7 (Or.inl ne_a0_as)
  replace F_count_a0 := F_count_a0.other W7 (Or.inl ne_a0_as)
  replace V_a1 := V_a1.other W7 ne_a1_as
  refine Go.on st7 ?_
  have N7 := Fr.snoc X7 N0 g_as
  replace ZZ := Nat.le_trans ZZ (Keep.of_wr W7).1
  replace KP := KP.wr W7 (Or.inl (List.mem_of_getElem? (i := 1) rfl))
  change Arv Z h7 as k_as .double (1 : Int32) [(.double (FP.dadd x0 y0))] (.double (0 : UInt64)) at V_as
  show Go _ _ _ _ _ _ _ _ (mkF m 23 #[.val (.ref a0), .val (.ref a1), .val (.int (0 : Int32))] [])
  refine Go.on (fun _ k => XS.iinc X7.here hx rfl (hb hby d6_23) rfl (l' := #[.val (.ref a0), .val (.ref a1), .val (.int (1 : Int32))]) rfl k) ?_
  show Go _ _ _ _ _ _ _ _ (mkF m 26 #[.val (.ref a0), .val (.ref a1), .val (.int (1 : Int32))] [])
  refine Go.on (fun _ k => XS.goto X7.here hx rfl (pc0 := 26) (pc' := 2) rfl (hb hby d6_26) (by decide) (by decide) k) ?_
  show Go _ _ _ _ _ _ _ _ (mkF m 2 #[.val (.ref a0), .val (.ref a1), .val (.int (1 : Int32))] [])
  refine Go.on (fun _ k => XS.iloadN X7.here hx rfl (hb hby d6_2) rfl k) ?_
  show Go _ _ _ _ _ _ _ _ (mkF m 3 #[.val (.ref a0), .val (.ref a1), .val (.int (1 : Int32))] [(.int (1 : Int32))])
  refine Go.on (fun _ k => XS.aloadN X7.here hx rfl (hb hby d6_3) rfl rfl k) ?_
  show Go _ _ _ _ _ _ _ _ (mkF m 4 #[.val (.ref a0), .val (.ref a1), .val (.int (1 : Int32))] [(.ref a0), (.int (1 : Int32))])
  obtain ⟨T8, X8, e8, st8⟩ := getF X7 hx hZ hown (host := "") (Or.inl (hw _ (List.mem_of_getElem? (i := 10) rfl))) Via.refl e7 F_sum_a0 (g := (mkF m 4 #[.val (.ref a0), .val (.ref a1), .val (.int (1 : Int32))] [(.ref a0), (.int (1 : Int32))])) rfl rfl (hb hby d6_4)
  refine Go.on st8 ?_
  show Go _ _ _ _ _ _ _ _ (mkF m 7 #[.val (.ref a0), .val (.ref a1), .val (.int (1 : Int32))] [(.ref as), (.int (1 : Int32))])
  obtain ⟨cl9, Ar9, -, S9, N9n, -, -⟩ := id V_as
  refine Go.on (X8.arraylength hx (by rw [e8]; exact Ar9.1) (State.isArrayOf_alike hZ.alike Ar9.2.1) (g := (mkF m 7 #[.val (.ref a0), .val (.ref a1), .val (.int (1 : Int32))] [(.ref as), (.int (1 : Int32))])) rfl rfl (hb hby d6_7)) ?_
  rw [len_of S9 N9n]
  show Go _ _ _ _ _ _ _ _ (mkF m 8 #[.val (.ref a0), .val (.ref a1), .val (.int (1 : Int32))] [(.int (1 : Int32)), (.int (1 : Int32))])
  have hc10 : ¬ ((1 : Int32) < (1 : Int32)) := by decide
  refine Go.on (fun _ k => XS.icmpYes X8.here hx rfl (pc0 := 8) (pc' := 29) rfl (hb hby d6_8) rfl (flt hc10).2.1 (by decide) (by decide) k) ?_
  show Go _ _ _ _ _ _ _ _ (mkF m 29 #[.val (.ref a0), .val (.ref a1), .val (.int (1 : Int32))] [])
  refine Go.on (fun _ k => XS.aloadN X8.here hx rfl (hb hby d6_29) rfl rfl k) ?_
  show Go _ _ _ _ _ _ _ _ (mkF m 30 #[.val (.ref a0), .val (.ref a1), .val (.int (1 : Int32))] [(.ref a0)])
  refine Go.on (fun _ k => XS.dup X8.here hx rfl (hb hby d6_30) rfl rfl k) ?_
  show Go _ _ _ _ _ _ _ _ (mkF m 31 #[.val (.ref a0), .val (.ref a1), .val (.int (1 : Int32))] [(.ref a0), (.ref a0)])
  obtain ⟨T11, X11, e11, st11⟩ := getF X8 hx hZ hown (host := "") (Or.inl (hw _ (List.mem_of_getElem? (i := 28) rfl))) Via.refl e8 F_count_a0 (g := (mkF m 31 #[.val (.ref a0), .val (.ref a1), .val (.int (1 : Int32))] [(.ref a0), (.ref a0)])) rfl rfl (hb hby d6_31)
  refine Go.on st11 ?_
  show Go _ _ _ _ _ _ _ _ (mkF m 34 #[.val (.ref a0), .val (.ref a1), .val (.int (1 : Int32))] [(.int ct), (.ref a0)])
  refine Go.on (fun _ k => XS.iconst X11.here hx rfl (hb hby d6_34) k) ?_
  show Go _ _ _ _ _ _ _ _ (mkF m 35 #[.val (.ref a0), .val (.ref a1), .val (.int (1 : Int32))] [(.int (1 : Int32)), (.int ct), (.ref a0)])
  refine Go.on (fun _ k => XS.iadd X11.here hx rfl (hb hby d6_35) rfl k) ?_
  show Go _ _ _ _ _ _ _ _ (mkF m 36 #[.val (.ref a0), .val (.ref a1), .val (.int (1 : Int32))] [(.int (ct + (1 : Int32))), (.ref a0)])
  obtain ⟨T12, h12, X12, e12, W12, st12⟩ := putF X11 hx hZ hown (host := "") (Or.inl (hw _ (List.mem_of_getElem? (i := 28) rfl))) Via.refl e11 F_count_a0 E_a0 (Or.inl (hw _ (List.mem_of_getElem? (i := 29) rfl))) (hw _ (List.mem_of_getElem? (i := 1) rfl)) (ty := .int) (by decide) rfl rfl (g := (mkF m 36 #[.val (.ref a0), .val (.ref a1), .val (.int (1 : Int32))] [(.int (ct + (1 : Int32))), (.ref a0)])) rfl rfl (hb hby d6_36)
  refine Go.on st12 ?_
  replace F_count_a0 := F_count_a0.same W12
  replace E_a0 := E_a0.wr W12
  replace F_sum_a0 := F_sum_a0.other W12 (Or.inr (slot_ne (Or.inr (hw _ (List.mem_of_getElem? (i := 11) rfl))) (Or.inl (hw _ (List.mem_of_getElem? (i := 29) rfl))) (by decide) (t := (.array .double)) (t' := .int) (by decide) (by decide)))
  replace V_as := V_as.other W12 (Ne.symm ne_a0_as)
  replace V_a1 := V_a1.other W12 ne_a1_a0
  have N12 := Fr.snoc X12 N7 g_a0
  replace ZZ := Nat.le_trans ZZ (Keep.of_wr W12).1
  replace KP := KP.wr W12 (Or.inl (List.mem_of_getElem? (i := 0) rfl))
  show Go _ _ _ _ _ _ _ _ (mkF m 39 #[.val (.ref a0), .val (.ref a1), .val (.int (1 : Int32))] [])
  refine Go.ret0 X12 hx Bd.returns (hb hby d6_39) ?_ (by rw [hK1]; decide) (by rw [hK2]; decide)
  rw [e12, ← hQQ]
  exact ⟨rfl, N12, KP, E_a0, F_sum_a0, F_count_a0, V_as⟩
theorem d7_0 : decode prog_44_method_4_code 0 = .ok (.aload_n 0, 1) := by decide +kernel
theorem d7_1 : decode prog_44_method_4_code 1 = .ok (.getfield 7, 3) := by decide +kernel
theorem d7_4 : decode prog_44_method_4_code 4 = .ok (.arraylength, 1) := by decide +kernel
theorem d7_5 : decode prog_44_method_4_code 5 = .ok (.newarray .double, 2) := by decide +kernel
theorem d7_7 : decode prog_44_method_4_code 7 = .ok (.astore_n 1, 1) := by decide +kernel
theorem d7_8 : decode prog_44_method_4_code 8 = .ok (.iconst 0, 1) := by decide +kernel
theorem d7_9 : decode prog_44_method_4_code 9 = .ok (.istore_n 2, 1) := by decide +kernel
theorem d7_10 : decode prog_44_method_4_code 10 = .ok (.iload_n 2, 1) := by decide +kernel
theorem d7_11 : decode prog_44_method_4_code 11 = .ok (.aload_n 0, 1) := by decide +kernel
theorem d7_12 : decode prog_44_method_4_code 12 = .ok (.getfield 7, 3) := by decide +kernel
theorem d7_15 : decode prog_44_method_4_code 15 = .ok (.arraylength, 1) := by decide +kernel
theorem d7_16 : decode prog_44_method_4_code 16 = .ok (.if_icmp .ge 24, 3) := by decide +kernel
theorem d7_19 : decode prog_44_method_4_code 19 = .ok (.aload_n 1, 1) := by decide +kernel
theorem d7_20 : decode prog_44_method_4_code 20 = .ok (.iload_n 2, 1) := by decide +kernel
theorem d7_21 : decode prog_44_method_4_code 21 = .ok (.aload_n 0, 1) := by decide +kernel
theorem d7_22 : decode prog_44_method_4_code 22 = .ok (.getfield 7, 3) := by decide +kernel
theorem d7_25 : decode prog_44_method_4_code 25 = .ok (.iload_n 2, 1) := by decide +kernel
theorem d7_26 : decode prog_44_method_4_code 26 = .ok (.daload, 1) := by decide +kernel
theorem d7_27 : decode prog_44_method_4_code 27 = .ok (.aload_n 0, 1) := by decide +kernel
theorem d7_28 : decode prog_44_method_4_code 28 = .ok (.getfield 13, 3) := by decide +kernel
theorem d7_31 : decode prog_44_method_4_code 31 = .ok (.i2d, 1) := by decide +kernel
theorem d7_32 : decode prog_44_method_4_code 32 = .ok (.ddiv, 1) := by decide +kernel
theorem d7_33 : decode prog_44_method_4_code 33 = .ok (.dastore, 1) := by decide +kernel
theorem d7_34 : decode prog_44_method_4_code 34 = .ok (.iinc 2 1, 3) := by decide +kernel
theorem d7_37 : decode prog_44_method_4_code 37 = .ok (.goto (-27), 3) := by decide +kernel
theorem d7_40 : decode prog_44_method_4_code 40 = .ok (.aload_n 1, 1) := by decide +kernel
theorem d7_41 : decode prog_44_method_4_code 41 = .ok (.areturn, 1) := by decide +kernel
theorem ef_cm_1 (m : MethodId) (a0 : Addr) : entryFrame m #[(.ref a0)] 3 = mkF m 0 #[.val (.ref a0), .unset, .unset] [] := by first | (simp [entryFrame, mkF, argsToLocals, Value.category]; done) | rfl
def Q_cm_1 (Z : State) (a0 : Addr) (as : Addr) (ct : Int32) (k_as : ClassId) (x0 : UInt64) (h0 : Heap) (n0 : Nat) (v : Option Value) (h : Heap) (L : List Loc) : Prop := ∃ (ar : Addr) (k_ar : ClassId), v = some (.ref ar) ∧ Fr n0 L ∧ Keep h0 h [] ∧ h0.size ≤ ar ∧ Arv Z h ar k_ar .double (1 : Int32) [(.double (FP.ddiv x0 (FP.i2d ct)))] (.double (0 : UInt64))
set_option maxRecDepth 65536 in
set_option maxHeartbeats 40000000 in
theorem cm_1 (l : Launch) (Z : State) (aw : Array Value) (hw : ∀ d ∈ tables_1, d.before aw Z = true) (ws : List Jvm.Cond) (a0 : Addr) (as : Addr) (ct : Int32) (k_as : ClassId) (x0 : UInt64) (h0 : Heap) (n0 : Nat) (Z0 : n0 ≤ h0.size) (F_sum_a0 : Fld Z h0 a0 "com/example/d2rank/d2rank/rerank/Centroid" "sum" "[D" (.ref as)) (F_count_a0 : Fld Z h0 a0 "com/example/d2rank/d2rank/rerank/Centroid" "count" "I" (.int ct)) (V_as : Arv Z h0 as k_as .double (1 : Int32) [(.double x0)] (.double (0 : UInt64))) (hd0 : Jvm.Free.Fl.NoNaN64 (FP.ddiv x0 (FP.i2d ct))) :
    MetFree l (⟨"com/example/d2rank/d2rank/rerank/Centroid", "mean", "()[D"⟩ : MethodName) (head1 (Jvm.Cond.code (⟨"com/example/d2rank/d2rank/rerank/Centroid", "mean", "()[D"⟩ : MethodName) prog_44_method_4_code 3 (some (.array .double)) :: ws) ({ frames := 0, cells := 1, slots := 1, locals := 0 } : Room)) (fun a U => a = #[(.ref a0)] ∧ Z.Warmed39 U.vm ∧ U.heap = h0) (fun _ _ _ _ _ => True) (fun _ U o U' => ∃ v L, o = .returned v ∧ Q_cm_1 Z a0 as ct k_as x0 h0 n0 v U'.heap L ∧ FrameEnd U o U' L ({ frames := 0, cells := 1, slots := 1, locals := 0 } : Room).cells ({ frames := 0, cells := 1, slots := 1, locals := 0 } : Room).slots) := by
  refine MetFree.of_bodySF (plainFor_of_name pn_1) hisR ?_
  intro p e s m args below meth c s₁ Bd hml0 hP hK
  obtain ⟨rfl, hZ, hh⟩ := hP
  have hx := Bd.exec
  have hby := Bd.bytes
  have hml : c.maxLocals = 3 := hml0
  have hown : s.vm.findClass "com/example/d2rank/d2rank/rerank/Centroid" = some m.cls := findClass_of_methodNamed Bd.named
  have hnm := (name_of_methodNamed Bd.named Bd.method).1
  have hlk : meth.locks = false := BodyLoose.notSynchronized Bd
  have X0 : Stand p l e ({ frames := 0, cells := 1, slots := 1, locals := 0 } : Room) s m #[(.ref a0)] below meth c s₁ [] 0 0 := Stand.of_body Bd
  have e0 : s₁.heap = h0 := by rw [← hh, Bd.state]; rfl
  have N0 := Fr.nil n0
  have ZZ := Z0
  show Go p e below s ({ frames := 0, cells := 1, slots := 1, locals := 0 } : Room).cells ({ frames := 0, cells := 1, slots := 1, locals := 0 } : Room).slots (fun v h L => Q_cm_1 Z a0 as ct k_as x0 h0 n0 v h L) s₁ (entryFrame m #[(.ref a0)] 3)
  refine Go.cast (ef_cm_1 m a0) ?_
  refine Go.gen ?_
  intro K1 K2 QQ hK1 hK2 hQQ
  have KP : Keep h0 h0 [] := Keep.refl _ _
  refine Go.on (fun _ k => XS.aloadN X0.here hx rfl (hb hby d7_0) rfl rfl k) ?_
  show Go _ _ _ _ _ _ _ _ (mkF m 1 #[.val (.ref a0), .unset, .unset] [(.ref a0)])
  obtain ⟨T1, X1, e1, st1⟩ := getF X0 hx hZ hown (host := "") (Or.inl (hw _ (List.mem_of_getElem? (i := 10) rfl))) Via.refl e0 F_sum_a0 (g := (mkF m 1 #[.val (.ref a0), .unset, .unset] [(.ref a0)])) rfl rfl (hb hby d7_1)
  refine Go.on st1 ?_
  show Go _ _ _ _ _ _ _ _ (mkF m 4 #[.val (.ref a0), .unset, .unset] [(.ref as)])
  obtain ⟨cl2, Ar2, -, S2, N2n, -, -⟩ := id V_as
  refine Go.on (X1.arraylength hx (by rw [e1]; exact Ar2.1) (State.isArrayOf_alike hZ.alike Ar2.2.1) (g := (mkF m 4 #[.val (.ref a0), .unset, .unset] [(.ref as)])) rfl rfl (hb hby d7_4)) ?_
  rw [len_of S2 N2n]
  show Go _ _ _ _ _ _ _ _ (mkF m 5 #[.val (.ref a0), .unset, .unset] [(.int (1 : Int32))])
  obtain ⟨T3, h3, k_ar, X3, e3, E3, A3, st3⟩ := newP X1 hx hZ (hw _ (List.mem_of_getElem? (i := 9) rfl)) e1 (g := (mkF m 5 #[.val (.ref a0), .unset, .unset] [(.int (1 : Int32))])) rfl (hb hby d7_5) rfl (by decide) (cap := 1) (by decide) (by decide) (by decide) (by decide)
  obtain ⟨ar, g3⟩ : ∃ z, z = h0.size := ⟨_, rfl⟩
  have ne_a0_ar : a0 ≠ ar := Nat.ne_of_lt (Nat.lt_of_lt_of_le F_sum_a0.lt (Nat.le_of_eq g3.symm))
  have ne_as_ar : as ≠ ar := Nat.ne_of_lt (Nat.lt_of_lt_of_le V_as.lt (Nat.le_of_eq g3.symm))
  have g_ar : n0 ≤ ar := Nat.le_trans ZZ (Nat.le_of_eq g3.symm)
  have sz_ar : h0.size ≤ ar := Nat.le_trans KP.1 (Nat.le_of_eq g3.symm)
  rw [← g3] at A3 st3
  replace F_sum_a0 := F_sum_a0.ext E3
  replace F_count_a0 := F_count_a0.ext E3
  replace V_as := V_as.ext E3
  replace ZZ := Nat.le_trans ZZ E3.1
  replace KP := KP.ext E3
  have V_ar : Arv Z h3 ar k_ar .double (1 : Int32) [(.double (0 : UInt64))] (.double (0 : UInt64)) := (Arv.new A3 (by decide)).pad (pad_rep [] (.double (0 : UInt64)) 1)
  refine Go.on st3 ?_
  show Go _ _ _ _ _ _ _ _ (mkF m 7 #[.val (.ref a0), .unset, .unset] [(.ref ar)])
  refine Go.on (fun _ k => XS.astoreN X3.here hx rfl (hb hby d7_7) rfl rfl (l' := #[.val (.ref a0), .val (.ref ar), .unset]) rfl k) ?_
  show Go _ _ _ _ _ _ _ _ (mkF m 8 #[.val (.ref a0), .val (.ref ar), .unset] [])
  refine Go.on (fun _ k => XS.iconst X3.here hx rfl (hb hby d7_8) k) ?_
  show Go _ _ _ _ _ _ _ _ (mkF m 9 #[.val (.ref a0), .val (.ref ar), .unset] [(.int (0 : Int32))])
  refine Go.on (fun _ k => XS.istoreN X3.here hx rfl (hb hby d7_9) rfl (l' := #[.val (.ref a0), .val (.ref ar), .val (.int (0 : Int32))]) rfl k) ?_
  show Go _ _ _ _ _ _ _ _ (mkF m 10 #[.val (.ref a0), .val (.ref ar), .val (.int (0 : Int32))] [])
  refine Go.on (fun _ k => XS.iloadN X3.here hx rfl (hb hby d7_10) rfl k) ?_
  show Go _ _ _ _ _ _ _ _ (mkF m 11 #[.val (.ref a0), .val (.ref ar), .val (.int (0 : Int32))] [(.int (0 : Int32))])
  refine Go.on (fun _ k => XS.aloadN X3.here hx rfl (hb hby d7_11) rfl rfl k) ?_
  show Go _ _ _ _ _ _ _ _ (mkF m 12 #[.val (.ref a0), .val (.ref ar), .val (.int (0 : Int32))] [(.ref a0), (.int (0 : Int32))])
  obtain ⟨T4, X4, e4, st4⟩ := getF X3 hx hZ hown (host := "") (Or.inl (hw _ (List.mem_of_getElem? (i := 10) rfl))) Via.refl e3 F_sum_a0 (g := (mkF m 12 #[.val (.ref a0), .val (.ref ar), .val (.int (0 : Int32))] [(.ref a0), (.int (0 : Int32))])) rfl rfl (hb hby d7_12)
  refine Go.on st4 ?_
  show Go _ _ _ _ _ _ _ _ (mkF m 15 #[.val (.ref a0), .val (.ref ar), .val (.int (0 : Int32))] [(.ref as), (.int (0 : Int32))])
  obtain ⟨cl5, Ar5, -, S5, N5n, -, -⟩ := id V_as
  refine Go.on (X4.arraylength hx (by rw [e4]; exact Ar5.1) (State.isArrayOf_alike hZ.alike Ar5.2.1) (g := (mkF m 15 #[.val (.ref a0), .val (.ref ar), .val (.int (0 : Int32))] [(.ref as), (.int (0 : Int32))])) rfl rfl (hb hby d7_15)) ?_
  rw [len_of S5 N5n]
  show Go _ _ _ _ _ _ _ _ (mkF m 16 #[.val (.ref a0), .val (.ref ar), .val (.int (0 : Int32))] [(.int (1 : Int32)), (.int (0 : Int32))])
  have hc6 : (0 : Int32) < (1 : Int32) := by decide
  refine Go.on (fun _ k => XS.icmpNo X4.here hx rfl (hb hby d7_16) rfl (tlt hc6).2.1 k) ?_
  show Go _ _ _ _ _ _ _ _ (mkF m 19 #[.val (.ref a0), .val (.ref ar), .val (.int (0 : Int32))] [])
  refine Go.on (fun _ k => XS.aloadN X4.here hx rfl (hb hby d7_19) rfl rfl k) ?_
  show Go _ _ _ _ _ _ _ _ (mkF m 20 #[.val (.ref a0), .val (.ref ar), .val (.int (0 : Int32))] [(.ref ar)])
  refine Go.on (fun _ k => XS.iloadN X4.here hx rfl (hb hby d7_20) rfl k) ?_
  show Go _ _ _ _ _ _ _ _ (mkF m 21 #[.val (.ref a0), .val (.ref ar), .val (.int (0 : Int32))] [(.int (0 : Int32)), (.ref ar)])
  refine Go.on (fun _ k => XS.aloadN X4.here hx rfl (hb hby d7_21) rfl rfl k) ?_
  show Go _ _ _ _ _ _ _ _ (mkF m 22 #[.val (.ref a0), .val (.ref ar), .val (.int (0 : Int32))] [(.ref a0), (.int (0 : Int32)), (.ref ar)])
  obtain ⟨T7, X7, e7, st7⟩ := getF X4 hx hZ hown (host := "") (Or.inl (hw _ (List.mem_of_getElem? (i := 10) rfl))) Via.refl e4 F_sum_a0 (g := (mkF m 22 #[.val (.ref a0), .val (.ref ar), .val (.int (0 : Int32))] [(.ref a0), (.int (0 : Int32)), (.ref ar)])) rfl rfl (hb hby d7_22)
  refine Go.on st7 ?_
  show Go _ _ _ _ _ _ _ _ (mkF m 25 #[.val (.ref a0), .val (.ref ar), .val (.int (0 : Int32))] [(.ref as), (.int (0 : Int32)), (.ref ar)])
  refine Go.on (fun _ k => XS.iloadN X7.here hx rfl (hb hby d7_25) rfl k) ?_
  show Go _ _ _ _ _ _ _ _ (mkF m 26 #[.val (.ref a0), .val (.ref ar), .val (.int (0 : Int32))] [(.int (0 : Int32)), (.ref as), (.int (0 : Int32)), (.ref ar)])
  obtain ⟨cl8, Ar8, -, S8, -, H8, -⟩ := id V_as
  have hin8 : ¬ ((0 : Int32) < 0 ∨ cl8.slots.size ≤ ((0 : Int32)).toNatClampNeg) := inb_of S8 ⟨by decide, by decide⟩
  refine Go.on (X7.daload hx (j := (0 : Int32)) (v := (.double x0)) (by rw [e7]; exact Ar8.1) (State.isArrayOf_alike hZ.alike Ar8.2.1) Ar8.2.2 hin8 (H8.at hin8 (rfl)) (g := (mkF m 26 #[.val (.ref a0), .val (.ref ar), .val (.int (0 : Int32))] [(.int (0 : Int32)), (.ref as), (.int (0 : Int32)), (.ref ar)])) rfl rfl (hb hby d7_26)) ?_
  show Go _ _ _ _ _ _ _ _ (mkF m 27 #[.val (.ref a0), .val (.ref ar), .val (.int (0 : Int32))] [(.double x0), (.int (0 : Int32)), (.ref ar)])
  refine Go.on (fun _ k => XS.aloadN X7.here hx rfl (hb hby d7_27) rfl rfl k) ?_
  show Go _ _ _ _ _ _ _ _ (mkF m 28 #[.val (.ref a0), .val (.ref ar), .val (.int (0 : Int32))] [(.ref a0), (.double x0), (.int (0 : Int32)), (.ref ar)])
  obtain ⟨T9, X9, e9, st9⟩ := getF X7 hx hZ hown (host := "") (Or.inl (hw _ (List.mem_of_getElem? (i := 28) rfl))) Via.refl e7 F_count_a0 (g := (mkF m 28 #[.val (.ref a0), .val (.ref ar), .val (.int (0 : Int32))] [(.ref a0), (.double x0), (.int (0 : Int32)), (.ref ar)])) rfl rfl (hb hby d7_28)
  refine Go.on st9 ?_
  show Go _ _ _ _ _ _ _ _ (mkF m 31 #[.val (.ref a0), .val (.ref ar), .val (.int (0 : Int32))] [(.int ct), (.double x0), (.int (0 : Int32)), (.ref ar)])
  refine Go.on (fun _ k => XS.i2dS X9.here hx rfl (hb hby d7_31) rfl rfl k) ?_
  show Go _ _ _ _ _ _ _ _ (mkF m 32 #[.val (.ref a0), .val (.ref ar), .val (.int (0 : Int32))] [(.double (FP.i2d ct)), (.double x0), (.int (0 : Int32)), (.ref ar)])
  refine Go.on (fun _ k => XS.ddivS X9.here hx rfl (hb hby d7_32) rfl (hd0) rfl k) ?_
  show Go _ _ _ _ _ _ _ _ (mkF m 33 #[.val (.ref a0), .val (.ref ar), .val (.int (0 : Int32))] [(.double (FP.ddiv x0 (FP.i2d ct))), (.int (0 : Int32)), (.ref ar)])
  obtain ⟨cl10, Ar10, q10, S10, N10n, H10, G10⟩ := id V_ar
  have hin10 : ¬ ((0 : Int32) < 0 ∨ cl10.slots.size ≤ ((0 : Int32)).toNatClampNeg) := inb_of S10 ⟨by decide, by decide⟩
  obtain ⟨T10, h10, X10, e10, W10, st10⟩ := stD X9 hx hZ e9 Ar10 (j := (0 : Int32)) hin10 (g := (mkF m 33 #[.val (.ref a0), .val (.ref ar), .val (.int (0 : Int32))] [(.double (FP.ddiv x0 (FP.i2d ct))), (.int (0 : Int32)), (.ref ar)])) rfl rfl (hb hby d7_33)
  replace V_ar := Arv.set Ar10 q10 S10 N10n H10 G10 rfl W10 0 rfl (Nat.le_of_ble_eq_true rfl)
  replace F_sum_a0 := F_sum_a0.other W10 (Or.inl ne_a0_ar)
  replace F_count_a0 := F_count_a0.other W10 (Or.inl ne_a0_ar)
  replace V_as := V_as.other W10 ne_as_ar
  refine Go.on st10 ?_
  have N10 := Fr.snoc X10 N0 g_ar
  replace ZZ := Nat.le_trans ZZ (Keep.of_wr W10).1
  replace KP := KP.wr W10 (Or.inr sz_ar)
  change Arv Z h10 ar k_ar .double (1 : Int32) [(.double (FP.ddiv x0 (FP.i2d ct)))] (.double (0 : UInt64)) at V_ar
  show Go _ _ _ _ _ _ _ _ (mkF m 34 #[.val (.ref a0), .val (.ref ar), .val (.int (0 : Int32))] [])
  refine Go.on (fun _ k => XS.iinc X10.here hx rfl (hb hby d7_34) rfl (l' := #[.val (.ref a0), .val (.ref ar), .val (.int (1 : Int32))]) rfl k) ?_
  show Go _ _ _ _ _ _ _ _ (mkF m 37 #[.val (.ref a0), .val (.ref ar), .val (.int (1 : Int32))] [])
  refine Go.on (fun _ k => XS.goto X10.here hx rfl (pc0 := 37) (pc' := 10) rfl (hb hby d7_37) (by decide) (by decide) k) ?_
  show Go _ _ _ _ _ _ _ _ (mkF m 10 #[.val (.ref a0), .val (.ref ar), .val (.int (1 : Int32))] [])
  refine Go.on (fun _ k => XS.iloadN X10.here hx rfl (hb hby d7_10) rfl k) ?_
  show Go _ _ _ _ _ _ _ _ (mkF m 11 #[.val (.ref a0), .val (.ref ar), .val (.int (1 : Int32))] [(.int (1 : Int32))])
  refine Go.on (fun _ k => XS.aloadN X10.here hx rfl (hb hby d7_11) rfl rfl k) ?_
  show Go _ _ _ _ _ _ _ _ (mkF m 12 #[.val (.ref a0), .val (.ref ar), .val (.int (1 : Int32))] [(.ref a0), (.int (1 : Int32))])
  obtain ⟨T11, X11, e11, st11⟩ := getF X10 hx hZ hown (host := "") (Or.inl (hw _ (List.mem_of_getElem? (i := 10) rfl))) Via.refl e10 F_sum_a0 (g := (mkF m 12 #[.val (.ref a0), .val (.ref ar), .val (.int (1 : Int32))] [(.ref a0), (.int (1 : Int32))])) rfl rfl (hb hby d7_12)
  refine Go.on st11 ?_
  show Go _ _ _ _ _ _ _ _ (mkF m 15 #[.val (.ref a0), .val (.ref ar), .val (.int (1 : Int32))] [(.ref as), (.int (1 : Int32))])
  obtain ⟨cl12, Ar12, -, S12, N12n, -, -⟩ := id V_as
  refine Go.on (X11.arraylength hx (by rw [e11]; exact Ar12.1) (State.isArrayOf_alike hZ.alike Ar12.2.1) (g := (mkF m 15 #[.val (.ref a0), .val (.ref ar), .val (.int (1 : Int32))] [(.ref as), (.int (1 : Int32))])) rfl rfl (hb hby d7_15)) ?_
  rw [len_of S12 N12n]
  show Go _ _ _ _ _ _ _ _ (mkF m 16 #[.val (.ref a0), .val (.ref ar), .val (.int (1 : Int32))] [(.int (1 : Int32)), (.int (1 : Int32))])
  have hc13 : ¬ ((1 : Int32) < (1 : Int32)) := by decide
  refine Go.on (fun _ k => XS.icmpYes X11.here hx rfl (pc0 := 16) (pc' := 40) rfl (hb hby d7_16) rfl (flt hc13).2.1 (by decide) (by decide) k) ?_
  show Go _ _ _ _ _ _ _ _ (mkF m 40 #[.val (.ref a0), .val (.ref ar), .val (.int (1 : Int32))] [])
  refine Go.on (fun _ k => XS.aloadN X11.here hx rfl (hb hby d7_40) rfl rfl k) ?_
  show Go _ _ _ _ _ _ _ _ (mkF m 41 #[.val (.ref a0), .val (.ref ar), .val (.int (1 : Int32))] [(.ref ar)])
  refine Go.retV X11 hx Bd.returns rfl (Or.inr (Or.inr (Or.inr (Or.inr ⟨rfl, rfl, rfl⟩)))) (hb hby d7_41) ?_ (by rw [hK1]; decide) (by rw [hK2]; decide)
  rw [e11, ← hQQ]
  exact ⟨ar, k_ar, rfl, N10, KP, sz_ar, V_ar⟩
theorem pd_2 : parseMethodDescriptor "(III)I" = some ⟨[.int, .int, .int], some .int⟩ := by decide +kernel
theorem d8_0 : decode method_7_code 0 = .ok (.iload_n 2, 1) := by decide +kernel
theorem d8_1 : decode method_7_code 1 = .ok (.iload_n 3, 1) := by decide +kernel
theorem d8_2 : decode method_7_code 2 = .ok (.if_icmp .lt 5, 3) := by decide +kernel
theorem d8_7 : decode method_7_code 7 = .ok (.iload 5, 2) := by decide +kernel
theorem d8_9 : decode method_7_code 9 = .ok (.iload_n 2, 1) := by decide +kernel
theorem d8_10 : decode method_7_code 10 = .ok (.iload_n 3, 1) := by decide +kernel
theorem d8_11 : decode method_7_code 11 = .ok (.invokestatic 39, 3) := by decide +kernel
theorem d8_14 : decode method_7_code 14 = .ok (.istore 8, 2) := by decide +kernel
theorem d8_16 : decode method_7_code 16 = .ok (.iload 4, 2) := by decide +kernel
theorem d8_18 : decode method_7_code 18 = .ok (.iconst 2, 1) := by decide +kernel
theorem d8_19 : decode method_7_code 19 = .ok (.if_icmp .lt 15, 3) := by decide +kernel
theorem d8_22 : decode method_7_code 22 = .ok (.iload 8, 2) := by decide +kernel
theorem d8_24 : decode method_7_code 24 = .ok (.iload 6, 2) := by decide +kernel
theorem d8_26 : decode method_7_code 26 = .ok (.iload_n 2, 1) := by decide +kernel
theorem d8_27 : decode method_7_code 27 = .ok (.iload_n 3, 1) := by decide +kernel
theorem d8_28 : decode method_7_code 28 = .ok (.invokestatic 39, 3) := by decide +kernel
theorem d8_31 : decode method_7_code 31 = .ok (.iadd, 1) := by decide +kernel
theorem d8_32 : decode method_7_code 32 = .ok (.istore 8, 2) := by decide +kernel
theorem d8_34 : decode method_7_code 34 = .ok (.iload 4, 2) := by decide +kernel
theorem d8_36 : decode method_7_code 36 = .ok (.iconst 3, 1) := by decide +kernel
theorem d8_37 : decode method_7_code 37 = .ok (.if_icmp .lt 15, 3) := by decide +kernel
theorem d8_40 : decode method_7_code 40 = .ok (.iload 8, 2) := by decide +kernel
theorem d8_42 : decode method_7_code 42 = .ok (.iload 7, 2) := by decide +kernel
theorem d8_44 : decode method_7_code 44 = .ok (.iload_n 2, 1) := by decide +kernel
theorem d8_45 : decode method_7_code 45 = .ok (.iload_n 3, 1) := by decide +kernel
theorem d8_46 : decode method_7_code 46 = .ok (.invokestatic 39, 3) := by decide +kernel
theorem d8_49 : decode method_7_code 49 = .ok (.iadd, 1) := by decide +kernel
theorem d8_50 : decode method_7_code 50 = .ok (.istore 8, 2) := by decide +kernel
theorem d8_52 : decode method_7_code 52 = .ok (.iload 8, 2) := by decide +kernel
theorem d8_54 : decode method_7_code 54 = .ok (.i2d, 1) := by decide +kernel
theorem d8_55 : decode method_7_code 55 = .ok (.iload 4, 2) := by decide +kernel
theorem d8_57 : decode method_7_code 57 = .ok (.i2d, 1) := by decide +kernel
theorem d8_58 : decode method_7_code 58 = .ok (.ddiv, 1) := by decide +kernel
theorem d8_59 : decode method_7_code 59 = .ok (.dstore 9, 2) := by decide +kernel
theorem d8_61 : decode method_7_code 61 = .ok (.aload_n 0, 1) := by decide +kernel
theorem d8_62 : decode method_7_code 62 = .ok (.iload_n 2, 1) := by decide +kernel
theorem d8_63 : decode method_7_code 63 = .ok (.daload, 1) := by decide +kernel
theorem d8_64 : decode method_7_code 64 = .ok (.dload 9, 2) := by decide +kernel
theorem d8_66 : decode method_7_code 66 = .ok (.dcmp .l, 1) := by decide +kernel
theorem d8_67 : decode method_7_code 67 = .ok (.ifCond .ne 16, 3) := by decide +kernel
theorem d8_70 : decode method_7_code 70 = .ok (.aload_n 1, 1) := by decide +kernel
theorem d8_71 : decode method_7_code 71 = .ok (.iload_n 2, 1) := by decide +kernel
theorem d8_72 : decode method_7_code 72 = .ok (.daload, 1) := by decide +kernel
theorem d8_73 : decode method_7_code 73 = .ok (.dload 9, 2) := by decide +kernel
theorem d8_75 : decode method_7_code 75 = .ok (.dcmp .l, 1) := by decide +kernel
theorem d8_76 : decode method_7_code 76 = .ok (.ifCond .ne 7, 3) := by decide +kernel
theorem d8_79 : decode method_7_code 79 = .ok (.iconst 1, 1) := by decide +kernel
theorem d8_80 : decode method_7_code 80 = .ok (.goto 4, 3) := by decide +kernel
theorem d8_83 : decode method_7_code 83 = .ok (.iconst 0, 1) := by decide +kernel
theorem d8_84 : decode method_7_code 84 = .ok (.ireturn, 1) := by decide +kernel
theorem ef_cp_1 (m : MethodId) (a0 : Addr) (a1 : Addr) (i2 : Int32) (i4 : Int32) (i5 : Int32) (i6 : Int32) (i7 : Int32) : entryFrame m #[(.ref a0), (.ref a1), (.int i2), (.int (1 : Int32)), (.int i4), (.int i5), (.int i6), (.int i7)] 11 = mkF m 0 #[.val (.ref a0), .val (.ref a1), .val (.int i2), .val (.int (1 : Int32)), .val (.int i4), .val (.int i5), .val (.int i6), .val (.int i7), .unset, .unset, .unset] [] := by first | (simp [entryFrame, mkF, argsToLocals, Value.category]; done) | rfl
def Q_cp_1 (Z : State) (a0 : Addr) (a1 : Addr) (i2 : Int32) (i4 : Int32) (i5 : Int32) (i6 : Int32) (i7 : Int32) (k_a0 : ClassId) (x0 : UInt64) (k_a1 : ClassId) (y0 : UInt64) (h0 : Heap) (n0 : Nat) (v : Option Value) (h : Heap) (L : List Loc) : Prop := v = some (.int (compV x0 y0 i2 (1 : Int32) i4 i5 i6 i7)) ∧ Fr n0 L ∧ h = h0
set_option maxRecDepth 65536 in
set_option maxHeartbeats 40000000 in
theorem cp_1 (l : Launch) (Z : State) (aw : Array Value) (hw : ∀ d ∈ tables_1, d.before aw Z = true) (ws : List Jvm.Cond) (a0 : Addr) (a1 : Addr) (i2 : Int32) (i4 : Int32) (i5 : Int32) (i6 : Int32) (i7 : Int32) (k_a0 : ClassId) (x0 : UInt64) (k_a1 : ClassId) (y0 : UInt64) (h0 : Heap) (n0 : Nat) (Z0 : n0 ≤ h0.size) (V_a0 : Arv Z h0 a0 k_a0 .double (1 : Int32) [(.double x0)] (.double (0 : UInt64))) (V_a1 : Arv Z h0 a1 k_a1 .double (1 : Int32) [(.double y0)] (.double (0 : UInt64))) (hp : (i2 = (0 : Int32))) (hn4 : i4 ≠ 0) :
    MetFree l (⟨"com/example/d2rank/d2rank/rerank/CentroidMeanPinLaw", "comp", "([D[DIIIIII)Z"⟩ : MethodName) (head1 (Jvm.Cond.code (⟨"com/example/d2rank/d2rank/rerank/CentroidMeanPinLaw", "comp", "([D[DIIIIII)Z"⟩ : MethodName) method_7_code 11 (some .boolean) :: ws) ({ frames := 2, cells := 0, slots := 0, locals := 28 } : Room)) (fun a U => a = #[(.ref a0), (.ref a1), (.int i2), (.int (1 : Int32)), (.int i4), (.int i5), (.int i6), (.int i7)] ∧ Z.Warmed39 U.vm ∧ U.heap = h0) (fun _ _ _ _ _ => True) (fun _ U o U' => ∃ v L, o = .returned v ∧ Q_cp_1 Z a0 a1 i2 i4 i5 i6 i7 k_a0 x0 k_a1 y0 h0 n0 v U'.heap L ∧ FrameEnd U o U' L ({ frames := 2, cells := 0, slots := 0, locals := 28 } : Room).cells ({ frames := 2, cells := 0, slots := 0, locals := 28 } : Room).slots) := by
  refine MetFree.of_bodySF (plainFor_of_name pn_0) hisR ?_
  intro p e s m args below meth c s₁ Bd hml0 hP hK
  obtain ⟨rfl, hZ, hh⟩ := hP
  have hx := Bd.exec
  have hby := Bd.bytes
  have hml : c.maxLocals = 11 := hml0
  have hown : s.vm.findClass "com/example/d2rank/d2rank/rerank/CentroidMeanPinLaw" = some m.cls := findClass_of_methodNamed Bd.named
  have hnm := (name_of_methodNamed Bd.named Bd.method).1
  have hlk : meth.locks = false := BodyLoose.notSynchronized Bd
  have X0 : Stand p l e ({ frames := 2, cells := 0, slots := 0, locals := 28 } : Room) s m #[(.ref a0), (.ref a1), (.int i2), (.int (1 : Int32)), (.int i4), (.int i5), (.int i6), (.int i7)] below meth c s₁ [] 0 0 := Stand.of_body Bd
  have e0 : s₁.heap = h0 := by rw [← hh, Bd.state]; rfl
  have N0 := Fr.nil n0
  have ZZ := Z0
  show Go p e below s ({ frames := 2, cells := 0, slots := 0, locals := 28 } : Room).cells ({ frames := 2, cells := 0, slots := 0, locals := 28 } : Room).slots (fun v h L => Q_cp_1 Z a0 a1 i2 i4 i5 i6 i7 k_a0 x0 k_a1 y0 h0 n0 v h L) s₁ (entryFrame m #[(.ref a0), (.ref a1), (.int i2), (.int (1 : Int32)), (.int i4), (.int i5), (.int i6), (.int i7)] 11)
  refine Go.cast (ef_cp_1 m a0 a1 i2 i4 i5 i6 i7) ?_
  refine Go.gen ?_
  intro K1 K2 QQ hK1 hK2 hQQ
  refine Go.on (fun _ k => XS.iloadN X0.here hx rfl (hb hby d8_0) rfl k) ?_
  show Go _ _ _ _ _ _ _ _ (mkF m 1 #[.val (.ref a0), .val (.ref a1), .val (.int i2), .val (.int (1 : Int32)), .val (.int i4), .val (.int i5), .val (.int i6), .val (.int i7), .unset, .unset, .unset] [(.int i2)])
  refine Go.on (fun _ k => XS.iloadN X0.here hx rfl (hb hby d8_1) rfl k) ?_
  show Go _ _ _ _ _ _ _ _ (mkF m 2 #[.val (.ref a0), .val (.ref a1), .val (.int i2), .val (.int (1 : Int32)), .val (.int i4), .val (.int i5), .val (.int i6), .val (.int i7), .unset, .unset, .unset] [(.int (1 : Int32)), (.int i2)])
  have hc1 : i2 < (1 : Int32) := (own_inb1 hp).2
  refine Go.on (fun _ k => XS.icmpYes X0.here hx rfl (pc0 := 2) (pc' := 7) rfl (hb hby d8_2) rfl (tlt hc1).1 (by decide) (by decide) k) ?_
  show Go _ _ _ _ _ _ _ _ (mkF m 7 #[.val (.ref a0), .val (.ref a1), .val (.int i2), .val (.int (1 : Int32)), .val (.int i4), .val (.int i5), .val (.int i6), .val (.int i7), .unset, .unset, .unset] [])
  refine Go.on (fun _ k => XS.iload X0.here hx rfl (hb hby d8_7) rfl k) ?_
  show Go _ _ _ _ _ _ _ _ (mkF m 9 #[.val (.ref a0), .val (.ref a1), .val (.int i2), .val (.int (1 : Int32)), .val (.int i4), .val (.int i5), .val (.int i6), .val (.int i7), .unset, .unset, .unset] [(.int i5)])
  refine Go.on (fun _ k => XS.iloadN X0.here hx rfl (hb hby d8_9) rfl k) ?_
  show Go _ _ _ _ _ _ _ _ (mkF m 10 #[.val (.ref a0), .val (.ref a1), .val (.int i2), .val (.int (1 : Int32)), .val (.int i4), .val (.int i5), .val (.int i6), .val (.int i7), .unset, .unset, .unset] [(.int i2), (.int i5)])
  refine Go.on (fun _ k => XS.iloadN X0.here hx rfl (hb hby d8_10) rfl k) ?_
  show Go _ _ _ _ _ _ _ _ (mkF m 11 #[.val (.ref a0), .val (.ref a1), .val (.int i2), .val (.int (1 : Int32)), .val (.int i4), .val (.int i5), .val (.int i6), .val (.int i7), .unset, .unset, .unset] [(.int (1 : Int32)), (.int i2), (.int i5)])
  obtain ⟨_, _, ⟨T2, L2, k2, n2⟩, -, X2, ⟨Lc2, hQ2, l2, y2, z2⟩, st2⟩ := Jvm.LawKit.callS X0 hx (y := (⟨"com/example/d2rank/d2rank/rerank/CentroidMeanPinLaw", "contrib", "(III)I"⟩ : MethodName)) hown (mvT hZ (hw _ (List.mem_of_getElem? (i := 38) rfl))) (mvT hZ (hw _ (List.mem_of_getElem? (i := 39) rfl))) (mvT hZ (hw _ (List.mem_of_getElem? (i := 14) rfl))) (mvT hZ (hw _ (List.mem_of_getElem? (i := 40) rfl))) (by decide) (backOf (W := 0) (rm9 l Z aw hw [] i5 i2 (1 : Int32)  h0 n0 ZZ (by decide)) hZ (hw _ (List.mem_of_getElem? (i := 40) rfl)) (hw _ (List.mem_of_getElem? (i := 14) rfl)) (by decide) (by decide)) (g := (mkF m 11 #[.val (.ref a0), .val (.ref a1), .val (.int i2), .val (.int (1 : Int32)), .val (.int i4), .val (.int i5), .val (.int i6), .val (.int i7), .unset, .unset, .unset] [(.int (1 : Int32)), (.int i2), (.int i5)])) rfl (by rw [hml]; rfl) (argsL := [(.int i5), (.int i2), (.int (1 : Int32))]) (rest := []) (lenOf pd_2 rfl) rfl (by show 2 * 0 + _ ≤ _; exact Nat.le_of_eq rfl) (hb hby d8_11) (fun _ _ => ⟨rfl, e0, (by decide : 0 + 0 ≤ _), (by decide : 0 + 0 ≤ _)⟩)
  dsimp only [Pt.U, Pt.locs, Pt.cells, Pt.slots] at X2 l2 y2 z2 st2 hQ2
  subst l2 y2 z2
  obtain ⟨rfl, N2q, e2⟩ := hQ2
  have N2 := Fr.app N0 N2q
  refine Go.on st2 ?_
  show Go _ _ _ _ _ _ _ _ (mkF m 14 #[.val (.ref a0), .val (.ref a1), .val (.int i2), .val (.int (1 : Int32)), .val (.int i4), .val (.int i5), .val (.int i6), .val (.int i7), .unset, .unset, .unset] [(.int (contribV i5 i2 (1 : Int32)))])
  refine Go.on (fun _ k => XS.istore X2.here hx rfl (hb hby d8_14) rfl (l' := #[.val (.ref a0), .val (.ref a1), .val (.int i2), .val (.int (1 : Int32)), .val (.int i4), .val (.int i5), .val (.int i6), .val (.int i7), .val (.int (contribV i5 i2 (1 : Int32))), .unset, .unset]) rfl k) ?_
  show Go _ _ _ _ _ _ _ _ (mkF m 16 #[.val (.ref a0), .val (.ref a1), .val (.int i2), .val (.int (1 : Int32)), .val (.int i4), .val (.int i5), .val (.int i6), .val (.int i7), .val (.int (contribV i5 i2 (1 : Int32))), .unset, .unset] [])
  refine Go.on (fun _ k => XS.iload X2.here hx rfl (hb hby d8_16) rfl k) ?_
  show Go _ _ _ _ _ _ _ _ (mkF m 18 #[.val (.ref a0), .val (.ref a1), .val (.int i2), .val (.int (1 : Int32)), .val (.int i4), .val (.int i5), .val (.int i6), .val (.int i7), .val (.int (contribV i5 i2 (1 : Int32))), .unset, .unset] [(.int i4)])
  refine Go.on (fun _ k => XS.iconst X2.here hx rfl (hb hby d8_18) k) ?_
  show Go _ _ _ _ _ _ _ _ (mkF m 19 #[.val (.ref a0), .val (.ref a1), .val (.int i2), .val (.int (1 : Int32)), .val (.int i4), .val (.int i5), .val (.int i6), .val (.int i7), .val (.int (contribV i5 i2 (1 : Int32))), .unset, .unset] [(.int (2 : Int32)), (.int i4)])
  by_cases hc3 : i4 < (2 : Int32)
  · -- pc 19 yes
    refine Go.on (fun _ k => XS.icmpYes X2.here hx rfl (pc0 := 19) (pc' := 34) rfl (hb hby d8_19) rfl (tlt hc3).1 (by decide) (by decide) k) ?_
    show Go _ _ _ _ _ _ _ _ (mkF m 34 #[.val (.ref a0), .val (.ref a1), .val (.int i2), .val (.int (1 : Int32)), .val (.int i4), .val (.int i5), .val (.int i6), .val (.int i7), .val (.int (contribV i5 i2 (1 : Int32))), .unset, .unset] [])
    refine Go.on (fun _ k => XS.iload X2.here hx rfl (hb hby d8_34) rfl k) ?_
    show Go _ _ _ _ _ _ _ _ (mkF m 36 #[.val (.ref a0), .val (.ref a1), .val (.int i2), .val (.int (1 : Int32)), .val (.int i4), .val (.int i5), .val (.int i6), .val (.int i7), .val (.int (contribV i5 i2 (1 : Int32))), .unset, .unset] [(.int i4)])
    refine Go.on (fun _ k => XS.iconst X2.here hx rfl (hb hby d8_36) k) ?_
    show Go _ _ _ _ _ _ _ _ (mkF m 37 #[.val (.ref a0), .val (.ref a1), .val (.int i2), .val (.int (1 : Int32)), .val (.int i4), .val (.int i5), .val (.int i6), .val (.int i7), .val (.int (contribV i5 i2 (1 : Int32))), .unset, .unset] [(.int (3 : Int32)), (.int i4)])
    by_cases hc4 : i4 < (3 : Int32)
    · -- pc 37 yes
      refine Go.on (fun _ k => XS.icmpYes X2.here hx rfl (pc0 := 37) (pc' := 52) rfl (hb hby d8_37) rfl (tlt hc4).1 (by decide) (by decide) k) ?_
      show Go _ _ _ _ _ _ _ _ (mkF m 52 #[.val (.ref a0), .val (.ref a1), .val (.int i2), .val (.int (1 : Int32)), .val (.int i4), .val (.int i5), .val (.int i6), .val (.int i7), .val (.int (contribV i5 i2 (1 : Int32))), .unset, .unset] [])
      refine Go.on (fun _ k => XS.iload X2.here hx rfl (hb hby d8_52) rfl k) ?_
      show Go _ _ _ _ _ _ _ _ (mkF m 54 #[.val (.ref a0), .val (.ref a1), .val (.int i2), .val (.int (1 : Int32)), .val (.int i4), .val (.int i5), .val (.int i6), .val (.int i7), .val (.int (contribV i5 i2 (1 : Int32))), .unset, .unset] [(.int (contribV i5 i2 (1 : Int32)))])
      refine Go.on (fun _ k => XS.i2dS X2.here hx rfl (hb hby d8_54) rfl rfl k) ?_
      show Go _ _ _ _ _ _ _ _ (mkF m 55 #[.val (.ref a0), .val (.ref a1), .val (.int i2), .val (.int (1 : Int32)), .val (.int i4), .val (.int i5), .val (.int i6), .val (.int i7), .val (.int (contribV i5 i2 (1 : Int32))), .unset, .unset] [(.double (FP.i2d (contribV i5 i2 (1 : Int32))))])
      refine Go.on (fun _ k => XS.iload X2.here hx rfl (hb hby d8_55) rfl k) ?_
      show Go _ _ _ _ _ _ _ _ (mkF m 57 #[.val (.ref a0), .val (.ref a1), .val (.int i2), .val (.int (1 : Int32)), .val (.int i4), .val (.int i5), .val (.int i6), .val (.int i7), .val (.int (contribV i5 i2 (1 : Int32))), .unset, .unset] [(.int i4), (.double (FP.i2d (contribV i5 i2 (1 : Int32))))])
      refine Go.on (fun _ k => XS.i2dS X2.here hx rfl (hb hby d8_57) rfl rfl k) ?_
      show Go _ _ _ _ _ _ _ _ (mkF m 58 #[.val (.ref a0), .val (.ref a1), .val (.int i2), .val (.int (1 : Int32)), .val (.int i4), .val (.int i5), .val (.int i6), .val (.int i7), .val (.int (contribV i5 i2 (1 : Int32))), .unset, .unset] [(.double (FP.i2d i4)), (.double (FP.i2d (contribV i5 i2 (1 : Int32))))])
      refine Go.on (fun _ k => XS.ddivS X2.here hx rfl (hb hby d8_58) rfl (own_nnd' (Jvm.FP.Core.i2d_fin _) _ hn4) rfl k) ?_
      show Go _ _ _ _ _ _ _ _ (mkF m 59 #[.val (.ref a0), .val (.ref a1), .val (.int i2), .val (.int (1 : Int32)), .val (.int i4), .val (.int i5), .val (.int i6), .val (.int i7), .val (.int (contribV i5 i2 (1 : Int32))), .unset, .unset] [(.double (FP.ddiv (FP.i2d (contribV i5 i2 (1 : Int32))) (FP.i2d i4)))])
      refine Go.on (fun _ k => XS.dstore X2.here hx rfl (hb hby d8_59) rfl (l' := #[.val (.ref a0), .val (.ref a1), .val (.int i2), .val (.int (1 : Int32)), .val (.int i4), .val (.int i5), .val (.int i6), .val (.int i7), .val (.int (contribV i5 i2 (1 : Int32))), .val (.double (FP.ddiv (FP.i2d (contribV i5 i2 (1 : Int32))) (FP.i2d i4))), .second]) rfl k) ?_
      show Go _ _ _ _ _ _ _ _ (mkF m 61 #[.val (.ref a0), .val (.ref a1), .val (.int i2), .val (.int (1 : Int32)), .val (.int i4), .val (.int i5), .val (.int i6), .val (.int i7), .val (.int (contribV i5 i2 (1 : Int32))), .val (.double (FP.ddiv (FP.i2d (contribV i5 i2 (1 : Int32))) (FP.i2d i4))), .second] [])
      refine Go.on (fun _ k => XS.aloadN X2.here hx rfl (hb hby d8_61) rfl rfl k) ?_
      show Go _ _ _ _ _ _ _ _ (mkF m 62 #[.val (.ref a0), .val (.ref a1), .val (.int i2), .val (.int (1 : Int32)), .val (.int i4), .val (.int i5), .val (.int i6), .val (.int i7), .val (.int (contribV i5 i2 (1 : Int32))), .val (.double (FP.ddiv (FP.i2d (contribV i5 i2 (1 : Int32))) (FP.i2d i4))), .second] [(.ref a0)])
      refine Go.on (fun _ k => XS.iloadN X2.here hx rfl (hb hby d8_62) rfl k) ?_
      show Go _ _ _ _ _ _ _ _ (mkF m 63 #[.val (.ref a0), .val (.ref a1), .val (.int i2), .val (.int (1 : Int32)), .val (.int i4), .val (.int i5), .val (.int i6), .val (.int i7), .val (.int (contribV i5 i2 (1 : Int32))), .val (.double (FP.ddiv (FP.i2d (contribV i5 i2 (1 : Int32))) (FP.i2d i4))), .second] [(.int i2), (.ref a0)])
      obtain ⟨cl5, Ar5, -, S5, -, H5, -⟩ := id V_a0
      have hin5 : ¬ (i2 < 0 ∨ cl5.slots.size ≤ (i2).toNatClampNeg) := inb_of S5 (own_inb1 hp)
      refine Go.on (X2.daload hx (j := i2) (v := (.double x0)) (by rw [e2]; exact Ar5.1) (State.isArrayOf_alike hZ.alike Ar5.2.1) Ar5.2.2 hin5 (H5.at hin5 (own_get1 hp _ _)) (g := (mkF m 63 #[.val (.ref a0), .val (.ref a1), .val (.int i2), .val (.int (1 : Int32)), .val (.int i4), .val (.int i5), .val (.int i6), .val (.int i7), .val (.int (contribV i5 i2 (1 : Int32))), .val (.double (FP.ddiv (FP.i2d (contribV i5 i2 (1 : Int32))) (FP.i2d i4))), .second] [(.int i2), (.ref a0)])) rfl rfl (hb hby d8_63)) ?_
      show Go _ _ _ _ _ _ _ _ (mkF m 64 #[.val (.ref a0), .val (.ref a1), .val (.int i2), .val (.int (1 : Int32)), .val (.int i4), .val (.int i5), .val (.int i6), .val (.int i7), .val (.int (contribV i5 i2 (1 : Int32))), .val (.double (FP.ddiv (FP.i2d (contribV i5 i2 (1 : Int32))) (FP.i2d i4))), .second] [(.double x0)])
      refine Go.on (fun _ k => XS.dload X2.here hx rfl (hb hby d8_64) rfl k) ?_
      show Go _ _ _ _ _ _ _ _ (mkF m 66 #[.val (.ref a0), .val (.ref a1), .val (.int i2), .val (.int (1 : Int32)), .val (.int i4), .val (.int i5), .val (.int i6), .val (.int i7), .val (.int (contribV i5 i2 (1 : Int32))), .val (.double (FP.ddiv (FP.i2d (contribV i5 i2 (1 : Int32))) (FP.i2d i4))), .second] [(.double (FP.ddiv (FP.i2d (contribV i5 i2 (1 : Int32))) (FP.i2d i4))), (.double x0)])
      refine Go.on (fun _ k => XS.dcmpS X2.here hx rfl (hb hby d8_66) rfl rfl k) ?_
      show Go _ _ _ _ _ _ _ _ (mkF m 67 #[.val (.ref a0), .val (.ref a1), .val (.int i2), .val (.int (1 : Int32)), .val (.int i4), .val (.int i5), .val (.int i6), .val (.int i7), .val (.int (contribV i5 i2 (1 : Int32))), .val (.double (FP.ddiv (FP.i2d (contribV i5 i2 (1 : Int32))) (FP.i2d i4))), .second] [(.int (cmpValue (FP.dcmp x0 (FP.ddiv (FP.i2d (contribV i5 i2 (1 : Int32))) (FP.i2d i4))) .l))])
      by_cases hc6 : (cmpValue (FP.dcmp x0 (FP.ddiv (FP.i2d (contribV i5 i2 (1 : Int32))) (FP.i2d i4))) .l) = (0 : Int32)
      · -- pc 67 yes
        refine Go.on (fun _ k => XS.ifNo X2.here hx rfl (hb hby d8_67) rfl ((if0 _ _).trans (teq hc6).2) k) ?_
        show Go _ _ _ _ _ _ _ _ (mkF m 70 #[.val (.ref a0), .val (.ref a1), .val (.int i2), .val (.int (1 : Int32)), .val (.int i4), .val (.int i5), .val (.int i6), .val (.int i7), .val (.int (contribV i5 i2 (1 : Int32))), .val (.double (FP.ddiv (FP.i2d (contribV i5 i2 (1 : Int32))) (FP.i2d i4))), .second] [])
        refine Go.on (fun _ k => XS.aloadN X2.here hx rfl (hb hby d8_70) rfl rfl k) ?_
        show Go _ _ _ _ _ _ _ _ (mkF m 71 #[.val (.ref a0), .val (.ref a1), .val (.int i2), .val (.int (1 : Int32)), .val (.int i4), .val (.int i5), .val (.int i6), .val (.int i7), .val (.int (contribV i5 i2 (1 : Int32))), .val (.double (FP.ddiv (FP.i2d (contribV i5 i2 (1 : Int32))) (FP.i2d i4))), .second] [(.ref a1)])
        refine Go.on (fun _ k => XS.iloadN X2.here hx rfl (hb hby d8_71) rfl k) ?_
        show Go _ _ _ _ _ _ _ _ (mkF m 72 #[.val (.ref a0), .val (.ref a1), .val (.int i2), .val (.int (1 : Int32)), .val (.int i4), .val (.int i5), .val (.int i6), .val (.int i7), .val (.int (contribV i5 i2 (1 : Int32))), .val (.double (FP.ddiv (FP.i2d (contribV i5 i2 (1 : Int32))) (FP.i2d i4))), .second] [(.int i2), (.ref a1)])
        obtain ⟨cl7, Ar7, -, S7, -, H7, -⟩ := id V_a1
        have hin7 : ¬ (i2 < 0 ∨ cl7.slots.size ≤ (i2).toNatClampNeg) := inb_of S7 (own_inb1 hp)
        refine Go.on (X2.daload hx (j := i2) (v := (.double y0)) (by rw [e2]; exact Ar7.1) (State.isArrayOf_alike hZ.alike Ar7.2.1) Ar7.2.2 hin7 (H7.at hin7 (own_get1 hp _ _)) (g := (mkF m 72 #[.val (.ref a0), .val (.ref a1), .val (.int i2), .val (.int (1 : Int32)), .val (.int i4), .val (.int i5), .val (.int i6), .val (.int i7), .val (.int (contribV i5 i2 (1 : Int32))), .val (.double (FP.ddiv (FP.i2d (contribV i5 i2 (1 : Int32))) (FP.i2d i4))), .second] [(.int i2), (.ref a1)])) rfl rfl (hb hby d8_72)) ?_
        show Go _ _ _ _ _ _ _ _ (mkF m 73 #[.val (.ref a0), .val (.ref a1), .val (.int i2), .val (.int (1 : Int32)), .val (.int i4), .val (.int i5), .val (.int i6), .val (.int i7), .val (.int (contribV i5 i2 (1 : Int32))), .val (.double (FP.ddiv (FP.i2d (contribV i5 i2 (1 : Int32))) (FP.i2d i4))), .second] [(.double y0)])
        refine Go.on (fun _ k => XS.dload X2.here hx rfl (hb hby d8_73) rfl k) ?_
        show Go _ _ _ _ _ _ _ _ (mkF m 75 #[.val (.ref a0), .val (.ref a1), .val (.int i2), .val (.int (1 : Int32)), .val (.int i4), .val (.int i5), .val (.int i6), .val (.int i7), .val (.int (contribV i5 i2 (1 : Int32))), .val (.double (FP.ddiv (FP.i2d (contribV i5 i2 (1 : Int32))) (FP.i2d i4))), .second] [(.double (FP.ddiv (FP.i2d (contribV i5 i2 (1 : Int32))) (FP.i2d i4))), (.double y0)])
        refine Go.on (fun _ k => XS.dcmpS X2.here hx rfl (hb hby d8_75) rfl rfl k) ?_
        show Go _ _ _ _ _ _ _ _ (mkF m 76 #[.val (.ref a0), .val (.ref a1), .val (.int i2), .val (.int (1 : Int32)), .val (.int i4), .val (.int i5), .val (.int i6), .val (.int i7), .val (.int (contribV i5 i2 (1 : Int32))), .val (.double (FP.ddiv (FP.i2d (contribV i5 i2 (1 : Int32))) (FP.i2d i4))), .second] [(.int (cmpValue (FP.dcmp y0 (FP.ddiv (FP.i2d (contribV i5 i2 (1 : Int32))) (FP.i2d i4))) .l))])
        suffices hJ9 : ∀ (v8 : Int32), v8 = (if (cmpValue (FP.dcmp y0 (FP.ddiv (FP.i2d (contribV i5 i2 (1 : Int32))) (FP.i2d i4))) .l) = (0 : Int32) then (1 : Int32) else (0 : Int32)) → Go p e below s K1 K2 QQ T2 (mkF m 84 #[.val (.ref a0), .val (.ref a1), .val (.int i2), .val (.int (1 : Int32)), .val (.int i4), .val (.int i5), .val (.int i6), .val (.int i7), .val (.int (contribV i5 i2 (1 : Int32))), .val (.double (FP.ddiv (FP.i2d (contribV i5 i2 (1 : Int32))) (FP.i2d i4))), .second] [(.int v8)]) by
          by_cases hc10 : (cmpValue (FP.dcmp y0 (FP.ddiv (FP.i2d (contribV i5 i2 (1 : Int32))) (FP.i2d i4))) .l) = (0 : Int32)
          · -- pc 76 yes
            refine Go.on (fun _ k => XS.ifNo X2.here hx rfl (hb hby d8_76) rfl ((if0 _ _).trans (teq hc10).2) k) ?_
            show Go _ _ _ _ _ _ _ _ (mkF m 79 #[.val (.ref a0), .val (.ref a1), .val (.int i2), .val (.int (1 : Int32)), .val (.int i4), .val (.int i5), .val (.int i6), .val (.int i7), .val (.int (contribV i5 i2 (1 : Int32))), .val (.double (FP.ddiv (FP.i2d (contribV i5 i2 (1 : Int32))) (FP.i2d i4))), .second] [])
            refine Go.on (fun _ k => XS.iconst X2.here hx rfl (hb hby d8_79) k) ?_
            show Go _ _ _ _ _ _ _ _ (mkF m 80 #[.val (.ref a0), .val (.ref a1), .val (.int i2), .val (.int (1 : Int32)), .val (.int i4), .val (.int i5), .val (.int i6), .val (.int i7), .val (.int (contribV i5 i2 (1 : Int32))), .val (.double (FP.ddiv (FP.i2d (contribV i5 i2 (1 : Int32))) (FP.i2d i4))), .second] [(.int (1 : Int32))])
            refine Go.on (fun _ k => XS.goto X2.here hx rfl (pc0 := 80) (pc' := 84) rfl (hb hby d8_80) (by decide) (by decide) k) ?_
            show Go _ _ _ _ _ _ _ _ (mkF m 84 #[.val (.ref a0), .val (.ref a1), .val (.int i2), .val (.int (1 : Int32)), .val (.int i4), .val (.int i5), .val (.int i6), .val (.int i7), .val (.int (contribV i5 i2 (1 : Int32))), .val (.double (FP.ddiv (FP.i2d (contribV i5 i2 (1 : Int32))) (FP.i2d i4))), .second] [(.int (1 : Int32))])
            exact hJ9 _ (by rw [if_pos hc10])
          · -- pc 76 no
            refine Go.on (fun _ k => XS.ifYes X2.here hx rfl (pc0 := 76) (pc' := 83) rfl (hb hby d8_76) rfl ((if0 _ _).trans (feq hc10).2) (by decide) (by decide) k) ?_
            show Go _ _ _ _ _ _ _ _ (mkF m 83 #[.val (.ref a0), .val (.ref a1), .val (.int i2), .val (.int (1 : Int32)), .val (.int i4), .val (.int i5), .val (.int i6), .val (.int i7), .val (.int (contribV i5 i2 (1 : Int32))), .val (.double (FP.ddiv (FP.i2d (contribV i5 i2 (1 : Int32))) (FP.i2d i4))), .second] [])
            refine Go.on (fun _ k => XS.iconst X2.here hx rfl (hb hby d8_83) k) ?_
            show Go _ _ _ _ _ _ _ _ (mkF m 84 #[.val (.ref a0), .val (.ref a1), .val (.int i2), .val (.int (1 : Int32)), .val (.int i4), .val (.int i5), .val (.int i6), .val (.int i7), .val (.int (contribV i5 i2 (1 : Int32))), .val (.double (FP.ddiv (FP.i2d (contribV i5 i2 (1 : Int32))) (FP.i2d i4))), .second] [(.int (0 : Int32))])
            exact hJ9 _ (by rw [if_neg hc10])
        intro v8 hv8
        refine Go.retN X2 hx (t := .boolean) Bd.returns (by simp) (hb hby d8_84) ?_ (by rw [hK1]; decide) (by rw [hK2]; decide)
        rw [e2, ← hQQ]
        refine ⟨?_, N2, rfl⟩
        unfold compV compT; rw [if_pos hc3, if_pos hc4, if_pos hc6]; rw [hv8]; (repeat' split) <;> rfl
      · -- pc 67 no
        refine Go.on (fun _ k => XS.ifYes X2.here hx rfl (pc0 := 67) (pc' := 83) rfl (hb hby d8_67) rfl ((if0 _ _).trans (feq hc6).2) (by decide) (by decide) k) ?_
        show Go _ _ _ _ _ _ _ _ (mkF m 83 #[.val (.ref a0), .val (.ref a1), .val (.int i2), .val (.int (1 : Int32)), .val (.int i4), .val (.int i5), .val (.int i6), .val (.int i7), .val (.int (contribV i5 i2 (1 : Int32))), .val (.double (FP.ddiv (FP.i2d (contribV i5 i2 (1 : Int32))) (FP.i2d i4))), .second] [])
        refine Go.on (fun _ k => XS.iconst X2.here hx rfl (hb hby d8_83) k) ?_
        show Go _ _ _ _ _ _ _ _ (mkF m 84 #[.val (.ref a0), .val (.ref a1), .val (.int i2), .val (.int (1 : Int32)), .val (.int i4), .val (.int i5), .val (.int i6), .val (.int i7), .val (.int (contribV i5 i2 (1 : Int32))), .val (.double (FP.ddiv (FP.i2d (contribV i5 i2 (1 : Int32))) (FP.i2d i4))), .second] [(.int (0 : Int32))])
        refine Go.retN X2 hx (t := .boolean) Bd.returns (by simp) (hb hby d8_84) ?_ (by rw [hK1]; decide) (by rw [hK2]; decide)
        rw [e2, ← hQQ]
        refine ⟨?_, N2, rfl⟩
        unfold compV compT; rw [if_pos hc3, if_pos hc4, if_neg hc6]; rfl
    · -- pc 37 no
      refine Go.on (fun _ k => XS.icmpNo X2.here hx rfl (hb hby d8_37) rfl (flt hc4).1 k) ?_
      show Go _ _ _ _ _ _ _ _ (mkF m 40 #[.val (.ref a0), .val (.ref a1), .val (.int i2), .val (.int (1 : Int32)), .val (.int i4), .val (.int i5), .val (.int i6), .val (.int i7), .val (.int (contribV i5 i2 (1 : Int32))), .unset, .unset] [])
      refine Go.on (fun _ k => XS.iload X2.here hx rfl (hb hby d8_40) rfl k) ?_
      show Go _ _ _ _ _ _ _ _ (mkF m 42 #[.val (.ref a0), .val (.ref a1), .val (.int i2), .val (.int (1 : Int32)), .val (.int i4), .val (.int i5), .val (.int i6), .val (.int i7), .val (.int (contribV i5 i2 (1 : Int32))), .unset, .unset] [(.int (contribV i5 i2 (1 : Int32)))])
      refine Go.on (fun _ k => XS.iload X2.here hx rfl (hb hby d8_42) rfl k) ?_
      show Go _ _ _ _ _ _ _ _ (mkF m 44 #[.val (.ref a0), .val (.ref a1), .val (.int i2), .val (.int (1 : Int32)), .val (.int i4), .val (.int i5), .val (.int i6), .val (.int i7), .val (.int (contribV i5 i2 (1 : Int32))), .unset, .unset] [(.int i7), (.int (contribV i5 i2 (1 : Int32)))])
      refine Go.on (fun _ k => XS.iloadN X2.here hx rfl (hb hby d8_44) rfl k) ?_
      show Go _ _ _ _ _ _ _ _ (mkF m 45 #[.val (.ref a0), .val (.ref a1), .val (.int i2), .val (.int (1 : Int32)), .val (.int i4), .val (.int i5), .val (.int i6), .val (.int i7), .val (.int (contribV i5 i2 (1 : Int32))), .unset, .unset] [(.int i2), (.int i7), (.int (contribV i5 i2 (1 : Int32)))])
      refine Go.on (fun _ k => XS.iloadN X2.here hx rfl (hb hby d8_45) rfl k) ?_
      show Go _ _ _ _ _ _ _ _ (mkF m 46 #[.val (.ref a0), .val (.ref a1), .val (.int i2), .val (.int (1 : Int32)), .val (.int i4), .val (.int i5), .val (.int i6), .val (.int i7), .val (.int (contribV i5 i2 (1 : Int32))), .unset, .unset] [(.int (1 : Int32)), (.int i2), (.int i7), (.int (contribV i5 i2 (1 : Int32)))])
      obtain ⟨_, _, ⟨T11, L11, k11, n11⟩, -, X11, ⟨Lc11, hQ11, l11, y11, z11⟩, st11⟩ := Jvm.LawKit.callS X2 hx (y := (⟨"com/example/d2rank/d2rank/rerank/CentroidMeanPinLaw", "contrib", "(III)I"⟩ : MethodName)) hown (mvT hZ (hw _ (List.mem_of_getElem? (i := 38) rfl))) (mvT hZ (hw _ (List.mem_of_getElem? (i := 39) rfl))) (mvT hZ (hw _ (List.mem_of_getElem? (i := 14) rfl))) (mvT hZ (hw _ (List.mem_of_getElem? (i := 40) rfl))) (by decide) (backOf (W := 1) (rm9 l Z aw hw [] i7 i2 (1 : Int32)  h0 n0 ZZ (by decide)) hZ (hw _ (List.mem_of_getElem? (i := 40) rfl)) (hw _ (List.mem_of_getElem? (i := 14) rfl)) (by decide) (by decide)) (g := (mkF m 46 #[.val (.ref a0), .val (.ref a1), .val (.int i2), .val (.int (1 : Int32)), .val (.int i4), .val (.int i5), .val (.int i6), .val (.int i7), .val (.int (contribV i5 i2 (1 : Int32))), .unset, .unset] [(.int (1 : Int32)), (.int i2), (.int i7), (.int (contribV i5 i2 (1 : Int32)))])) rfl (by rw [hml]; rfl) (argsL := [(.int i7), (.int i2), (.int (1 : Int32))]) (rest := [(.int (contribV i5 i2 (1 : Int32)))]) (lenOf pd_2 rfl) rfl (by show 2 * 0 + _ ≤ _; exact Nat.le_of_eq rfl) (hb hby d8_46) (fun _ _ => ⟨rfl, e2, (by decide : 0 + 0 ≤ _), (by decide : 0 + 0 ≤ _)⟩)
      dsimp only [Pt.U, Pt.locs, Pt.cells, Pt.slots] at X11 l11 y11 z11 st11 hQ11
      subst l11 y11 z11
      obtain ⟨rfl, N11q, e11⟩ := hQ11
      have N11 := Fr.app N2 N11q
      refine Go.on st11 ?_
      show Go _ _ _ _ _ _ _ _ (mkF m 49 #[.val (.ref a0), .val (.ref a1), .val (.int i2), .val (.int (1 : Int32)), .val (.int i4), .val (.int i5), .val (.int i6), .val (.int i7), .val (.int (contribV i5 i2 (1 : Int32))), .unset, .unset] [(.int (contribV i7 i2 (1 : Int32))), (.int (contribV i5 i2 (1 : Int32)))])
      refine Go.on (fun _ k => XS.iadd X11.here hx rfl (hb hby d8_49) rfl k) ?_
      show Go _ _ _ _ _ _ _ _ (mkF m 50 #[.val (.ref a0), .val (.ref a1), .val (.int i2), .val (.int (1 : Int32)), .val (.int i4), .val (.int i5), .val (.int i6), .val (.int i7), .val (.int (contribV i5 i2 (1 : Int32))), .unset, .unset] [(.int ((contribV i5 i2 (1 : Int32)) + (contribV i7 i2 (1 : Int32))))])
      refine Go.on (fun _ k => XS.istore X11.here hx rfl (hb hby d8_50) rfl (l' := #[.val (.ref a0), .val (.ref a1), .val (.int i2), .val (.int (1 : Int32)), .val (.int i4), .val (.int i5), .val (.int i6), .val (.int i7), .val (.int ((contribV i5 i2 (1 : Int32)) + (contribV i7 i2 (1 : Int32)))), .unset, .unset]) rfl k) ?_
      show Go _ _ _ _ _ _ _ _ (mkF m 52 #[.val (.ref a0), .val (.ref a1), .val (.int i2), .val (.int (1 : Int32)), .val (.int i4), .val (.int i5), .val (.int i6), .val (.int i7), .val (.int ((contribV i5 i2 (1 : Int32)) + (contribV i7 i2 (1 : Int32)))), .unset, .unset] [])
      refine Go.on (fun _ k => XS.iload X11.here hx rfl (hb hby d8_52) rfl k) ?_
      show Go _ _ _ _ _ _ _ _ (mkF m 54 #[.val (.ref a0), .val (.ref a1), .val (.int i2), .val (.int (1 : Int32)), .val (.int i4), .val (.int i5), .val (.int i6), .val (.int i7), .val (.int ((contribV i5 i2 (1 : Int32)) + (contribV i7 i2 (1 : Int32)))), .unset, .unset] [(.int ((contribV i5 i2 (1 : Int32)) + (contribV i7 i2 (1 : Int32))))])
      refine Go.on (fun _ k => XS.i2dS X11.here hx rfl (hb hby d8_54) rfl rfl k) ?_
      show Go _ _ _ _ _ _ _ _ (mkF m 55 #[.val (.ref a0), .val (.ref a1), .val (.int i2), .val (.int (1 : Int32)), .val (.int i4), .val (.int i5), .val (.int i6), .val (.int i7), .val (.int ((contribV i5 i2 (1 : Int32)) + (contribV i7 i2 (1 : Int32)))), .unset, .unset] [(.double (FP.i2d ((contribV i5 i2 (1 : Int32)) + (contribV i7 i2 (1 : Int32)))))])
      refine Go.on (fun _ k => XS.iload X11.here hx rfl (hb hby d8_55) rfl k) ?_
      show Go _ _ _ _ _ _ _ _ (mkF m 57 #[.val (.ref a0), .val (.ref a1), .val (.int i2), .val (.int (1 : Int32)), .val (.int i4), .val (.int i5), .val (.int i6), .val (.int i7), .val (.int ((contribV i5 i2 (1 : Int32)) + (contribV i7 i2 (1 : Int32)))), .unset, .unset] [(.int i4), (.double (FP.i2d ((contribV i5 i2 (1 : Int32)) + (contribV i7 i2 (1 : Int32)))))])
      refine Go.on (fun _ k => XS.i2dS X11.here hx rfl (hb hby d8_57) rfl rfl k) ?_
      show Go _ _ _ _ _ _ _ _ (mkF m 58 #[.val (.ref a0), .val (.ref a1), .val (.int i2), .val (.int (1 : Int32)), .val (.int i4), .val (.int i5), .val (.int i6), .val (.int i7), .val (.int ((contribV i5 i2 (1 : Int32)) + (contribV i7 i2 (1 : Int32)))), .unset, .unset] [(.double (FP.i2d i4)), (.double (FP.i2d ((contribV i5 i2 (1 : Int32)) + (contribV i7 i2 (1 : Int32)))))])
      refine Go.on (fun _ k => XS.ddivS X11.here hx rfl (hb hby d8_58) rfl (own_nnd' (Jvm.FP.Core.i2d_fin _) _ hn4) rfl k) ?_
      show Go _ _ _ _ _ _ _ _ (mkF m 59 #[.val (.ref a0), .val (.ref a1), .val (.int i2), .val (.int (1 : Int32)), .val (.int i4), .val (.int i5), .val (.int i6), .val (.int i7), .val (.int ((contribV i5 i2 (1 : Int32)) + (contribV i7 i2 (1 : Int32)))), .unset, .unset] [(.double (FP.ddiv (FP.i2d ((contribV i5 i2 (1 : Int32)) + (contribV i7 i2 (1 : Int32)))) (FP.i2d i4)))])
      refine Go.on (fun _ k => XS.dstore X11.here hx rfl (hb hby d8_59) rfl (l' := #[.val (.ref a0), .val (.ref a1), .val (.int i2), .val (.int (1 : Int32)), .val (.int i4), .val (.int i5), .val (.int i6), .val (.int i7), .val (.int ((contribV i5 i2 (1 : Int32)) + (contribV i7 i2 (1 : Int32)))), .val (.double (FP.ddiv (FP.i2d ((contribV i5 i2 (1 : Int32)) + (contribV i7 i2 (1 : Int32)))) (FP.i2d i4))), .second]) rfl k) ?_
      show Go _ _ _ _ _ _ _ _ (mkF m 61 #[.val (.ref a0), .val (.ref a1), .val (.int i2), .val (.int (1 : Int32)), .val (.int i4), .val (.int i5), .val (.int i6), .val (.int i7), .val (.int ((contribV i5 i2 (1 : Int32)) + (contribV i7 i2 (1 : Int32)))), .val (.double (FP.ddiv (FP.i2d ((contribV i5 i2 (1 : Int32)) + (contribV i7 i2 (1 : Int32)))) (FP.i2d i4))), .second] [])
      refine Go.on (fun _ k => XS.aloadN X11.here hx rfl (hb hby d8_61) rfl rfl k) ?_
      show Go _ _ _ _ _ _ _ _ (mkF m 62 #[.val (.ref a0), .val (.ref a1), .val (.int i2), .val (.int (1 : Int32)), .val (.int i4), .val (.int i5), .val (.int i6), .val (.int i7), .val (.int ((contribV i5 i2 (1 : Int32)) + (contribV i7 i2 (1 : Int32)))), .val (.double (FP.ddiv (FP.i2d ((contribV i5 i2 (1 : Int32)) + (contribV i7 i2 (1 : Int32)))) (FP.i2d i4))), .second] [(.ref a0)])
      refine Go.on (fun _ k => XS.iloadN X11.here hx rfl (hb hby d8_62) rfl k) ?_
      show Go _ _ _ _ _ _ _ _ (mkF m 63 #[.val (.ref a0), .val (.ref a1), .val (.int i2), .val (.int (1 : Int32)), .val (.int i4), .val (.int i5), .val (.int i6), .val (.int i7), .val (.int ((contribV i5 i2 (1 : Int32)) + (contribV i7 i2 (1 : Int32)))), .val (.double (FP.ddiv (FP.i2d ((contribV i5 i2 (1 : Int32)) + (contribV i7 i2 (1 : Int32)))) (FP.i2d i4))), .second] [(.int i2), (.ref a0)])
      obtain ⟨cl12, Ar12, -, S12, -, H12, -⟩ := id V_a0
      have hin12 : ¬ (i2 < 0 ∨ cl12.slots.size ≤ (i2).toNatClampNeg) := inb_of S12 (own_inb1 hp)
      refine Go.on (X11.daload hx (j := i2) (v := (.double x0)) (by rw [e11]; exact Ar12.1) (State.isArrayOf_alike hZ.alike Ar12.2.1) Ar12.2.2 hin12 (H12.at hin12 (own_get1 hp _ _)) (g := (mkF m 63 #[.val (.ref a0), .val (.ref a1), .val (.int i2), .val (.int (1 : Int32)), .val (.int i4), .val (.int i5), .val (.int i6), .val (.int i7), .val (.int ((contribV i5 i2 (1 : Int32)) + (contribV i7 i2 (1 : Int32)))), .val (.double (FP.ddiv (FP.i2d ((contribV i5 i2 (1 : Int32)) + (contribV i7 i2 (1 : Int32)))) (FP.i2d i4))), .second] [(.int i2), (.ref a0)])) rfl rfl (hb hby d8_63)) ?_
      show Go _ _ _ _ _ _ _ _ (mkF m 64 #[.val (.ref a0), .val (.ref a1), .val (.int i2), .val (.int (1 : Int32)), .val (.int i4), .val (.int i5), .val (.int i6), .val (.int i7), .val (.int ((contribV i5 i2 (1 : Int32)) + (contribV i7 i2 (1 : Int32)))), .val (.double (FP.ddiv (FP.i2d ((contribV i5 i2 (1 : Int32)) + (contribV i7 i2 (1 : Int32)))) (FP.i2d i4))), .second] [(.double x0)])
      refine Go.on (fun _ k => XS.dload X11.here hx rfl (hb hby d8_64) rfl k) ?_
      show Go _ _ _ _ _ _ _ _ (mkF m 66 #[.val (.ref a0), .val (.ref a1), .val (.int i2), .val (.int (1 : Int32)), .val (.int i4), .val (.int i5), .val (.int i6), .val (.int i7), .val (.int ((contribV i5 i2 (1 : Int32)) + (contribV i7 i2 (1 : Int32)))), .val (.double (FP.ddiv (FP.i2d ((contribV i5 i2 (1 : Int32)) + (contribV i7 i2 (1 : Int32)))) (FP.i2d i4))), .second] [(.double (FP.ddiv (FP.i2d ((contribV i5 i2 (1 : Int32)) + (contribV i7 i2 (1 : Int32)))) (FP.i2d i4))), (.double x0)])
      refine Go.on (fun _ k => XS.dcmpS X11.here hx rfl (hb hby d8_66) rfl rfl k) ?_
      show Go _ _ _ _ _ _ _ _ (mkF m 67 #[.val (.ref a0), .val (.ref a1), .val (.int i2), .val (.int (1 : Int32)), .val (.int i4), .val (.int i5), .val (.int i6), .val (.int i7), .val (.int ((contribV i5 i2 (1 : Int32)) + (contribV i7 i2 (1 : Int32)))), .val (.double (FP.ddiv (FP.i2d ((contribV i5 i2 (1 : Int32)) + (contribV i7 i2 (1 : Int32)))) (FP.i2d i4))), .second] [(.int (cmpValue (FP.dcmp x0 (FP.ddiv (FP.i2d ((contribV i5 i2 (1 : Int32)) + (contribV i7 i2 (1 : Int32)))) (FP.i2d i4))) .l))])
      by_cases hc13 : (cmpValue (FP.dcmp x0 (FP.ddiv (FP.i2d ((contribV i5 i2 (1 : Int32)) + (contribV i7 i2 (1 : Int32)))) (FP.i2d i4))) .l) = (0 : Int32)
      · -- pc 67 yes
        refine Go.on (fun _ k => XS.ifNo X11.here hx rfl (hb hby d8_67) rfl ((if0 _ _).trans (teq hc13).2) k) ?_
        show Go _ _ _ _ _ _ _ _ (mkF m 70 #[.val (.ref a0), .val (.ref a1), .val (.int i2), .val (.int (1 : Int32)), .val (.int i4), .val (.int i5), .val (.int i6), .val (.int i7), .val (.int ((contribV i5 i2 (1 : Int32)) + (contribV i7 i2 (1 : Int32)))), .val (.double (FP.ddiv (FP.i2d ((contribV i5 i2 (1 : Int32)) + (contribV i7 i2 (1 : Int32)))) (FP.i2d i4))), .second] [])
        refine Go.on (fun _ k => XS.aloadN X11.here hx rfl (hb hby d8_70) rfl rfl k) ?_
        show Go _ _ _ _ _ _ _ _ (mkF m 71 #[.val (.ref a0), .val (.ref a1), .val (.int i2), .val (.int (1 : Int32)), .val (.int i4), .val (.int i5), .val (.int i6), .val (.int i7), .val (.int ((contribV i5 i2 (1 : Int32)) + (contribV i7 i2 (1 : Int32)))), .val (.double (FP.ddiv (FP.i2d ((contribV i5 i2 (1 : Int32)) + (contribV i7 i2 (1 : Int32)))) (FP.i2d i4))), .second] [(.ref a1)])
        refine Go.on (fun _ k => XS.iloadN X11.here hx rfl (hb hby d8_71) rfl k) ?_
        show Go _ _ _ _ _ _ _ _ (mkF m 72 #[.val (.ref a0), .val (.ref a1), .val (.int i2), .val (.int (1 : Int32)), .val (.int i4), .val (.int i5), .val (.int i6), .val (.int i7), .val (.int ((contribV i5 i2 (1 : Int32)) + (contribV i7 i2 (1 : Int32)))), .val (.double (FP.ddiv (FP.i2d ((contribV i5 i2 (1 : Int32)) + (contribV i7 i2 (1 : Int32)))) (FP.i2d i4))), .second] [(.int i2), (.ref a1)])
        obtain ⟨cl14, Ar14, -, S14, -, H14, -⟩ := id V_a1
        have hin14 : ¬ (i2 < 0 ∨ cl14.slots.size ≤ (i2).toNatClampNeg) := inb_of S14 (own_inb1 hp)
        refine Go.on (X11.daload hx (j := i2) (v := (.double y0)) (by rw [e11]; exact Ar14.1) (State.isArrayOf_alike hZ.alike Ar14.2.1) Ar14.2.2 hin14 (H14.at hin14 (own_get1 hp _ _)) (g := (mkF m 72 #[.val (.ref a0), .val (.ref a1), .val (.int i2), .val (.int (1 : Int32)), .val (.int i4), .val (.int i5), .val (.int i6), .val (.int i7), .val (.int ((contribV i5 i2 (1 : Int32)) + (contribV i7 i2 (1 : Int32)))), .val (.double (FP.ddiv (FP.i2d ((contribV i5 i2 (1 : Int32)) + (contribV i7 i2 (1 : Int32)))) (FP.i2d i4))), .second] [(.int i2), (.ref a1)])) rfl rfl (hb hby d8_72)) ?_
        show Go _ _ _ _ _ _ _ _ (mkF m 73 #[.val (.ref a0), .val (.ref a1), .val (.int i2), .val (.int (1 : Int32)), .val (.int i4), .val (.int i5), .val (.int i6), .val (.int i7), .val (.int ((contribV i5 i2 (1 : Int32)) + (contribV i7 i2 (1 : Int32)))), .val (.double (FP.ddiv (FP.i2d ((contribV i5 i2 (1 : Int32)) + (contribV i7 i2 (1 : Int32)))) (FP.i2d i4))), .second] [(.double y0)])
        refine Go.on (fun _ k => XS.dload X11.here hx rfl (hb hby d8_73) rfl k) ?_
        show Go _ _ _ _ _ _ _ _ (mkF m 75 #[.val (.ref a0), .val (.ref a1), .val (.int i2), .val (.int (1 : Int32)), .val (.int i4), .val (.int i5), .val (.int i6), .val (.int i7), .val (.int ((contribV i5 i2 (1 : Int32)) + (contribV i7 i2 (1 : Int32)))), .val (.double (FP.ddiv (FP.i2d ((contribV i5 i2 (1 : Int32)) + (contribV i7 i2 (1 : Int32)))) (FP.i2d i4))), .second] [(.double (FP.ddiv (FP.i2d ((contribV i5 i2 (1 : Int32)) + (contribV i7 i2 (1 : Int32)))) (FP.i2d i4))), (.double y0)])
        refine Go.on (fun _ k => XS.dcmpS X11.here hx rfl (hb hby d8_75) rfl rfl k) ?_
        show Go _ _ _ _ _ _ _ _ (mkF m 76 #[.val (.ref a0), .val (.ref a1), .val (.int i2), .val (.int (1 : Int32)), .val (.int i4), .val (.int i5), .val (.int i6), .val (.int i7), .val (.int ((contribV i5 i2 (1 : Int32)) + (contribV i7 i2 (1 : Int32)))), .val (.double (FP.ddiv (FP.i2d ((contribV i5 i2 (1 : Int32)) + (contribV i7 i2 (1 : Int32)))) (FP.i2d i4))), .second] [(.int (cmpValue (FP.dcmp y0 (FP.ddiv (FP.i2d ((contribV i5 i2 (1 : Int32)) + (contribV i7 i2 (1 : Int32)))) (FP.i2d i4))) .l))])
        suffices hJ16 : ∀ (v15 : Int32), v15 = (if (cmpValue (FP.dcmp y0 (FP.ddiv (FP.i2d ((contribV i5 i2 (1 : Int32)) + (contribV i7 i2 (1 : Int32)))) (FP.i2d i4))) .l) = (0 : Int32) then (1 : Int32) else (0 : Int32)) → Go p e below s K1 K2 QQ T11 (mkF m 84 #[.val (.ref a0), .val (.ref a1), .val (.int i2), .val (.int (1 : Int32)), .val (.int i4), .val (.int i5), .val (.int i6), .val (.int i7), .val (.int ((contribV i5 i2 (1 : Int32)) + (contribV i7 i2 (1 : Int32)))), .val (.double (FP.ddiv (FP.i2d ((contribV i5 i2 (1 : Int32)) + (contribV i7 i2 (1 : Int32)))) (FP.i2d i4))), .second] [(.int v15)]) by
          by_cases hc17 : (cmpValue (FP.dcmp y0 (FP.ddiv (FP.i2d ((contribV i5 i2 (1 : Int32)) + (contribV i7 i2 (1 : Int32)))) (FP.i2d i4))) .l) = (0 : Int32)
          · -- pc 76 yes
            refine Go.on (fun _ k => XS.ifNo X11.here hx rfl (hb hby d8_76) rfl ((if0 _ _).trans (teq hc17).2) k) ?_
            show Go _ _ _ _ _ _ _ _ (mkF m 79 #[.val (.ref a0), .val (.ref a1), .val (.int i2), .val (.int (1 : Int32)), .val (.int i4), .val (.int i5), .val (.int i6), .val (.int i7), .val (.int ((contribV i5 i2 (1 : Int32)) + (contribV i7 i2 (1 : Int32)))), .val (.double (FP.ddiv (FP.i2d ((contribV i5 i2 (1 : Int32)) + (contribV i7 i2 (1 : Int32)))) (FP.i2d i4))), .second] [])
            refine Go.on (fun _ k => XS.iconst X11.here hx rfl (hb hby d8_79) k) ?_
            show Go _ _ _ _ _ _ _ _ (mkF m 80 #[.val (.ref a0), .val (.ref a1), .val (.int i2), .val (.int (1 : Int32)), .val (.int i4), .val (.int i5), .val (.int i6), .val (.int i7), .val (.int ((contribV i5 i2 (1 : Int32)) + (contribV i7 i2 (1 : Int32)))), .val (.double (FP.ddiv (FP.i2d ((contribV i5 i2 (1 : Int32)) + (contribV i7 i2 (1 : Int32)))) (FP.i2d i4))), .second] [(.int (1 : Int32))])
            refine Go.on (fun _ k => XS.goto X11.here hx rfl (pc0 := 80) (pc' := 84) rfl (hb hby d8_80) (by decide) (by decide) k) ?_
            show Go _ _ _ _ _ _ _ _ (mkF m 84 #[.val (.ref a0), .val (.ref a1), .val (.int i2), .val (.int (1 : Int32)), .val (.int i4), .val (.int i5), .val (.int i6), .val (.int i7), .val (.int ((contribV i5 i2 (1 : Int32)) + (contribV i7 i2 (1 : Int32)))), .val (.double (FP.ddiv (FP.i2d ((contribV i5 i2 (1 : Int32)) + (contribV i7 i2 (1 : Int32)))) (FP.i2d i4))), .second] [(.int (1 : Int32))])
            exact hJ16 _ (by rw [if_pos hc17])
          · -- pc 76 no
            refine Go.on (fun _ k => XS.ifYes X11.here hx rfl (pc0 := 76) (pc' := 83) rfl (hb hby d8_76) rfl ((if0 _ _).trans (feq hc17).2) (by decide) (by decide) k) ?_
            show Go _ _ _ _ _ _ _ _ (mkF m 83 #[.val (.ref a0), .val (.ref a1), .val (.int i2), .val (.int (1 : Int32)), .val (.int i4), .val (.int i5), .val (.int i6), .val (.int i7), .val (.int ((contribV i5 i2 (1 : Int32)) + (contribV i7 i2 (1 : Int32)))), .val (.double (FP.ddiv (FP.i2d ((contribV i5 i2 (1 : Int32)) + (contribV i7 i2 (1 : Int32)))) (FP.i2d i4))), .second] [])
            refine Go.on (fun _ k => XS.iconst X11.here hx rfl (hb hby d8_83) k) ?_
            show Go _ _ _ _ _ _ _ _ (mkF m 84 #[.val (.ref a0), .val (.ref a1), .val (.int i2), .val (.int (1 : Int32)), .val (.int i4), .val (.int i5), .val (.int i6), .val (.int i7), .val (.int ((contribV i5 i2 (1 : Int32)) + (contribV i7 i2 (1 : Int32)))), .val (.double (FP.ddiv (FP.i2d ((contribV i5 i2 (1 : Int32)) + (contribV i7 i2 (1 : Int32)))) (FP.i2d i4))), .second] [(.int (0 : Int32))])
            exact hJ16 _ (by rw [if_neg hc17])
        intro v15 hv15
        refine Go.retN X11 hx (t := .boolean) Bd.returns (by simp) (hb hby d8_84) ?_ (by rw [hK1]; decide) (by rw [hK2]; decide)
        rw [e11, ← hQQ]
        refine ⟨?_, N11, rfl⟩
        unfold compV compT; rw [if_pos hc3, if_neg hc4, if_pos hc13]; rw [hv15]; (repeat' split) <;> rfl
      · -- pc 67 no
        refine Go.on (fun _ k => XS.ifYes X11.here hx rfl (pc0 := 67) (pc' := 83) rfl (hb hby d8_67) rfl ((if0 _ _).trans (feq hc13).2) (by decide) (by decide) k) ?_
        show Go _ _ _ _ _ _ _ _ (mkF m 83 #[.val (.ref a0), .val (.ref a1), .val (.int i2), .val (.int (1 : Int32)), .val (.int i4), .val (.int i5), .val (.int i6), .val (.int i7), .val (.int ((contribV i5 i2 (1 : Int32)) + (contribV i7 i2 (1 : Int32)))), .val (.double (FP.ddiv (FP.i2d ((contribV i5 i2 (1 : Int32)) + (contribV i7 i2 (1 : Int32)))) (FP.i2d i4))), .second] [])
        refine Go.on (fun _ k => XS.iconst X11.here hx rfl (hb hby d8_83) k) ?_
        show Go _ _ _ _ _ _ _ _ (mkF m 84 #[.val (.ref a0), .val (.ref a1), .val (.int i2), .val (.int (1 : Int32)), .val (.int i4), .val (.int i5), .val (.int i6), .val (.int i7), .val (.int ((contribV i5 i2 (1 : Int32)) + (contribV i7 i2 (1 : Int32)))), .val (.double (FP.ddiv (FP.i2d ((contribV i5 i2 (1 : Int32)) + (contribV i7 i2 (1 : Int32)))) (FP.i2d i4))), .second] [(.int (0 : Int32))])
        refine Go.retN X11 hx (t := .boolean) Bd.returns (by simp) (hb hby d8_84) ?_ (by rw [hK1]; decide) (by rw [hK2]; decide)
        rw [e11, ← hQQ]
        refine ⟨?_, N11, rfl⟩
        unfold compV compT; rw [if_pos hc3, if_neg hc4, if_neg hc13]; rfl
  · -- pc 19 no
    refine Go.on (fun _ k => XS.icmpNo X2.here hx rfl (hb hby d8_19) rfl (flt hc3).1 k) ?_
    show Go _ _ _ _ _ _ _ _ (mkF m 22 #[.val (.ref a0), .val (.ref a1), .val (.int i2), .val (.int (1 : Int32)), .val (.int i4), .val (.int i5), .val (.int i6), .val (.int i7), .val (.int (contribV i5 i2 (1 : Int32))), .unset, .unset] [])
    refine Go.on (fun _ k => XS.iload X2.here hx rfl (hb hby d8_22) rfl k) ?_
    show Go _ _ _ _ _ _ _ _ (mkF m 24 #[.val (.ref a0), .val (.ref a1), .val (.int i2), .val (.int (1 : Int32)), .val (.int i4), .val (.int i5), .val (.int i6), .val (.int i7), .val (.int (contribV i5 i2 (1 : Int32))), .unset, .unset] [(.int (contribV i5 i2 (1 : Int32)))])
    refine Go.on (fun _ k => XS.iload X2.here hx rfl (hb hby d8_24) rfl k) ?_
    show Go _ _ _ _ _ _ _ _ (mkF m 26 #[.val (.ref a0), .val (.ref a1), .val (.int i2), .val (.int (1 : Int32)), .val (.int i4), .val (.int i5), .val (.int i6), .val (.int i7), .val (.int (contribV i5 i2 (1 : Int32))), .unset, .unset] [(.int i6), (.int (contribV i5 i2 (1 : Int32)))])
    refine Go.on (fun _ k => XS.iloadN X2.here hx rfl (hb hby d8_26) rfl k) ?_
    show Go _ _ _ _ _ _ _ _ (mkF m 27 #[.val (.ref a0), .val (.ref a1), .val (.int i2), .val (.int (1 : Int32)), .val (.int i4), .val (.int i5), .val (.int i6), .val (.int i7), .val (.int (contribV i5 i2 (1 : Int32))), .unset, .unset] [(.int i2), (.int i6), (.int (contribV i5 i2 (1 : Int32)))])
    refine Go.on (fun _ k => XS.iloadN X2.here hx rfl (hb hby d8_27) rfl k) ?_
    show Go _ _ _ _ _ _ _ _ (mkF m 28 #[.val (.ref a0), .val (.ref a1), .val (.int i2), .val (.int (1 : Int32)), .val (.int i4), .val (.int i5), .val (.int i6), .val (.int i7), .val (.int (contribV i5 i2 (1 : Int32))), .unset, .unset] [(.int (1 : Int32)), (.int i2), (.int i6), (.int (contribV i5 i2 (1 : Int32)))])
    obtain ⟨_, _, ⟨T18, L18, k18, n18⟩, -, X18, ⟨Lc18, hQ18, l18, y18, z18⟩, st18⟩ := Jvm.LawKit.callS X2 hx (y := (⟨"com/example/d2rank/d2rank/rerank/CentroidMeanPinLaw", "contrib", "(III)I"⟩ : MethodName)) hown (mvT hZ (hw _ (List.mem_of_getElem? (i := 38) rfl))) (mvT hZ (hw _ (List.mem_of_getElem? (i := 39) rfl))) (mvT hZ (hw _ (List.mem_of_getElem? (i := 14) rfl))) (mvT hZ (hw _ (List.mem_of_getElem? (i := 40) rfl))) (by decide) (backOf (W := 1) (rm9 l Z aw hw [] i6 i2 (1 : Int32)  h0 n0 ZZ (by decide)) hZ (hw _ (List.mem_of_getElem? (i := 40) rfl)) (hw _ (List.mem_of_getElem? (i := 14) rfl)) (by decide) (by decide)) (g := (mkF m 28 #[.val (.ref a0), .val (.ref a1), .val (.int i2), .val (.int (1 : Int32)), .val (.int i4), .val (.int i5), .val (.int i6), .val (.int i7), .val (.int (contribV i5 i2 (1 : Int32))), .unset, .unset] [(.int (1 : Int32)), (.int i2), (.int i6), (.int (contribV i5 i2 (1 : Int32)))])) rfl (by rw [hml]; rfl) (argsL := [(.int i6), (.int i2), (.int (1 : Int32))]) (rest := [(.int (contribV i5 i2 (1 : Int32)))]) (lenOf pd_2 rfl) rfl (by show 2 * 0 + _ ≤ _; exact Nat.le_of_eq rfl) (hb hby d8_28) (fun _ _ => ⟨rfl, e2, (by decide : 0 + 0 ≤ _), (by decide : 0 + 0 ≤ _)⟩)
    dsimp only [Pt.U, Pt.locs, Pt.cells, Pt.slots] at X18 l18 y18 z18 st18 hQ18
    subst l18 y18 z18
    obtain ⟨rfl, N18q, e18⟩ := hQ18
    have N18 := Fr.app N2 N18q
    refine Go.on st18 ?_
    show Go _ _ _ _ _ _ _ _ (mkF m 31 #[.val (.ref a0), .val (.ref a1), .val (.int i2), .val (.int (1 : Int32)), .val (.int i4), .val (.int i5), .val (.int i6), .val (.int i7), .val (.int (contribV i5 i2 (1 : Int32))), .unset, .unset] [(.int (contribV i6 i2 (1 : Int32))), (.int (contribV i5 i2 (1 : Int32)))])
    refine Go.on (fun _ k => XS.iadd X18.here hx rfl (hb hby d8_31) rfl k) ?_
    show Go _ _ _ _ _ _ _ _ (mkF m 32 #[.val (.ref a0), .val (.ref a1), .val (.int i2), .val (.int (1 : Int32)), .val (.int i4), .val (.int i5), .val (.int i6), .val (.int i7), .val (.int (contribV i5 i2 (1 : Int32))), .unset, .unset] [(.int ((contribV i5 i2 (1 : Int32)) + (contribV i6 i2 (1 : Int32))))])
    refine Go.on (fun _ k => XS.istore X18.here hx rfl (hb hby d8_32) rfl (l' := #[.val (.ref a0), .val (.ref a1), .val (.int i2), .val (.int (1 : Int32)), .val (.int i4), .val (.int i5), .val (.int i6), .val (.int i7), .val (.int ((contribV i5 i2 (1 : Int32)) + (contribV i6 i2 (1 : Int32)))), .unset, .unset]) rfl k) ?_
    show Go _ _ _ _ _ _ _ _ (mkF m 34 #[.val (.ref a0), .val (.ref a1), .val (.int i2), .val (.int (1 : Int32)), .val (.int i4), .val (.int i5), .val (.int i6), .val (.int i7), .val (.int ((contribV i5 i2 (1 : Int32)) + (contribV i6 i2 (1 : Int32)))), .unset, .unset] [])
    refine Go.on (fun _ k => XS.iload X18.here hx rfl (hb hby d8_34) rfl k) ?_
    show Go _ _ _ _ _ _ _ _ (mkF m 36 #[.val (.ref a0), .val (.ref a1), .val (.int i2), .val (.int (1 : Int32)), .val (.int i4), .val (.int i5), .val (.int i6), .val (.int i7), .val (.int ((contribV i5 i2 (1 : Int32)) + (contribV i6 i2 (1 : Int32)))), .unset, .unset] [(.int i4)])
    refine Go.on (fun _ k => XS.iconst X18.here hx rfl (hb hby d8_36) k) ?_
    show Go _ _ _ _ _ _ _ _ (mkF m 37 #[.val (.ref a0), .val (.ref a1), .val (.int i2), .val (.int (1 : Int32)), .val (.int i4), .val (.int i5), .val (.int i6), .val (.int i7), .val (.int ((contribV i5 i2 (1 : Int32)) + (contribV i6 i2 (1 : Int32)))), .unset, .unset] [(.int (3 : Int32)), (.int i4)])
    by_cases hc19 : i4 < (3 : Int32)
    · -- pc 37 yes
      refine Go.on (fun _ k => XS.icmpYes X18.here hx rfl (pc0 := 37) (pc' := 52) rfl (hb hby d8_37) rfl (tlt hc19).1 (by decide) (by decide) k) ?_
      show Go _ _ _ _ _ _ _ _ (mkF m 52 #[.val (.ref a0), .val (.ref a1), .val (.int i2), .val (.int (1 : Int32)), .val (.int i4), .val (.int i5), .val (.int i6), .val (.int i7), .val (.int ((contribV i5 i2 (1 : Int32)) + (contribV i6 i2 (1 : Int32)))), .unset, .unset] [])
      refine Go.on (fun _ k => XS.iload X18.here hx rfl (hb hby d8_52) rfl k) ?_
      show Go _ _ _ _ _ _ _ _ (mkF m 54 #[.val (.ref a0), .val (.ref a1), .val (.int i2), .val (.int (1 : Int32)), .val (.int i4), .val (.int i5), .val (.int i6), .val (.int i7), .val (.int ((contribV i5 i2 (1 : Int32)) + (contribV i6 i2 (1 : Int32)))), .unset, .unset] [(.int ((contribV i5 i2 (1 : Int32)) + (contribV i6 i2 (1 : Int32))))])
      refine Go.on (fun _ k => XS.i2dS X18.here hx rfl (hb hby d8_54) rfl rfl k) ?_
      show Go _ _ _ _ _ _ _ _ (mkF m 55 #[.val (.ref a0), .val (.ref a1), .val (.int i2), .val (.int (1 : Int32)), .val (.int i4), .val (.int i5), .val (.int i6), .val (.int i7), .val (.int ((contribV i5 i2 (1 : Int32)) + (contribV i6 i2 (1 : Int32)))), .unset, .unset] [(.double (FP.i2d ((contribV i5 i2 (1 : Int32)) + (contribV i6 i2 (1 : Int32)))))])
      refine Go.on (fun _ k => XS.iload X18.here hx rfl (hb hby d8_55) rfl k) ?_
      show Go _ _ _ _ _ _ _ _ (mkF m 57 #[.val (.ref a0), .val (.ref a1), .val (.int i2), .val (.int (1 : Int32)), .val (.int i4), .val (.int i5), .val (.int i6), .val (.int i7), .val (.int ((contribV i5 i2 (1 : Int32)) + (contribV i6 i2 (1 : Int32)))), .unset, .unset] [(.int i4), (.double (FP.i2d ((contribV i5 i2 (1 : Int32)) + (contribV i6 i2 (1 : Int32)))))])
      refine Go.on (fun _ k => XS.i2dS X18.here hx rfl (hb hby d8_57) rfl rfl k) ?_
      show Go _ _ _ _ _ _ _ _ (mkF m 58 #[.val (.ref a0), .val (.ref a1), .val (.int i2), .val (.int (1 : Int32)), .val (.int i4), .val (.int i5), .val (.int i6), .val (.int i7), .val (.int ((contribV i5 i2 (1 : Int32)) + (contribV i6 i2 (1 : Int32)))), .unset, .unset] [(.double (FP.i2d i4)), (.double (FP.i2d ((contribV i5 i2 (1 : Int32)) + (contribV i6 i2 (1 : Int32)))))])
      refine Go.on (fun _ k => XS.ddivS X18.here hx rfl (hb hby d8_58) rfl (own_nnd' (Jvm.FP.Core.i2d_fin _) _ hn4) rfl k) ?_
      show Go _ _ _ _ _ _ _ _ (mkF m 59 #[.val (.ref a0), .val (.ref a1), .val (.int i2), .val (.int (1 : Int32)), .val (.int i4), .val (.int i5), .val (.int i6), .val (.int i7), .val (.int ((contribV i5 i2 (1 : Int32)) + (contribV i6 i2 (1 : Int32)))), .unset, .unset] [(.double (FP.ddiv (FP.i2d ((contribV i5 i2 (1 : Int32)) + (contribV i6 i2 (1 : Int32)))) (FP.i2d i4)))])
      refine Go.on (fun _ k => XS.dstore X18.here hx rfl (hb hby d8_59) rfl (l' := #[.val (.ref a0), .val (.ref a1), .val (.int i2), .val (.int (1 : Int32)), .val (.int i4), .val (.int i5), .val (.int i6), .val (.int i7), .val (.int ((contribV i5 i2 (1 : Int32)) + (contribV i6 i2 (1 : Int32)))), .val (.double (FP.ddiv (FP.i2d ((contribV i5 i2 (1 : Int32)) + (contribV i6 i2 (1 : Int32)))) (FP.i2d i4))), .second]) rfl k) ?_
      show Go _ _ _ _ _ _ _ _ (mkF m 61 #[.val (.ref a0), .val (.ref a1), .val (.int i2), .val (.int (1 : Int32)), .val (.int i4), .val (.int i5), .val (.int i6), .val (.int i7), .val (.int ((contribV i5 i2 (1 : Int32)) + (contribV i6 i2 (1 : Int32)))), .val (.double (FP.ddiv (FP.i2d ((contribV i5 i2 (1 : Int32)) + (contribV i6 i2 (1 : Int32)))) (FP.i2d i4))), .second] [])
      refine Go.on (fun _ k => XS.aloadN X18.here hx rfl (hb hby d8_61) rfl rfl k) ?_
      show Go _ _ _ _ _ _ _ _ (mkF m 62 #[.val (.ref a0), .val (.ref a1), .val (.int i2), .val (.int (1 : Int32)), .val (.int i4), .val (.int i5), .val (.int i6), .val (.int i7), .val (.int ((contribV i5 i2 (1 : Int32)) + (contribV i6 i2 (1 : Int32)))), .val (.double (FP.ddiv (FP.i2d ((contribV i5 i2 (1 : Int32)) + (contribV i6 i2 (1 : Int32)))) (FP.i2d i4))), .second] [(.ref a0)])
      refine Go.on (fun _ k => XS.iloadN X18.here hx rfl (hb hby d8_62) rfl k) ?_
      show Go _ _ _ _ _ _ _ _ (mkF m 63 #[.val (.ref a0), .val (.ref a1), .val (.int i2), .val (.int (1 : Int32)), .val (.int i4), .val (.int i5), .val (.int i6), .val (.int i7), .val (.int ((contribV i5 i2 (1 : Int32)) + (contribV i6 i2 (1 : Int32)))), .val (.double (FP.ddiv (FP.i2d ((contribV i5 i2 (1 : Int32)) + (contribV i6 i2 (1 : Int32)))) (FP.i2d i4))), .second] [(.int i2), (.ref a0)])
      obtain ⟨cl20, Ar20, -, S20, -, H20, -⟩ := id V_a0
      have hin20 : ¬ (i2 < 0 ∨ cl20.slots.size ≤ (i2).toNatClampNeg) := inb_of S20 (own_inb1 hp)
      refine Go.on (X18.daload hx (j := i2) (v := (.double x0)) (by rw [e18]; exact Ar20.1) (State.isArrayOf_alike hZ.alike Ar20.2.1) Ar20.2.2 hin20 (H20.at hin20 (own_get1 hp _ _)) (g := (mkF m 63 #[.val (.ref a0), .val (.ref a1), .val (.int i2), .val (.int (1 : Int32)), .val (.int i4), .val (.int i5), .val (.int i6), .val (.int i7), .val (.int ((contribV i5 i2 (1 : Int32)) + (contribV i6 i2 (1 : Int32)))), .val (.double (FP.ddiv (FP.i2d ((contribV i5 i2 (1 : Int32)) + (contribV i6 i2 (1 : Int32)))) (FP.i2d i4))), .second] [(.int i2), (.ref a0)])) rfl rfl (hb hby d8_63)) ?_
      show Go _ _ _ _ _ _ _ _ (mkF m 64 #[.val (.ref a0), .val (.ref a1), .val (.int i2), .val (.int (1 : Int32)), .val (.int i4), .val (.int i5), .val (.int i6), .val (.int i7), .val (.int ((contribV i5 i2 (1 : Int32)) + (contribV i6 i2 (1 : Int32)))), .val (.double (FP.ddiv (FP.i2d ((contribV i5 i2 (1 : Int32)) + (contribV i6 i2 (1 : Int32)))) (FP.i2d i4))), .second] [(.double x0)])
      refine Go.on (fun _ k => XS.dload X18.here hx rfl (hb hby d8_64) rfl k) ?_
      show Go _ _ _ _ _ _ _ _ (mkF m 66 #[.val (.ref a0), .val (.ref a1), .val (.int i2), .val (.int (1 : Int32)), .val (.int i4), .val (.int i5), .val (.int i6), .val (.int i7), .val (.int ((contribV i5 i2 (1 : Int32)) + (contribV i6 i2 (1 : Int32)))), .val (.double (FP.ddiv (FP.i2d ((contribV i5 i2 (1 : Int32)) + (contribV i6 i2 (1 : Int32)))) (FP.i2d i4))), .second] [(.double (FP.ddiv (FP.i2d ((contribV i5 i2 (1 : Int32)) + (contribV i6 i2 (1 : Int32)))) (FP.i2d i4))), (.double x0)])
      refine Go.on (fun _ k => XS.dcmpS X18.here hx rfl (hb hby d8_66) rfl rfl k) ?_
      show Go _ _ _ _ _ _ _ _ (mkF m 67 #[.val (.ref a0), .val (.ref a1), .val (.int i2), .val (.int (1 : Int32)), .val (.int i4), .val (.int i5), .val (.int i6), .val (.int i7), .val (.int ((contribV i5 i2 (1 : Int32)) + (contribV i6 i2 (1 : Int32)))), .val (.double (FP.ddiv (FP.i2d ((contribV i5 i2 (1 : Int32)) + (contribV i6 i2 (1 : Int32)))) (FP.i2d i4))), .second] [(.int (cmpValue (FP.dcmp x0 (FP.ddiv (FP.i2d ((contribV i5 i2 (1 : Int32)) + (contribV i6 i2 (1 : Int32)))) (FP.i2d i4))) .l))])
      by_cases hc21 : (cmpValue (FP.dcmp x0 (FP.ddiv (FP.i2d ((contribV i5 i2 (1 : Int32)) + (contribV i6 i2 (1 : Int32)))) (FP.i2d i4))) .l) = (0 : Int32)
      · -- pc 67 yes
        refine Go.on (fun _ k => XS.ifNo X18.here hx rfl (hb hby d8_67) rfl ((if0 _ _).trans (teq hc21).2) k) ?_
        show Go _ _ _ _ _ _ _ _ (mkF m 70 #[.val (.ref a0), .val (.ref a1), .val (.int i2), .val (.int (1 : Int32)), .val (.int i4), .val (.int i5), .val (.int i6), .val (.int i7), .val (.int ((contribV i5 i2 (1 : Int32)) + (contribV i6 i2 (1 : Int32)))), .val (.double (FP.ddiv (FP.i2d ((contribV i5 i2 (1 : Int32)) + (contribV i6 i2 (1 : Int32)))) (FP.i2d i4))), .second] [])
        refine Go.on (fun _ k => XS.aloadN X18.here hx rfl (hb hby d8_70) rfl rfl k) ?_
        show Go _ _ _ _ _ _ _ _ (mkF m 71 #[.val (.ref a0), .val (.ref a1), .val (.int i2), .val (.int (1 : Int32)), .val (.int i4), .val (.int i5), .val (.int i6), .val (.int i7), .val (.int ((contribV i5 i2 (1 : Int32)) + (contribV i6 i2 (1 : Int32)))), .val (.double (FP.ddiv (FP.i2d ((contribV i5 i2 (1 : Int32)) + (contribV i6 i2 (1 : Int32)))) (FP.i2d i4))), .second] [(.ref a1)])
        refine Go.on (fun _ k => XS.iloadN X18.here hx rfl (hb hby d8_71) rfl k) ?_
        show Go _ _ _ _ _ _ _ _ (mkF m 72 #[.val (.ref a0), .val (.ref a1), .val (.int i2), .val (.int (1 : Int32)), .val (.int i4), .val (.int i5), .val (.int i6), .val (.int i7), .val (.int ((contribV i5 i2 (1 : Int32)) + (contribV i6 i2 (1 : Int32)))), .val (.double (FP.ddiv (FP.i2d ((contribV i5 i2 (1 : Int32)) + (contribV i6 i2 (1 : Int32)))) (FP.i2d i4))), .second] [(.int i2), (.ref a1)])
        obtain ⟨cl22, Ar22, -, S22, -, H22, -⟩ := id V_a1
        have hin22 : ¬ (i2 < 0 ∨ cl22.slots.size ≤ (i2).toNatClampNeg) := inb_of S22 (own_inb1 hp)
        refine Go.on (X18.daload hx (j := i2) (v := (.double y0)) (by rw [e18]; exact Ar22.1) (State.isArrayOf_alike hZ.alike Ar22.2.1) Ar22.2.2 hin22 (H22.at hin22 (own_get1 hp _ _)) (g := (mkF m 72 #[.val (.ref a0), .val (.ref a1), .val (.int i2), .val (.int (1 : Int32)), .val (.int i4), .val (.int i5), .val (.int i6), .val (.int i7), .val (.int ((contribV i5 i2 (1 : Int32)) + (contribV i6 i2 (1 : Int32)))), .val (.double (FP.ddiv (FP.i2d ((contribV i5 i2 (1 : Int32)) + (contribV i6 i2 (1 : Int32)))) (FP.i2d i4))), .second] [(.int i2), (.ref a1)])) rfl rfl (hb hby d8_72)) ?_
        show Go _ _ _ _ _ _ _ _ (mkF m 73 #[.val (.ref a0), .val (.ref a1), .val (.int i2), .val (.int (1 : Int32)), .val (.int i4), .val (.int i5), .val (.int i6), .val (.int i7), .val (.int ((contribV i5 i2 (1 : Int32)) + (contribV i6 i2 (1 : Int32)))), .val (.double (FP.ddiv (FP.i2d ((contribV i5 i2 (1 : Int32)) + (contribV i6 i2 (1 : Int32)))) (FP.i2d i4))), .second] [(.double y0)])
        refine Go.on (fun _ k => XS.dload X18.here hx rfl (hb hby d8_73) rfl k) ?_
        show Go _ _ _ _ _ _ _ _ (mkF m 75 #[.val (.ref a0), .val (.ref a1), .val (.int i2), .val (.int (1 : Int32)), .val (.int i4), .val (.int i5), .val (.int i6), .val (.int i7), .val (.int ((contribV i5 i2 (1 : Int32)) + (contribV i6 i2 (1 : Int32)))), .val (.double (FP.ddiv (FP.i2d ((contribV i5 i2 (1 : Int32)) + (contribV i6 i2 (1 : Int32)))) (FP.i2d i4))), .second] [(.double (FP.ddiv (FP.i2d ((contribV i5 i2 (1 : Int32)) + (contribV i6 i2 (1 : Int32)))) (FP.i2d i4))), (.double y0)])
        refine Go.on (fun _ k => XS.dcmpS X18.here hx rfl (hb hby d8_75) rfl rfl k) ?_
        show Go _ _ _ _ _ _ _ _ (mkF m 76 #[.val (.ref a0), .val (.ref a1), .val (.int i2), .val (.int (1 : Int32)), .val (.int i4), .val (.int i5), .val (.int i6), .val (.int i7), .val (.int ((contribV i5 i2 (1 : Int32)) + (contribV i6 i2 (1 : Int32)))), .val (.double (FP.ddiv (FP.i2d ((contribV i5 i2 (1 : Int32)) + (contribV i6 i2 (1 : Int32)))) (FP.i2d i4))), .second] [(.int (cmpValue (FP.dcmp y0 (FP.ddiv (FP.i2d ((contribV i5 i2 (1 : Int32)) + (contribV i6 i2 (1 : Int32)))) (FP.i2d i4))) .l))])
        suffices hJ24 : ∀ (v23 : Int32), v23 = (if (cmpValue (FP.dcmp y0 (FP.ddiv (FP.i2d ((contribV i5 i2 (1 : Int32)) + (contribV i6 i2 (1 : Int32)))) (FP.i2d i4))) .l) = (0 : Int32) then (1 : Int32) else (0 : Int32)) → Go p e below s K1 K2 QQ T18 (mkF m 84 #[.val (.ref a0), .val (.ref a1), .val (.int i2), .val (.int (1 : Int32)), .val (.int i4), .val (.int i5), .val (.int i6), .val (.int i7), .val (.int ((contribV i5 i2 (1 : Int32)) + (contribV i6 i2 (1 : Int32)))), .val (.double (FP.ddiv (FP.i2d ((contribV i5 i2 (1 : Int32)) + (contribV i6 i2 (1 : Int32)))) (FP.i2d i4))), .second] [(.int v23)]) by
          by_cases hc25 : (cmpValue (FP.dcmp y0 (FP.ddiv (FP.i2d ((contribV i5 i2 (1 : Int32)) + (contribV i6 i2 (1 : Int32)))) (FP.i2d i4))) .l) = (0 : Int32)
          · -- pc 76 yes
            refine Go.on (fun _ k => XS.ifNo X18.here hx rfl (hb hby d8_76) rfl ((if0 _ _).trans (teq hc25).2) k) ?_
            show Go _ _ _ _ _ _ _ _ (mkF m 79 #[.val (.ref a0), .val (.ref a1), .val (.int i2), .val (.int (1 : Int32)), .val (.int i4), .val (.int i5), .val (.int i6), .val (.int i7), .val (.int ((contribV i5 i2 (1 : Int32)) + (contribV i6 i2 (1 : Int32)))), .val (.double (FP.ddiv (FP.i2d ((contribV i5 i2 (1 : Int32)) + (contribV i6 i2 (1 : Int32)))) (FP.i2d i4))), .second] [])
            refine Go.on (fun _ k => XS.iconst X18.here hx rfl (hb hby d8_79) k) ?_
            show Go _ _ _ _ _ _ _ _ (mkF m 80 #[.val (.ref a0), .val (.ref a1), .val (.int i2), .val (.int (1 : Int32)), .val (.int i4), .val (.int i5), .val (.int i6), .val (.int i7), .val (.int ((contribV i5 i2 (1 : Int32)) + (contribV i6 i2 (1 : Int32)))), .val (.double (FP.ddiv (FP.i2d ((contribV i5 i2 (1 : Int32)) + (contribV i6 i2 (1 : Int32)))) (FP.i2d i4))), .second] [(.int (1 : Int32))])
            refine Go.on (fun _ k => XS.goto X18.here hx rfl (pc0 := 80) (pc' := 84) rfl (hb hby d8_80) (by decide) (by decide) k) ?_
            show Go _ _ _ _ _ _ _ _ (mkF m 84 #[.val (.ref a0), .val (.ref a1), .val (.int i2), .val (.int (1 : Int32)), .val (.int i4), .val (.int i5), .val (.int i6), .val (.int i7), .val (.int ((contribV i5 i2 (1 : Int32)) + (contribV i6 i2 (1 : Int32)))), .val (.double (FP.ddiv (FP.i2d ((contribV i5 i2 (1 : Int32)) + (contribV i6 i2 (1 : Int32)))) (FP.i2d i4))), .second] [(.int (1 : Int32))])
            exact hJ24 _ (by rw [if_pos hc25])
          · -- pc 76 no
            refine Go.on (fun _ k => XS.ifYes X18.here hx rfl (pc0 := 76) (pc' := 83) rfl (hb hby d8_76) rfl ((if0 _ _).trans (feq hc25).2) (by decide) (by decide) k) ?_
            show Go _ _ _ _ _ _ _ _ (mkF m 83 #[.val (.ref a0), .val (.ref a1), .val (.int i2), .val (.int (1 : Int32)), .val (.int i4), .val (.int i5), .val (.int i6), .val (.int i7), .val (.int ((contribV i5 i2 (1 : Int32)) + (contribV i6 i2 (1 : Int32)))), .val (.double (FP.ddiv (FP.i2d ((contribV i5 i2 (1 : Int32)) + (contribV i6 i2 (1 : Int32)))) (FP.i2d i4))), .second] [])
            refine Go.on (fun _ k => XS.iconst X18.here hx rfl (hb hby d8_83) k) ?_
            show Go _ _ _ _ _ _ _ _ (mkF m 84 #[.val (.ref a0), .val (.ref a1), .val (.int i2), .val (.int (1 : Int32)), .val (.int i4), .val (.int i5), .val (.int i6), .val (.int i7), .val (.int ((contribV i5 i2 (1 : Int32)) + (contribV i6 i2 (1 : Int32)))), .val (.double (FP.ddiv (FP.i2d ((contribV i5 i2 (1 : Int32)) + (contribV i6 i2 (1 : Int32)))) (FP.i2d i4))), .second] [(.int (0 : Int32))])
            exact hJ24 _ (by rw [if_neg hc25])
        intro v23 hv23
        refine Go.retN X18 hx (t := .boolean) Bd.returns (by simp) (hb hby d8_84) ?_ (by rw [hK1]; decide) (by rw [hK2]; decide)
        rw [e18, ← hQQ]
        refine ⟨?_, N18, rfl⟩
        unfold compV compT; rw [if_neg hc3, if_pos hc19, if_pos hc21]; rw [hv23]; (repeat' split) <;> rfl
      · -- pc 67 no
        refine Go.on (fun _ k => XS.ifYes X18.here hx rfl (pc0 := 67) (pc' := 83) rfl (hb hby d8_67) rfl ((if0 _ _).trans (feq hc21).2) (by decide) (by decide) k) ?_
        show Go _ _ _ _ _ _ _ _ (mkF m 83 #[.val (.ref a0), .val (.ref a1), .val (.int i2), .val (.int (1 : Int32)), .val (.int i4), .val (.int i5), .val (.int i6), .val (.int i7), .val (.int ((contribV i5 i2 (1 : Int32)) + (contribV i6 i2 (1 : Int32)))), .val (.double (FP.ddiv (FP.i2d ((contribV i5 i2 (1 : Int32)) + (contribV i6 i2 (1 : Int32)))) (FP.i2d i4))), .second] [])
        refine Go.on (fun _ k => XS.iconst X18.here hx rfl (hb hby d8_83) k) ?_
        show Go _ _ _ _ _ _ _ _ (mkF m 84 #[.val (.ref a0), .val (.ref a1), .val (.int i2), .val (.int (1 : Int32)), .val (.int i4), .val (.int i5), .val (.int i6), .val (.int i7), .val (.int ((contribV i5 i2 (1 : Int32)) + (contribV i6 i2 (1 : Int32)))), .val (.double (FP.ddiv (FP.i2d ((contribV i5 i2 (1 : Int32)) + (contribV i6 i2 (1 : Int32)))) (FP.i2d i4))), .second] [(.int (0 : Int32))])
        refine Go.retN X18 hx (t := .boolean) Bd.returns (by simp) (hb hby d8_84) ?_ (by rw [hK1]; decide) (by rw [hK2]; decide)
        rw [e18, ← hQQ]
        refine ⟨?_, N18, rfl⟩
        unfold compV compT; rw [if_neg hc3, if_pos hc19, if_neg hc21]; rfl
    · -- pc 37 no
      refine Go.on (fun _ k => XS.icmpNo X18.here hx rfl (hb hby d8_37) rfl (flt hc19).1 k) ?_
      show Go _ _ _ _ _ _ _ _ (mkF m 40 #[.val (.ref a0), .val (.ref a1), .val (.int i2), .val (.int (1 : Int32)), .val (.int i4), .val (.int i5), .val (.int i6), .val (.int i7), .val (.int ((contribV i5 i2 (1 : Int32)) + (contribV i6 i2 (1 : Int32)))), .unset, .unset] [])
      refine Go.on (fun _ k => XS.iload X18.here hx rfl (hb hby d8_40) rfl k) ?_
      show Go _ _ _ _ _ _ _ _ (mkF m 42 #[.val (.ref a0), .val (.ref a1), .val (.int i2), .val (.int (1 : Int32)), .val (.int i4), .val (.int i5), .val (.int i6), .val (.int i7), .val (.int ((contribV i5 i2 (1 : Int32)) + (contribV i6 i2 (1 : Int32)))), .unset, .unset] [(.int ((contribV i5 i2 (1 : Int32)) + (contribV i6 i2 (1 : Int32))))])
      refine Go.on (fun _ k => XS.iload X18.here hx rfl (hb hby d8_42) rfl k) ?_
      show Go _ _ _ _ _ _ _ _ (mkF m 44 #[.val (.ref a0), .val (.ref a1), .val (.int i2), .val (.int (1 : Int32)), .val (.int i4), .val (.int i5), .val (.int i6), .val (.int i7), .val (.int ((contribV i5 i2 (1 : Int32)) + (contribV i6 i2 (1 : Int32)))), .unset, .unset] [(.int i7), (.int ((contribV i5 i2 (1 : Int32)) + (contribV i6 i2 (1 : Int32))))])
      refine Go.on (fun _ k => XS.iloadN X18.here hx rfl (hb hby d8_44) rfl k) ?_
      show Go _ _ _ _ _ _ _ _ (mkF m 45 #[.val (.ref a0), .val (.ref a1), .val (.int i2), .val (.int (1 : Int32)), .val (.int i4), .val (.int i5), .val (.int i6), .val (.int i7), .val (.int ((contribV i5 i2 (1 : Int32)) + (contribV i6 i2 (1 : Int32)))), .unset, .unset] [(.int i2), (.int i7), (.int ((contribV i5 i2 (1 : Int32)) + (contribV i6 i2 (1 : Int32))))])
      refine Go.on (fun _ k => XS.iloadN X18.here hx rfl (hb hby d8_45) rfl k) ?_
      show Go _ _ _ _ _ _ _ _ (mkF m 46 #[.val (.ref a0), .val (.ref a1), .val (.int i2), .val (.int (1 : Int32)), .val (.int i4), .val (.int i5), .val (.int i6), .val (.int i7), .val (.int ((contribV i5 i2 (1 : Int32)) + (contribV i6 i2 (1 : Int32)))), .unset, .unset] [(.int (1 : Int32)), (.int i2), (.int i7), (.int ((contribV i5 i2 (1 : Int32)) + (contribV i6 i2 (1 : Int32))))])
      obtain ⟨_, _, ⟨T26, L26, k26, n26⟩, -, X26, ⟨Lc26, hQ26, l26, y26, z26⟩, st26⟩ := Jvm.LawKit.callS X18 hx (y := (⟨"com/example/d2rank/d2rank/rerank/CentroidMeanPinLaw", "contrib", "(III)I"⟩ : MethodName)) hown (mvT hZ (hw _ (List.mem_of_getElem? (i := 38) rfl))) (mvT hZ (hw _ (List.mem_of_getElem? (i := 39) rfl))) (mvT hZ (hw _ (List.mem_of_getElem? (i := 14) rfl))) (mvT hZ (hw _ (List.mem_of_getElem? (i := 40) rfl))) (by decide) (backOf (W := 1) (rm9 l Z aw hw [] i7 i2 (1 : Int32)  h0 n0 ZZ (by decide)) hZ (hw _ (List.mem_of_getElem? (i := 40) rfl)) (hw _ (List.mem_of_getElem? (i := 14) rfl)) (by decide) (by decide)) (g := (mkF m 46 #[.val (.ref a0), .val (.ref a1), .val (.int i2), .val (.int (1 : Int32)), .val (.int i4), .val (.int i5), .val (.int i6), .val (.int i7), .val (.int ((contribV i5 i2 (1 : Int32)) + (contribV i6 i2 (1 : Int32)))), .unset, .unset] [(.int (1 : Int32)), (.int i2), (.int i7), (.int ((contribV i5 i2 (1 : Int32)) + (contribV i6 i2 (1 : Int32))))])) rfl (by rw [hml]; rfl) (argsL := [(.int i7), (.int i2), (.int (1 : Int32))]) (rest := [(.int ((contribV i5 i2 (1 : Int32)) + (contribV i6 i2 (1 : Int32))))]) (lenOf pd_2 rfl) rfl (by show 2 * 0 + _ ≤ _; exact Nat.le_of_eq rfl) (hb hby d8_46) (fun _ _ => ⟨rfl, e18, (by decide : 0 + 0 ≤ _), (by decide : 0 + 0 ≤ _)⟩)
      dsimp only [Pt.U, Pt.locs, Pt.cells, Pt.slots] at X26 l26 y26 z26 st26 hQ26
      subst l26 y26 z26
      obtain ⟨rfl, N26q, e26⟩ := hQ26
      have N26 := Fr.app N18 N26q
      refine Go.on st26 ?_
      show Go _ _ _ _ _ _ _ _ (mkF m 49 #[.val (.ref a0), .val (.ref a1), .val (.int i2), .val (.int (1 : Int32)), .val (.int i4), .val (.int i5), .val (.int i6), .val (.int i7), .val (.int ((contribV i5 i2 (1 : Int32)) + (contribV i6 i2 (1 : Int32)))), .unset, .unset] [(.int (contribV i7 i2 (1 : Int32))), (.int ((contribV i5 i2 (1 : Int32)) + (contribV i6 i2 (1 : Int32))))])
      refine Go.on (fun _ k => XS.iadd X26.here hx rfl (hb hby d8_49) rfl k) ?_
      show Go _ _ _ _ _ _ _ _ (mkF m 50 #[.val (.ref a0), .val (.ref a1), .val (.int i2), .val (.int (1 : Int32)), .val (.int i4), .val (.int i5), .val (.int i6), .val (.int i7), .val (.int ((contribV i5 i2 (1 : Int32)) + (contribV i6 i2 (1 : Int32)))), .unset, .unset] [(.int (((contribV i5 i2 (1 : Int32)) + (contribV i6 i2 (1 : Int32))) + (contribV i7 i2 (1 : Int32))))])
      refine Go.on (fun _ k => XS.istore X26.here hx rfl (hb hby d8_50) rfl (l' := #[.val (.ref a0), .val (.ref a1), .val (.int i2), .val (.int (1 : Int32)), .val (.int i4), .val (.int i5), .val (.int i6), .val (.int i7), .val (.int (((contribV i5 i2 (1 : Int32)) + (contribV i6 i2 (1 : Int32))) + (contribV i7 i2 (1 : Int32)))), .unset, .unset]) rfl k) ?_
      show Go _ _ _ _ _ _ _ _ (mkF m 52 #[.val (.ref a0), .val (.ref a1), .val (.int i2), .val (.int (1 : Int32)), .val (.int i4), .val (.int i5), .val (.int i6), .val (.int i7), .val (.int (((contribV i5 i2 (1 : Int32)) + (contribV i6 i2 (1 : Int32))) + (contribV i7 i2 (1 : Int32)))), .unset, .unset] [])
      refine Go.on (fun _ k => XS.iload X26.here hx rfl (hb hby d8_52) rfl k) ?_
      show Go _ _ _ _ _ _ _ _ (mkF m 54 #[.val (.ref a0), .val (.ref a1), .val (.int i2), .val (.int (1 : Int32)), .val (.int i4), .val (.int i5), .val (.int i6), .val (.int i7), .val (.int (((contribV i5 i2 (1 : Int32)) + (contribV i6 i2 (1 : Int32))) + (contribV i7 i2 (1 : Int32)))), .unset, .unset] [(.int (((contribV i5 i2 (1 : Int32)) + (contribV i6 i2 (1 : Int32))) + (contribV i7 i2 (1 : Int32))))])
      refine Go.on (fun _ k => XS.i2dS X26.here hx rfl (hb hby d8_54) rfl rfl k) ?_
      show Go _ _ _ _ _ _ _ _ (mkF m 55 #[.val (.ref a0), .val (.ref a1), .val (.int i2), .val (.int (1 : Int32)), .val (.int i4), .val (.int i5), .val (.int i6), .val (.int i7), .val (.int (((contribV i5 i2 (1 : Int32)) + (contribV i6 i2 (1 : Int32))) + (contribV i7 i2 (1 : Int32)))), .unset, .unset] [(.double (FP.i2d (((contribV i5 i2 (1 : Int32)) + (contribV i6 i2 (1 : Int32))) + (contribV i7 i2 (1 : Int32)))))])
      refine Go.on (fun _ k => XS.iload X26.here hx rfl (hb hby d8_55) rfl k) ?_
      show Go _ _ _ _ _ _ _ _ (mkF m 57 #[.val (.ref a0), .val (.ref a1), .val (.int i2), .val (.int (1 : Int32)), .val (.int i4), .val (.int i5), .val (.int i6), .val (.int i7), .val (.int (((contribV i5 i2 (1 : Int32)) + (contribV i6 i2 (1 : Int32))) + (contribV i7 i2 (1 : Int32)))), .unset, .unset] [(.int i4), (.double (FP.i2d (((contribV i5 i2 (1 : Int32)) + (contribV i6 i2 (1 : Int32))) + (contribV i7 i2 (1 : Int32)))))])
      refine Go.on (fun _ k => XS.i2dS X26.here hx rfl (hb hby d8_57) rfl rfl k) ?_
      show Go _ _ _ _ _ _ _ _ (mkF m 58 #[.val (.ref a0), .val (.ref a1), .val (.int i2), .val (.int (1 : Int32)), .val (.int i4), .val (.int i5), .val (.int i6), .val (.int i7), .val (.int (((contribV i5 i2 (1 : Int32)) + (contribV i6 i2 (1 : Int32))) + (contribV i7 i2 (1 : Int32)))), .unset, .unset] [(.double (FP.i2d i4)), (.double (FP.i2d (((contribV i5 i2 (1 : Int32)) + (contribV i6 i2 (1 : Int32))) + (contribV i7 i2 (1 : Int32)))))])
      refine Go.on (fun _ k => XS.ddivS X26.here hx rfl (hb hby d8_58) rfl (own_nnd' (Jvm.FP.Core.i2d_fin _) _ hn4) rfl k) ?_
      show Go _ _ _ _ _ _ _ _ (mkF m 59 #[.val (.ref a0), .val (.ref a1), .val (.int i2), .val (.int (1 : Int32)), .val (.int i4), .val (.int i5), .val (.int i6), .val (.int i7), .val (.int (((contribV i5 i2 (1 : Int32)) + (contribV i6 i2 (1 : Int32))) + (contribV i7 i2 (1 : Int32)))), .unset, .unset] [(.double (FP.ddiv (FP.i2d (((contribV i5 i2 (1 : Int32)) + (contribV i6 i2 (1 : Int32))) + (contribV i7 i2 (1 : Int32)))) (FP.i2d i4)))])
      refine Go.on (fun _ k => XS.dstore X26.here hx rfl (hb hby d8_59) rfl (l' := #[.val (.ref a0), .val (.ref a1), .val (.int i2), .val (.int (1 : Int32)), .val (.int i4), .val (.int i5), .val (.int i6), .val (.int i7), .val (.int (((contribV i5 i2 (1 : Int32)) + (contribV i6 i2 (1 : Int32))) + (contribV i7 i2 (1 : Int32)))), .val (.double (FP.ddiv (FP.i2d (((contribV i5 i2 (1 : Int32)) + (contribV i6 i2 (1 : Int32))) + (contribV i7 i2 (1 : Int32)))) (FP.i2d i4))), .second]) rfl k) ?_
      show Go _ _ _ _ _ _ _ _ (mkF m 61 #[.val (.ref a0), .val (.ref a1), .val (.int i2), .val (.int (1 : Int32)), .val (.int i4), .val (.int i5), .val (.int i6), .val (.int i7), .val (.int (((contribV i5 i2 (1 : Int32)) + (contribV i6 i2 (1 : Int32))) + (contribV i7 i2 (1 : Int32)))), .val (.double (FP.ddiv (FP.i2d (((contribV i5 i2 (1 : Int32)) + (contribV i6 i2 (1 : Int32))) + (contribV i7 i2 (1 : Int32)))) (FP.i2d i4))), .second] [])
      refine Go.on (fun _ k => XS.aloadN X26.here hx rfl (hb hby d8_61) rfl rfl k) ?_
      show Go _ _ _ _ _ _ _ _ (mkF m 62 #[.val (.ref a0), .val (.ref a1), .val (.int i2), .val (.int (1 : Int32)), .val (.int i4), .val (.int i5), .val (.int i6), .val (.int i7), .val (.int (((contribV i5 i2 (1 : Int32)) + (contribV i6 i2 (1 : Int32))) + (contribV i7 i2 (1 : Int32)))), .val (.double (FP.ddiv (FP.i2d (((contribV i5 i2 (1 : Int32)) + (contribV i6 i2 (1 : Int32))) + (contribV i7 i2 (1 : Int32)))) (FP.i2d i4))), .second] [(.ref a0)])
      refine Go.on (fun _ k => XS.iloadN X26.here hx rfl (hb hby d8_62) rfl k) ?_
      show Go _ _ _ _ _ _ _ _ (mkF m 63 #[.val (.ref a0), .val (.ref a1), .val (.int i2), .val (.int (1 : Int32)), .val (.int i4), .val (.int i5), .val (.int i6), .val (.int i7), .val (.int (((contribV i5 i2 (1 : Int32)) + (contribV i6 i2 (1 : Int32))) + (contribV i7 i2 (1 : Int32)))), .val (.double (FP.ddiv (FP.i2d (((contribV i5 i2 (1 : Int32)) + (contribV i6 i2 (1 : Int32))) + (contribV i7 i2 (1 : Int32)))) (FP.i2d i4))), .second] [(.int i2), (.ref a0)])
      obtain ⟨cl27, Ar27, -, S27, -, H27, -⟩ := id V_a0
      have hin27 : ¬ (i2 < 0 ∨ cl27.slots.size ≤ (i2).toNatClampNeg) := inb_of S27 (own_inb1 hp)
      refine Go.on (X26.daload hx (j := i2) (v := (.double x0)) (by rw [e26]; exact Ar27.1) (State.isArrayOf_alike hZ.alike Ar27.2.1) Ar27.2.2 hin27 (H27.at hin27 (own_get1 hp _ _)) (g := (mkF m 63 #[.val (.ref a0), .val (.ref a1), .val (.int i2), .val (.int (1 : Int32)), .val (.int i4), .val (.int i5), .val (.int i6), .val (.int i7), .val (.int (((contribV i5 i2 (1 : Int32)) + (contribV i6 i2 (1 : Int32))) + (contribV i7 i2 (1 : Int32)))), .val (.double (FP.ddiv (FP.i2d (((contribV i5 i2 (1 : Int32)) + (contribV i6 i2 (1 : Int32))) + (contribV i7 i2 (1 : Int32)))) (FP.i2d i4))), .second] [(.int i2), (.ref a0)])) rfl rfl (hb hby d8_63)) ?_
      show Go _ _ _ _ _ _ _ _ (mkF m 64 #[.val (.ref a0), .val (.ref a1), .val (.int i2), .val (.int (1 : Int32)), .val (.int i4), .val (.int i5), .val (.int i6), .val (.int i7), .val (.int (((contribV i5 i2 (1 : Int32)) + (contribV i6 i2 (1 : Int32))) + (contribV i7 i2 (1 : Int32)))), .val (.double (FP.ddiv (FP.i2d (((contribV i5 i2 (1 : Int32)) + (contribV i6 i2 (1 : Int32))) + (contribV i7 i2 (1 : Int32)))) (FP.i2d i4))), .second] [(.double x0)])
      refine Go.on (fun _ k => XS.dload X26.here hx rfl (hb hby d8_64) rfl k) ?_
      show Go _ _ _ _ _ _ _ _ (mkF m 66 #[.val (.ref a0), .val (.ref a1), .val (.int i2), .val (.int (1 : Int32)), .val (.int i4), .val (.int i5), .val (.int i6), .val (.int i7), .val (.int (((contribV i5 i2 (1 : Int32)) + (contribV i6 i2 (1 : Int32))) + (contribV i7 i2 (1 : Int32)))), .val (.double (FP.ddiv (FP.i2d (((contribV i5 i2 (1 : Int32)) + (contribV i6 i2 (1 : Int32))) + (contribV i7 i2 (1 : Int32)))) (FP.i2d i4))), .second] [(.double (FP.ddiv (FP.i2d (((contribV i5 i2 (1 : Int32)) + (contribV i6 i2 (1 : Int32))) + (contribV i7 i2 (1 : Int32)))) (FP.i2d i4))), (.double x0)])
      refine Go.on (fun _ k => XS.dcmpS X26.here hx rfl (hb hby d8_66) rfl rfl k) ?_
      show Go _ _ _ _ _ _ _ _ (mkF m 67 #[.val (.ref a0), .val (.ref a1), .val (.int i2), .val (.int (1 : Int32)), .val (.int i4), .val (.int i5), .val (.int i6), .val (.int i7), .val (.int (((contribV i5 i2 (1 : Int32)) + (contribV i6 i2 (1 : Int32))) + (contribV i7 i2 (1 : Int32)))), .val (.double (FP.ddiv (FP.i2d (((contribV i5 i2 (1 : Int32)) + (contribV i6 i2 (1 : Int32))) + (contribV i7 i2 (1 : Int32)))) (FP.i2d i4))), .second] [(.int (cmpValue (FP.dcmp x0 (FP.ddiv (FP.i2d (((contribV i5 i2 (1 : Int32)) + (contribV i6 i2 (1 : Int32))) + (contribV i7 i2 (1 : Int32)))) (FP.i2d i4))) .l))])
      by_cases hc28 : (cmpValue (FP.dcmp x0 (FP.ddiv (FP.i2d (((contribV i5 i2 (1 : Int32)) + (contribV i6 i2 (1 : Int32))) + (contribV i7 i2 (1 : Int32)))) (FP.i2d i4))) .l) = (0 : Int32)
      · -- pc 67 yes
        refine Go.on (fun _ k => XS.ifNo X26.here hx rfl (hb hby d8_67) rfl ((if0 _ _).trans (teq hc28).2) k) ?_
        show Go _ _ _ _ _ _ _ _ (mkF m 70 #[.val (.ref a0), .val (.ref a1), .val (.int i2), .val (.int (1 : Int32)), .val (.int i4), .val (.int i5), .val (.int i6), .val (.int i7), .val (.int (((contribV i5 i2 (1 : Int32)) + (contribV i6 i2 (1 : Int32))) + (contribV i7 i2 (1 : Int32)))), .val (.double (FP.ddiv (FP.i2d (((contribV i5 i2 (1 : Int32)) + (contribV i6 i2 (1 : Int32))) + (contribV i7 i2 (1 : Int32)))) (FP.i2d i4))), .second] [])
        refine Go.on (fun _ k => XS.aloadN X26.here hx rfl (hb hby d8_70) rfl rfl k) ?_
        show Go _ _ _ _ _ _ _ _ (mkF m 71 #[.val (.ref a0), .val (.ref a1), .val (.int i2), .val (.int (1 : Int32)), .val (.int i4), .val (.int i5), .val (.int i6), .val (.int i7), .val (.int (((contribV i5 i2 (1 : Int32)) + (contribV i6 i2 (1 : Int32))) + (contribV i7 i2 (1 : Int32)))), .val (.double (FP.ddiv (FP.i2d (((contribV i5 i2 (1 : Int32)) + (contribV i6 i2 (1 : Int32))) + (contribV i7 i2 (1 : Int32)))) (FP.i2d i4))), .second] [(.ref a1)])
        refine Go.on (fun _ k => XS.iloadN X26.here hx rfl (hb hby d8_71) rfl k) ?_
        show Go _ _ _ _ _ _ _ _ (mkF m 72 #[.val (.ref a0), .val (.ref a1), .val (.int i2), .val (.int (1 : Int32)), .val (.int i4), .val (.int i5), .val (.int i6), .val (.int i7), .val (.int (((contribV i5 i2 (1 : Int32)) + (contribV i6 i2 (1 : Int32))) + (contribV i7 i2 (1 : Int32)))), .val (.double (FP.ddiv (FP.i2d (((contribV i5 i2 (1 : Int32)) + (contribV i6 i2 (1 : Int32))) + (contribV i7 i2 (1 : Int32)))) (FP.i2d i4))), .second] [(.int i2), (.ref a1)])
        obtain ⟨cl29, Ar29, -, S29, -, H29, -⟩ := id V_a1
        have hin29 : ¬ (i2 < 0 ∨ cl29.slots.size ≤ (i2).toNatClampNeg) := inb_of S29 (own_inb1 hp)
        refine Go.on (X26.daload hx (j := i2) (v := (.double y0)) (by rw [e26]; exact Ar29.1) (State.isArrayOf_alike hZ.alike Ar29.2.1) Ar29.2.2 hin29 (H29.at hin29 (own_get1 hp _ _)) (g := (mkF m 72 #[.val (.ref a0), .val (.ref a1), .val (.int i2), .val (.int (1 : Int32)), .val (.int i4), .val (.int i5), .val (.int i6), .val (.int i7), .val (.int (((contribV i5 i2 (1 : Int32)) + (contribV i6 i2 (1 : Int32))) + (contribV i7 i2 (1 : Int32)))), .val (.double (FP.ddiv (FP.i2d (((contribV i5 i2 (1 : Int32)) + (contribV i6 i2 (1 : Int32))) + (contribV i7 i2 (1 : Int32)))) (FP.i2d i4))), .second] [(.int i2), (.ref a1)])) rfl rfl (hb hby d8_72)) ?_
        show Go _ _ _ _ _ _ _ _ (mkF m 73 #[.val (.ref a0), .val (.ref a1), .val (.int i2), .val (.int (1 : Int32)), .val (.int i4), .val (.int i5), .val (.int i6), .val (.int i7), .val (.int (((contribV i5 i2 (1 : Int32)) + (contribV i6 i2 (1 : Int32))) + (contribV i7 i2 (1 : Int32)))), .val (.double (FP.ddiv (FP.i2d (((contribV i5 i2 (1 : Int32)) + (contribV i6 i2 (1 : Int32))) + (contribV i7 i2 (1 : Int32)))) (FP.i2d i4))), .second] [(.double y0)])
        refine Go.on (fun _ k => XS.dload X26.here hx rfl (hb hby d8_73) rfl k) ?_
        show Go _ _ _ _ _ _ _ _ (mkF m 75 #[.val (.ref a0), .val (.ref a1), .val (.int i2), .val (.int (1 : Int32)), .val (.int i4), .val (.int i5), .val (.int i6), .val (.int i7), .val (.int (((contribV i5 i2 (1 : Int32)) + (contribV i6 i2 (1 : Int32))) + (contribV i7 i2 (1 : Int32)))), .val (.double (FP.ddiv (FP.i2d (((contribV i5 i2 (1 : Int32)) + (contribV i6 i2 (1 : Int32))) + (contribV i7 i2 (1 : Int32)))) (FP.i2d i4))), .second] [(.double (FP.ddiv (FP.i2d (((contribV i5 i2 (1 : Int32)) + (contribV i6 i2 (1 : Int32))) + (contribV i7 i2 (1 : Int32)))) (FP.i2d i4))), (.double y0)])
        refine Go.on (fun _ k => XS.dcmpS X26.here hx rfl (hb hby d8_75) rfl rfl k) ?_
        show Go _ _ _ _ _ _ _ _ (mkF m 76 #[.val (.ref a0), .val (.ref a1), .val (.int i2), .val (.int (1 : Int32)), .val (.int i4), .val (.int i5), .val (.int i6), .val (.int i7), .val (.int (((contribV i5 i2 (1 : Int32)) + (contribV i6 i2 (1 : Int32))) + (contribV i7 i2 (1 : Int32)))), .val (.double (FP.ddiv (FP.i2d (((contribV i5 i2 (1 : Int32)) + (contribV i6 i2 (1 : Int32))) + (contribV i7 i2 (1 : Int32)))) (FP.i2d i4))), .second] [(.int (cmpValue (FP.dcmp y0 (FP.ddiv (FP.i2d (((contribV i5 i2 (1 : Int32)) + (contribV i6 i2 (1 : Int32))) + (contribV i7 i2 (1 : Int32)))) (FP.i2d i4))) .l))])
        suffices hJ31 : ∀ (v30 : Int32), v30 = (if (cmpValue (FP.dcmp y0 (FP.ddiv (FP.i2d (((contribV i5 i2 (1 : Int32)) + (contribV i6 i2 (1 : Int32))) + (contribV i7 i2 (1 : Int32)))) (FP.i2d i4))) .l) = (0 : Int32) then (1 : Int32) else (0 : Int32)) → Go p e below s K1 K2 QQ T26 (mkF m 84 #[.val (.ref a0), .val (.ref a1), .val (.int i2), .val (.int (1 : Int32)), .val (.int i4), .val (.int i5), .val (.int i6), .val (.int i7), .val (.int (((contribV i5 i2 (1 : Int32)) + (contribV i6 i2 (1 : Int32))) + (contribV i7 i2 (1 : Int32)))), .val (.double (FP.ddiv (FP.i2d (((contribV i5 i2 (1 : Int32)) + (contribV i6 i2 (1 : Int32))) + (contribV i7 i2 (1 : Int32)))) (FP.i2d i4))), .second] [(.int v30)]) by
          by_cases hc32 : (cmpValue (FP.dcmp y0 (FP.ddiv (FP.i2d (((contribV i5 i2 (1 : Int32)) + (contribV i6 i2 (1 : Int32))) + (contribV i7 i2 (1 : Int32)))) (FP.i2d i4))) .l) = (0 : Int32)
          · -- pc 76 yes
            refine Go.on (fun _ k => XS.ifNo X26.here hx rfl (hb hby d8_76) rfl ((if0 _ _).trans (teq hc32).2) k) ?_
            show Go _ _ _ _ _ _ _ _ (mkF m 79 #[.val (.ref a0), .val (.ref a1), .val (.int i2), .val (.int (1 : Int32)), .val (.int i4), .val (.int i5), .val (.int i6), .val (.int i7), .val (.int (((contribV i5 i2 (1 : Int32)) + (contribV i6 i2 (1 : Int32))) + (contribV i7 i2 (1 : Int32)))), .val (.double (FP.ddiv (FP.i2d (((contribV i5 i2 (1 : Int32)) + (contribV i6 i2 (1 : Int32))) + (contribV i7 i2 (1 : Int32)))) (FP.i2d i4))), .second] [])
            refine Go.on (fun _ k => XS.iconst X26.here hx rfl (hb hby d8_79) k) ?_
            show Go _ _ _ _ _ _ _ _ (mkF m 80 #[.val (.ref a0), .val (.ref a1), .val (.int i2), .val (.int (1 : Int32)), .val (.int i4), .val (.int i5), .val (.int i6), .val (.int i7), .val (.int (((contribV i5 i2 (1 : Int32)) + (contribV i6 i2 (1 : Int32))) + (contribV i7 i2 (1 : Int32)))), .val (.double (FP.ddiv (FP.i2d (((contribV i5 i2 (1 : Int32)) + (contribV i6 i2 (1 : Int32))) + (contribV i7 i2 (1 : Int32)))) (FP.i2d i4))), .second] [(.int (1 : Int32))])
            refine Go.on (fun _ k => XS.goto X26.here hx rfl (pc0 := 80) (pc' := 84) rfl (hb hby d8_80) (by decide) (by decide) k) ?_
            show Go _ _ _ _ _ _ _ _ (mkF m 84 #[.val (.ref a0), .val (.ref a1), .val (.int i2), .val (.int (1 : Int32)), .val (.int i4), .val (.int i5), .val (.int i6), .val (.int i7), .val (.int (((contribV i5 i2 (1 : Int32)) + (contribV i6 i2 (1 : Int32))) + (contribV i7 i2 (1 : Int32)))), .val (.double (FP.ddiv (FP.i2d (((contribV i5 i2 (1 : Int32)) + (contribV i6 i2 (1 : Int32))) + (contribV i7 i2 (1 : Int32)))) (FP.i2d i4))), .second] [(.int (1 : Int32))])
            exact hJ31 _ (by rw [if_pos hc32])
          · -- pc 76 no
            refine Go.on (fun _ k => XS.ifYes X26.here hx rfl (pc0 := 76) (pc' := 83) rfl (hb hby d8_76) rfl ((if0 _ _).trans (feq hc32).2) (by decide) (by decide) k) ?_
            show Go _ _ _ _ _ _ _ _ (mkF m 83 #[.val (.ref a0), .val (.ref a1), .val (.int i2), .val (.int (1 : Int32)), .val (.int i4), .val (.int i5), .val (.int i6), .val (.int i7), .val (.int (((contribV i5 i2 (1 : Int32)) + (contribV i6 i2 (1 : Int32))) + (contribV i7 i2 (1 : Int32)))), .val (.double (FP.ddiv (FP.i2d (((contribV i5 i2 (1 : Int32)) + (contribV i6 i2 (1 : Int32))) + (contribV i7 i2 (1 : Int32)))) (FP.i2d i4))), .second] [])
            refine Go.on (fun _ k => XS.iconst X26.here hx rfl (hb hby d8_83) k) ?_
            show Go _ _ _ _ _ _ _ _ (mkF m 84 #[.val (.ref a0), .val (.ref a1), .val (.int i2), .val (.int (1 : Int32)), .val (.int i4), .val (.int i5), .val (.int i6), .val (.int i7), .val (.int (((contribV i5 i2 (1 : Int32)) + (contribV i6 i2 (1 : Int32))) + (contribV i7 i2 (1 : Int32)))), .val (.double (FP.ddiv (FP.i2d (((contribV i5 i2 (1 : Int32)) + (contribV i6 i2 (1 : Int32))) + (contribV i7 i2 (1 : Int32)))) (FP.i2d i4))), .second] [(.int (0 : Int32))])
            exact hJ31 _ (by rw [if_neg hc32])
        intro v30 hv30
        refine Go.retN X26 hx (t := .boolean) Bd.returns (by simp) (hb hby d8_84) ?_ (by rw [hK1]; decide) (by rw [hK2]; decide)
        rw [e26, ← hQQ]
        refine ⟨?_, N26, rfl⟩
        unfold compV compT; rw [if_neg hc3, if_neg hc19, if_pos hc28]; rw [hv30]; (repeat' split) <;> rfl
      · -- pc 67 no
        refine Go.on (fun _ k => XS.ifYes X26.here hx rfl (pc0 := 67) (pc' := 83) rfl (hb hby d8_67) rfl ((if0 _ _).trans (feq hc28).2) (by decide) (by decide) k) ?_
        show Go _ _ _ _ _ _ _ _ (mkF m 83 #[.val (.ref a0), .val (.ref a1), .val (.int i2), .val (.int (1 : Int32)), .val (.int i4), .val (.int i5), .val (.int i6), .val (.int i7), .val (.int (((contribV i5 i2 (1 : Int32)) + (contribV i6 i2 (1 : Int32))) + (contribV i7 i2 (1 : Int32)))), .val (.double (FP.ddiv (FP.i2d (((contribV i5 i2 (1 : Int32)) + (contribV i6 i2 (1 : Int32))) + (contribV i7 i2 (1 : Int32)))) (FP.i2d i4))), .second] [])
        refine Go.on (fun _ k => XS.iconst X26.here hx rfl (hb hby d8_83) k) ?_
        show Go _ _ _ _ _ _ _ _ (mkF m 84 #[.val (.ref a0), .val (.ref a1), .val (.int i2), .val (.int (1 : Int32)), .val (.int i4), .val (.int i5), .val (.int i6), .val (.int i7), .val (.int (((contribV i5 i2 (1 : Int32)) + (contribV i6 i2 (1 : Int32))) + (contribV i7 i2 (1 : Int32)))), .val (.double (FP.ddiv (FP.i2d (((contribV i5 i2 (1 : Int32)) + (contribV i6 i2 (1 : Int32))) + (contribV i7 i2 (1 : Int32)))) (FP.i2d i4))), .second] [(.int (0 : Int32))])
        refine Go.retN X26 hx (t := .boolean) Bd.returns (by simp) (hb hby d8_84) ?_ (by rw [hK1]; decide) (by rw [hK2]; decide)
        rw [e26, ← hQQ]
        refine ⟨?_, N26, rfl⟩
        unfold compV compT; rw [if_neg hc3, if_neg hc19, if_neg hc28]; rfl
theorem ef_un_2 (m : MethodId) (i0 : Int32) : entryFrame m #[(.int i0), (.int (2 : Int32))] 3 = mkF m 0 #[.val (.int i0), .val (.int (2 : Int32)), .unset] [] := by first | (simp [entryFrame, mkF, argsToLocals, Value.category]; done) | rfl
def Q_un_2 (Z : State) (i0 : Int32) (h0 : Heap) (n0 : Nat) (v : Option Value) (h : Heap) (L : List Loc) : Prop := ∃ (ar : Addr) (k_ar : ClassId), v = some (.ref ar) ∧ Fr n0 L ∧ Keep h0 h [] ∧ h0.size ≤ ar ∧ Arv Z h ar k_ar .double (2 : Int32) [(.double (if (indexV i0 (2 : Int32)) = (0 : Int32) then (FP.i2d (signV i0)) else (0 : UInt64))), (.double (if (indexV i0 (2 : Int32)) = (1 : Int32) then (FP.i2d (signV i0)) else (0 : UInt64)))] (.double (0 : UInt64))
set_option maxRecDepth 65536 in
set_option maxHeartbeats 40000000 in
theorem un_2 (l : Launch) (Z : State) (aw : Array Value) (hw : ∀ d ∈ tables_1, d.before aw Z = true) (ws : List Jvm.Cond) (i0 : Int32) (h0 : Heap) (n0 : Nat) (Z0 : n0 ≤ h0.size) :
    MetFree l (⟨"com/example/d2rank/d2rank/rerank/CentroidMeanPinLaw", "unit", "(II)[D"⟩ : MethodName) (head1 (Jvm.Cond.code (⟨"com/example/d2rank/d2rank/rerank/CentroidMeanPinLaw", "unit", "(II)[D"⟩ : MethodName) method_5_code 3 (some (.array .double)) :: ws) ({ frames := 1, cells := 1, slots := 2, locals := 14 } : Room)) (fun a U => a = #[(.int i0), (.int (2 : Int32))] ∧ Z.Warmed39 U.vm ∧ U.heap = h0) (fun _ _ _ _ _ => True) (fun _ U o U' => ∃ v L, o = .returned v ∧ Q_un_2 Z i0 h0 n0 v U'.heap L ∧ FrameEnd U o U' L ({ frames := 1, cells := 1, slots := 2, locals := 14 } : Room).cells ({ frames := 1, cells := 1, slots := 2, locals := 14 } : Room).slots) := by
  refine MetFree.of_bodySF (plainFor_of_name pn_0) hisR ?_
  intro p e s m args below meth c s₁ Bd hml0 hP hK
  obtain ⟨rfl, hZ, hh⟩ := hP
  have hx := Bd.exec
  have hby := Bd.bytes
  have hml : c.maxLocals = 3 := hml0
  have hown : s.vm.findClass "com/example/d2rank/d2rank/rerank/CentroidMeanPinLaw" = some m.cls := findClass_of_methodNamed Bd.named
  have hnm := (name_of_methodNamed Bd.named Bd.method).1
  have hlk : meth.locks = false := BodyLoose.notSynchronized Bd
  have X0 : Stand p l e ({ frames := 1, cells := 1, slots := 2, locals := 14 } : Room) s m #[(.int i0), (.int (2 : Int32))] below meth c s₁ [] 0 0 := Stand.of_body Bd
  have e0 : s₁.heap = h0 := by rw [← hh, Bd.state]; rfl
  have N0 := Fr.nil n0
  have ZZ := Z0
  show Go p e below s ({ frames := 1, cells := 1, slots := 2, locals := 14 } : Room).cells ({ frames := 1, cells := 1, slots := 2, locals := 14 } : Room).slots (fun v h L => Q_un_2 Z i0 h0 n0 v h L) s₁ (entryFrame m #[(.int i0), (.int (2 : Int32))] 3)
  refine Go.cast (ef_un_2 m i0) ?_
  refine Go.gen ?_
  intro K1 K2 QQ hK1 hK2 hQQ
  have KP : Keep h0 h0 [] := Keep.refl _ _
  refine Go.on (fun _ k => XS.iloadN X0.here hx rfl (hb hby d3_0) rfl k) ?_
  show Go _ _ _ _ _ _ _ _ (mkF m 1 #[.val (.int i0), .val (.int (2 : Int32)), .unset] [(.int (2 : Int32))])
  obtain ⟨T1, h1, k_ar, X1, e1, E1, A1, st1⟩ := newP X0 hx hZ (hw _ (List.mem_of_getElem? (i := 9) rfl)) e0 (g := (mkF m 1 #[.val (.int i0), .val (.int (2 : Int32)), .unset] [(.int (2 : Int32))])) rfl (hb hby d3_1) rfl (by decide) (cap := 2) (by decide) (by decide) (by decide) (by decide)
  obtain ⟨ar, g1⟩ : ∃ z, z = h0.size := ⟨_, rfl⟩
  have g_ar : n0 ≤ ar := Nat.le_trans ZZ (Nat.le_of_eq g1.symm)
  have sz_ar : h0.size ≤ ar := Nat.le_trans KP.1 (Nat.le_of_eq g1.symm)
  rw [← g1] at A1 st1
  replace ZZ := Nat.le_trans ZZ E1.1
  replace KP := KP.ext E1
  have V_ar : Arv Z h1 ar k_ar .double (2 : Int32) [(.double (0 : UInt64)), (.double (0 : UInt64))] (.double (0 : UInt64)) := (Arv.new A1 (by decide)).pad (pad_rep [] (.double (0 : UInt64)) 2)
  refine Go.on st1 ?_
  show Go _ _ _ _ _ _ _ _ (mkF m 3 #[.val (.int i0), .val (.int (2 : Int32)), .unset] [(.ref ar)])
  refine Go.on (fun _ k => XS.astoreN X1.here hx rfl (hb hby d3_3) rfl rfl (l' := #[.val (.int i0), .val (.int (2 : Int32)), .val (.ref ar)]) rfl k) ?_
  show Go _ _ _ _ _ _ _ _ (mkF m 4 #[.val (.int i0), .val (.int (2 : Int32)), .val (.ref ar)] [])
  refine Go.on (fun _ k => XS.aloadN X1.here hx rfl (hb hby d3_4) rfl rfl k) ?_
  show Go _ _ _ _ _ _ _ _ (mkF m 5 #[.val (.int i0), .val (.int (2 : Int32)), .val (.ref ar)] [(.ref ar)])
  refine Go.on (fun _ k => XS.iloadN X1.here hx rfl (hb hby d3_5) rfl k) ?_
  show Go _ _ _ _ _ _ _ _ (mkF m 6 #[.val (.int i0), .val (.int (2 : Int32)), .val (.ref ar)] [(.int i0), (.ref ar)])
  refine Go.on (fun _ k => XS.iloadN X1.here hx rfl (hb hby d3_6) rfl k) ?_
  show Go _ _ _ _ _ _ _ _ (mkF m 7 #[.val (.int i0), .val (.int (2 : Int32)), .val (.ref ar)] [(.int (2 : Int32)), (.int i0), (.ref ar)])
  obtain ⟨_, _, ⟨T2, L2, k2, n2⟩, -, X2, ⟨Lc2, hQ2, l2, y2, z2⟩, st2⟩ := Jvm.LawKit.callS X1 hx (y := (⟨"com/example/d2rank/d2rank/rerank/CentroidMeanPinLaw", "index", "(II)I"⟩ : MethodName)) hown (mvT hZ (hw _ (List.mem_of_getElem? (i := 16) rfl))) (mvT hZ (hw _ (List.mem_of_getElem? (i := 17) rfl))) (mvT hZ (hw _ (List.mem_of_getElem? (i := 14) rfl))) (mvT hZ (hw _ (List.mem_of_getElem? (i := 18) rfl))) (by decide) (backOf (W := 1) (rm4 l Z aw hw [] i0 (2 : Int32)  h1 n0 ZZ (by decide)) hZ (hw _ (List.mem_of_getElem? (i := 18) rfl)) (hw _ (List.mem_of_getElem? (i := 14) rfl)) (by decide) (by decide)) (g := (mkF m 7 #[.val (.int i0), .val (.int (2 : Int32)), .val (.ref ar)] [(.int (2 : Int32)), (.int i0), (.ref ar)])) rfl (by rw [hml]; rfl) (argsL := [(.int i0), (.int (2 : Int32))]) (rest := [(.ref ar)]) (lenOf pd_0 rfl) rfl (by show 2 * 0 + _ ≤ _; exact Nat.le_of_eq rfl) (hb hby d3_7) (fun _ _ => ⟨rfl, e1, (by decide : 1 + 0 ≤ _), (by decide : 2 + 0 ≤ _)⟩)
  dsimp only [Pt.U, Pt.locs, Pt.cells, Pt.slots] at X2 l2 y2 z2 st2 hQ2
  subst l2 y2 z2
  obtain ⟨rfl, N2q, e2⟩ := hQ2
  have N2 := Fr.app N0 N2q
  refine Go.on st2 ?_
  show Go _ _ _ _ _ _ _ _ (mkF m 10 #[.val (.int i0), .val (.int (2 : Int32)), .val (.ref ar)] [(.int (indexV i0 (2 : Int32))), (.ref ar)])
  refine Go.on (fun _ k => XS.iloadN X2.here hx rfl (hb hby d3_10) rfl k) ?_
  show Go _ _ _ _ _ _ _ _ (mkF m 11 #[.val (.int i0), .val (.int (2 : Int32)), .val (.ref ar)] [(.int i0), (.int (indexV i0 (2 : Int32))), (.ref ar)])
  obtain ⟨_, _, ⟨T3, L3, k3, n3⟩, -, X3, ⟨Lc3, hQ3, l3, y3, z3⟩, st3⟩ := Jvm.LawKit.callS X2 hx (y := (⟨"com/example/d2rank/d2rank/rerank/CentroidMeanPinLaw", "sign", "(I)I"⟩ : MethodName)) hown (mvT hZ (hw _ (List.mem_of_getElem? (i := 20) rfl))) (mvT hZ (hw _ (List.mem_of_getElem? (i := 21) rfl))) (mvT hZ (hw _ (List.mem_of_getElem? (i := 14) rfl))) (mvT hZ (hw _ (List.mem_of_getElem? (i := 22) rfl))) (by decide) (backOf (W := 2) (rm5 l Z aw hw [] i0  h1 n0 ZZ ) hZ (hw _ (List.mem_of_getElem? (i := 22) rfl)) (hw _ (List.mem_of_getElem? (i := 14) rfl)) (by decide) (by decide)) (g := (mkF m 11 #[.val (.int i0), .val (.int (2 : Int32)), .val (.ref ar)] [(.int i0), (.int (indexV i0 (2 : Int32))), (.ref ar)])) rfl (by rw [hml]; rfl) (argsL := [(.int i0)]) (rest := [(.int (indexV i0 (2 : Int32))), (.ref ar)]) (lenOf pd_1 rfl) rfl (by show 2 * 0 + _ ≤ _; exact Nat.le_of_eq rfl) (hb hby d3_11) (fun _ _ => ⟨rfl, e2, (by decide : 1 + 0 ≤ _), (by decide : 2 + 0 ≤ _)⟩)
  dsimp only [Pt.U, Pt.locs, Pt.cells, Pt.slots] at X3 l3 y3 z3 st3 hQ3
  subst l3 y3 z3
  obtain ⟨rfl, N3q, e3⟩ := hQ3
  have N3 := Fr.app N2 N3q
  refine Go.on st3 ?_
  show Go _ _ _ _ _ _ _ _ (mkF m 14 #[.val (.int i0), .val (.int (2 : Int32)), .val (.ref ar)] [(.int (signV i0)), (.int (indexV i0 (2 : Int32))), (.ref ar)])
  refine Go.on (fun _ k => XS.i2dS X3.here hx rfl (hb hby d3_14) rfl rfl k) ?_
  show Go _ _ _ _ _ _ _ _ (mkF m 15 #[.val (.int i0), .val (.int (2 : Int32)), .val (.ref ar)] [(.double (FP.i2d (signV i0))), (.int (indexV i0 (2 : Int32))), (.ref ar)])
  obtain ⟨cl4, Ar4, q4, S4, N4n, H4, G4⟩ := id V_ar
  have hin4 : ¬ ((indexV i0 (2 : Int32)) < 0 ∨ cl4.slots.size ≤ ((indexV i0 (2 : Int32))).toNatClampNeg) := inb_of S4 (own_inb2 (own_ix2 _))
  obtain ⟨T4, h4, X4, e4, W4, st4⟩ := stD X3 hx hZ e3 Ar4 (j := (indexV i0 (2 : Int32))) hin4 (g := (mkF m 15 #[.val (.int i0), .val (.int (2 : Int32)), .val (.ref ar)] [(.double (FP.i2d (signV i0))), (.int (indexV i0 (2 : Int32))), (.ref ar)])) rfl rfl (hb hby d3_15)
  replace V_ar := Arv.set Ar4 q4 S4 N4n H4 G4 rfl W4 _ rfl (own_lt2 (own_ix2 _) _ _)
  refine Go.on st4 ?_
  have N4 := Fr.snoc X4 N3 g_ar
  replace ZZ := Nat.le_trans ZZ (Keep.of_wr W4).1
  replace KP := KP.wr W4 (Or.inr sz_ar)
  rw [own_set2 (own_ix2 _)] at V_ar
  show Go _ _ _ _ _ _ _ _ (mkF m 16 #[.val (.int i0), .val (.int (2 : Int32)), .val (.ref ar)] [])
  refine Go.on (fun _ k => XS.aloadN X4.here hx rfl (hb hby d3_16) rfl rfl k) ?_
  show Go _ _ _ _ _ _ _ _ (mkF m 17 #[.val (.int i0), .val (.int (2 : Int32)), .val (.ref ar)] [(.ref ar)])
  refine Go.retV X4 hx Bd.returns rfl (Or.inr (Or.inr (Or.inr (Or.inr ⟨rfl, rfl, rfl⟩)))) (hb hby d3_17) ?_ (by rw [hK1]; decide) (by rw [hK2]; decide)
  rw [e4, ← hQQ]
  exact ⟨ar, k_ar, rfl, N4, KP, sz_ar, V_ar⟩
theorem ef_ci_2 (m : MethodId) (a0 : Addr) : entryFrame m #[(.ref a0), (.int (2 : Int32))] 2 = mkF m 0 #[.val (.ref a0), .val (.int (2 : Int32))] [] := by first | (simp [entryFrame, mkF, argsToLocals, Value.category]; done) | rfl
def Q_ci_2 (Z : State) (a0 : Addr) (u0 : Value) (h0 : Heap) (n0 : Nat) (v : Option Value) (h : Heap) (L : List Loc) : Prop := v = none ∧ Fr n0 L ∧ ∃ (ar : Addr) (k_ar : ClassId), Keep h0 h [a0] ∧ h0.size ≤ ar ∧ Exa Z h a0 "com/example/d2rank/d2rank/rerank/Centroid" ∧ Fld Z h a0 "com/example/d2rank/d2rank/rerank/Centroid" "sum" "[D" (.ref ar) ∧ Fld Z h a0 "com/example/d2rank/d2rank/rerank/Centroid" "count" "I" (.int (0 : Int32)) ∧ Arv Z h ar k_ar .double (2 : Int32) [(.double (0 : UInt64)), (.double (0 : UInt64))] (.double (0 : UInt64))
set_option maxRecDepth 65536 in
set_option maxHeartbeats 40000000 in
theorem ci_2 (l : Launch) (Z : State) (aw : Array Value) (hw : ∀ d ∈ tables_1, d.before aw Z = true) (ws : List Jvm.Cond) (a0 : Addr) (u0 : Value) (h0 : Heap) (n0 : Nat) (Z0 : n0 ≤ h0.size) (E_a0 : Exa Z h0 a0 "com/example/d2rank/d2rank/rerank/Centroid") (F_sum_a0 : Fld Z h0 a0 "com/example/d2rank/d2rank/rerank/Centroid" "sum" "[D" u0) (F_count_a0 : Fld Z h0 a0 "com/example/d2rank/d2rank/rerank/Centroid" "count" "I" (.int (0 : Int32))) (g_a0 : n0 ≤ a0) :
    MetFree l (⟨"com/example/d2rank/d2rank/rerank/Centroid", "<init>", "(I)V"⟩ : MethodName) (head1 (Jvm.Cond.code (⟨"com/example/d2rank/d2rank/rerank/Centroid", "<init>", "(I)V"⟩ : MethodName) prog_44_method_1_code 2 none :: ws) ({ frames := 1, cells := 1, slots := 2, locals := 12 } : Room)) (fun a U => a = #[(.ref a0), (.int (2 : Int32))] ∧ Z.Warmed39 U.vm ∧ U.heap = h0) (fun _ _ _ _ _ => True) (fun _ U o U' => ∃ v L, o = .returned v ∧ Q_ci_2 Z a0 u0 h0 n0 v U'.heap L ∧ FrameEnd U o U' L ({ frames := 1, cells := 1, slots := 2, locals := 12 } : Room).cells ({ frames := 1, cells := 1, slots := 2, locals := 12 } : Room).slots) := by
  refine MetFree.of_bodySF (plainFor_of_name pn_1) hisR ?_
  intro p e s m args below meth c s₁ Bd hml0 hP hK
  obtain ⟨rfl, hZ, hh⟩ := hP
  have hx := Bd.exec
  have hby := Bd.bytes
  have hml : c.maxLocals = 2 := hml0
  have hown : s.vm.findClass "com/example/d2rank/d2rank/rerank/Centroid" = some m.cls := findClass_of_methodNamed Bd.named
  have hnm := (name_of_methodNamed Bd.named Bd.method).1
  have hlk : meth.locks = false := BodyLoose.notSynchronized Bd
  have X0 : Stand p l e ({ frames := 1, cells := 1, slots := 2, locals := 12 } : Room) s m #[(.ref a0), (.int (2 : Int32))] below meth c s₁ [] 0 0 := Stand.of_body Bd
  have e0 : s₁.heap = h0 := by rw [← hh, Bd.state]; rfl
  have N0 := Fr.nil n0
  have ZZ := Z0
  show Go p e below s ({ frames := 1, cells := 1, slots := 2, locals := 12 } : Room).cells ({ frames := 1, cells := 1, slots := 2, locals := 12 } : Room).slots (fun v h L => Q_ci_2 Z a0 u0 h0 n0 v h L) s₁ (entryFrame m #[(.ref a0), (.int (2 : Int32))] 2)
  refine Go.cast (ef_ci_2 m a0) ?_
  refine Go.gen ?_
  intro K1 K2 QQ hK1 hK2 hQQ
  have KP : Keep h0 h0 [a0] := Keep.refl _ _
  refine Go.on (fun _ k => XS.aloadN X0.here hx rfl (hb hby d1_0) rfl rfl k) ?_
  show Go _ _ _ _ _ _ _ _ (mkF m 1 #[.val (.ref a0), .val (.int (2 : Int32))] [(.ref a0)])
  obtain ⟨T1, X1, e1, st1⟩ := initO X0 hx hZ hown (hw _ (List.mem_of_getElem? (i := 6) rfl)) (hw _ (List.mem_of_getElem? (i := 7) rfl)) (hw _ (List.mem_of_getElem? (i := 8) rfl)) e0 (g := (mkF m 1 #[.val (.ref a0), .val (.int (2 : Int32))] [(.ref a0)])) rfl (by rw [hml]; rfl) rfl (hb hby d1_1) (by decide) (W := 0) (by show 2 * 0 + _ ≤ _; exact Nat.le_of_eq rfl) (by decide)
  refine Go.on st1 ?_
  show Go _ _ _ _ _ _ _ _ (mkF m 4 #[.val (.ref a0), .val (.int (2 : Int32))] [])
  refine Go.on (fun _ k => XS.aloadN X1.here hx rfl (hb hby d1_4) rfl rfl k) ?_
  show Go _ _ _ _ _ _ _ _ (mkF m 5 #[.val (.ref a0), .val (.int (2 : Int32))] [(.ref a0)])
  refine Go.on (fun _ k => XS.iloadN X1.here hx rfl (hb hby d1_5) rfl k) ?_
  show Go _ _ _ _ _ _ _ _ (mkF m 6 #[.val (.ref a0), .val (.int (2 : Int32))] [(.int (2 : Int32)), (.ref a0)])
  obtain ⟨T2, h2, k_ar, X2, e2, E2, A2, st2⟩ := newP X1 hx hZ (hw _ (List.mem_of_getElem? (i := 9) rfl)) e1 (g := (mkF m 6 #[.val (.ref a0), .val (.int (2 : Int32))] [(.int (2 : Int32)), (.ref a0)])) rfl (hb hby d1_6) rfl (by decide) (cap := 2) (by decide) (by decide) (by decide) (by decide)
  obtain ⟨ar, g2⟩ : ∃ z, z = h0.size := ⟨_, rfl⟩
  have ne_a0_ar : a0 ≠ ar := Nat.ne_of_lt (Nat.lt_of_lt_of_le E_a0.lt (Nat.le_of_eq g2.symm))
  have g_ar : n0 ≤ ar := Nat.le_trans ZZ (Nat.le_of_eq g2.symm)
  have sz_ar : h0.size ≤ ar := Nat.le_trans KP.1 (Nat.le_of_eq g2.symm)
  rw [← g2] at A2 st2
  replace E_a0 := E_a0.ext E2
  replace F_sum_a0 := F_sum_a0.ext E2
  replace F_count_a0 := F_count_a0.ext E2
  replace ZZ := Nat.le_trans ZZ E2.1
  replace KP := KP.ext E2
  have V_ar : Arv Z h2 ar k_ar .double (2 : Int32) [(.double (0 : UInt64)), (.double (0 : UInt64))] (.double (0 : UInt64)) := (Arv.new A2 (by decide)).pad (pad_rep [] (.double (0 : UInt64)) 2)
  refine Go.on st2 ?_
  show Go _ _ _ _ _ _ _ _ (mkF m 8 #[.val (.ref a0), .val (.int (2 : Int32))] [(.ref ar), (.ref a0)])
  obtain ⟨T3, h3, X3, e3, W3, st3⟩ := putF X2 hx hZ hown (host := "") (Or.inl (hw _ (List.mem_of_getElem? (i := 10) rfl))) Via.refl e2 F_sum_a0 E_a0 (Or.inr ⟨(hw _ (List.mem_of_getElem? (i := 11) rfl)), rfl, hnm⟩) (hw _ (List.mem_of_getElem? (i := 1) rfl)) (ty := (.array .double)) (by decide) rfl rfl (g := (mkF m 8 #[.val (.ref a0), .val (.int (2 : Int32))] [(.ref ar), (.ref a0)])) rfl rfl (hb hby d1_8)
  refine Go.on st3 ?_
  replace F_sum_a0 := F_sum_a0.same W3
  replace E_a0 := E_a0.wr W3
  replace F_count_a0 := F_count_a0.other W3 (Or.inr (slot_ne (Or.inl (hw _ (List.mem_of_getElem? (i := 29) rfl))) (Or.inr (hw _ (List.mem_of_getElem? (i := 11) rfl))) (by decide) (t := .int) (t' := (.array .double)) (by decide) (by decide)))
  replace V_ar := V_ar.other W3 (Ne.symm ne_a0_ar)
  have N3 := Fr.snoc X3 N0 g_a0
  replace ZZ := Nat.le_trans ZZ (Keep.of_wr W3).1
  replace KP := KP.wr W3 (Or.inl (List.mem_of_getElem? (i := 0) rfl))
  show Go _ _ _ _ _ _ _ _ (mkF m 11 #[.val (.ref a0), .val (.int (2 : Int32))] [])
  refine Go.ret0 X3 hx Bd.returns (hb hby d1_11) ?_ (by rw [hK1]; decide) (by rw [hK2]; decide)
  rw [e3, ← hQQ]
  exact ⟨rfl, N3, ar, k_ar, KP, sz_ar, E_a0, F_sum_a0, F_count_a0, V_ar⟩
theorem ef_ca_2 (m : MethodId) (a0 : Addr) (a1 : Addr) : entryFrame m #[(.ref a0), (.ref a1)] 3 = mkF m 0 #[.val (.ref a0), .val (.ref a1), .unset] [] := by first | (simp [entryFrame, mkF, argsToLocals, Value.category]; done) | rfl
def Q_ca_2 (Z : State) (a0 : Addr) (a1 : Addr) (as : Addr) (ct : Int32) (k_as : ClassId) (x0 : UInt64) (x1 : UInt64) (k_a1 : ClassId) (y0 : UInt64) (y1 : UInt64) (h0 : Heap) (n0 : Nat) (v : Option Value) (h : Heap) (L : List Loc) : Prop := v = none ∧ Fr n0 L ∧ Keep h0 h [a0, as] ∧ Exa Z h a0 "com/example/d2rank/d2rank/rerank/Centroid" ∧ Fld Z h a0 "com/example/d2rank/d2rank/rerank/Centroid" "sum" "[D" (.ref as) ∧ Fld Z h a0 "com/example/d2rank/d2rank/rerank/Centroid" "count" "I" (.int (ct + (1 : Int32))) ∧ Arv Z h as k_as .double (2 : Int32) [(.double (FP.dadd x0 y0)), (.double (FP.dadd x1 y1))] (.double (0 : UInt64))
set_option maxRecDepth 65536 in
set_option maxHeartbeats 40000000 in
theorem ca_2 (l : Launch) (Z : State) (aw : Array Value) (hw : ∀ d ∈ tables_1, d.before aw Z = true) (ws : List Jvm.Cond) (a0 : Addr) (a1 : Addr) (as : Addr) (ct : Int32) (k_as : ClassId) (x0 : UInt64) (x1 : UInt64) (k_a1 : ClassId) (y0 : UInt64) (y1 : UInt64) (h0 : Heap) (n0 : Nat) (Z0 : n0 ≤ h0.size) (E_a0 : Exa Z h0 a0 "com/example/d2rank/d2rank/rerank/Centroid") (F_sum_a0 : Fld Z h0 a0 "com/example/d2rank/d2rank/rerank/Centroid" "sum" "[D" (.ref as)) (F_count_a0 : Fld Z h0 a0 "com/example/d2rank/d2rank/rerank/Centroid" "count" "I" (.int ct)) (V_as : Arv Z h0 as k_as .double (2 : Int32) [(.double x0), (.double x1)] (.double (0 : UInt64))) (V_a1 : Arv Z h0 a1 k_a1 .double (2 : Int32) [(.double y0), (.double y1)] (.double (0 : UInt64))) (g_a0 : n0 ≤ a0) (g_as : n0 ≤ as) (ne_a0_as : a0 ≠ as) (ne_a1_as : a1 ≠ as) (ne_a1_a0 : a1 ≠ a0) (hs0 : Jvm.Free.Fl.NoNaN64 (FP.dadd x0 y0)) (hs1 : Jvm.Free.Fl.NoNaN64 (FP.dadd x1 y1)) :
    MetFree l (⟨"com/example/d2rank/d2rank/rerank/Centroid", "add", "([D)V"⟩ : MethodName) (head1 (Jvm.Cond.code (⟨"com/example/d2rank/d2rank/rerank/Centroid", "add", "([D)V"⟩ : MethodName) prog_44_method_2_code 3 none :: ws) ({ frames := 0, cells := 0, slots := 0, locals := 0 } : Room)) (fun a U => a = #[(.ref a0), (.ref a1)] ∧ Z.Warmed39 U.vm ∧ U.heap = h0) (fun _ _ _ _ _ => True) (fun _ U o U' => ∃ v L, o = .returned v ∧ Q_ca_2 Z a0 a1 as ct k_as x0 x1 k_a1 y0 y1 h0 n0 v U'.heap L ∧ FrameEnd U o U' L ({ frames := 0, cells := 0, slots := 0, locals := 0 } : Room).cells ({ frames := 0, cells := 0, slots := 0, locals := 0 } : Room).slots) := by
  refine MetFree.of_bodySF (plainFor_of_name pn_1) hisR ?_
  intro p e s m args below meth c s₁ Bd hml0 hP hK
  obtain ⟨rfl, hZ, hh⟩ := hP
  have hx := Bd.exec
  have hby := Bd.bytes
  have hml : c.maxLocals = 3 := hml0
  have hown : s.vm.findClass "com/example/d2rank/d2rank/rerank/Centroid" = some m.cls := findClass_of_methodNamed Bd.named
  have hnm := (name_of_methodNamed Bd.named Bd.method).1
  have hlk : meth.locks = false := BodyLoose.notSynchronized Bd
  have X0 : Stand p l e ({ frames := 0, cells := 0, slots := 0, locals := 0 } : Room) s m #[(.ref a0), (.ref a1)] below meth c s₁ [] 0 0 := Stand.of_body Bd
  have e0 : s₁.heap = h0 := by rw [← hh, Bd.state]; rfl
  have N0 := Fr.nil n0
  have ZZ := Z0
  show Go p e below s ({ frames := 0, cells := 0, slots := 0, locals := 0 } : Room).cells ({ frames := 0, cells := 0, slots := 0, locals := 0 } : Room).slots (fun v h L => Q_ca_2 Z a0 a1 as ct k_as x0 x1 k_a1 y0 y1 h0 n0 v h L) s₁ (entryFrame m #[(.ref a0), (.ref a1)] 3)
  refine Go.cast (ef_ca_2 m a0 a1) ?_
  refine Go.gen ?_
  intro K1 K2 QQ hK1 hK2 hQQ
  have KP : Keep h0 h0 [a0, as] := Keep.refl _ _
  refine Go.on (fun _ k => XS.iconst X0.here hx rfl (hb hby d6_0) k) ?_
  show Go _ _ _ _ _ _ _ _ (mkF m 1 #[.val (.ref a0), .val (.ref a1), .unset] [(.int (0 : Int32))])
  refine Go.on (fun _ k => XS.istoreN X0.here hx rfl (hb hby d6_1) rfl (l' := #[.val (.ref a0), .val (.ref a1), .val (.int (0 : Int32))]) rfl k) ?_
  show Go _ _ _ _ _ _ _ _ (mkF m 2 #[.val (.ref a0), .val (.ref a1), .val (.int (0 : Int32))] [])
  refine Go.on (fun _ k => XS.iloadN X0.here hx rfl (hb hby d6_2) rfl k) ?_
  show Go _ _ _ _ _ _ _ _ (mkF m 3 #[.val (.ref a0), .val (.ref a1), .val (.int (0 : Int32))] [(.int (0 : Int32))])
  refine Go.on (fun _ k => XS.aloadN X0.here hx rfl (hb hby d6_3) rfl rfl k) ?_
  show Go _ _ _ _ _ _ _ _ (mkF m 4 #[.val (.ref a0), .val (.ref a1), .val (.int (0 : Int32))] [(.ref a0), (.int (0 : Int32))])
  obtain ⟨T1, X1, e1, st1⟩ := getF X0 hx hZ hown (host := "") (Or.inl (hw _ (List.mem_of_getElem? (i := 10) rfl))) Via.refl e0 F_sum_a0 (g := (mkF m 4 #[.val (.ref a0), .val (.ref a1), .val (.int (0 : Int32))] [(.ref a0), (.int (0 : Int32))])) rfl rfl (hb hby d6_4)
  refine Go.on st1 ?_
  show Go _ _ _ _ _ _ _ _ (mkF m 7 #[.val (.ref a0), .val (.ref a1), .val (.int (0 : Int32))] [(.ref as), (.int (0 : Int32))])
  obtain ⟨cl2, Ar2, -, S2, N2n, -, -⟩ := id V_as
  refine Go.on (X1.arraylength hx (by rw [e1]; exact Ar2.1) (State.isArrayOf_alike hZ.alike Ar2.2.1) (g := (mkF m 7 #[.val (.ref a0), .val (.ref a1), .val (.int (0 : Int32))] [(.ref as), (.int (0 : Int32))])) rfl rfl (hb hby d6_7)) ?_
  rw [len_of S2 N2n]
  show Go _ _ _ _ _ _ _ _ (mkF m 8 #[.val (.ref a0), .val (.ref a1), .val (.int (0 : Int32))] [(.int (2 : Int32)), (.int (0 : Int32))])
  have hc3 : (0 : Int32) < (2 : Int32) := by decide
  refine Go.on (fun _ k => XS.icmpNo X1.here hx rfl (hb hby d6_8) rfl (tlt hc3).2.1 k) ?_
  show Go _ _ _ _ _ _ _ _ (mkF m 11 #[.val (.ref a0), .val (.ref a1), .val (.int (0 : Int32))] [])
  refine Go.on (fun _ k => XS.aloadN X1.here hx rfl (hb hby d6_11) rfl rfl k) ?_
  show Go _ _ _ _ _ _ _ _ (mkF m 12 #[.val (.ref a0), .val (.ref a1), .val (.int (0 : Int32))] [(.ref a0)])
  obtain ⟨T4, X4, e4, st4⟩ := getF X1 hx hZ hown (host := "") (Or.inl (hw _ (List.mem_of_getElem? (i := 10) rfl))) Via.refl e1 F_sum_a0 (g := (mkF m 12 #[.val (.ref a0), .val (.ref a1), .val (.int (0 : Int32))] [(.ref a0)])) rfl rfl (hb hby d6_12)
  refine Go.on st4 ?_
  show Go _ _ _ _ _ _ _ _ (mkF m 15 #[.val (.ref a0), .val (.ref a1), .val (.int (0 : Int32))] [(.ref as)])
  refine Go.on (fun _ k => XS.iloadN X4.here hx rfl (hb hby d6_15) rfl k) ?_
  show Go _ _ _ _ _ _ _ _ (mkF m 16 #[.val (.ref a0), .val (.ref a1), .val (.int (0 : Int32))] [(.int (0 : Int32)), (.ref as)])
  refine Go.on (fun _ k => Jvm.Free.XT.dup2 X4.here hx rfl (hb hby d6_16) rfl rfl rfl k) ?_
  show Go _ _ _ _ _ _ _ _ (mkF m 17 #[.val (.ref a0), .val (.ref a1), .val (.int (0 : Int32))] [(.int (0 : Int32)), (.ref as), (.int (0 : Int32)), (.ref as)])
  obtain ⟨cl5, Ar5, -, S5, -, H5, -⟩ := id V_as
  have hin5 : ¬ ((0 : Int32) < 0 ∨ cl5.slots.size ≤ ((0 : Int32)).toNatClampNeg) := inb_of S5 ⟨by decide, by decide⟩
  refine Go.on (X4.daload hx (j := (0 : Int32)) (v := (.double x0)) (by rw [e4]; exact Ar5.1) (State.isArrayOf_alike hZ.alike Ar5.2.1) Ar5.2.2 hin5 (H5.at hin5 (rfl)) (g := (mkF m 17 #[.val (.ref a0), .val (.ref a1), .val (.int (0 : Int32))] [(.int (0 : Int32)), (.ref as), (.int (0 : Int32)), (.ref as)])) rfl rfl (hb hby d6_17)) ?_
  show Go _ _ _ _ _ _ _ _ (mkF m 18 #[.val (.ref a0), .val (.ref a1), .val (.int (0 : Int32))] [(.double x0), (.int (0 : Int32)), (.ref as)])
  refine Go.on (fun _ k => XS.aloadN X4.here hx rfl (hb hby d6_18) rfl rfl k) ?_
  show Go _ _ _ _ _ _ _ _ (mkF m 19 #[.val (.ref a0), .val (.ref a1), .val (.int (0 : Int32))] [(.ref a1), (.double x0), (.int (0 : Int32)), (.ref as)])
  refine Go.on (fun _ k => XS.iloadN X4.here hx rfl (hb hby d6_19) rfl k) ?_
  show Go _ _ _ _ _ _ _ _ (mkF m 20 #[.val (.ref a0), .val (.ref a1), .val (.int (0 : Int32))] [(.int (0 : Int32)), (.ref a1), (.double x0), (.int (0 : Int32)), (.ref as)])
  obtain ⟨cl6, Ar6, -, S6, -, H6, -⟩ := id V_a1
  have hin6 : ¬ ((0 : Int32) < 0 ∨ cl6.slots.size ≤ ((0 : Int32)).toNatClampNeg) := inb_of S6 ⟨by decide, by decide⟩
  refine Go.on (X4.daload hx (j := (0 : Int32)) (v := (.double y0)) (by rw [e4]; exact Ar6.1) (State.isArrayOf_alike hZ.alike Ar6.2.1) Ar6.2.2 hin6 (H6.at hin6 (rfl)) (g := (mkF m 20 #[.val (.ref a0), .val (.ref a1), .val (.int (0 : Int32))] [(.int (0 : Int32)), (.ref a1), (.double x0), (.int (0 : Int32)), (.ref as)])) rfl rfl (hb hby d6_20)) ?_
  show Go _ _ _ _ _ _ _ _ (mkF m 21 #[.val (.ref a0), .val (.ref a1), .val (.int (0 : Int32))] [(.double y0), (.double x0), (.int (0 : Int32)), (.ref as)])
  refine Go.on (fun _ k => XS.daddS X4.here hx rfl (hb hby d6_21) rfl (hs0) rfl k) ?_
  show Go _ _ _ _ _ _ _ _ (mkF m 22 #[.val (.ref a0), .val (.ref a1), .val (.int (0 : Int32))] [(.double (FP.dadd x0 y0)), (.int (0 : Int32)), (.ref as)])
  obtain ⟨cl7, Ar7, q7, S7, N7n, H7, G7⟩ := id V_as
  have hin7 : ¬ ((0 : Int32) < 0 ∨ cl7.slots.size ≤ ((0 : Int32)).toNatClampNeg) := inb_of S7 ⟨by decide, by decide⟩
  obtain ⟨T7, h7, X7, e7, W7, st7⟩ := stD X4 hx hZ e4 Ar7 (j := (0 : Int32)) hin7 (g := (mkF m 22 #[.val (.ref a0), .val (.ref a1), .val (.int (0 : Int32))] [(.double (FP.dadd x0 y0)), (.int (0 : Int32)), (.ref as)])) rfl rfl (hb hby d6_22)
  replace V_as := Arv.set Ar7 q7 S7 N7n H7 G7 rfl W7 0 rfl (Nat.le_of_ble_eq_true rfl)
  replace E_a0 := E_a0.wr W7
  replace F_sum_a0 := F_sum_a0.other W7 (Or.inl ne_a0_as)
  replace F_count_a0 := F_count_a0.other W7 (Or.inl ne_a0_as)
  replace V_a1 := V_a1.other W7 ne_a1_as
  refine Go.on st7 ?_
  have N7 := Fr.snoc X7 N0 g_as
  replace ZZ := Nat.le_trans ZZ (Keep.of_wr W7).1
  replace KP := KP.wr W7 (Or.inl (List.mem_of_getElem? (i := 1) rfl))
  change Arv Z h7 as k_as .double (2 : Int32) [(.double (FP.dadd x0 y0)), (.double x1)] (.double (0 : UInt64)) at V_as
  show Go _ _ _ _ _ _ _ _ (mkF m 23 #[.val (.ref a0), .val (.ref a1), .val (.int (0 : Int32))] [])
  refine Go.on (fun _ k => XS.iinc X7.here hx rfl (hb hby d6_23) rfl (l' := #[.val (.ref a0), .val (.ref a1), .val (.int (1 : Int32))]) rfl k) ?_
  show Go _ _ _ _ _ _ _ _ (mkF m 26 #[.val (.ref a0), .val (.ref a1), .val (.int (1 : Int32))] [])
  refine Go.on (fun _ k => XS.goto X7.here hx rfl (pc0 := 26) (pc' := 2) rfl (hb hby d6_26) (by decide) (by decide) k) ?_
  show Go _ _ _ _ _ _ _ _ (mkF m 2 #[.val (.ref a0), .val (.ref a1), .val (.int (1 : Int32))] [])
  refine Go.on (fun _ k => XS.iloadN X7.here hx rfl (hb hby d6_2) rfl k) ?_
  show Go _ _ _ _ _ _ _ _ (mkF m 3 #[.val (.ref a0), .val (.ref a1), .val (.int (1 : Int32))] [(.int (1 : Int32))])
  refine Go.on (fun _ k => XS.aloadN X7.here hx rfl (hb hby d6_3) rfl rfl k) ?_
  show Go _ _ _ _ _ _ _ _ (mkF m 4 #[.val (.ref a0), .val (.ref a1), .val (.int (1 : Int32))] [(.ref a0), (.int (1 : Int32))])
  obtain ⟨T8, X8, e8, st8⟩ := getF X7 hx hZ hown (host := "") (Or.inl (hw _ (List.mem_of_getElem? (i := 10) rfl))) Via.refl e7 F_sum_a0 (g := (mkF m 4 #[.val (.ref a0), .val (.ref a1), .val (.int (1 : Int32))] [(.ref a0), (.int (1 : Int32))])) rfl rfl (hb hby d6_4)
  refine Go.on st8 ?_
  show Go _ _ _ _ _ _ _ _ (mkF m 7 #[.val (.ref a0), .val (.ref a1), .val (.int (1 : Int32))] [(.ref as), (.int (1 : Int32))])
  obtain ⟨cl9, Ar9, -, S9, N9n, -, -⟩ := id V_as
  refine Go.on (X8.arraylength hx (by rw [e8]; exact Ar9.1) (State.isArrayOf_alike hZ.alike Ar9.2.1) (g := (mkF m 7 #[.val (.ref a0), .val (.ref a1), .val (.int (1 : Int32))] [(.ref as), (.int (1 : Int32))])) rfl rfl (hb hby d6_7)) ?_
  rw [len_of S9 N9n]
  show Go _ _ _ _ _ _ _ _ (mkF m 8 #[.val (.ref a0), .val (.ref a1), .val (.int (1 : Int32))] [(.int (2 : Int32)), (.int (1 : Int32))])
  have hc10 : (1 : Int32) < (2 : Int32) := by decide
  refine Go.on (fun _ k => XS.icmpNo X8.here hx rfl (hb hby d6_8) rfl (tlt hc10).2.1 k) ?_
  show Go _ _ _ _ _ _ _ _ (mkF m 11 #[.val (.ref a0), .val (.ref a1), .val (.int (1 : Int32))] [])
  refine Go.on (fun _ k => XS.aloadN X8.here hx rfl (hb hby d6_11) rfl rfl k) ?_
  show Go _ _ _ _ _ _ _ _ (mkF m 12 #[.val (.ref a0), .val (.ref a1), .val (.int (1 : Int32))] [(.ref a0)])
  obtain ⟨T11, X11, e11, st11⟩ := getF X8 hx hZ hown (host := "") (Or.inl (hw _ (List.mem_of_getElem? (i := 10) rfl))) Via.refl e8 F_sum_a0 (g := (mkF m 12 #[.val (.ref a0), .val (.ref a1), .val (.int (1 : Int32))] [(.ref a0)])) rfl rfl (hb hby d6_12)
  refine Go.on st11 ?_
  show Go _ _ _ _ _ _ _ _ (mkF m 15 #[.val (.ref a0), .val (.ref a1), .val (.int (1 : Int32))] [(.ref as)])
  refine Go.on (fun _ k => XS.iloadN X11.here hx rfl (hb hby d6_15) rfl k) ?_
  show Go _ _ _ _ _ _ _ _ (mkF m 16 #[.val (.ref a0), .val (.ref a1), .val (.int (1 : Int32))] [(.int (1 : Int32)), (.ref as)])
  refine Go.on (fun _ k => Jvm.Free.XT.dup2 X11.here hx rfl (hb hby d6_16) rfl rfl rfl k) ?_
  show Go _ _ _ _ _ _ _ _ (mkF m 17 #[.val (.ref a0), .val (.ref a1), .val (.int (1 : Int32))] [(.int (1 : Int32)), (.ref as), (.int (1 : Int32)), (.ref as)])
  obtain ⟨cl12, Ar12, -, S12, -, H12, -⟩ := id V_as
  have hin12 : ¬ ((1 : Int32) < 0 ∨ cl12.slots.size ≤ ((1 : Int32)).toNatClampNeg) := inb_of S12 ⟨by decide, by decide⟩
  refine Go.on (X11.daload hx (j := (1 : Int32)) (v := (.double x1)) (by rw [e11]; exact Ar12.1) (State.isArrayOf_alike hZ.alike Ar12.2.1) Ar12.2.2 hin12 (H12.at hin12 (rfl)) (g := (mkF m 17 #[.val (.ref a0), .val (.ref a1), .val (.int (1 : Int32))] [(.int (1 : Int32)), (.ref as), (.int (1 : Int32)), (.ref as)])) rfl rfl (hb hby d6_17)) ?_
  show Go _ _ _ _ _ _ _ _ (mkF m 18 #[.val (.ref a0), .val (.ref a1), .val (.int (1 : Int32))] [(.double x1), (.int (1 : Int32)), (.ref as)])
  refine Go.on (fun _ k => XS.aloadN X11.here hx rfl (hb hby d6_18) rfl rfl k) ?_
  show Go _ _ _ _ _ _ _ _ (mkF m 19 #[.val (.ref a0), .val (.ref a1), .val (.int (1 : Int32))] [(.ref a1), (.double x1), (.int (1 : Int32)), (.ref as)])
  refine Go.on (fun _ k => XS.iloadN X11.here hx rfl (hb hby d6_19) rfl k) ?_
  show Go _ _ _ _ _ _ _ _ (mkF m 20 #[.val (.ref a0), .val (.ref a1), .val (.int (1 : Int32))] [(.int (1 : Int32)), (.ref a1), (.double x1), (.int (1 : Int32)), (.ref as)])
  obtain ⟨cl13, Ar13, -, S13, -, H13, -⟩ := id V_a1
  have hin13 : ¬ ((1 : Int32) < 0 ∨ cl13.slots.size ≤ ((1 : Int32)).toNatClampNeg) := inb_of S13 ⟨by decide, by decide⟩
  refine Go.on (X11.daload hx (j := (1 : Int32)) (v := (.double y1)) (by rw [e11]; exact Ar13.1) (State.isArrayOf_alike hZ.alike Ar13.2.1) Ar13.2.2 hin13 (H13.at hin13 (rfl)) (g := (mkF m 20 #[.val (.ref a0), .val (.ref a1), .val (.int (1 : Int32))] [(.int (1 : Int32)), (.ref a1), (.double x1), (.int (1 : Int32)), (.ref as)])) rfl rfl (hb hby d6_20)) ?_
  show Go _ _ _ _ _ _ _ _ (mkF m 21 #[.val (.ref a0), .val (.ref a1), .val (.int (1 : Int32))] [(.double y1), (.double x1), (.int (1 : Int32)), (.ref as)])
  refine Go.on (fun _ k => XS.daddS X11.here hx rfl (hb hby d6_21) rfl (hs1) rfl k) ?_
  show Go _ _ _ _ _ _ _ _ (mkF m 22 #[.val (.ref a0), .val (.ref a1), .val (.int (1 : Int32))] [(.double (FP.dadd x1 y1)), (.int (1 : Int32)), (.ref as)])
  obtain ⟨cl14, Ar14, q14, S14, N14n, H14, G14⟩ := id V_as
  have hin14 : ¬ ((1 : Int32) < 0 ∨ cl14.slots.size ≤ ((1 : Int32)).toNatClampNeg) := inb_of S14 ⟨by decide, by decide⟩
  obtain ⟨T14, h14, X14, e14, W14, st14⟩ := stD X11 hx hZ e11 Ar14 (j := (1 : Int32)) hin14 (g := (mkF m 22 #[.val (.ref a0), .val (.ref a1), .val (.int (1 : Int32))] [(.double (FP.dadd x1 y1)), (.int (1 : Int32)), (.ref as)])) rfl rfl (hb hby d6_22)
  replace V_as := Arv.set Ar14 q14 S14 N14n H14 G14 rfl W14 1 rfl (Nat.le_of_ble_eq_true rfl)
  replace E_a0 := E_a0.wr W14
  replace F_sum_a0 := F_sum_a0.other W14 (Or.inl ne_a0_as)
  replace F_count_a0 := F_count_a0.other W14 (Or.inl ne_a0_as)
  replace V_a1 := V_a1.other W14 ne_a1_as
  refine Go.on st14 ?_
  have N14 := Fr.snoc X14 N7 g_as
  replace ZZ := Nat.le_trans ZZ (Keep.of_wr W14).1
  replace KP := KP.wr W14 (Or.inl (List.mem_of_getElem? (i := 1) rfl))
  change Arv Z h14 as k_as .double (2 : Int32) [(.double (FP.dadd x0 y0)), (.double (FP.dadd x1 y1))] (.double (0 : UInt64)) at V_as
  show Go _ _ _ _ _ _ _ _ (mkF m 23 #[.val (.ref a0), .val (.ref a1), .val (.int (1 : Int32))] [])
  refine Go.on (fun _ k => XS.iinc X14.here hx rfl (hb hby d6_23) rfl (l' := #[.val (.ref a0), .val (.ref a1), .val (.int (2 : Int32))]) rfl k) ?_
  show Go _ _ _ _ _ _ _ _ (mkF m 26 #[.val (.ref a0), .val (.ref a1), .val (.int (2 : Int32))] [])
  refine Go.on (fun _ k => XS.goto X14.here hx rfl (pc0 := 26) (pc' := 2) rfl (hb hby d6_26) (by decide) (by decide) k) ?_
  show Go _ _ _ _ _ _ _ _ (mkF m 2 #[.val (.ref a0), .val (.ref a1), .val (.int (2 : Int32))] [])
  refine Go.on (fun _ k => XS.iloadN X14.here hx rfl (hb hby d6_2) rfl k) ?_
  show Go _ _ _ _ _ _ _ _ (mkF m 3 #[.val (.ref a0), .val (.ref a1), .val (.int (2 : Int32))] [(.int (2 : Int32))])
  refine Go.on (fun _ k => XS.aloadN X14.here hx rfl (hb hby d6_3) rfl rfl k) ?_
  show Go _ _ _ _ _ _ _ _ (mkF m 4 #[.val (.ref a0), .val (.ref a1), .val (.int (2 : Int32))] [(.ref a0), (.int (2 : Int32))])
  obtain ⟨T15, X15, e15, st15⟩ := getF X14 hx hZ hown (host := "") (Or.inl (hw _ (List.mem_of_getElem? (i := 10) rfl))) Via.refl e14 F_sum_a0 (g := (mkF m 4 #[.val (.ref a0), .val (.ref a1), .val (.int (2 : Int32))] [(.ref a0), (.int (2 : Int32))])) rfl rfl (hb hby d6_4)
  refine Go.on st15 ?_
  show Go _ _ _ _ _ _ _ _ (mkF m 7 #[.val (.ref a0), .val (.ref a1), .val (.int (2 : Int32))] [(.ref as), (.int (2 : Int32))])
  obtain ⟨cl16, Ar16, -, S16, N16n, -, -⟩ := id V_as
  refine Go.on (X15.arraylength hx (by rw [e15]; exact Ar16.1) (State.isArrayOf_alike hZ.alike Ar16.2.1) (g := (mkF m 7 #[.val (.ref a0), .val (.ref a1), .val (.int (2 : Int32))] [(.ref as), (.int (2 : Int32))])) rfl rfl (hb hby d6_7)) ?_
  rw [len_of S16 N16n]
  show Go _ _ _ _ _ _ _ _ (mkF m 8 #[.val (.ref a0), .val (.ref a1), .val (.int (2 : Int32))] [(.int (2 : Int32)), (.int (2 : Int32))])
  have hc17 : ¬ ((2 : Int32) < (2 : Int32)) := by decide
  refine Go.on (fun _ k => XS.icmpYes X15.here hx rfl (pc0 := 8) (pc' := 29) rfl (hb hby d6_8) rfl (flt hc17).2.1 (by decide) (by decide) k) ?_
  show Go _ _ _ _ _ _ _ _ (mkF m 29 #[.val (.ref a0), .val (.ref a1), .val (.int (2 : Int32))] [])
  refine Go.on (fun _ k => XS.aloadN X15.here hx rfl (hb hby d6_29) rfl rfl k) ?_
  show Go _ _ _ _ _ _ _ _ (mkF m 30 #[.val (.ref a0), .val (.ref a1), .val (.int (2 : Int32))] [(.ref a0)])
  refine Go.on (fun _ k => XS.dup X15.here hx rfl (hb hby d6_30) rfl rfl k) ?_
  show Go _ _ _ _ _ _ _ _ (mkF m 31 #[.val (.ref a0), .val (.ref a1), .val (.int (2 : Int32))] [(.ref a0), (.ref a0)])
  obtain ⟨T18, X18, e18, st18⟩ := getF X15 hx hZ hown (host := "") (Or.inl (hw _ (List.mem_of_getElem? (i := 28) rfl))) Via.refl e15 F_count_a0 (g := (mkF m 31 #[.val (.ref a0), .val (.ref a1), .val (.int (2 : Int32))] [(.ref a0), (.ref a0)])) rfl rfl (hb hby d6_31)
  refine Go.on st18 ?_
  show Go _ _ _ _ _ _ _ _ (mkF m 34 #[.val (.ref a0), .val (.ref a1), .val (.int (2 : Int32))] [(.int ct), (.ref a0)])
  refine Go.on (fun _ k => XS.iconst X18.here hx rfl (hb hby d6_34) k) ?_
  show Go _ _ _ _ _ _ _ _ (mkF m 35 #[.val (.ref a0), .val (.ref a1), .val (.int (2 : Int32))] [(.int (1 : Int32)), (.int ct), (.ref a0)])
  refine Go.on (fun _ k => XS.iadd X18.here hx rfl (hb hby d6_35) rfl k) ?_
  show Go _ _ _ _ _ _ _ _ (mkF m 36 #[.val (.ref a0), .val (.ref a1), .val (.int (2 : Int32))] [(.int (ct + (1 : Int32))), (.ref a0)])
  obtain ⟨T19, h19, X19, e19, W19, st19⟩ := putF X18 hx hZ hown (host := "") (Or.inl (hw _ (List.mem_of_getElem? (i := 28) rfl))) Via.refl e18 F_count_a0 E_a0 (Or.inl (hw _ (List.mem_of_getElem? (i := 29) rfl))) (hw _ (List.mem_of_getElem? (i := 1) rfl)) (ty := .int) (by decide) rfl rfl (g := (mkF m 36 #[.val (.ref a0), .val (.ref a1), .val (.int (2 : Int32))] [(.int (ct + (1 : Int32))), (.ref a0)])) rfl rfl (hb hby d6_36)
  refine Go.on st19 ?_
  replace F_count_a0 := F_count_a0.same W19
  replace E_a0 := E_a0.wr W19
  replace F_sum_a0 := F_sum_a0.other W19 (Or.inr (slot_ne (Or.inr (hw _ (List.mem_of_getElem? (i := 11) rfl))) (Or.inl (hw _ (List.mem_of_getElem? (i := 29) rfl))) (by decide) (t := (.array .double)) (t' := .int) (by decide) (by decide)))
  replace V_as := V_as.other W19 (Ne.symm ne_a0_as)
  replace V_a1 := V_a1.other W19 ne_a1_a0
  have N19 := Fr.snoc X19 N14 g_a0
  replace ZZ := Nat.le_trans ZZ (Keep.of_wr W19).1
  replace KP := KP.wr W19 (Or.inl (List.mem_of_getElem? (i := 0) rfl))
  show Go _ _ _ _ _ _ _ _ (mkF m 39 #[.val (.ref a0), .val (.ref a1), .val (.int (2 : Int32))] [])
  refine Go.ret0 X19 hx Bd.returns (hb hby d6_39) ?_ (by rw [hK1]; decide) (by rw [hK2]; decide)
  rw [e19, ← hQQ]
  exact ⟨rfl, N19, KP, E_a0, F_sum_a0, F_count_a0, V_as⟩
theorem ef_cm_2 (m : MethodId) (a0 : Addr) : entryFrame m #[(.ref a0)] 3 = mkF m 0 #[.val (.ref a0), .unset, .unset] [] := by first | (simp [entryFrame, mkF, argsToLocals, Value.category]; done) | rfl
def Q_cm_2 (Z : State) (a0 : Addr) (as : Addr) (ct : Int32) (k_as : ClassId) (x0 : UInt64) (x1 : UInt64) (h0 : Heap) (n0 : Nat) (v : Option Value) (h : Heap) (L : List Loc) : Prop := ∃ (ar : Addr) (k_ar : ClassId), v = some (.ref ar) ∧ Fr n0 L ∧ Keep h0 h [] ∧ h0.size ≤ ar ∧ Arv Z h ar k_ar .double (2 : Int32) [(.double (FP.ddiv x0 (FP.i2d ct))), (.double (FP.ddiv x1 (FP.i2d ct)))] (.double (0 : UInt64))
set_option maxRecDepth 65536 in
set_option maxHeartbeats 40000000 in
theorem cm_2 (l : Launch) (Z : State) (aw : Array Value) (hw : ∀ d ∈ tables_1, d.before aw Z = true) (ws : List Jvm.Cond) (a0 : Addr) (as : Addr) (ct : Int32) (k_as : ClassId) (x0 : UInt64) (x1 : UInt64) (h0 : Heap) (n0 : Nat) (Z0 : n0 ≤ h0.size) (F_sum_a0 : Fld Z h0 a0 "com/example/d2rank/d2rank/rerank/Centroid" "sum" "[D" (.ref as)) (F_count_a0 : Fld Z h0 a0 "com/example/d2rank/d2rank/rerank/Centroid" "count" "I" (.int ct)) (V_as : Arv Z h0 as k_as .double (2 : Int32) [(.double x0), (.double x1)] (.double (0 : UInt64))) (hd0 : Jvm.Free.Fl.NoNaN64 (FP.ddiv x0 (FP.i2d ct))) (hd1 : Jvm.Free.Fl.NoNaN64 (FP.ddiv x1 (FP.i2d ct))) :
    MetFree l (⟨"com/example/d2rank/d2rank/rerank/Centroid", "mean", "()[D"⟩ : MethodName) (head1 (Jvm.Cond.code (⟨"com/example/d2rank/d2rank/rerank/Centroid", "mean", "()[D"⟩ : MethodName) prog_44_method_4_code 3 (some (.array .double)) :: ws) ({ frames := 0, cells := 1, slots := 2, locals := 0 } : Room)) (fun a U => a = #[(.ref a0)] ∧ Z.Warmed39 U.vm ∧ U.heap = h0) (fun _ _ _ _ _ => True) (fun _ U o U' => ∃ v L, o = .returned v ∧ Q_cm_2 Z a0 as ct k_as x0 x1 h0 n0 v U'.heap L ∧ FrameEnd U o U' L ({ frames := 0, cells := 1, slots := 2, locals := 0 } : Room).cells ({ frames := 0, cells := 1, slots := 2, locals := 0 } : Room).slots) := by
  refine MetFree.of_bodySF (plainFor_of_name pn_1) hisR ?_
  intro p e s m args below meth c s₁ Bd hml0 hP hK
  obtain ⟨rfl, hZ, hh⟩ := hP
  have hx := Bd.exec
  have hby := Bd.bytes
  have hml : c.maxLocals = 3 := hml0
  have hown : s.vm.findClass "com/example/d2rank/d2rank/rerank/Centroid" = some m.cls := findClass_of_methodNamed Bd.named
  have hnm := (name_of_methodNamed Bd.named Bd.method).1
  have hlk : meth.locks = false := BodyLoose.notSynchronized Bd
  have X0 : Stand p l e ({ frames := 0, cells := 1, slots := 2, locals := 0 } : Room) s m #[(.ref a0)] below meth c s₁ [] 0 0 := Stand.of_body Bd
  have e0 : s₁.heap = h0 := by rw [← hh, Bd.state]; rfl
  have N0 := Fr.nil n0
  have ZZ := Z0
  show Go p e below s ({ frames := 0, cells := 1, slots := 2, locals := 0 } : Room).cells ({ frames := 0, cells := 1, slots := 2, locals := 0 } : Room).slots (fun v h L => Q_cm_2 Z a0 as ct k_as x0 x1 h0 n0 v h L) s₁ (entryFrame m #[(.ref a0)] 3)
  refine Go.cast (ef_cm_2 m a0) ?_
  refine Go.gen ?_
  intro K1 K2 QQ hK1 hK2 hQQ
  have KP : Keep h0 h0 [] := Keep.refl _ _
  refine Go.on (fun _ k => XS.aloadN X0.here hx rfl (hb hby d7_0) rfl rfl k) ?_
  show Go _ _ _ _ _ _ _ _ (mkF m 1 #[.val (.ref a0), .unset, .unset] [(.ref a0)])
  obtain ⟨T1, X1, e1, st1⟩ := getF X0 hx hZ hown (host := "") (Or.inl (hw _ (List.mem_of_getElem? (i := 10) rfl))) Via.refl e0 F_sum_a0 (g := (mkF m 1 #[.val (.ref a0), .unset, .unset] [(.ref a0)])) rfl rfl (hb hby d7_1)
  refine Go.on st1 ?_
  show Go _ _ _ _ _ _ _ _ (mkF m 4 #[.val (.ref a0), .unset, .unset] [(.ref as)])
  obtain ⟨cl2, Ar2, -, S2, N2n, -, -⟩ := id V_as
  refine Go.on (X1.arraylength hx (by rw [e1]; exact Ar2.1) (State.isArrayOf_alike hZ.alike Ar2.2.1) (g := (mkF m 4 #[.val (.ref a0), .unset, .unset] [(.ref as)])) rfl rfl (hb hby d7_4)) ?_
  rw [len_of S2 N2n]
  show Go _ _ _ _ _ _ _ _ (mkF m 5 #[.val (.ref a0), .unset, .unset] [(.int (2 : Int32))])
  obtain ⟨T3, h3, k_ar, X3, e3, E3, A3, st3⟩ := newP X1 hx hZ (hw _ (List.mem_of_getElem? (i := 9) rfl)) e1 (g := (mkF m 5 #[.val (.ref a0), .unset, .unset] [(.int (2 : Int32))])) rfl (hb hby d7_5) rfl (by decide) (cap := 2) (by decide) (by decide) (by decide) (by decide)
  obtain ⟨ar, g3⟩ : ∃ z, z = h0.size := ⟨_, rfl⟩
  have ne_a0_ar : a0 ≠ ar := Nat.ne_of_lt (Nat.lt_of_lt_of_le F_sum_a0.lt (Nat.le_of_eq g3.symm))
  have ne_as_ar : as ≠ ar := Nat.ne_of_lt (Nat.lt_of_lt_of_le V_as.lt (Nat.le_of_eq g3.symm))
  have g_ar : n0 ≤ ar := Nat.le_trans ZZ (Nat.le_of_eq g3.symm)
  have sz_ar : h0.size ≤ ar := Nat.le_trans KP.1 (Nat.le_of_eq g3.symm)
  rw [← g3] at A3 st3
  replace F_sum_a0 := F_sum_a0.ext E3
  replace F_count_a0 := F_count_a0.ext E3
  replace V_as := V_as.ext E3
  replace ZZ := Nat.le_trans ZZ E3.1
  replace KP := KP.ext E3
  have V_ar : Arv Z h3 ar k_ar .double (2 : Int32) [(.double (0 : UInt64)), (.double (0 : UInt64))] (.double (0 : UInt64)) := (Arv.new A3 (by decide)).pad (pad_rep [] (.double (0 : UInt64)) 2)
  refine Go.on st3 ?_
  show Go _ _ _ _ _ _ _ _ (mkF m 7 #[.val (.ref a0), .unset, .unset] [(.ref ar)])
  refine Go.on (fun _ k => XS.astoreN X3.here hx rfl (hb hby d7_7) rfl rfl (l' := #[.val (.ref a0), .val (.ref ar), .unset]) rfl k) ?_
  show Go _ _ _ _ _ _ _ _ (mkF m 8 #[.val (.ref a0), .val (.ref ar), .unset] [])
  refine Go.on (fun _ k => XS.iconst X3.here hx rfl (hb hby d7_8) k) ?_
  show Go _ _ _ _ _ _ _ _ (mkF m 9 #[.val (.ref a0), .val (.ref ar), .unset] [(.int (0 : Int32))])
  refine Go.on (fun _ k => XS.istoreN X3.here hx rfl (hb hby d7_9) rfl (l' := #[.val (.ref a0), .val (.ref ar), .val (.int (0 : Int32))]) rfl k) ?_
  show Go _ _ _ _ _ _ _ _ (mkF m 10 #[.val (.ref a0), .val (.ref ar), .val (.int (0 : Int32))] [])
  refine Go.on (fun _ k => XS.iloadN X3.here hx rfl (hb hby d7_10) rfl k) ?_
  show Go _ _ _ _ _ _ _ _ (mkF m 11 #[.val (.ref a0), .val (.ref ar), .val (.int (0 : Int32))] [(.int (0 : Int32))])
  refine Go.on (fun _ k => XS.aloadN X3.here hx rfl (hb hby d7_11) rfl rfl k) ?_
  show Go _ _ _ _ _ _ _ _ (mkF m 12 #[.val (.ref a0), .val (.ref ar), .val (.int (0 : Int32))] [(.ref a0), (.int (0 : Int32))])
  obtain ⟨T4, X4, e4, st4⟩ := getF X3 hx hZ hown (host := "") (Or.inl (hw _ (List.mem_of_getElem? (i := 10) rfl))) Via.refl e3 F_sum_a0 (g := (mkF m 12 #[.val (.ref a0), .val (.ref ar), .val (.int (0 : Int32))] [(.ref a0), (.int (0 : Int32))])) rfl rfl (hb hby d7_12)
  refine Go.on st4 ?_
  show Go _ _ _ _ _ _ _ _ (mkF m 15 #[.val (.ref a0), .val (.ref ar), .val (.int (0 : Int32))] [(.ref as), (.int (0 : Int32))])
  obtain ⟨cl5, Ar5, -, S5, N5n, -, -⟩ := id V_as
  refine Go.on (X4.arraylength hx (by rw [e4]; exact Ar5.1) (State.isArrayOf_alike hZ.alike Ar5.2.1) (g := (mkF m 15 #[.val (.ref a0), .val (.ref ar), .val (.int (0 : Int32))] [(.ref as), (.int (0 : Int32))])) rfl rfl (hb hby d7_15)) ?_
  rw [len_of S5 N5n]
  show Go _ _ _ _ _ _ _ _ (mkF m 16 #[.val (.ref a0), .val (.ref ar), .val (.int (0 : Int32))] [(.int (2 : Int32)), (.int (0 : Int32))])
  have hc6 : (0 : Int32) < (2 : Int32) := by decide
  refine Go.on (fun _ k => XS.icmpNo X4.here hx rfl (hb hby d7_16) rfl (tlt hc6).2.1 k) ?_
  show Go _ _ _ _ _ _ _ _ (mkF m 19 #[.val (.ref a0), .val (.ref ar), .val (.int (0 : Int32))] [])
  refine Go.on (fun _ k => XS.aloadN X4.here hx rfl (hb hby d7_19) rfl rfl k) ?_
  show Go _ _ _ _ _ _ _ _ (mkF m 20 #[.val (.ref a0), .val (.ref ar), .val (.int (0 : Int32))] [(.ref ar)])
  refine Go.on (fun _ k => XS.iloadN X4.here hx rfl (hb hby d7_20) rfl k) ?_
  show Go _ _ _ _ _ _ _ _ (mkF m 21 #[.val (.ref a0), .val (.ref ar), .val (.int (0 : Int32))] [(.int (0 : Int32)), (.ref ar)])
  refine Go.on (fun _ k => XS.aloadN X4.here hx rfl (hb hby d7_21) rfl rfl k) ?_
  show Go _ _ _ _ _ _ _ _ (mkF m 22 #[.val (.ref a0), .val (.ref ar), .val (.int (0 : Int32))] [(.ref a0), (.int (0 : Int32)), (.ref ar)])
  obtain ⟨T7, X7, e7, st7⟩ := getF X4 hx hZ hown (host := "") (Or.inl (hw _ (List.mem_of_getElem? (i := 10) rfl))) Via.refl e4 F_sum_a0 (g := (mkF m 22 #[.val (.ref a0), .val (.ref ar), .val (.int (0 : Int32))] [(.ref a0), (.int (0 : Int32)), (.ref ar)])) rfl rfl (hb hby d7_22)
  refine Go.on st7 ?_
  show Go _ _ _ _ _ _ _ _ (mkF m 25 #[.val (.ref a0), .val (.ref ar), .val (.int (0 : Int32))] [(.ref as), (.int (0 : Int32)), (.ref ar)])
  refine Go.on (fun _ k => XS.iloadN X7.here hx rfl (hb hby d7_25) rfl k) ?_
  show Go _ _ _ _ _ _ _ _ (mkF m 26 #[.val (.ref a0), .val (.ref ar), .val (.int (0 : Int32))] [(.int (0 : Int32)), (.ref as), (.int (0 : Int32)), (.ref ar)])
  obtain ⟨cl8, Ar8, -, S8, -, H8, -⟩ := id V_as
  have hin8 : ¬ ((0 : Int32) < 0 ∨ cl8.slots.size ≤ ((0 : Int32)).toNatClampNeg) := inb_of S8 ⟨by decide, by decide⟩
  refine Go.on (X7.daload hx (j := (0 : Int32)) (v := (.double x0)) (by rw [e7]; exact Ar8.1) (State.isArrayOf_alike hZ.alike Ar8.2.1) Ar8.2.2 hin8 (H8.at hin8 (rfl)) (g := (mkF m 26 #[.val (.ref a0), .val (.ref ar), .val (.int (0 : Int32))] [(.int (0 : Int32)), (.ref as), (.int (0 : Int32)), (.ref ar)])) rfl rfl (hb hby d7_26)) ?_
  show Go _ _ _ _ _ _ _ _ (mkF m 27 #[.val (.ref a0), .val (.ref ar), .val (.int (0 : Int32))] [(.double x0), (.int (0 : Int32)), (.ref ar)])
  refine Go.on (fun _ k => XS.aloadN X7.here hx rfl (hb hby d7_27) rfl rfl k) ?_
  show Go _ _ _ _ _ _ _ _ (mkF m 28 #[.val (.ref a0), .val (.ref ar), .val (.int (0 : Int32))] [(.ref a0), (.double x0), (.int (0 : Int32)), (.ref ar)])
  obtain ⟨T9, X9, e9, st9⟩ := getF X7 hx hZ hown (host := "") (Or.inl (hw _ (List.mem_of_getElem? (i := 28) rfl))) Via.refl e7 F_count_a0 (g := (mkF m 28 #[.val (.ref a0), .val (.ref ar), .val (.int (0 : Int32))] [(.ref a0), (.double x0), (.int (0 : Int32)), (.ref ar)])) rfl rfl (hb hby d7_28)
  refine Go.on st9 ?_
  show Go _ _ _ _ _ _ _ _ (mkF m 31 #[.val (.ref a0), .val (.ref ar), .val (.int (0 : Int32))] [(.int ct), (.double x0), (.int (0 : Int32)), (.ref ar)])
  refine Go.on (fun _ k => XS.i2dS X9.here hx rfl (hb hby d7_31) rfl rfl k) ?_
  show Go _ _ _ _ _ _ _ _ (mkF m 32 #[.val (.ref a0), .val (.ref ar), .val (.int (0 : Int32))] [(.double (FP.i2d ct)), (.double x0), (.int (0 : Int32)), (.ref ar)])
  refine Go.on (fun _ k => XS.ddivS X9.here hx rfl (hb hby d7_32) rfl (hd0) rfl k) ?_
  show Go _ _ _ _ _ _ _ _ (mkF m 33 #[.val (.ref a0), .val (.ref ar), .val (.int (0 : Int32))] [(.double (FP.ddiv x0 (FP.i2d ct))), (.int (0 : Int32)), (.ref ar)])
  obtain ⟨cl10, Ar10, q10, S10, N10n, H10, G10⟩ := id V_ar
  have hin10 : ¬ ((0 : Int32) < 0 ∨ cl10.slots.size ≤ ((0 : Int32)).toNatClampNeg) := inb_of S10 ⟨by decide, by decide⟩
  obtain ⟨T10, h10, X10, e10, W10, st10⟩ := stD X9 hx hZ e9 Ar10 (j := (0 : Int32)) hin10 (g := (mkF m 33 #[.val (.ref a0), .val (.ref ar), .val (.int (0 : Int32))] [(.double (FP.ddiv x0 (FP.i2d ct))), (.int (0 : Int32)), (.ref ar)])) rfl rfl (hb hby d7_33)
  replace V_ar := Arv.set Ar10 q10 S10 N10n H10 G10 rfl W10 0 rfl (Nat.le_of_ble_eq_true rfl)
  replace F_sum_a0 := F_sum_a0.other W10 (Or.inl ne_a0_ar)
  replace F_count_a0 := F_count_a0.other W10 (Or.inl ne_a0_ar)
  replace V_as := V_as.other W10 ne_as_ar
  refine Go.on st10 ?_
  have N10 := Fr.snoc X10 N0 g_ar
  replace ZZ := Nat.le_trans ZZ (Keep.of_wr W10).1
  replace KP := KP.wr W10 (Or.inr sz_ar)
  change Arv Z h10 ar k_ar .double (2 : Int32) [(.double (FP.ddiv x0 (FP.i2d ct))), (.double (0 : UInt64))] (.double (0 : UInt64)) at V_ar
  show Go _ _ _ _ _ _ _ _ (mkF m 34 #[.val (.ref a0), .val (.ref ar), .val (.int (0 : Int32))] [])
  refine Go.on (fun _ k => XS.iinc X10.here hx rfl (hb hby d7_34) rfl (l' := #[.val (.ref a0), .val (.ref ar), .val (.int (1 : Int32))]) rfl k) ?_
  show Go _ _ _ _ _ _ _ _ (mkF m 37 #[.val (.ref a0), .val (.ref ar), .val (.int (1 : Int32))] [])
  refine Go.on (fun _ k => XS.goto X10.here hx rfl (pc0 := 37) (pc' := 10) rfl (hb hby d7_37) (by decide) (by decide) k) ?_
  show Go _ _ _ _ _ _ _ _ (mkF m 10 #[.val (.ref a0), .val (.ref ar), .val (.int (1 : Int32))] [])
  refine Go.on (fun _ k => XS.iloadN X10.here hx rfl (hb hby d7_10) rfl k) ?_
  show Go _ _ _ _ _ _ _ _ (mkF m 11 #[.val (.ref a0), .val (.ref ar), .val (.int (1 : Int32))] [(.int (1 : Int32))])
  refine Go.on (fun _ k => XS.aloadN X10.here hx rfl (hb hby d7_11) rfl rfl k) ?_
  show Go _ _ _ _ _ _ _ _ (mkF m 12 #[.val (.ref a0), .val (.ref ar), .val (.int (1 : Int32))] [(.ref a0), (.int (1 : Int32))])
  obtain ⟨T11, X11, e11, st11⟩ := getF X10 hx hZ hown (host := "") (Or.inl (hw _ (List.mem_of_getElem? (i := 10) rfl))) Via.refl e10 F_sum_a0 (g := (mkF m 12 #[.val (.ref a0), .val (.ref ar), .val (.int (1 : Int32))] [(.ref a0), (.int (1 : Int32))])) rfl rfl (hb hby d7_12)
  refine Go.on st11 ?_
  show Go _ _ _ _ _ _ _ _ (mkF m 15 #[.val (.ref a0), .val (.ref ar), .val (.int (1 : Int32))] [(.ref as), (.int (1 : Int32))])
  obtain ⟨cl12, Ar12, -, S12, N12n, -, -⟩ := id V_as
  refine Go.on (X11.arraylength hx (by rw [e11]; exact Ar12.1) (State.isArrayOf_alike hZ.alike Ar12.2.1) (g := (mkF m 15 #[.val (.ref a0), .val (.ref ar), .val (.int (1 : Int32))] [(.ref as), (.int (1 : Int32))])) rfl rfl (hb hby d7_15)) ?_
  rw [len_of S12 N12n]
  show Go _ _ _ _ _ _ _ _ (mkF m 16 #[.val (.ref a0), .val (.ref ar), .val (.int (1 : Int32))] [(.int (2 : Int32)), (.int (1 : Int32))])
  have hc13 : (1 : Int32) < (2 : Int32) := by decide
  refine Go.on (fun _ k => XS.icmpNo X11.here hx rfl (hb hby d7_16) rfl (tlt hc13).2.1 k) ?_
  show Go _ _ _ _ _ _ _ _ (mkF m 19 #[.val (.ref a0), .val (.ref ar), .val (.int (1 : Int32))] [])
  refine Go.on (fun _ k => XS.aloadN X11.here hx rfl (hb hby d7_19) rfl rfl k) ?_
  show Go _ _ _ _ _ _ _ _ (mkF m 20 #[.val (.ref a0), .val (.ref ar), .val (.int (1 : Int32))] [(.ref ar)])
  refine Go.on (fun _ k => XS.iloadN X11.here hx rfl (hb hby d7_20) rfl k) ?_
  show Go _ _ _ _ _ _ _ _ (mkF m 21 #[.val (.ref a0), .val (.ref ar), .val (.int (1 : Int32))] [(.int (1 : Int32)), (.ref ar)])
  refine Go.on (fun _ k => XS.aloadN X11.here hx rfl (hb hby d7_21) rfl rfl k) ?_
  show Go _ _ _ _ _ _ _ _ (mkF m 22 #[.val (.ref a0), .val (.ref ar), .val (.int (1 : Int32))] [(.ref a0), (.int (1 : Int32)), (.ref ar)])
  obtain ⟨T14, X14, e14, st14⟩ := getF X11 hx hZ hown (host := "") (Or.inl (hw _ (List.mem_of_getElem? (i := 10) rfl))) Via.refl e11 F_sum_a0 (g := (mkF m 22 #[.val (.ref a0), .val (.ref ar), .val (.int (1 : Int32))] [(.ref a0), (.int (1 : Int32)), (.ref ar)])) rfl rfl (hb hby d7_22)
  refine Go.on st14 ?_
  show Go _ _ _ _ _ _ _ _ (mkF m 25 #[.val (.ref a0), .val (.ref ar), .val (.int (1 : Int32))] [(.ref as), (.int (1 : Int32)), (.ref ar)])
  refine Go.on (fun _ k => XS.iloadN X14.here hx rfl (hb hby d7_25) rfl k) ?_
  show Go _ _ _ _ _ _ _ _ (mkF m 26 #[.val (.ref a0), .val (.ref ar), .val (.int (1 : Int32))] [(.int (1 : Int32)), (.ref as), (.int (1 : Int32)), (.ref ar)])
  obtain ⟨cl15, Ar15, -, S15, -, H15, -⟩ := id V_as
  have hin15 : ¬ ((1 : Int32) < 0 ∨ cl15.slots.size ≤ ((1 : Int32)).toNatClampNeg) := inb_of S15 ⟨by decide, by decide⟩
  refine Go.on (X14.daload hx (j := (1 : Int32)) (v := (.double x1)) (by rw [e14]; exact Ar15.1) (State.isArrayOf_alike hZ.alike Ar15.2.1) Ar15.2.2 hin15 (H15.at hin15 (rfl)) (g := (mkF m 26 #[.val (.ref a0), .val (.ref ar), .val (.int (1 : Int32))] [(.int (1 : Int32)), (.ref as), (.int (1 : Int32)), (.ref ar)])) rfl rfl (hb hby d7_26)) ?_
  show Go _ _ _ _ _ _ _ _ (mkF m 27 #[.val (.ref a0), .val (.ref ar), .val (.int (1 : Int32))] [(.double x1), (.int (1 : Int32)), (.ref ar)])
  refine Go.on (fun _ k => XS.aloadN X14.here hx rfl (hb hby d7_27) rfl rfl k) ?_
  show Go _ _ _ _ _ _ _ _ (mkF m 28 #[.val (.ref a0), .val (.ref ar), .val (.int (1 : Int32))] [(.ref a0), (.double x1), (.int (1 : Int32)), (.ref ar)])
  obtain ⟨T16, X16, e16, st16⟩ := getF X14 hx hZ hown (host := "") (Or.inl (hw _ (List.mem_of_getElem? (i := 28) rfl))) Via.refl e14 F_count_a0 (g := (mkF m 28 #[.val (.ref a0), .val (.ref ar), .val (.int (1 : Int32))] [(.ref a0), (.double x1), (.int (1 : Int32)), (.ref ar)])) rfl rfl (hb hby d7_28)
  refine Go.on st16 ?_
  show Go _ _ _ _ _ _ _ _ (mkF m 31 #[.val (.ref a0), .val (.ref ar), .val (.int (1 : Int32))] [(.int ct), (.double x1), (.int (1 : Int32)), (.ref ar)])
  refine Go.on (fun _ k => XS.i2dS X16.here hx rfl (hb hby d7_31) rfl rfl k) ?_
  show Go _ _ _ _ _ _ _ _ (mkF m 32 #[.val (.ref a0), .val (.ref ar), .val (.int (1 : Int32))] [(.double (FP.i2d ct)), (.double x1), (.int (1 : Int32)), (.ref ar)])
  refine Go.on (fun _ k => XS.ddivS X16.here hx rfl (hb hby d7_32) rfl (hd1) rfl k) ?_
  show Go _ _ _ _ _ _ _ _ (mkF m 33 #[.val (.ref a0), .val (.ref ar), .val (.int (1 : Int32))] [(.double (FP.ddiv x1 (FP.i2d ct))), (.int (1 : Int32)), (.ref ar)])
  obtain ⟨cl17, Ar17, q17, S17, N17n, H17, G17⟩ := id V_ar
  have hin17 : ¬ ((1 : Int32) < 0 ∨ cl17.slots.size ≤ ((1 : Int32)).toNatClampNeg) := inb_of S17 ⟨by decide, by decide⟩
  obtain ⟨T17, h17, X17, e17, W17, st17⟩ := stD X16 hx hZ e16 Ar17 (j := (1 : Int32)) hin17 (g := (mkF m 33 #[.val (.ref a0), .val (.ref ar), .val (.int (1 : Int32))] [(.double (FP.ddiv x1 (FP.i2d ct))), (.int (1 : Int32)), (.ref ar)])) rfl rfl (hb hby d7_33)
  replace V_ar := Arv.set Ar17 q17 S17 N17n H17 G17 rfl W17 1 rfl (Nat.le_of_ble_eq_true rfl)
  replace F_sum_a0 := F_sum_a0.other W17 (Or.inl ne_a0_ar)
  replace F_count_a0 := F_count_a0.other W17 (Or.inl ne_a0_ar)
  replace V_as := V_as.other W17 ne_as_ar
  refine Go.on st17 ?_
  have N17 := Fr.snoc X17 N10 g_ar
  replace ZZ := Nat.le_trans ZZ (Keep.of_wr W17).1
  replace KP := KP.wr W17 (Or.inr sz_ar)
  change Arv Z h17 ar k_ar .double (2 : Int32) [(.double (FP.ddiv x0 (FP.i2d ct))), (.double (FP.ddiv x1 (FP.i2d ct)))] (.double (0 : UInt64)) at V_ar
  show Go _ _ _ _ _ _ _ _ (mkF m 34 #[.val (.ref a0), .val (.ref ar), .val (.int (1 : Int32))] [])
  refine Go.on (fun _ k => XS.iinc X17.here hx rfl (hb hby d7_34) rfl (l' := #[.val (.ref a0), .val (.ref ar), .val (.int (2 : Int32))]) rfl k) ?_
  show Go _ _ _ _ _ _ _ _ (mkF m 37 #[.val (.ref a0), .val (.ref ar), .val (.int (2 : Int32))] [])
  refine Go.on (fun _ k => XS.goto X17.here hx rfl (pc0 := 37) (pc' := 10) rfl (hb hby d7_37) (by decide) (by decide) k) ?_
  show Go _ _ _ _ _ _ _ _ (mkF m 10 #[.val (.ref a0), .val (.ref ar), .val (.int (2 : Int32))] [])
  refine Go.on (fun _ k => XS.iloadN X17.here hx rfl (hb hby d7_10) rfl k) ?_
  show Go _ _ _ _ _ _ _ _ (mkF m 11 #[.val (.ref a0), .val (.ref ar), .val (.int (2 : Int32))] [(.int (2 : Int32))])
  refine Go.on (fun _ k => XS.aloadN X17.here hx rfl (hb hby d7_11) rfl rfl k) ?_
  show Go _ _ _ _ _ _ _ _ (mkF m 12 #[.val (.ref a0), .val (.ref ar), .val (.int (2 : Int32))] [(.ref a0), (.int (2 : Int32))])
  obtain ⟨T18, X18, e18, st18⟩ := getF X17 hx hZ hown (host := "") (Or.inl (hw _ (List.mem_of_getElem? (i := 10) rfl))) Via.refl e17 F_sum_a0 (g := (mkF m 12 #[.val (.ref a0), .val (.ref ar), .val (.int (2 : Int32))] [(.ref a0), (.int (2 : Int32))])) rfl rfl (hb hby d7_12)
  refine Go.on st18 ?_
  show Go _ _ _ _ _ _ _ _ (mkF m 15 #[.val (.ref a0), .val (.ref ar), .val (.int (2 : Int32))] [(.ref as), (.int (2 : Int32))])
  obtain ⟨cl19, Ar19, -, S19, N19n, -, -⟩ := id V_as
  refine Go.on (X18.arraylength hx (by rw [e18]; exact Ar19.1) (State.isArrayOf_alike hZ.alike Ar19.2.1) (g := (mkF m 15 #[.val (.ref a0), .val (.ref ar), .val (.int (2 : Int32))] [(.ref as), (.int (2 : Int32))])) rfl rfl (hb hby d7_15)) ?_
  rw [len_of S19 N19n]
  show Go _ _ _ _ _ _ _ _ (mkF m 16 #[.val (.ref a0), .val (.ref ar), .val (.int (2 : Int32))] [(.int (2 : Int32)), (.int (2 : Int32))])
  have hc20 : ¬ ((2 : Int32) < (2 : Int32)) := by decide
  refine Go.on (fun _ k => XS.icmpYes X18.here hx rfl (pc0 := 16) (pc' := 40) rfl (hb hby d7_16) rfl (flt hc20).2.1 (by decide) (by decide) k) ?_
  show Go _ _ _ _ _ _ _ _ (mkF m 40 #[.val (.ref a0), .val (.ref ar), .val (.int (2 : Int32))] [])
  refine Go.on (fun _ k => XS.aloadN X18.here hx rfl (hb hby d7_40) rfl rfl k) ?_
  show Go _ _ _ _ _ _ _ _ (mkF m 41 #[.val (.ref a0), .val (.ref ar), .val (.int (2 : Int32))] [(.ref ar)])
  refine Go.retV X18 hx Bd.returns rfl (Or.inr (Or.inr (Or.inr (Or.inr ⟨rfl, rfl, rfl⟩)))) (hb hby d7_41) ?_ (by rw [hK1]; decide) (by rw [hK2]; decide)
  rw [e18, ← hQQ]
  exact ⟨ar, k_ar, rfl, N17, KP, sz_ar, V_ar⟩
theorem ef_cp_2 (m : MethodId) (a0 : Addr) (a1 : Addr) (i2 : Int32) (i4 : Int32) (i5 : Int32) (i6 : Int32) (i7 : Int32) : entryFrame m #[(.ref a0), (.ref a1), (.int i2), (.int (2 : Int32)), (.int i4), (.int i5), (.int i6), (.int i7)] 11 = mkF m 0 #[.val (.ref a0), .val (.ref a1), .val (.int i2), .val (.int (2 : Int32)), .val (.int i4), .val (.int i5), .val (.int i6), .val (.int i7), .unset, .unset, .unset] [] := by first | (simp [entryFrame, mkF, argsToLocals, Value.category]; done) | rfl
def Q_cp_2 (Z : State) (a0 : Addr) (a1 : Addr) (i2 : Int32) (i4 : Int32) (i5 : Int32) (i6 : Int32) (i7 : Int32) (k_a0 : ClassId) (x0 : UInt64) (x1 : UInt64) (k_a1 : ClassId) (y0 : UInt64) (y1 : UInt64) (h0 : Heap) (n0 : Nat) (v : Option Value) (h : Heap) (L : List Loc) : Prop := v = some (.int (compV (if i2 = (0 : Int32) then x0 else x1) (if i2 = (0 : Int32) then y0 else y1) i2 (2 : Int32) i4 i5 i6 i7)) ∧ Fr n0 L ∧ h = h0
set_option maxRecDepth 65536 in
set_option maxHeartbeats 40000000 in
theorem cp_2 (l : Launch) (Z : State) (aw : Array Value) (hw : ∀ d ∈ tables_1, d.before aw Z = true) (ws : List Jvm.Cond) (a0 : Addr) (a1 : Addr) (i2 : Int32) (i4 : Int32) (i5 : Int32) (i6 : Int32) (i7 : Int32) (k_a0 : ClassId) (x0 : UInt64) (x1 : UInt64) (k_a1 : ClassId) (y0 : UInt64) (y1 : UInt64) (h0 : Heap) (n0 : Nat) (Z0 : n0 ≤ h0.size) (V_a0 : Arv Z h0 a0 k_a0 .double (2 : Int32) [(.double x0), (.double x1)] (.double (0 : UInt64))) (V_a1 : Arv Z h0 a1 k_a1 .double (2 : Int32) [(.double y0), (.double y1)] (.double (0 : UInt64))) (hp : (i2 = (0 : Int32) ∨ i2 = (1 : Int32))) (hn4 : i4 ≠ 0) :
    MetFree l (⟨"com/example/d2rank/d2rank/rerank/CentroidMeanPinLaw", "comp", "([D[DIIIIII)Z"⟩ : MethodName) (head1 (Jvm.Cond.code (⟨"com/example/d2rank/d2rank/rerank/CentroidMeanPinLaw", "comp", "([D[DIIIIII)Z"⟩ : MethodName) method_7_code 11 (some .boolean) :: ws) ({ frames := 2, cells := 0, slots := 0, locals := 28 } : Room)) (fun a U => a = #[(.ref a0), (.ref a1), (.int i2), (.int (2 : Int32)), (.int i4), (.int i5), (.int i6), (.int i7)] ∧ Z.Warmed39 U.vm ∧ U.heap = h0) (fun _ _ _ _ _ => True) (fun _ U o U' => ∃ v L, o = .returned v ∧ Q_cp_2 Z a0 a1 i2 i4 i5 i6 i7 k_a0 x0 x1 k_a1 y0 y1 h0 n0 v U'.heap L ∧ FrameEnd U o U' L ({ frames := 2, cells := 0, slots := 0, locals := 28 } : Room).cells ({ frames := 2, cells := 0, slots := 0, locals := 28 } : Room).slots) := by
  refine MetFree.of_bodySF (plainFor_of_name pn_0) hisR ?_
  intro p e s m args below meth c s₁ Bd hml0 hP hK
  obtain ⟨rfl, hZ, hh⟩ := hP
  have hx := Bd.exec
  have hby := Bd.bytes
  have hml : c.maxLocals = 11 := hml0
  have hown : s.vm.findClass "com/example/d2rank/d2rank/rerank/CentroidMeanPinLaw" = some m.cls := findClass_of_methodNamed Bd.named
  have hnm := (name_of_methodNamed Bd.named Bd.method).1
  have hlk : meth.locks = false := BodyLoose.notSynchronized Bd
  have X0 : Stand p l e ({ frames := 2, cells := 0, slots := 0, locals := 28 } : Room) s m #[(.ref a0), (.ref a1), (.int i2), (.int (2 : Int32)), (.int i4), (.int i5), (.int i6), (.int i7)] below meth c s₁ [] 0 0 := Stand.of_body Bd
  have e0 : s₁.heap = h0 := by rw [← hh, Bd.state]; rfl
  have N0 := Fr.nil n0
  have ZZ := Z0
  show Go p e below s ({ frames := 2, cells := 0, slots := 0, locals := 28 } : Room).cells ({ frames := 2, cells := 0, slots := 0, locals := 28 } : Room).slots (fun v h L => Q_cp_2 Z a0 a1 i2 i4 i5 i6 i7 k_a0 x0 x1 k_a1 y0 y1 h0 n0 v h L) s₁ (entryFrame m #[(.ref a0), (.ref a1), (.int i2), (.int (2 : Int32)), (.int i4), (.int i5), (.int i6), (.int i7)] 11)
  refine Go.cast (ef_cp_2 m a0 a1 i2 i4 i5 i6 i7) ?_
  refine Go.gen ?_
  intro K1 K2 QQ hK1 hK2 hQQ
  refine Go.on (fun _ k => XS.iloadN X0.here hx rfl (hb hby d8_0) rfl k) ?_
  show Go _ _ _ _ _ _ _ _ (mkF m 1 #[.val (.ref a0), .val (.ref a1), .val (.int i2), .val (.int (2 : Int32)), .val (.int i4), .val (.int i5), .val (.int i6), .val (.int i7), .unset, .unset, .unset] [(.int i2)])
  refine Go.on (fun _ k => XS.iloadN X0.here hx rfl (hb hby d8_1) rfl k) ?_
  show Go _ _ _ _ _ _ _ _ (mkF m 2 #[.val (.ref a0), .val (.ref a1), .val (.int i2), .val (.int (2 : Int32)), .val (.int i4), .val (.int i5), .val (.int i6), .val (.int i7), .unset, .unset, .unset] [(.int (2 : Int32)), (.int i2)])
  have hc1 : i2 < (2 : Int32) := (own_inb2 hp).2
  refine Go.on (fun _ k => XS.icmpYes X0.here hx rfl (pc0 := 2) (pc' := 7) rfl (hb hby d8_2) rfl (tlt hc1).1 (by decide) (by decide) k) ?_
  show Go _ _ _ _ _ _ _ _ (mkF m 7 #[.val (.ref a0), .val (.ref a1), .val (.int i2), .val (.int (2 : Int32)), .val (.int i4), .val (.int i5), .val (.int i6), .val (.int i7), .unset, .unset, .unset] [])
  refine Go.on (fun _ k => XS.iload X0.here hx rfl (hb hby d8_7) rfl k) ?_
  show Go _ _ _ _ _ _ _ _ (mkF m 9 #[.val (.ref a0), .val (.ref a1), .val (.int i2), .val (.int (2 : Int32)), .val (.int i4), .val (.int i5), .val (.int i6), .val (.int i7), .unset, .unset, .unset] [(.int i5)])
  refine Go.on (fun _ k => XS.iloadN X0.here hx rfl (hb hby d8_9) rfl k) ?_
  show Go _ _ _ _ _ _ _ _ (mkF m 10 #[.val (.ref a0), .val (.ref a1), .val (.int i2), .val (.int (2 : Int32)), .val (.int i4), .val (.int i5), .val (.int i6), .val (.int i7), .unset, .unset, .unset] [(.int i2), (.int i5)])
  refine Go.on (fun _ k => XS.iloadN X0.here hx rfl (hb hby d8_10) rfl k) ?_
  show Go _ _ _ _ _ _ _ _ (mkF m 11 #[.val (.ref a0), .val (.ref a1), .val (.int i2), .val (.int (2 : Int32)), .val (.int i4), .val (.int i5), .val (.int i6), .val (.int i7), .unset, .unset, .unset] [(.int (2 : Int32)), (.int i2), (.int i5)])
  obtain ⟨_, _, ⟨T2, L2, k2, n2⟩, -, X2, ⟨Lc2, hQ2, l2, y2, z2⟩, st2⟩ := Jvm.LawKit.callS X0 hx (y := (⟨"com/example/d2rank/d2rank/rerank/CentroidMeanPinLaw", "contrib", "(III)I"⟩ : MethodName)) hown (mvT hZ (hw _ (List.mem_of_getElem? (i := 38) rfl))) (mvT hZ (hw _ (List.mem_of_getElem? (i := 39) rfl))) (mvT hZ (hw _ (List.mem_of_getElem? (i := 14) rfl))) (mvT hZ (hw _ (List.mem_of_getElem? (i := 40) rfl))) (by decide) (backOf (W := 0) (rm9 l Z aw hw [] i5 i2 (2 : Int32)  h0 n0 ZZ (by decide)) hZ (hw _ (List.mem_of_getElem? (i := 40) rfl)) (hw _ (List.mem_of_getElem? (i := 14) rfl)) (by decide) (by decide)) (g := (mkF m 11 #[.val (.ref a0), .val (.ref a1), .val (.int i2), .val (.int (2 : Int32)), .val (.int i4), .val (.int i5), .val (.int i6), .val (.int i7), .unset, .unset, .unset] [(.int (2 : Int32)), (.int i2), (.int i5)])) rfl (by rw [hml]; rfl) (argsL := [(.int i5), (.int i2), (.int (2 : Int32))]) (rest := []) (lenOf pd_2 rfl) rfl (by show 2 * 0 + _ ≤ _; exact Nat.le_of_eq rfl) (hb hby d8_11) (fun _ _ => ⟨rfl, e0, (by decide : 0 + 0 ≤ _), (by decide : 0 + 0 ≤ _)⟩)
  dsimp only [Pt.U, Pt.locs, Pt.cells, Pt.slots] at X2 l2 y2 z2 st2 hQ2
  subst l2 y2 z2
  obtain ⟨rfl, N2q, e2⟩ := hQ2
  have N2 := Fr.app N0 N2q
  refine Go.on st2 ?_
  show Go _ _ _ _ _ _ _ _ (mkF m 14 #[.val (.ref a0), .val (.ref a1), .val (.int i2), .val (.int (2 : Int32)), .val (.int i4), .val (.int i5), .val (.int i6), .val (.int i7), .unset, .unset, .unset] [(.int (contribV i5 i2 (2 : Int32)))])
  refine Go.on (fun _ k => XS.istore X2.here hx rfl (hb hby d8_14) rfl (l' := #[.val (.ref a0), .val (.ref a1), .val (.int i2), .val (.int (2 : Int32)), .val (.int i4), .val (.int i5), .val (.int i6), .val (.int i7), .val (.int (contribV i5 i2 (2 : Int32))), .unset, .unset]) rfl k) ?_
  show Go _ _ _ _ _ _ _ _ (mkF m 16 #[.val (.ref a0), .val (.ref a1), .val (.int i2), .val (.int (2 : Int32)), .val (.int i4), .val (.int i5), .val (.int i6), .val (.int i7), .val (.int (contribV i5 i2 (2 : Int32))), .unset, .unset] [])
  refine Go.on (fun _ k => XS.iload X2.here hx rfl (hb hby d8_16) rfl k) ?_
  show Go _ _ _ _ _ _ _ _ (mkF m 18 #[.val (.ref a0), .val (.ref a1), .val (.int i2), .val (.int (2 : Int32)), .val (.int i4), .val (.int i5), .val (.int i6), .val (.int i7), .val (.int (contribV i5 i2 (2 : Int32))), .unset, .unset] [(.int i4)])
  refine Go.on (fun _ k => XS.iconst X2.here hx rfl (hb hby d8_18) k) ?_
  show Go _ _ _ _ _ _ _ _ (mkF m 19 #[.val (.ref a0), .val (.ref a1), .val (.int i2), .val (.int (2 : Int32)), .val (.int i4), .val (.int i5), .val (.int i6), .val (.int i7), .val (.int (contribV i5 i2 (2 : Int32))), .unset, .unset] [(.int (2 : Int32)), (.int i4)])
  by_cases hc3 : i4 < (2 : Int32)
  · -- pc 19 yes
    refine Go.on (fun _ k => XS.icmpYes X2.here hx rfl (pc0 := 19) (pc' := 34) rfl (hb hby d8_19) rfl (tlt hc3).1 (by decide) (by decide) k) ?_
    show Go _ _ _ _ _ _ _ _ (mkF m 34 #[.val (.ref a0), .val (.ref a1), .val (.int i2), .val (.int (2 : Int32)), .val (.int i4), .val (.int i5), .val (.int i6), .val (.int i7), .val (.int (contribV i5 i2 (2 : Int32))), .unset, .unset] [])
    refine Go.on (fun _ k => XS.iload X2.here hx rfl (hb hby d8_34) rfl k) ?_
    show Go _ _ _ _ _ _ _ _ (mkF m 36 #[.val (.ref a0), .val (.ref a1), .val (.int i2), .val (.int (2 : Int32)), .val (.int i4), .val (.int i5), .val (.int i6), .val (.int i7), .val (.int (contribV i5 i2 (2 : Int32))), .unset, .unset] [(.int i4)])
    refine Go.on (fun _ k => XS.iconst X2.here hx rfl (hb hby d8_36) k) ?_
    show Go _ _ _ _ _ _ _ _ (mkF m 37 #[.val (.ref a0), .val (.ref a1), .val (.int i2), .val (.int (2 : Int32)), .val (.int i4), .val (.int i5), .val (.int i6), .val (.int i7), .val (.int (contribV i5 i2 (2 : Int32))), .unset, .unset] [(.int (3 : Int32)), (.int i4)])
    by_cases hc4 : i4 < (3 : Int32)
    · -- pc 37 yes
      refine Go.on (fun _ k => XS.icmpYes X2.here hx rfl (pc0 := 37) (pc' := 52) rfl (hb hby d8_37) rfl (tlt hc4).1 (by decide) (by decide) k) ?_
      show Go _ _ _ _ _ _ _ _ (mkF m 52 #[.val (.ref a0), .val (.ref a1), .val (.int i2), .val (.int (2 : Int32)), .val (.int i4), .val (.int i5), .val (.int i6), .val (.int i7), .val (.int (contribV i5 i2 (2 : Int32))), .unset, .unset] [])
      refine Go.on (fun _ k => XS.iload X2.here hx rfl (hb hby d8_52) rfl k) ?_
      show Go _ _ _ _ _ _ _ _ (mkF m 54 #[.val (.ref a0), .val (.ref a1), .val (.int i2), .val (.int (2 : Int32)), .val (.int i4), .val (.int i5), .val (.int i6), .val (.int i7), .val (.int (contribV i5 i2 (2 : Int32))), .unset, .unset] [(.int (contribV i5 i2 (2 : Int32)))])
      refine Go.on (fun _ k => XS.i2dS X2.here hx rfl (hb hby d8_54) rfl rfl k) ?_
      show Go _ _ _ _ _ _ _ _ (mkF m 55 #[.val (.ref a0), .val (.ref a1), .val (.int i2), .val (.int (2 : Int32)), .val (.int i4), .val (.int i5), .val (.int i6), .val (.int i7), .val (.int (contribV i5 i2 (2 : Int32))), .unset, .unset] [(.double (FP.i2d (contribV i5 i2 (2 : Int32))))])
      refine Go.on (fun _ k => XS.iload X2.here hx rfl (hb hby d8_55) rfl k) ?_
      show Go _ _ _ _ _ _ _ _ (mkF m 57 #[.val (.ref a0), .val (.ref a1), .val (.int i2), .val (.int (2 : Int32)), .val (.int i4), .val (.int i5), .val (.int i6), .val (.int i7), .val (.int (contribV i5 i2 (2 : Int32))), .unset, .unset] [(.int i4), (.double (FP.i2d (contribV i5 i2 (2 : Int32))))])
      refine Go.on (fun _ k => XS.i2dS X2.here hx rfl (hb hby d8_57) rfl rfl k) ?_
      show Go _ _ _ _ _ _ _ _ (mkF m 58 #[.val (.ref a0), .val (.ref a1), .val (.int i2), .val (.int (2 : Int32)), .val (.int i4), .val (.int i5), .val (.int i6), .val (.int i7), .val (.int (contribV i5 i2 (2 : Int32))), .unset, .unset] [(.double (FP.i2d i4)), (.double (FP.i2d (contribV i5 i2 (2 : Int32))))])
      refine Go.on (fun _ k => XS.ddivS X2.here hx rfl (hb hby d8_58) rfl (own_nnd' (Jvm.FP.Core.i2d_fin _) _ hn4) rfl k) ?_
      show Go _ _ _ _ _ _ _ _ (mkF m 59 #[.val (.ref a0), .val (.ref a1), .val (.int i2), .val (.int (2 : Int32)), .val (.int i4), .val (.int i5), .val (.int i6), .val (.int i7), .val (.int (contribV i5 i2 (2 : Int32))), .unset, .unset] [(.double (FP.ddiv (FP.i2d (contribV i5 i2 (2 : Int32))) (FP.i2d i4)))])
      refine Go.on (fun _ k => XS.dstore X2.here hx rfl (hb hby d8_59) rfl (l' := #[.val (.ref a0), .val (.ref a1), .val (.int i2), .val (.int (2 : Int32)), .val (.int i4), .val (.int i5), .val (.int i6), .val (.int i7), .val (.int (contribV i5 i2 (2 : Int32))), .val (.double (FP.ddiv (FP.i2d (contribV i5 i2 (2 : Int32))) (FP.i2d i4))), .second]) rfl k) ?_
      show Go _ _ _ _ _ _ _ _ (mkF m 61 #[.val (.ref a0), .val (.ref a1), .val (.int i2), .val (.int (2 : Int32)), .val (.int i4), .val (.int i5), .val (.int i6), .val (.int i7), .val (.int (contribV i5 i2 (2 : Int32))), .val (.double (FP.ddiv (FP.i2d (contribV i5 i2 (2 : Int32))) (FP.i2d i4))), .second] [])
      refine Go.on (fun _ k => XS.aloadN X2.here hx rfl (hb hby d8_61) rfl rfl k) ?_
      show Go _ _ _ _ _ _ _ _ (mkF m 62 #[.val (.ref a0), .val (.ref a1), .val (.int i2), .val (.int (2 : Int32)), .val (.int i4), .val (.int i5), .val (.int i6), .val (.int i7), .val (.int (contribV i5 i2 (2 : Int32))), .val (.double (FP.ddiv (FP.i2d (contribV i5 i2 (2 : Int32))) (FP.i2d i4))), .second] [(.ref a0)])
      refine Go.on (fun _ k => XS.iloadN X2.here hx rfl (hb hby d8_62) rfl k) ?_
      show Go _ _ _ _ _ _ _ _ (mkF m 63 #[.val (.ref a0), .val (.ref a1), .val (.int i2), .val (.int (2 : Int32)), .val (.int i4), .val (.int i5), .val (.int i6), .val (.int i7), .val (.int (contribV i5 i2 (2 : Int32))), .val (.double (FP.ddiv (FP.i2d (contribV i5 i2 (2 : Int32))) (FP.i2d i4))), .second] [(.int i2), (.ref a0)])
      obtain ⟨cl5, Ar5, -, S5, -, H5, -⟩ := id V_a0
      have hin5 : ¬ (i2 < 0 ∨ cl5.slots.size ≤ (i2).toNatClampNeg) := inb_of S5 (own_inb2 hp)
      refine Go.on (X2.daload hx (j := i2) (v := (.double (if i2 = (0 : Int32) then x0 else x1))) (by rw [e2]; exact Ar5.1) (State.isArrayOf_alike hZ.alike Ar5.2.1) Ar5.2.2 hin5 (H5.at hin5 (own_get2 hp _ _ _)) (g := (mkF m 63 #[.val (.ref a0), .val (.ref a1), .val (.int i2), .val (.int (2 : Int32)), .val (.int i4), .val (.int i5), .val (.int i6), .val (.int i7), .val (.int (contribV i5 i2 (2 : Int32))), .val (.double (FP.ddiv (FP.i2d (contribV i5 i2 (2 : Int32))) (FP.i2d i4))), .second] [(.int i2), (.ref a0)])) rfl rfl (hb hby d8_63)) ?_
      show Go _ _ _ _ _ _ _ _ (mkF m 64 #[.val (.ref a0), .val (.ref a1), .val (.int i2), .val (.int (2 : Int32)), .val (.int i4), .val (.int i5), .val (.int i6), .val (.int i7), .val (.int (contribV i5 i2 (2 : Int32))), .val (.double (FP.ddiv (FP.i2d (contribV i5 i2 (2 : Int32))) (FP.i2d i4))), .second] [(.double (if i2 = (0 : Int32) then x0 else x1))])
      refine Go.on (fun _ k => XS.dload X2.here hx rfl (hb hby d8_64) rfl k) ?_
      show Go _ _ _ _ _ _ _ _ (mkF m 66 #[.val (.ref a0), .val (.ref a1), .val (.int i2), .val (.int (2 : Int32)), .val (.int i4), .val (.int i5), .val (.int i6), .val (.int i7), .val (.int (contribV i5 i2 (2 : Int32))), .val (.double (FP.ddiv (FP.i2d (contribV i5 i2 (2 : Int32))) (FP.i2d i4))), .second] [(.double (FP.ddiv (FP.i2d (contribV i5 i2 (2 : Int32))) (FP.i2d i4))), (.double (if i2 = (0 : Int32) then x0 else x1))])
      refine Go.on (fun _ k => XS.dcmpS X2.here hx rfl (hb hby d8_66) rfl rfl k) ?_
      show Go _ _ _ _ _ _ _ _ (mkF m 67 #[.val (.ref a0), .val (.ref a1), .val (.int i2), .val (.int (2 : Int32)), .val (.int i4), .val (.int i5), .val (.int i6), .val (.int i7), .val (.int (contribV i5 i2 (2 : Int32))), .val (.double (FP.ddiv (FP.i2d (contribV i5 i2 (2 : Int32))) (FP.i2d i4))), .second] [(.int (cmpValue (FP.dcmp (if i2 = (0 : Int32) then x0 else x1) (FP.ddiv (FP.i2d (contribV i5 i2 (2 : Int32))) (FP.i2d i4))) .l))])
      by_cases hc6 : (cmpValue (FP.dcmp (if i2 = (0 : Int32) then x0 else x1) (FP.ddiv (FP.i2d (contribV i5 i2 (2 : Int32))) (FP.i2d i4))) .l) = (0 : Int32)
      · -- pc 67 yes
        refine Go.on (fun _ k => XS.ifNo X2.here hx rfl (hb hby d8_67) rfl ((if0 _ _).trans (teq hc6).2) k) ?_
        show Go _ _ _ _ _ _ _ _ (mkF m 70 #[.val (.ref a0), .val (.ref a1), .val (.int i2), .val (.int (2 : Int32)), .val (.int i4), .val (.int i5), .val (.int i6), .val (.int i7), .val (.int (contribV i5 i2 (2 : Int32))), .val (.double (FP.ddiv (FP.i2d (contribV i5 i2 (2 : Int32))) (FP.i2d i4))), .second] [])
        refine Go.on (fun _ k => XS.aloadN X2.here hx rfl (hb hby d8_70) rfl rfl k) ?_
        show Go _ _ _ _ _ _ _ _ (mkF m 71 #[.val (.ref a0), .val (.ref a1), .val (.int i2), .val (.int (2 : Int32)), .val (.int i4), .val (.int i5), .val (.int i6), .val (.int i7), .val (.int (contribV i5 i2 (2 : Int32))), .val (.double (FP.ddiv (FP.i2d (contribV i5 i2 (2 : Int32))) (FP.i2d i4))), .second] [(.ref a1)])
        refine Go.on (fun _ k => XS.iloadN X2.here hx rfl (hb hby d8_71) rfl k) ?_
        show Go _ _ _ _ _ _ _ _ (mkF m 72 #[.val (.ref a0), .val (.ref a1), .val (.int i2), .val (.int (2 : Int32)), .val (.int i4), .val (.int i5), .val (.int i6), .val (.int i7), .val (.int (contribV i5 i2 (2 : Int32))), .val (.double (FP.ddiv (FP.i2d (contribV i5 i2 (2 : Int32))) (FP.i2d i4))), .second] [(.int i2), (.ref a1)])
        obtain ⟨cl7, Ar7, -, S7, -, H7, -⟩ := id V_a1
        have hin7 : ¬ (i2 < 0 ∨ cl7.slots.size ≤ (i2).toNatClampNeg) := inb_of S7 (own_inb2 hp)
        refine Go.on (X2.daload hx (j := i2) (v := (.double (if i2 = (0 : Int32) then y0 else y1))) (by rw [e2]; exact Ar7.1) (State.isArrayOf_alike hZ.alike Ar7.2.1) Ar7.2.2 hin7 (H7.at hin7 (own_get2 hp _ _ _)) (g := (mkF m 72 #[.val (.ref a0), .val (.ref a1), .val (.int i2), .val (.int (2 : Int32)), .val (.int i4), .val (.int i5), .val (.int i6), .val (.int i7), .val (.int (contribV i5 i2 (2 : Int32))), .val (.double (FP.ddiv (FP.i2d (contribV i5 i2 (2 : Int32))) (FP.i2d i4))), .second] [(.int i2), (.ref a1)])) rfl rfl (hb hby d8_72)) ?_
        show Go _ _ _ _ _ _ _ _ (mkF m 73 #[.val (.ref a0), .val (.ref a1), .val (.int i2), .val (.int (2 : Int32)), .val (.int i4), .val (.int i5), .val (.int i6), .val (.int i7), .val (.int (contribV i5 i2 (2 : Int32))), .val (.double (FP.ddiv (FP.i2d (contribV i5 i2 (2 : Int32))) (FP.i2d i4))), .second] [(.double (if i2 = (0 : Int32) then y0 else y1))])
        refine Go.on (fun _ k => XS.dload X2.here hx rfl (hb hby d8_73) rfl k) ?_
        show Go _ _ _ _ _ _ _ _ (mkF m 75 #[.val (.ref a0), .val (.ref a1), .val (.int i2), .val (.int (2 : Int32)), .val (.int i4), .val (.int i5), .val (.int i6), .val (.int i7), .val (.int (contribV i5 i2 (2 : Int32))), .val (.double (FP.ddiv (FP.i2d (contribV i5 i2 (2 : Int32))) (FP.i2d i4))), .second] [(.double (FP.ddiv (FP.i2d (contribV i5 i2 (2 : Int32))) (FP.i2d i4))), (.double (if i2 = (0 : Int32) then y0 else y1))])
        refine Go.on (fun _ k => XS.dcmpS X2.here hx rfl (hb hby d8_75) rfl rfl k) ?_
        show Go _ _ _ _ _ _ _ _ (mkF m 76 #[.val (.ref a0), .val (.ref a1), .val (.int i2), .val (.int (2 : Int32)), .val (.int i4), .val (.int i5), .val (.int i6), .val (.int i7), .val (.int (contribV i5 i2 (2 : Int32))), .val (.double (FP.ddiv (FP.i2d (contribV i5 i2 (2 : Int32))) (FP.i2d i4))), .second] [(.int (cmpValue (FP.dcmp (if i2 = (0 : Int32) then y0 else y1) (FP.ddiv (FP.i2d (contribV i5 i2 (2 : Int32))) (FP.i2d i4))) .l))])
        suffices hJ9 : ∀ (v8 : Int32), v8 = (if (cmpValue (FP.dcmp (if i2 = (0 : Int32) then y0 else y1) (FP.ddiv (FP.i2d (contribV i5 i2 (2 : Int32))) (FP.i2d i4))) .l) = (0 : Int32) then (1 : Int32) else (0 : Int32)) → Go p e below s K1 K2 QQ T2 (mkF m 84 #[.val (.ref a0), .val (.ref a1), .val (.int i2), .val (.int (2 : Int32)), .val (.int i4), .val (.int i5), .val (.int i6), .val (.int i7), .val (.int (contribV i5 i2 (2 : Int32))), .val (.double (FP.ddiv (FP.i2d (contribV i5 i2 (2 : Int32))) (FP.i2d i4))), .second] [(.int v8)]) by
          by_cases hc10 : (cmpValue (FP.dcmp (if i2 = (0 : Int32) then y0 else y1) (FP.ddiv (FP.i2d (contribV i5 i2 (2 : Int32))) (FP.i2d i4))) .l) = (0 : Int32)
          · -- pc 76 yes
            refine Go.on (fun _ k => XS.ifNo X2.here hx rfl (hb hby d8_76) rfl ((if0 _ _).trans (teq hc10).2) k) ?_
            show Go _ _ _ _ _ _ _ _ (mkF m 79 #[.val (.ref a0), .val (.ref a1), .val (.int i2), .val (.int (2 : Int32)), .val (.int i4), .val (.int i5), .val (.int i6), .val (.int i7), .val (.int (contribV i5 i2 (2 : Int32))), .val (.double (FP.ddiv (FP.i2d (contribV i5 i2 (2 : Int32))) (FP.i2d i4))), .second] [])
            refine Go.on (fun _ k => XS.iconst X2.here hx rfl (hb hby d8_79) k) ?_
            show Go _ _ _ _ _ _ _ _ (mkF m 80 #[.val (.ref a0), .val (.ref a1), .val (.int i2), .val (.int (2 : Int32)), .val (.int i4), .val (.int i5), .val (.int i6), .val (.int i7), .val (.int (contribV i5 i2 (2 : Int32))), .val (.double (FP.ddiv (FP.i2d (contribV i5 i2 (2 : Int32))) (FP.i2d i4))), .second] [(.int (1 : Int32))])
            refine Go.on (fun _ k => XS.goto X2.here hx rfl (pc0 := 80) (pc' := 84) rfl (hb hby d8_80) (by decide) (by decide) k) ?_
            show Go _ _ _ _ _ _ _ _ (mkF m 84 #[.val (.ref a0), .val (.ref a1), .val (.int i2), .val (.int (2 : Int32)), .val (.int i4), .val (.int i5), .val (.int i6), .val (.int i7), .val (.int (contribV i5 i2 (2 : Int32))), .val (.double (FP.ddiv (FP.i2d (contribV i5 i2 (2 : Int32))) (FP.i2d i4))), .second] [(.int (1 : Int32))])
            exact hJ9 _ (by rw [if_pos hc10])
          · -- pc 76 no
            refine Go.on (fun _ k => XS.ifYes X2.here hx rfl (pc0 := 76) (pc' := 83) rfl (hb hby d8_76) rfl ((if0 _ _).trans (feq hc10).2) (by decide) (by decide) k) ?_
            show Go _ _ _ _ _ _ _ _ (mkF m 83 #[.val (.ref a0), .val (.ref a1), .val (.int i2), .val (.int (2 : Int32)), .val (.int i4), .val (.int i5), .val (.int i6), .val (.int i7), .val (.int (contribV i5 i2 (2 : Int32))), .val (.double (FP.ddiv (FP.i2d (contribV i5 i2 (2 : Int32))) (FP.i2d i4))), .second] [])
            refine Go.on (fun _ k => XS.iconst X2.here hx rfl (hb hby d8_83) k) ?_
            show Go _ _ _ _ _ _ _ _ (mkF m 84 #[.val (.ref a0), .val (.ref a1), .val (.int i2), .val (.int (2 : Int32)), .val (.int i4), .val (.int i5), .val (.int i6), .val (.int i7), .val (.int (contribV i5 i2 (2 : Int32))), .val (.double (FP.ddiv (FP.i2d (contribV i5 i2 (2 : Int32))) (FP.i2d i4))), .second] [(.int (0 : Int32))])
            exact hJ9 _ (by rw [if_neg hc10])
        intro v8 hv8
        refine Go.retN X2 hx (t := .boolean) Bd.returns (by simp) (hb hby d8_84) ?_ (by rw [hK1]; decide) (by rw [hK2]; decide)
        rw [e2, ← hQQ]
        refine ⟨?_, N2, rfl⟩
        unfold compV compT; rw [if_pos hc3, if_pos hc4, if_pos hc6]; rw [hv8]; (repeat' split) <;> rfl
      · -- pc 67 no
        refine Go.on (fun _ k => XS.ifYes X2.here hx rfl (pc0 := 67) (pc' := 83) rfl (hb hby d8_67) rfl ((if0 _ _).trans (feq hc6).2) (by decide) (by decide) k) ?_
        show Go _ _ _ _ _ _ _ _ (mkF m 83 #[.val (.ref a0), .val (.ref a1), .val (.int i2), .val (.int (2 : Int32)), .val (.int i4), .val (.int i5), .val (.int i6), .val (.int i7), .val (.int (contribV i5 i2 (2 : Int32))), .val (.double (FP.ddiv (FP.i2d (contribV i5 i2 (2 : Int32))) (FP.i2d i4))), .second] [])
        refine Go.on (fun _ k => XS.iconst X2.here hx rfl (hb hby d8_83) k) ?_
        show Go _ _ _ _ _ _ _ _ (mkF m 84 #[.val (.ref a0), .val (.ref a1), .val (.int i2), .val (.int (2 : Int32)), .val (.int i4), .val (.int i5), .val (.int i6), .val (.int i7), .val (.int (contribV i5 i2 (2 : Int32))), .val (.double (FP.ddiv (FP.i2d (contribV i5 i2 (2 : Int32))) (FP.i2d i4))), .second] [(.int (0 : Int32))])
        refine Go.retN X2 hx (t := .boolean) Bd.returns (by simp) (hb hby d8_84) ?_ (by rw [hK1]; decide) (by rw [hK2]; decide)
        rw [e2, ← hQQ]
        refine ⟨?_, N2, rfl⟩
        unfold compV compT; rw [if_pos hc3, if_pos hc4, if_neg hc6]; rfl
    · -- pc 37 no
      refine Go.on (fun _ k => XS.icmpNo X2.here hx rfl (hb hby d8_37) rfl (flt hc4).1 k) ?_
      show Go _ _ _ _ _ _ _ _ (mkF m 40 #[.val (.ref a0), .val (.ref a1), .val (.int i2), .val (.int (2 : Int32)), .val (.int i4), .val (.int i5), .val (.int i6), .val (.int i7), .val (.int (contribV i5 i2 (2 : Int32))), .unset, .unset] [])
      refine Go.on (fun _ k => XS.iload X2.here hx rfl (hb hby d8_40) rfl k) ?_
      show Go _ _ _ _ _ _ _ _ (mkF m 42 #[.val (.ref a0), .val (.ref a1), .val (.int i2), .val (.int (2 : Int32)), .val (.int i4), .val (.int i5), .val (.int i6), .val (.int i7), .val (.int (contribV i5 i2 (2 : Int32))), .unset, .unset] [(.int (contribV i5 i2 (2 : Int32)))])
      refine Go.on (fun _ k => XS.iload X2.here hx rfl (hb hby d8_42) rfl k) ?_
      show Go _ _ _ _ _ _ _ _ (mkF m 44 #[.val (.ref a0), .val (.ref a1), .val (.int i2), .val (.int (2 : Int32)), .val (.int i4), .val (.int i5), .val (.int i6), .val (.int i7), .val (.int (contribV i5 i2 (2 : Int32))), .unset, .unset] [(.int i7), (.int (contribV i5 i2 (2 : Int32)))])
      refine Go.on (fun _ k => XS.iloadN X2.here hx rfl (hb hby d8_44) rfl k) ?_
      show Go _ _ _ _ _ _ _ _ (mkF m 45 #[.val (.ref a0), .val (.ref a1), .val (.int i2), .val (.int (2 : Int32)), .val (.int i4), .val (.int i5), .val (.int i6), .val (.int i7), .val (.int (contribV i5 i2 (2 : Int32))), .unset, .unset] [(.int i2), (.int i7), (.int (contribV i5 i2 (2 : Int32)))])
      refine Go.on (fun _ k => XS.iloadN X2.here hx rfl (hb hby d8_45) rfl k) ?_
      show Go _ _ _ _ _ _ _ _ (mkF m 46 #[.val (.ref a0), .val (.ref a1), .val (.int i2), .val (.int (2 : Int32)), .val (.int i4), .val (.int i5), .val (.int i6), .val (.int i7), .val (.int (contribV i5 i2 (2 : Int32))), .unset, .unset] [(.int (2 : Int32)), (.int i2), (.int i7), (.int (contribV i5 i2 (2 : Int32)))])
      obtain ⟨_, _, ⟨T11, L11, k11, n11⟩, -, X11, ⟨Lc11, hQ11, l11, y11, z11⟩, st11⟩ := Jvm.LawKit.callS X2 hx (y := (⟨"com/example/d2rank/d2rank/rerank/CentroidMeanPinLaw", "contrib", "(III)I"⟩ : MethodName)) hown (mvT hZ (hw _ (List.mem_of_getElem? (i := 38) rfl))) (mvT hZ (hw _ (List.mem_of_getElem? (i := 39) rfl))) (mvT hZ (hw _ (List.mem_of_getElem? (i := 14) rfl))) (mvT hZ (hw _ (List.mem_of_getElem? (i := 40) rfl))) (by decide) (backOf (W := 1) (rm9 l Z aw hw [] i7 i2 (2 : Int32)  h0 n0 ZZ (by decide)) hZ (hw _ (List.mem_of_getElem? (i := 40) rfl)) (hw _ (List.mem_of_getElem? (i := 14) rfl)) (by decide) (by decide)) (g := (mkF m 46 #[.val (.ref a0), .val (.ref a1), .val (.int i2), .val (.int (2 : Int32)), .val (.int i4), .val (.int i5), .val (.int i6), .val (.int i7), .val (.int (contribV i5 i2 (2 : Int32))), .unset, .unset] [(.int (2 : Int32)), (.int i2), (.int i7), (.int (contribV i5 i2 (2 : Int32)))])) rfl (by rw [hml]; rfl) (argsL := [(.int i7), (.int i2), (.int (2 : Int32))]) (rest := [(.int (contribV i5 i2 (2 : Int32)))]) (lenOf pd_2 rfl) rfl (by show 2 * 0 + _ ≤ _; exact Nat.le_of_eq rfl) (hb hby d8_46) (fun _ _ => ⟨rfl, e2, (by decide : 0 + 0 ≤ _), (by decide : 0 + 0 ≤ _)⟩)
      dsimp only [Pt.U, Pt.locs, Pt.cells, Pt.slots] at X11 l11 y11 z11 st11 hQ11
      subst l11 y11 z11
      obtain ⟨rfl, N11q, e11⟩ := hQ11
      have N11 := Fr.app N2 N11q
      refine Go.on st11 ?_
      show Go _ _ _ _ _ _ _ _ (mkF m 49 #[.val (.ref a0), .val (.ref a1), .val (.int i2), .val (.int (2 : Int32)), .val (.int i4), .val (.int i5), .val (.int i6), .val (.int i7), .val (.int (contribV i5 i2 (2 : Int32))), .unset, .unset] [(.int (contribV i7 i2 (2 : Int32))), (.int (contribV i5 i2 (2 : Int32)))])
      refine Go.on (fun _ k => XS.iadd X11.here hx rfl (hb hby d8_49) rfl k) ?_
      show Go _ _ _ _ _ _ _ _ (mkF m 50 #[.val (.ref a0), .val (.ref a1), .val (.int i2), .val (.int (2 : Int32)), .val (.int i4), .val (.int i5), .val (.int i6), .val (.int i7), .val (.int (contribV i5 i2 (2 : Int32))), .unset, .unset] [(.int ((contribV i5 i2 (2 : Int32)) + (contribV i7 i2 (2 : Int32))))])
      refine Go.on (fun _ k => XS.istore X11.here hx rfl (hb hby d8_50) rfl (l' := #[.val (.ref a0), .val (.ref a1), .val (.int i2), .val (.int (2 : Int32)), .val (.int i4), .val (.int i5), .val (.int i6), .val (.int i7), .val (.int ((contribV i5 i2 (2 : Int32)) + (contribV i7 i2 (2 : Int32)))), .unset, .unset]) rfl k) ?_
      show Go _ _ _ _ _ _ _ _ (mkF m 52 #[.val (.ref a0), .val (.ref a1), .val (.int i2), .val (.int (2 : Int32)), .val (.int i4), .val (.int i5), .val (.int i6), .val (.int i7), .val (.int ((contribV i5 i2 (2 : Int32)) + (contribV i7 i2 (2 : Int32)))), .unset, .unset] [])
      refine Go.on (fun _ k => XS.iload X11.here hx rfl (hb hby d8_52) rfl k) ?_
      show Go _ _ _ _ _ _ _ _ (mkF m 54 #[.val (.ref a0), .val (.ref a1), .val (.int i2), .val (.int (2 : Int32)), .val (.int i4), .val (.int i5), .val (.int i6), .val (.int i7), .val (.int ((contribV i5 i2 (2 : Int32)) + (contribV i7 i2 (2 : Int32)))), .unset, .unset] [(.int ((contribV i5 i2 (2 : Int32)) + (contribV i7 i2 (2 : Int32))))])
      refine Go.on (fun _ k => XS.i2dS X11.here hx rfl (hb hby d8_54) rfl rfl k) ?_
      show Go _ _ _ _ _ _ _ _ (mkF m 55 #[.val (.ref a0), .val (.ref a1), .val (.int i2), .val (.int (2 : Int32)), .val (.int i4), .val (.int i5), .val (.int i6), .val (.int i7), .val (.int ((contribV i5 i2 (2 : Int32)) + (contribV i7 i2 (2 : Int32)))), .unset, .unset] [(.double (FP.i2d ((contribV i5 i2 (2 : Int32)) + (contribV i7 i2 (2 : Int32)))))])
      refine Go.on (fun _ k => XS.iload X11.here hx rfl (hb hby d8_55) rfl k) ?_
      show Go _ _ _ _ _ _ _ _ (mkF m 57 #[.val (.ref a0), .val (.ref a1), .val (.int i2), .val (.int (2 : Int32)), .val (.int i4), .val (.int i5), .val (.int i6), .val (.int i7), .val (.int ((contribV i5 i2 (2 : Int32)) + (contribV i7 i2 (2 : Int32)))), .unset, .unset] [(.int i4), (.double (FP.i2d ((contribV i5 i2 (2 : Int32)) + (contribV i7 i2 (2 : Int32)))))])
      refine Go.on (fun _ k => XS.i2dS X11.here hx rfl (hb hby d8_57) rfl rfl k) ?_
      show Go _ _ _ _ _ _ _ _ (mkF m 58 #[.val (.ref a0), .val (.ref a1), .val (.int i2), .val (.int (2 : Int32)), .val (.int i4), .val (.int i5), .val (.int i6), .val (.int i7), .val (.int ((contribV i5 i2 (2 : Int32)) + (contribV i7 i2 (2 : Int32)))), .unset, .unset] [(.double (FP.i2d i4)), (.double (FP.i2d ((contribV i5 i2 (2 : Int32)) + (contribV i7 i2 (2 : Int32)))))])
      refine Go.on (fun _ k => XS.ddivS X11.here hx rfl (hb hby d8_58) rfl (own_nnd' (Jvm.FP.Core.i2d_fin _) _ hn4) rfl k) ?_
      show Go _ _ _ _ _ _ _ _ (mkF m 59 #[.val (.ref a0), .val (.ref a1), .val (.int i2), .val (.int (2 : Int32)), .val (.int i4), .val (.int i5), .val (.int i6), .val (.int i7), .val (.int ((contribV i5 i2 (2 : Int32)) + (contribV i7 i2 (2 : Int32)))), .unset, .unset] [(.double (FP.ddiv (FP.i2d ((contribV i5 i2 (2 : Int32)) + (contribV i7 i2 (2 : Int32)))) (FP.i2d i4)))])
      refine Go.on (fun _ k => XS.dstore X11.here hx rfl (hb hby d8_59) rfl (l' := #[.val (.ref a0), .val (.ref a1), .val (.int i2), .val (.int (2 : Int32)), .val (.int i4), .val (.int i5), .val (.int i6), .val (.int i7), .val (.int ((contribV i5 i2 (2 : Int32)) + (contribV i7 i2 (2 : Int32)))), .val (.double (FP.ddiv (FP.i2d ((contribV i5 i2 (2 : Int32)) + (contribV i7 i2 (2 : Int32)))) (FP.i2d i4))), .second]) rfl k) ?_
      show Go _ _ _ _ _ _ _ _ (mkF m 61 #[.val (.ref a0), .val (.ref a1), .val (.int i2), .val (.int (2 : Int32)), .val (.int i4), .val (.int i5), .val (.int i6), .val (.int i7), .val (.int ((contribV i5 i2 (2 : Int32)) + (contribV i7 i2 (2 : Int32)))), .val (.double (FP.ddiv (FP.i2d ((contribV i5 i2 (2 : Int32)) + (contribV i7 i2 (2 : Int32)))) (FP.i2d i4))), .second] [])
      refine Go.on (fun _ k => XS.aloadN X11.here hx rfl (hb hby d8_61) rfl rfl k) ?_
      show Go _ _ _ _ _ _ _ _ (mkF m 62 #[.val (.ref a0), .val (.ref a1), .val (.int i2), .val (.int (2 : Int32)), .val (.int i4), .val (.int i5), .val (.int i6), .val (.int i7), .val (.int ((contribV i5 i2 (2 : Int32)) + (contribV i7 i2 (2 : Int32)))), .val (.double (FP.ddiv (FP.i2d ((contribV i5 i2 (2 : Int32)) + (contribV i7 i2 (2 : Int32)))) (FP.i2d i4))), .second] [(.ref a0)])
      refine Go.on (fun _ k => XS.iloadN X11.here hx rfl (hb hby d8_62) rfl k) ?_
      show Go _ _ _ _ _ _ _ _ (mkF m 63 #[.val (.ref a0), .val (.ref a1), .val (.int i2), .val (.int (2 : Int32)), .val (.int i4), .val (.int i5), .val (.int i6), .val (.int i7), .val (.int ((contribV i5 i2 (2 : Int32)) + (contribV i7 i2 (2 : Int32)))), .val (.double (FP.ddiv (FP.i2d ((contribV i5 i2 (2 : Int32)) + (contribV i7 i2 (2 : Int32)))) (FP.i2d i4))), .second] [(.int i2), (.ref a0)])
      obtain ⟨cl12, Ar12, -, S12, -, H12, -⟩ := id V_a0
      have hin12 : ¬ (i2 < 0 ∨ cl12.slots.size ≤ (i2).toNatClampNeg) := inb_of S12 (own_inb2 hp)
      refine Go.on (X11.daload hx (j := i2) (v := (.double (if i2 = (0 : Int32) then x0 else x1))) (by rw [e11]; exact Ar12.1) (State.isArrayOf_alike hZ.alike Ar12.2.1) Ar12.2.2 hin12 (H12.at hin12 (own_get2 hp _ _ _)) (g := (mkF m 63 #[.val (.ref a0), .val (.ref a1), .val (.int i2), .val (.int (2 : Int32)), .val (.int i4), .val (.int i5), .val (.int i6), .val (.int i7), .val (.int ((contribV i5 i2 (2 : Int32)) + (contribV i7 i2 (2 : Int32)))), .val (.double (FP.ddiv (FP.i2d ((contribV i5 i2 (2 : Int32)) + (contribV i7 i2 (2 : Int32)))) (FP.i2d i4))), .second] [(.int i2), (.ref a0)])) rfl rfl (hb hby d8_63)) ?_
      show Go _ _ _ _ _ _ _ _ (mkF m 64 #[.val (.ref a0), .val (.ref a1), .val (.int i2), .val (.int (2 : Int32)), .val (.int i4), .val (.int i5), .val (.int i6), .val (.int i7), .val (.int ((contribV i5 i2 (2 : Int32)) + (contribV i7 i2 (2 : Int32)))), .val (.double (FP.ddiv (FP.i2d ((contribV i5 i2 (2 : Int32)) + (contribV i7 i2 (2 : Int32)))) (FP.i2d i4))), .second] [(.double (if i2 = (0 : Int32) then x0 else x1))])
      refine Go.on (fun _ k => XS.dload X11.here hx rfl (hb hby d8_64) rfl k) ?_
      show Go _ _ _ _ _ _ _ _ (mkF m 66 #[.val (.ref a0), .val (.ref a1), .val (.int i2), .val (.int (2 : Int32)), .val (.int i4), .val (.int i5), .val (.int i6), .val (.int i7), .val (.int ((contribV i5 i2 (2 : Int32)) + (contribV i7 i2 (2 : Int32)))), .val (.double (FP.ddiv (FP.i2d ((contribV i5 i2 (2 : Int32)) + (contribV i7 i2 (2 : Int32)))) (FP.i2d i4))), .second] [(.double (FP.ddiv (FP.i2d ((contribV i5 i2 (2 : Int32)) + (contribV i7 i2 (2 : Int32)))) (FP.i2d i4))), (.double (if i2 = (0 : Int32) then x0 else x1))])
      refine Go.on (fun _ k => XS.dcmpS X11.here hx rfl (hb hby d8_66) rfl rfl k) ?_
      show Go _ _ _ _ _ _ _ _ (mkF m 67 #[.val (.ref a0), .val (.ref a1), .val (.int i2), .val (.int (2 : Int32)), .val (.int i4), .val (.int i5), .val (.int i6), .val (.int i7), .val (.int ((contribV i5 i2 (2 : Int32)) + (contribV i7 i2 (2 : Int32)))), .val (.double (FP.ddiv (FP.i2d ((contribV i5 i2 (2 : Int32)) + (contribV i7 i2 (2 : Int32)))) (FP.i2d i4))), .second] [(.int (cmpValue (FP.dcmp (if i2 = (0 : Int32) then x0 else x1) (FP.ddiv (FP.i2d ((contribV i5 i2 (2 : Int32)) + (contribV i7 i2 (2 : Int32)))) (FP.i2d i4))) .l))])
      by_cases hc13 : (cmpValue (FP.dcmp (if i2 = (0 : Int32) then x0 else x1) (FP.ddiv (FP.i2d ((contribV i5 i2 (2 : Int32)) + (contribV i7 i2 (2 : Int32)))) (FP.i2d i4))) .l) = (0 : Int32)
      · -- pc 67 yes
        refine Go.on (fun _ k => XS.ifNo X11.here hx rfl (hb hby d8_67) rfl ((if0 _ _).trans (teq hc13).2) k) ?_
        show Go _ _ _ _ _ _ _ _ (mkF m 70 #[.val (.ref a0), .val (.ref a1), .val (.int i2), .val (.int (2 : Int32)), .val (.int i4), .val (.int i5), .val (.int i6), .val (.int i7), .val (.int ((contribV i5 i2 (2 : Int32)) + (contribV i7 i2 (2 : Int32)))), .val (.double (FP.ddiv (FP.i2d ((contribV i5 i2 (2 : Int32)) + (contribV i7 i2 (2 : Int32)))) (FP.i2d i4))), .second] [])
        refine Go.on (fun _ k => XS.aloadN X11.here hx rfl (hb hby d8_70) rfl rfl k) ?_
        show Go _ _ _ _ _ _ _ _ (mkF m 71 #[.val (.ref a0), .val (.ref a1), .val (.int i2), .val (.int (2 : Int32)), .val (.int i4), .val (.int i5), .val (.int i6), .val (.int i7), .val (.int ((contribV i5 i2 (2 : Int32)) + (contribV i7 i2 (2 : Int32)))), .val (.double (FP.ddiv (FP.i2d ((contribV i5 i2 (2 : Int32)) + (contribV i7 i2 (2 : Int32)))) (FP.i2d i4))), .second] [(.ref a1)])
        refine Go.on (fun _ k => XS.iloadN X11.here hx rfl (hb hby d8_71) rfl k) ?_
        show Go _ _ _ _ _ _ _ _ (mkF m 72 #[.val (.ref a0), .val (.ref a1), .val (.int i2), .val (.int (2 : Int32)), .val (.int i4), .val (.int i5), .val (.int i6), .val (.int i7), .val (.int ((contribV i5 i2 (2 : Int32)) + (contribV i7 i2 (2 : Int32)))), .val (.double (FP.ddiv (FP.i2d ((contribV i5 i2 (2 : Int32)) + (contribV i7 i2 (2 : Int32)))) (FP.i2d i4))), .second] [(.int i2), (.ref a1)])
        obtain ⟨cl14, Ar14, -, S14, -, H14, -⟩ := id V_a1
        have hin14 : ¬ (i2 < 0 ∨ cl14.slots.size ≤ (i2).toNatClampNeg) := inb_of S14 (own_inb2 hp)
        refine Go.on (X11.daload hx (j := i2) (v := (.double (if i2 = (0 : Int32) then y0 else y1))) (by rw [e11]; exact Ar14.1) (State.isArrayOf_alike hZ.alike Ar14.2.1) Ar14.2.2 hin14 (H14.at hin14 (own_get2 hp _ _ _)) (g := (mkF m 72 #[.val (.ref a0), .val (.ref a1), .val (.int i2), .val (.int (2 : Int32)), .val (.int i4), .val (.int i5), .val (.int i6), .val (.int i7), .val (.int ((contribV i5 i2 (2 : Int32)) + (contribV i7 i2 (2 : Int32)))), .val (.double (FP.ddiv (FP.i2d ((contribV i5 i2 (2 : Int32)) + (contribV i7 i2 (2 : Int32)))) (FP.i2d i4))), .second] [(.int i2), (.ref a1)])) rfl rfl (hb hby d8_72)) ?_
        show Go _ _ _ _ _ _ _ _ (mkF m 73 #[.val (.ref a0), .val (.ref a1), .val (.int i2), .val (.int (2 : Int32)), .val (.int i4), .val (.int i5), .val (.int i6), .val (.int i7), .val (.int ((contribV i5 i2 (2 : Int32)) + (contribV i7 i2 (2 : Int32)))), .val (.double (FP.ddiv (FP.i2d ((contribV i5 i2 (2 : Int32)) + (contribV i7 i2 (2 : Int32)))) (FP.i2d i4))), .second] [(.double (if i2 = (0 : Int32) then y0 else y1))])
        refine Go.on (fun _ k => XS.dload X11.here hx rfl (hb hby d8_73) rfl k) ?_
        show Go _ _ _ _ _ _ _ _ (mkF m 75 #[.val (.ref a0), .val (.ref a1), .val (.int i2), .val (.int (2 : Int32)), .val (.int i4), .val (.int i5), .val (.int i6), .val (.int i7), .val (.int ((contribV i5 i2 (2 : Int32)) + (contribV i7 i2 (2 : Int32)))), .val (.double (FP.ddiv (FP.i2d ((contribV i5 i2 (2 : Int32)) + (contribV i7 i2 (2 : Int32)))) (FP.i2d i4))), .second] [(.double (FP.ddiv (FP.i2d ((contribV i5 i2 (2 : Int32)) + (contribV i7 i2 (2 : Int32)))) (FP.i2d i4))), (.double (if i2 = (0 : Int32) then y0 else y1))])
        refine Go.on (fun _ k => XS.dcmpS X11.here hx rfl (hb hby d8_75) rfl rfl k) ?_
        show Go _ _ _ _ _ _ _ _ (mkF m 76 #[.val (.ref a0), .val (.ref a1), .val (.int i2), .val (.int (2 : Int32)), .val (.int i4), .val (.int i5), .val (.int i6), .val (.int i7), .val (.int ((contribV i5 i2 (2 : Int32)) + (contribV i7 i2 (2 : Int32)))), .val (.double (FP.ddiv (FP.i2d ((contribV i5 i2 (2 : Int32)) + (contribV i7 i2 (2 : Int32)))) (FP.i2d i4))), .second] [(.int (cmpValue (FP.dcmp (if i2 = (0 : Int32) then y0 else y1) (FP.ddiv (FP.i2d ((contribV i5 i2 (2 : Int32)) + (contribV i7 i2 (2 : Int32)))) (FP.i2d i4))) .l))])
        suffices hJ16 : ∀ (v15 : Int32), v15 = (if (cmpValue (FP.dcmp (if i2 = (0 : Int32) then y0 else y1) (FP.ddiv (FP.i2d ((contribV i5 i2 (2 : Int32)) + (contribV i7 i2 (2 : Int32)))) (FP.i2d i4))) .l) = (0 : Int32) then (1 : Int32) else (0 : Int32)) → Go p e below s K1 K2 QQ T11 (mkF m 84 #[.val (.ref a0), .val (.ref a1), .val (.int i2), .val (.int (2 : Int32)), .val (.int i4), .val (.int i5), .val (.int i6), .val (.int i7), .val (.int ((contribV i5 i2 (2 : Int32)) + (contribV i7 i2 (2 : Int32)))), .val (.double (FP.ddiv (FP.i2d ((contribV i5 i2 (2 : Int32)) + (contribV i7 i2 (2 : Int32)))) (FP.i2d i4))), .second] [(.int v15)]) by
          by_cases hc17 : (cmpValue (FP.dcmp (if i2 = (0 : Int32) then y0 else y1) (FP.ddiv (FP.i2d ((contribV i5 i2 (2 : Int32)) + (contribV i7 i2 (2 : Int32)))) (FP.i2d i4))) .l) = (0 : Int32)
          · -- pc 76 yes
            refine Go.on (fun _ k => XS.ifNo X11.here hx rfl (hb hby d8_76) rfl ((if0 _ _).trans (teq hc17).2) k) ?_
            show Go _ _ _ _ _ _ _ _ (mkF m 79 #[.val (.ref a0), .val (.ref a1), .val (.int i2), .val (.int (2 : Int32)), .val (.int i4), .val (.int i5), .val (.int i6), .val (.int i7), .val (.int ((contribV i5 i2 (2 : Int32)) + (contribV i7 i2 (2 : Int32)))), .val (.double (FP.ddiv (FP.i2d ((contribV i5 i2 (2 : Int32)) + (contribV i7 i2 (2 : Int32)))) (FP.i2d i4))), .second] [])
            refine Go.on (fun _ k => XS.iconst X11.here hx rfl (hb hby d8_79) k) ?_
            show Go _ _ _ _ _ _ _ _ (mkF m 80 #[.val (.ref a0), .val (.ref a1), .val (.int i2), .val (.int (2 : Int32)), .val (.int i4), .val (.int i5), .val (.int i6), .val (.int i7), .val (.int ((contribV i5 i2 (2 : Int32)) + (contribV i7 i2 (2 : Int32)))), .val (.double (FP.ddiv (FP.i2d ((contribV i5 i2 (2 : Int32)) + (contribV i7 i2 (2 : Int32)))) (FP.i2d i4))), .second] [(.int (1 : Int32))])
            refine Go.on (fun _ k => XS.goto X11.here hx rfl (pc0 := 80) (pc' := 84) rfl (hb hby d8_80) (by decide) (by decide) k) ?_
            show Go _ _ _ _ _ _ _ _ (mkF m 84 #[.val (.ref a0), .val (.ref a1), .val (.int i2), .val (.int (2 : Int32)), .val (.int i4), .val (.int i5), .val (.int i6), .val (.int i7), .val (.int ((contribV i5 i2 (2 : Int32)) + (contribV i7 i2 (2 : Int32)))), .val (.double (FP.ddiv (FP.i2d ((contribV i5 i2 (2 : Int32)) + (contribV i7 i2 (2 : Int32)))) (FP.i2d i4))), .second] [(.int (1 : Int32))])
            exact hJ16 _ (by rw [if_pos hc17])
          · -- pc 76 no
            refine Go.on (fun _ k => XS.ifYes X11.here hx rfl (pc0 := 76) (pc' := 83) rfl (hb hby d8_76) rfl ((if0 _ _).trans (feq hc17).2) (by decide) (by decide) k) ?_
            show Go _ _ _ _ _ _ _ _ (mkF m 83 #[.val (.ref a0), .val (.ref a1), .val (.int i2), .val (.int (2 : Int32)), .val (.int i4), .val (.int i5), .val (.int i6), .val (.int i7), .val (.int ((contribV i5 i2 (2 : Int32)) + (contribV i7 i2 (2 : Int32)))), .val (.double (FP.ddiv (FP.i2d ((contribV i5 i2 (2 : Int32)) + (contribV i7 i2 (2 : Int32)))) (FP.i2d i4))), .second] [])
            refine Go.on (fun _ k => XS.iconst X11.here hx rfl (hb hby d8_83) k) ?_
            show Go _ _ _ _ _ _ _ _ (mkF m 84 #[.val (.ref a0), .val (.ref a1), .val (.int i2), .val (.int (2 : Int32)), .val (.int i4), .val (.int i5), .val (.int i6), .val (.int i7), .val (.int ((contribV i5 i2 (2 : Int32)) + (contribV i7 i2 (2 : Int32)))), .val (.double (FP.ddiv (FP.i2d ((contribV i5 i2 (2 : Int32)) + (contribV i7 i2 (2 : Int32)))) (FP.i2d i4))), .second] [(.int (0 : Int32))])
            exact hJ16 _ (by rw [if_neg hc17])
        intro v15 hv15
        refine Go.retN X11 hx (t := .boolean) Bd.returns (by simp) (hb hby d8_84) ?_ (by rw [hK1]; decide) (by rw [hK2]; decide)
        rw [e11, ← hQQ]
        refine ⟨?_, N11, rfl⟩
        unfold compV compT; rw [if_pos hc3, if_neg hc4, if_pos hc13]; rw [hv15]; (repeat' split) <;> rfl
      · -- pc 67 no
        refine Go.on (fun _ k => XS.ifYes X11.here hx rfl (pc0 := 67) (pc' := 83) rfl (hb hby d8_67) rfl ((if0 _ _).trans (feq hc13).2) (by decide) (by decide) k) ?_
        show Go _ _ _ _ _ _ _ _ (mkF m 83 #[.val (.ref a0), .val (.ref a1), .val (.int i2), .val (.int (2 : Int32)), .val (.int i4), .val (.int i5), .val (.int i6), .val (.int i7), .val (.int ((contribV i5 i2 (2 : Int32)) + (contribV i7 i2 (2 : Int32)))), .val (.double (FP.ddiv (FP.i2d ((contribV i5 i2 (2 : Int32)) + (contribV i7 i2 (2 : Int32)))) (FP.i2d i4))), .second] [])
        refine Go.on (fun _ k => XS.iconst X11.here hx rfl (hb hby d8_83) k) ?_
        show Go _ _ _ _ _ _ _ _ (mkF m 84 #[.val (.ref a0), .val (.ref a1), .val (.int i2), .val (.int (2 : Int32)), .val (.int i4), .val (.int i5), .val (.int i6), .val (.int i7), .val (.int ((contribV i5 i2 (2 : Int32)) + (contribV i7 i2 (2 : Int32)))), .val (.double (FP.ddiv (FP.i2d ((contribV i5 i2 (2 : Int32)) + (contribV i7 i2 (2 : Int32)))) (FP.i2d i4))), .second] [(.int (0 : Int32))])
        refine Go.retN X11 hx (t := .boolean) Bd.returns (by simp) (hb hby d8_84) ?_ (by rw [hK1]; decide) (by rw [hK2]; decide)
        rw [e11, ← hQQ]
        refine ⟨?_, N11, rfl⟩
        unfold compV compT; rw [if_pos hc3, if_neg hc4, if_neg hc13]; rfl
  · -- pc 19 no
    refine Go.on (fun _ k => XS.icmpNo X2.here hx rfl (hb hby d8_19) rfl (flt hc3).1 k) ?_
    show Go _ _ _ _ _ _ _ _ (mkF m 22 #[.val (.ref a0), .val (.ref a1), .val (.int i2), .val (.int (2 : Int32)), .val (.int i4), .val (.int i5), .val (.int i6), .val (.int i7), .val (.int (contribV i5 i2 (2 : Int32))), .unset, .unset] [])
    refine Go.on (fun _ k => XS.iload X2.here hx rfl (hb hby d8_22) rfl k) ?_
    show Go _ _ _ _ _ _ _ _ (mkF m 24 #[.val (.ref a0), .val (.ref a1), .val (.int i2), .val (.int (2 : Int32)), .val (.int i4), .val (.int i5), .val (.int i6), .val (.int i7), .val (.int (contribV i5 i2 (2 : Int32))), .unset, .unset] [(.int (contribV i5 i2 (2 : Int32)))])
    refine Go.on (fun _ k => XS.iload X2.here hx rfl (hb hby d8_24) rfl k) ?_
    show Go _ _ _ _ _ _ _ _ (mkF m 26 #[.val (.ref a0), .val (.ref a1), .val (.int i2), .val (.int (2 : Int32)), .val (.int i4), .val (.int i5), .val (.int i6), .val (.int i7), .val (.int (contribV i5 i2 (2 : Int32))), .unset, .unset] [(.int i6), (.int (contribV i5 i2 (2 : Int32)))])
    refine Go.on (fun _ k => XS.iloadN X2.here hx rfl (hb hby d8_26) rfl k) ?_
    show Go _ _ _ _ _ _ _ _ (mkF m 27 #[.val (.ref a0), .val (.ref a1), .val (.int i2), .val (.int (2 : Int32)), .val (.int i4), .val (.int i5), .val (.int i6), .val (.int i7), .val (.int (contribV i5 i2 (2 : Int32))), .unset, .unset] [(.int i2), (.int i6), (.int (contribV i5 i2 (2 : Int32)))])
    refine Go.on (fun _ k => XS.iloadN X2.here hx rfl (hb hby d8_27) rfl k) ?_
    show Go _ _ _ _ _ _ _ _ (mkF m 28 #[.val (.ref a0), .val (.ref a1), .val (.int i2), .val (.int (2 : Int32)), .val (.int i4), .val (.int i5), .val (.int i6), .val (.int i7), .val (.int (contribV i5 i2 (2 : Int32))), .unset, .unset] [(.int (2 : Int32)), (.int i2), (.int i6), (.int (contribV i5 i2 (2 : Int32)))])
    obtain ⟨_, _, ⟨T18, L18, k18, n18⟩, -, X18, ⟨Lc18, hQ18, l18, y18, z18⟩, st18⟩ := Jvm.LawKit.callS X2 hx (y := (⟨"com/example/d2rank/d2rank/rerank/CentroidMeanPinLaw", "contrib", "(III)I"⟩ : MethodName)) hown (mvT hZ (hw _ (List.mem_of_getElem? (i := 38) rfl))) (mvT hZ (hw _ (List.mem_of_getElem? (i := 39) rfl))) (mvT hZ (hw _ (List.mem_of_getElem? (i := 14) rfl))) (mvT hZ (hw _ (List.mem_of_getElem? (i := 40) rfl))) (by decide) (backOf (W := 1) (rm9 l Z aw hw [] i6 i2 (2 : Int32)  h0 n0 ZZ (by decide)) hZ (hw _ (List.mem_of_getElem? (i := 40) rfl)) (hw _ (List.mem_of_getElem? (i := 14) rfl)) (by decide) (by decide)) (g := (mkF m 28 #[.val (.ref a0), .val (.ref a1), .val (.int i2), .val (.int (2 : Int32)), .val (.int i4), .val (.int i5), .val (.int i6), .val (.int i7), .val (.int (contribV i5 i2 (2 : Int32))), .unset, .unset] [(.int (2 : Int32)), (.int i2), (.int i6), (.int (contribV i5 i2 (2 : Int32)))])) rfl (by rw [hml]; rfl) (argsL := [(.int i6), (.int i2), (.int (2 : Int32))]) (rest := [(.int (contribV i5 i2 (2 : Int32)))]) (lenOf pd_2 rfl) rfl (by show 2 * 0 + _ ≤ _; exact Nat.le_of_eq rfl) (hb hby d8_28) (fun _ _ => ⟨rfl, e2, (by decide : 0 + 0 ≤ _), (by decide : 0 + 0 ≤ _)⟩)
    dsimp only [Pt.U, Pt.locs, Pt.cells, Pt.slots] at X18 l18 y18 z18 st18 hQ18
    subst l18 y18 z18
    obtain ⟨rfl, N18q, e18⟩ := hQ18
    have N18 := Fr.app N2 N18q
    refine Go.on st18 ?_
    show Go _ _ _ _ _ _ _ _ (mkF m 31 #[.val (.ref a0), .val (.ref a1), .val (.int i2), .val (.int (2 : Int32)), .val (.int i4), .val (.int i5), .val (.int i6), .val (.int i7), .val (.int (contribV i5 i2 (2 : Int32))), .unset, .unset] [(.int (contribV i6 i2 (2 : Int32))), (.int (contribV i5 i2 (2 : Int32)))])
    refine Go.on (fun _ k => XS.iadd X18.here hx rfl (hb hby d8_31) rfl k) ?_
    show Go _ _ _ _ _ _ _ _ (mkF m 32 #[.val (.ref a0), .val (.ref a1), .val (.int i2), .val (.int (2 : Int32)), .val (.int i4), .val (.int i5), .val (.int i6), .val (.int i7), .val (.int (contribV i5 i2 (2 : Int32))), .unset, .unset] [(.int ((contribV i5 i2 (2 : Int32)) + (contribV i6 i2 (2 : Int32))))])
    refine Go.on (fun _ k => XS.istore X18.here hx rfl (hb hby d8_32) rfl (l' := #[.val (.ref a0), .val (.ref a1), .val (.int i2), .val (.int (2 : Int32)), .val (.int i4), .val (.int i5), .val (.int i6), .val (.int i7), .val (.int ((contribV i5 i2 (2 : Int32)) + (contribV i6 i2 (2 : Int32)))), .unset, .unset]) rfl k) ?_
    show Go _ _ _ _ _ _ _ _ (mkF m 34 #[.val (.ref a0), .val (.ref a1), .val (.int i2), .val (.int (2 : Int32)), .val (.int i4), .val (.int i5), .val (.int i6), .val (.int i7), .val (.int ((contribV i5 i2 (2 : Int32)) + (contribV i6 i2 (2 : Int32)))), .unset, .unset] [])
    refine Go.on (fun _ k => XS.iload X18.here hx rfl (hb hby d8_34) rfl k) ?_
    show Go _ _ _ _ _ _ _ _ (mkF m 36 #[.val (.ref a0), .val (.ref a1), .val (.int i2), .val (.int (2 : Int32)), .val (.int i4), .val (.int i5), .val (.int i6), .val (.int i7), .val (.int ((contribV i5 i2 (2 : Int32)) + (contribV i6 i2 (2 : Int32)))), .unset, .unset] [(.int i4)])
    refine Go.on (fun _ k => XS.iconst X18.here hx rfl (hb hby d8_36) k) ?_
    show Go _ _ _ _ _ _ _ _ (mkF m 37 #[.val (.ref a0), .val (.ref a1), .val (.int i2), .val (.int (2 : Int32)), .val (.int i4), .val (.int i5), .val (.int i6), .val (.int i7), .val (.int ((contribV i5 i2 (2 : Int32)) + (contribV i6 i2 (2 : Int32)))), .unset, .unset] [(.int (3 : Int32)), (.int i4)])
    by_cases hc19 : i4 < (3 : Int32)
    · -- pc 37 yes
      refine Go.on (fun _ k => XS.icmpYes X18.here hx rfl (pc0 := 37) (pc' := 52) rfl (hb hby d8_37) rfl (tlt hc19).1 (by decide) (by decide) k) ?_
      show Go _ _ _ _ _ _ _ _ (mkF m 52 #[.val (.ref a0), .val (.ref a1), .val (.int i2), .val (.int (2 : Int32)), .val (.int i4), .val (.int i5), .val (.int i6), .val (.int i7), .val (.int ((contribV i5 i2 (2 : Int32)) + (contribV i6 i2 (2 : Int32)))), .unset, .unset] [])
      refine Go.on (fun _ k => XS.iload X18.here hx rfl (hb hby d8_52) rfl k) ?_
      show Go _ _ _ _ _ _ _ _ (mkF m 54 #[.val (.ref a0), .val (.ref a1), .val (.int i2), .val (.int (2 : Int32)), .val (.int i4), .val (.int i5), .val (.int i6), .val (.int i7), .val (.int ((contribV i5 i2 (2 : Int32)) + (contribV i6 i2 (2 : Int32)))), .unset, .unset] [(.int ((contribV i5 i2 (2 : Int32)) + (contribV i6 i2 (2 : Int32))))])
      refine Go.on (fun _ k => XS.i2dS X18.here hx rfl (hb hby d8_54) rfl rfl k) ?_
      show Go _ _ _ _ _ _ _ _ (mkF m 55 #[.val (.ref a0), .val (.ref a1), .val (.int i2), .val (.int (2 : Int32)), .val (.int i4), .val (.int i5), .val (.int i6), .val (.int i7), .val (.int ((contribV i5 i2 (2 : Int32)) + (contribV i6 i2 (2 : Int32)))), .unset, .unset] [(.double (FP.i2d ((contribV i5 i2 (2 : Int32)) + (contribV i6 i2 (2 : Int32)))))])
      refine Go.on (fun _ k => XS.iload X18.here hx rfl (hb hby d8_55) rfl k) ?_
      show Go _ _ _ _ _ _ _ _ (mkF m 57 #[.val (.ref a0), .val (.ref a1), .val (.int i2), .val (.int (2 : Int32)), .val (.int i4), .val (.int i5), .val (.int i6), .val (.int i7), .val (.int ((contribV i5 i2 (2 : Int32)) + (contribV i6 i2 (2 : Int32)))), .unset, .unset] [(.int i4), (.double (FP.i2d ((contribV i5 i2 (2 : Int32)) + (contribV i6 i2 (2 : Int32)))))])
      refine Go.on (fun _ k => XS.i2dS X18.here hx rfl (hb hby d8_57) rfl rfl k) ?_
      show Go _ _ _ _ _ _ _ _ (mkF m 58 #[.val (.ref a0), .val (.ref a1), .val (.int i2), .val (.int (2 : Int32)), .val (.int i4), .val (.int i5), .val (.int i6), .val (.int i7), .val (.int ((contribV i5 i2 (2 : Int32)) + (contribV i6 i2 (2 : Int32)))), .unset, .unset] [(.double (FP.i2d i4)), (.double (FP.i2d ((contribV i5 i2 (2 : Int32)) + (contribV i6 i2 (2 : Int32)))))])
      refine Go.on (fun _ k => XS.ddivS X18.here hx rfl (hb hby d8_58) rfl (own_nnd' (Jvm.FP.Core.i2d_fin _) _ hn4) rfl k) ?_
      show Go _ _ _ _ _ _ _ _ (mkF m 59 #[.val (.ref a0), .val (.ref a1), .val (.int i2), .val (.int (2 : Int32)), .val (.int i4), .val (.int i5), .val (.int i6), .val (.int i7), .val (.int ((contribV i5 i2 (2 : Int32)) + (contribV i6 i2 (2 : Int32)))), .unset, .unset] [(.double (FP.ddiv (FP.i2d ((contribV i5 i2 (2 : Int32)) + (contribV i6 i2 (2 : Int32)))) (FP.i2d i4)))])
      refine Go.on (fun _ k => XS.dstore X18.here hx rfl (hb hby d8_59) rfl (l' := #[.val (.ref a0), .val (.ref a1), .val (.int i2), .val (.int (2 : Int32)), .val (.int i4), .val (.int i5), .val (.int i6), .val (.int i7), .val (.int ((contribV i5 i2 (2 : Int32)) + (contribV i6 i2 (2 : Int32)))), .val (.double (FP.ddiv (FP.i2d ((contribV i5 i2 (2 : Int32)) + (contribV i6 i2 (2 : Int32)))) (FP.i2d i4))), .second]) rfl k) ?_
      show Go _ _ _ _ _ _ _ _ (mkF m 61 #[.val (.ref a0), .val (.ref a1), .val (.int i2), .val (.int (2 : Int32)), .val (.int i4), .val (.int i5), .val (.int i6), .val (.int i7), .val (.int ((contribV i5 i2 (2 : Int32)) + (contribV i6 i2 (2 : Int32)))), .val (.double (FP.ddiv (FP.i2d ((contribV i5 i2 (2 : Int32)) + (contribV i6 i2 (2 : Int32)))) (FP.i2d i4))), .second] [])
      refine Go.on (fun _ k => XS.aloadN X18.here hx rfl (hb hby d8_61) rfl rfl k) ?_
      show Go _ _ _ _ _ _ _ _ (mkF m 62 #[.val (.ref a0), .val (.ref a1), .val (.int i2), .val (.int (2 : Int32)), .val (.int i4), .val (.int i5), .val (.int i6), .val (.int i7), .val (.int ((contribV i5 i2 (2 : Int32)) + (contribV i6 i2 (2 : Int32)))), .val (.double (FP.ddiv (FP.i2d ((contribV i5 i2 (2 : Int32)) + (contribV i6 i2 (2 : Int32)))) (FP.i2d i4))), .second] [(.ref a0)])
      refine Go.on (fun _ k => XS.iloadN X18.here hx rfl (hb hby d8_62) rfl k) ?_
      show Go _ _ _ _ _ _ _ _ (mkF m 63 #[.val (.ref a0), .val (.ref a1), .val (.int i2), .val (.int (2 : Int32)), .val (.int i4), .val (.int i5), .val (.int i6), .val (.int i7), .val (.int ((contribV i5 i2 (2 : Int32)) + (contribV i6 i2 (2 : Int32)))), .val (.double (FP.ddiv (FP.i2d ((contribV i5 i2 (2 : Int32)) + (contribV i6 i2 (2 : Int32)))) (FP.i2d i4))), .second] [(.int i2), (.ref a0)])
      obtain ⟨cl20, Ar20, -, S20, -, H20, -⟩ := id V_a0
      have hin20 : ¬ (i2 < 0 ∨ cl20.slots.size ≤ (i2).toNatClampNeg) := inb_of S20 (own_inb2 hp)
      refine Go.on (X18.daload hx (j := i2) (v := (.double (if i2 = (0 : Int32) then x0 else x1))) (by rw [e18]; exact Ar20.1) (State.isArrayOf_alike hZ.alike Ar20.2.1) Ar20.2.2 hin20 (H20.at hin20 (own_get2 hp _ _ _)) (g := (mkF m 63 #[.val (.ref a0), .val (.ref a1), .val (.int i2), .val (.int (2 : Int32)), .val (.int i4), .val (.int i5), .val (.int i6), .val (.int i7), .val (.int ((contribV i5 i2 (2 : Int32)) + (contribV i6 i2 (2 : Int32)))), .val (.double (FP.ddiv (FP.i2d ((contribV i5 i2 (2 : Int32)) + (contribV i6 i2 (2 : Int32)))) (FP.i2d i4))), .second] [(.int i2), (.ref a0)])) rfl rfl (hb hby d8_63)) ?_
      show Go _ _ _ _ _ _ _ _ (mkF m 64 #[.val (.ref a0), .val (.ref a1), .val (.int i2), .val (.int (2 : Int32)), .val (.int i4), .val (.int i5), .val (.int i6), .val (.int i7), .val (.int ((contribV i5 i2 (2 : Int32)) + (contribV i6 i2 (2 : Int32)))), .val (.double (FP.ddiv (FP.i2d ((contribV i5 i2 (2 : Int32)) + (contribV i6 i2 (2 : Int32)))) (FP.i2d i4))), .second] [(.double (if i2 = (0 : Int32) then x0 else x1))])
      refine Go.on (fun _ k => XS.dload X18.here hx rfl (hb hby d8_64) rfl k) ?_
      show Go _ _ _ _ _ _ _ _ (mkF m 66 #[.val (.ref a0), .val (.ref a1), .val (.int i2), .val (.int (2 : Int32)), .val (.int i4), .val (.int i5), .val (.int i6), .val (.int i7), .val (.int ((contribV i5 i2 (2 : Int32)) + (contribV i6 i2 (2 : Int32)))), .val (.double (FP.ddiv (FP.i2d ((contribV i5 i2 (2 : Int32)) + (contribV i6 i2 (2 : Int32)))) (FP.i2d i4))), .second] [(.double (FP.ddiv (FP.i2d ((contribV i5 i2 (2 : Int32)) + (contribV i6 i2 (2 : Int32)))) (FP.i2d i4))), (.double (if i2 = (0 : Int32) then x0 else x1))])
      refine Go.on (fun _ k => XS.dcmpS X18.here hx rfl (hb hby d8_66) rfl rfl k) ?_
      show Go _ _ _ _ _ _ _ _ (mkF m 67 #[.val (.ref a0), .val (.ref a1), .val (.int i2), .val (.int (2 : Int32)), .val (.int i4), .val (.int i5), .val (.int i6), .val (.int i7), .val (.int ((contribV i5 i2 (2 : Int32)) + (contribV i6 i2 (2 : Int32)))), .val (.double (FP.ddiv (FP.i2d ((contribV i5 i2 (2 : Int32)) + (contribV i6 i2 (2 : Int32)))) (FP.i2d i4))), .second] [(.int (cmpValue (FP.dcmp (if i2 = (0 : Int32) then x0 else x1) (FP.ddiv (FP.i2d ((contribV i5 i2 (2 : Int32)) + (contribV i6 i2 (2 : Int32)))) (FP.i2d i4))) .l))])
      by_cases hc21 : (cmpValue (FP.dcmp (if i2 = (0 : Int32) then x0 else x1) (FP.ddiv (FP.i2d ((contribV i5 i2 (2 : Int32)) + (contribV i6 i2 (2 : Int32)))) (FP.i2d i4))) .l) = (0 : Int32)
      · -- pc 67 yes
        refine Go.on (fun _ k => XS.ifNo X18.here hx rfl (hb hby d8_67) rfl ((if0 _ _).trans (teq hc21).2) k) ?_
        show Go _ _ _ _ _ _ _ _ (mkF m 70 #[.val (.ref a0), .val (.ref a1), .val (.int i2), .val (.int (2 : Int32)), .val (.int i4), .val (.int i5), .val (.int i6), .val (.int i7), .val (.int ((contribV i5 i2 (2 : Int32)) + (contribV i6 i2 (2 : Int32)))), .val (.double (FP.ddiv (FP.i2d ((contribV i5 i2 (2 : Int32)) + (contribV i6 i2 (2 : Int32)))) (FP.i2d i4))), .second] [])
        refine Go.on (fun _ k => XS.aloadN X18.here hx rfl (hb hby d8_70) rfl rfl k) ?_
        show Go _ _ _ _ _ _ _ _ (mkF m 71 #[.val (.ref a0), .val (.ref a1), .val (.int i2), .val (.int (2 : Int32)), .val (.int i4), .val (.int i5), .val (.int i6), .val (.int i7), .val (.int ((contribV i5 i2 (2 : Int32)) + (contribV i6 i2 (2 : Int32)))), .val (.double (FP.ddiv (FP.i2d ((contribV i5 i2 (2 : Int32)) + (contribV i6 i2 (2 : Int32)))) (FP.i2d i4))), .second] [(.ref a1)])
        refine Go.on (fun _ k => XS.iloadN X18.here hx rfl (hb hby d8_71) rfl k) ?_
        show Go _ _ _ _ _ _ _ _ (mkF m 72 #[.val (.ref a0), .val (.ref a1), .val (.int i2), .val (.int (2 : Int32)), .val (.int i4), .val (.int i5), .val (.int i6), .val (.int i7), .val (.int ((contribV i5 i2 (2 : Int32)) + (contribV i6 i2 (2 : Int32)))), .val (.double (FP.ddiv (FP.i2d ((contribV i5 i2 (2 : Int32)) + (contribV i6 i2 (2 : Int32)))) (FP.i2d i4))), .second] [(.int i2), (.ref a1)])
        obtain ⟨cl22, Ar22, -, S22, -, H22, -⟩ := id V_a1
        have hin22 : ¬ (i2 < 0 ∨ cl22.slots.size ≤ (i2).toNatClampNeg) := inb_of S22 (own_inb2 hp)
        refine Go.on (X18.daload hx (j := i2) (v := (.double (if i2 = (0 : Int32) then y0 else y1))) (by rw [e18]; exact Ar22.1) (State.isArrayOf_alike hZ.alike Ar22.2.1) Ar22.2.2 hin22 (H22.at hin22 (own_get2 hp _ _ _)) (g := (mkF m 72 #[.val (.ref a0), .val (.ref a1), .val (.int i2), .val (.int (2 : Int32)), .val (.int i4), .val (.int i5), .val (.int i6), .val (.int i7), .val (.int ((contribV i5 i2 (2 : Int32)) + (contribV i6 i2 (2 : Int32)))), .val (.double (FP.ddiv (FP.i2d ((contribV i5 i2 (2 : Int32)) + (contribV i6 i2 (2 : Int32)))) (FP.i2d i4))), .second] [(.int i2), (.ref a1)])) rfl rfl (hb hby d8_72)) ?_
        show Go _ _ _ _ _ _ _ _ (mkF m 73 #[.val (.ref a0), .val (.ref a1), .val (.int i2), .val (.int (2 : Int32)), .val (.int i4), .val (.int i5), .val (.int i6), .val (.int i7), .val (.int ((contribV i5 i2 (2 : Int32)) + (contribV i6 i2 (2 : Int32)))), .val (.double (FP.ddiv (FP.i2d ((contribV i5 i2 (2 : Int32)) + (contribV i6 i2 (2 : Int32)))) (FP.i2d i4))), .second] [(.double (if i2 = (0 : Int32) then y0 else y1))])
        refine Go.on (fun _ k => XS.dload X18.here hx rfl (hb hby d8_73) rfl k) ?_
        show Go _ _ _ _ _ _ _ _ (mkF m 75 #[.val (.ref a0), .val (.ref a1), .val (.int i2), .val (.int (2 : Int32)), .val (.int i4), .val (.int i5), .val (.int i6), .val (.int i7), .val (.int ((contribV i5 i2 (2 : Int32)) + (contribV i6 i2 (2 : Int32)))), .val (.double (FP.ddiv (FP.i2d ((contribV i5 i2 (2 : Int32)) + (contribV i6 i2 (2 : Int32)))) (FP.i2d i4))), .second] [(.double (FP.ddiv (FP.i2d ((contribV i5 i2 (2 : Int32)) + (contribV i6 i2 (2 : Int32)))) (FP.i2d i4))), (.double (if i2 = (0 : Int32) then y0 else y1))])
        refine Go.on (fun _ k => XS.dcmpS X18.here hx rfl (hb hby d8_75) rfl rfl k) ?_
        show Go _ _ _ _ _ _ _ _ (mkF m 76 #[.val (.ref a0), .val (.ref a1), .val (.int i2), .val (.int (2 : Int32)), .val (.int i4), .val (.int i5), .val (.int i6), .val (.int i7), .val (.int ((contribV i5 i2 (2 : Int32)) + (contribV i6 i2 (2 : Int32)))), .val (.double (FP.ddiv (FP.i2d ((contribV i5 i2 (2 : Int32)) + (contribV i6 i2 (2 : Int32)))) (FP.i2d i4))), .second] [(.int (cmpValue (FP.dcmp (if i2 = (0 : Int32) then y0 else y1) (FP.ddiv (FP.i2d ((contribV i5 i2 (2 : Int32)) + (contribV i6 i2 (2 : Int32)))) (FP.i2d i4))) .l))])
        suffices hJ24 : ∀ (v23 : Int32), v23 = (if (cmpValue (FP.dcmp (if i2 = (0 : Int32) then y0 else y1) (FP.ddiv (FP.i2d ((contribV i5 i2 (2 : Int32)) + (contribV i6 i2 (2 : Int32)))) (FP.i2d i4))) .l) = (0 : Int32) then (1 : Int32) else (0 : Int32)) → Go p e below s K1 K2 QQ T18 (mkF m 84 #[.val (.ref a0), .val (.ref a1), .val (.int i2), .val (.int (2 : Int32)), .val (.int i4), .val (.int i5), .val (.int i6), .val (.int i7), .val (.int ((contribV i5 i2 (2 : Int32)) + (contribV i6 i2 (2 : Int32)))), .val (.double (FP.ddiv (FP.i2d ((contribV i5 i2 (2 : Int32)) + (contribV i6 i2 (2 : Int32)))) (FP.i2d i4))), .second] [(.int v23)]) by
          by_cases hc25 : (cmpValue (FP.dcmp (if i2 = (0 : Int32) then y0 else y1) (FP.ddiv (FP.i2d ((contribV i5 i2 (2 : Int32)) + (contribV i6 i2 (2 : Int32)))) (FP.i2d i4))) .l) = (0 : Int32)
          · -- pc 76 yes
            refine Go.on (fun _ k => XS.ifNo X18.here hx rfl (hb hby d8_76) rfl ((if0 _ _).trans (teq hc25).2) k) ?_
            show Go _ _ _ _ _ _ _ _ (mkF m 79 #[.val (.ref a0), .val (.ref a1), .val (.int i2), .val (.int (2 : Int32)), .val (.int i4), .val (.int i5), .val (.int i6), .val (.int i7), .val (.int ((contribV i5 i2 (2 : Int32)) + (contribV i6 i2 (2 : Int32)))), .val (.double (FP.ddiv (FP.i2d ((contribV i5 i2 (2 : Int32)) + (contribV i6 i2 (2 : Int32)))) (FP.i2d i4))), .second] [])
            refine Go.on (fun _ k => XS.iconst X18.here hx rfl (hb hby d8_79) k) ?_
            show Go _ _ _ _ _ _ _ _ (mkF m 80 #[.val (.ref a0), .val (.ref a1), .val (.int i2), .val (.int (2 : Int32)), .val (.int i4), .val (.int i5), .val (.int i6), .val (.int i7), .val (.int ((contribV i5 i2 (2 : Int32)) + (contribV i6 i2 (2 : Int32)))), .val (.double (FP.ddiv (FP.i2d ((contribV i5 i2 (2 : Int32)) + (contribV i6 i2 (2 : Int32)))) (FP.i2d i4))), .second] [(.int (1 : Int32))])
            refine Go.on (fun _ k => XS.goto X18.here hx rfl (pc0 := 80) (pc' := 84) rfl (hb hby d8_80) (by decide) (by decide) k) ?_
            show Go _ _ _ _ _ _ _ _ (mkF m 84 #[.val (.ref a0), .val (.ref a1), .val (.int i2), .val (.int (2 : Int32)), .val (.int i4), .val (.int i5), .val (.int i6), .val (.int i7), .val (.int ((contribV i5 i2 (2 : Int32)) + (contribV i6 i2 (2 : Int32)))), .val (.double (FP.ddiv (FP.i2d ((contribV i5 i2 (2 : Int32)) + (contribV i6 i2 (2 : Int32)))) (FP.i2d i4))), .second] [(.int (1 : Int32))])
            exact hJ24 _ (by rw [if_pos hc25])
          · -- pc 76 no
            refine Go.on (fun _ k => XS.ifYes X18.here hx rfl (pc0 := 76) (pc' := 83) rfl (hb hby d8_76) rfl ((if0 _ _).trans (feq hc25).2) (by decide) (by decide) k) ?_
            show Go _ _ _ _ _ _ _ _ (mkF m 83 #[.val (.ref a0), .val (.ref a1), .val (.int i2), .val (.int (2 : Int32)), .val (.int i4), .val (.int i5), .val (.int i6), .val (.int i7), .val (.int ((contribV i5 i2 (2 : Int32)) + (contribV i6 i2 (2 : Int32)))), .val (.double (FP.ddiv (FP.i2d ((contribV i5 i2 (2 : Int32)) + (contribV i6 i2 (2 : Int32)))) (FP.i2d i4))), .second] [])
            refine Go.on (fun _ k => XS.iconst X18.here hx rfl (hb hby d8_83) k) ?_
            show Go _ _ _ _ _ _ _ _ (mkF m 84 #[.val (.ref a0), .val (.ref a1), .val (.int i2), .val (.int (2 : Int32)), .val (.int i4), .val (.int i5), .val (.int i6), .val (.int i7), .val (.int ((contribV i5 i2 (2 : Int32)) + (contribV i6 i2 (2 : Int32)))), .val (.double (FP.ddiv (FP.i2d ((contribV i5 i2 (2 : Int32)) + (contribV i6 i2 (2 : Int32)))) (FP.i2d i4))), .second] [(.int (0 : Int32))])
            exact hJ24 _ (by rw [if_neg hc25])
        intro v23 hv23
        refine Go.retN X18 hx (t := .boolean) Bd.returns (by simp) (hb hby d8_84) ?_ (by rw [hK1]; decide) (by rw [hK2]; decide)
        rw [e18, ← hQQ]
        refine ⟨?_, N18, rfl⟩
        unfold compV compT; rw [if_neg hc3, if_pos hc19, if_pos hc21]; rw [hv23]; (repeat' split) <;> rfl
      · -- pc 67 no
        refine Go.on (fun _ k => XS.ifYes X18.here hx rfl (pc0 := 67) (pc' := 83) rfl (hb hby d8_67) rfl ((if0 _ _).trans (feq hc21).2) (by decide) (by decide) k) ?_
        show Go _ _ _ _ _ _ _ _ (mkF m 83 #[.val (.ref a0), .val (.ref a1), .val (.int i2), .val (.int (2 : Int32)), .val (.int i4), .val (.int i5), .val (.int i6), .val (.int i7), .val (.int ((contribV i5 i2 (2 : Int32)) + (contribV i6 i2 (2 : Int32)))), .val (.double (FP.ddiv (FP.i2d ((contribV i5 i2 (2 : Int32)) + (contribV i6 i2 (2 : Int32)))) (FP.i2d i4))), .second] [])
        refine Go.on (fun _ k => XS.iconst X18.here hx rfl (hb hby d8_83) k) ?_
        show Go _ _ _ _ _ _ _ _ (mkF m 84 #[.val (.ref a0), .val (.ref a1), .val (.int i2), .val (.int (2 : Int32)), .val (.int i4), .val (.int i5), .val (.int i6), .val (.int i7), .val (.int ((contribV i5 i2 (2 : Int32)) + (contribV i6 i2 (2 : Int32)))), .val (.double (FP.ddiv (FP.i2d ((contribV i5 i2 (2 : Int32)) + (contribV i6 i2 (2 : Int32)))) (FP.i2d i4))), .second] [(.int (0 : Int32))])
        refine Go.retN X18 hx (t := .boolean) Bd.returns (by simp) (hb hby d8_84) ?_ (by rw [hK1]; decide) (by rw [hK2]; decide)
        rw [e18, ← hQQ]
        refine ⟨?_, N18, rfl⟩
        unfold compV compT; rw [if_neg hc3, if_pos hc19, if_neg hc21]; rfl
    · -- pc 37 no
      refine Go.on (fun _ k => XS.icmpNo X18.here hx rfl (hb hby d8_37) rfl (flt hc19).1 k) ?_
      show Go _ _ _ _ _ _ _ _ (mkF m 40 #[.val (.ref a0), .val (.ref a1), .val (.int i2), .val (.int (2 : Int32)), .val (.int i4), .val (.int i5), .val (.int i6), .val (.int i7), .val (.int ((contribV i5 i2 (2 : Int32)) + (contribV i6 i2 (2 : Int32)))), .unset, .unset] [])
      refine Go.on (fun _ k => XS.iload X18.here hx rfl (hb hby d8_40) rfl k) ?_
      show Go _ _ _ _ _ _ _ _ (mkF m 42 #[.val (.ref a0), .val (.ref a1), .val (.int i2), .val (.int (2 : Int32)), .val (.int i4), .val (.int i5), .val (.int i6), .val (.int i7), .val (.int ((contribV i5 i2 (2 : Int32)) + (contribV i6 i2 (2 : Int32)))), .unset, .unset] [(.int ((contribV i5 i2 (2 : Int32)) + (contribV i6 i2 (2 : Int32))))])
      refine Go.on (fun _ k => XS.iload X18.here hx rfl (hb hby d8_42) rfl k) ?_
      show Go _ _ _ _ _ _ _ _ (mkF m 44 #[.val (.ref a0), .val (.ref a1), .val (.int i2), .val (.int (2 : Int32)), .val (.int i4), .val (.int i5), .val (.int i6), .val (.int i7), .val (.int ((contribV i5 i2 (2 : Int32)) + (contribV i6 i2 (2 : Int32)))), .unset, .unset] [(.int i7), (.int ((contribV i5 i2 (2 : Int32)) + (contribV i6 i2 (2 : Int32))))])
      refine Go.on (fun _ k => XS.iloadN X18.here hx rfl (hb hby d8_44) rfl k) ?_
      show Go _ _ _ _ _ _ _ _ (mkF m 45 #[.val (.ref a0), .val (.ref a1), .val (.int i2), .val (.int (2 : Int32)), .val (.int i4), .val (.int i5), .val (.int i6), .val (.int i7), .val (.int ((contribV i5 i2 (2 : Int32)) + (contribV i6 i2 (2 : Int32)))), .unset, .unset] [(.int i2), (.int i7), (.int ((contribV i5 i2 (2 : Int32)) + (contribV i6 i2 (2 : Int32))))])
      refine Go.on (fun _ k => XS.iloadN X18.here hx rfl (hb hby d8_45) rfl k) ?_
      show Go _ _ _ _ _ _ _ _ (mkF m 46 #[.val (.ref a0), .val (.ref a1), .val (.int i2), .val (.int (2 : Int32)), .val (.int i4), .val (.int i5), .val (.int i6), .val (.int i7), .val (.int ((contribV i5 i2 (2 : Int32)) + (contribV i6 i2 (2 : Int32)))), .unset, .unset] [(.int (2 : Int32)), (.int i2), (.int i7), (.int ((contribV i5 i2 (2 : Int32)) + (contribV i6 i2 (2 : Int32))))])
      obtain ⟨_, _, ⟨T26, L26, k26, n26⟩, -, X26, ⟨Lc26, hQ26, l26, y26, z26⟩, st26⟩ := Jvm.LawKit.callS X18 hx (y := (⟨"com/example/d2rank/d2rank/rerank/CentroidMeanPinLaw", "contrib", "(III)I"⟩ : MethodName)) hown (mvT hZ (hw _ (List.mem_of_getElem? (i := 38) rfl))) (mvT hZ (hw _ (List.mem_of_getElem? (i := 39) rfl))) (mvT hZ (hw _ (List.mem_of_getElem? (i := 14) rfl))) (mvT hZ (hw _ (List.mem_of_getElem? (i := 40) rfl))) (by decide) (backOf (W := 1) (rm9 l Z aw hw [] i7 i2 (2 : Int32)  h0 n0 ZZ (by decide)) hZ (hw _ (List.mem_of_getElem? (i := 40) rfl)) (hw _ (List.mem_of_getElem? (i := 14) rfl)) (by decide) (by decide)) (g := (mkF m 46 #[.val (.ref a0), .val (.ref a1), .val (.int i2), .val (.int (2 : Int32)), .val (.int i4), .val (.int i5), .val (.int i6), .val (.int i7), .val (.int ((contribV i5 i2 (2 : Int32)) + (contribV i6 i2 (2 : Int32)))), .unset, .unset] [(.int (2 : Int32)), (.int i2), (.int i7), (.int ((contribV i5 i2 (2 : Int32)) + (contribV i6 i2 (2 : Int32))))])) rfl (by rw [hml]; rfl) (argsL := [(.int i7), (.int i2), (.int (2 : Int32))]) (rest := [(.int ((contribV i5 i2 (2 : Int32)) + (contribV i6 i2 (2 : Int32))))]) (lenOf pd_2 rfl) rfl (by show 2 * 0 + _ ≤ _; exact Nat.le_of_eq rfl) (hb hby d8_46) (fun _ _ => ⟨rfl, e18, (by decide : 0 + 0 ≤ _), (by decide : 0 + 0 ≤ _)⟩)
      dsimp only [Pt.U, Pt.locs, Pt.cells, Pt.slots] at X26 l26 y26 z26 st26 hQ26
      subst l26 y26 z26
      obtain ⟨rfl, N26q, e26⟩ := hQ26
      have N26 := Fr.app N18 N26q
      refine Go.on st26 ?_
      show Go _ _ _ _ _ _ _ _ (mkF m 49 #[.val (.ref a0), .val (.ref a1), .val (.int i2), .val (.int (2 : Int32)), .val (.int i4), .val (.int i5), .val (.int i6), .val (.int i7), .val (.int ((contribV i5 i2 (2 : Int32)) + (contribV i6 i2 (2 : Int32)))), .unset, .unset] [(.int (contribV i7 i2 (2 : Int32))), (.int ((contribV i5 i2 (2 : Int32)) + (contribV i6 i2 (2 : Int32))))])
      refine Go.on (fun _ k => XS.iadd X26.here hx rfl (hb hby d8_49) rfl k) ?_
      show Go _ _ _ _ _ _ _ _ (mkF m 50 #[.val (.ref a0), .val (.ref a1), .val (.int i2), .val (.int (2 : Int32)), .val (.int i4), .val (.int i5), .val (.int i6), .val (.int i7), .val (.int ((contribV i5 i2 (2 : Int32)) + (contribV i6 i2 (2 : Int32)))), .unset, .unset] [(.int (((contribV i5 i2 (2 : Int32)) + (contribV i6 i2 (2 : Int32))) + (contribV i7 i2 (2 : Int32))))])
      refine Go.on (fun _ k => XS.istore X26.here hx rfl (hb hby d8_50) rfl (l' := #[.val (.ref a0), .val (.ref a1), .val (.int i2), .val (.int (2 : Int32)), .val (.int i4), .val (.int i5), .val (.int i6), .val (.int i7), .val (.int (((contribV i5 i2 (2 : Int32)) + (contribV i6 i2 (2 : Int32))) + (contribV i7 i2 (2 : Int32)))), .unset, .unset]) rfl k) ?_
      show Go _ _ _ _ _ _ _ _ (mkF m 52 #[.val (.ref a0), .val (.ref a1), .val (.int i2), .val (.int (2 : Int32)), .val (.int i4), .val (.int i5), .val (.int i6), .val (.int i7), .val (.int (((contribV i5 i2 (2 : Int32)) + (contribV i6 i2 (2 : Int32))) + (contribV i7 i2 (2 : Int32)))), .unset, .unset] [])
      refine Go.on (fun _ k => XS.iload X26.here hx rfl (hb hby d8_52) rfl k) ?_
      show Go _ _ _ _ _ _ _ _ (mkF m 54 #[.val (.ref a0), .val (.ref a1), .val (.int i2), .val (.int (2 : Int32)), .val (.int i4), .val (.int i5), .val (.int i6), .val (.int i7), .val (.int (((contribV i5 i2 (2 : Int32)) + (contribV i6 i2 (2 : Int32))) + (contribV i7 i2 (2 : Int32)))), .unset, .unset] [(.int (((contribV i5 i2 (2 : Int32)) + (contribV i6 i2 (2 : Int32))) + (contribV i7 i2 (2 : Int32))))])
      refine Go.on (fun _ k => XS.i2dS X26.here hx rfl (hb hby d8_54) rfl rfl k) ?_
      show Go _ _ _ _ _ _ _ _ (mkF m 55 #[.val (.ref a0), .val (.ref a1), .val (.int i2), .val (.int (2 : Int32)), .val (.int i4), .val (.int i5), .val (.int i6), .val (.int i7), .val (.int (((contribV i5 i2 (2 : Int32)) + (contribV i6 i2 (2 : Int32))) + (contribV i7 i2 (2 : Int32)))), .unset, .unset] [(.double (FP.i2d (((contribV i5 i2 (2 : Int32)) + (contribV i6 i2 (2 : Int32))) + (contribV i7 i2 (2 : Int32)))))])
      refine Go.on (fun _ k => XS.iload X26.here hx rfl (hb hby d8_55) rfl k) ?_
      show Go _ _ _ _ _ _ _ _ (mkF m 57 #[.val (.ref a0), .val (.ref a1), .val (.int i2), .val (.int (2 : Int32)), .val (.int i4), .val (.int i5), .val (.int i6), .val (.int i7), .val (.int (((contribV i5 i2 (2 : Int32)) + (contribV i6 i2 (2 : Int32))) + (contribV i7 i2 (2 : Int32)))), .unset, .unset] [(.int i4), (.double (FP.i2d (((contribV i5 i2 (2 : Int32)) + (contribV i6 i2 (2 : Int32))) + (contribV i7 i2 (2 : Int32)))))])
      refine Go.on (fun _ k => XS.i2dS X26.here hx rfl (hb hby d8_57) rfl rfl k) ?_
      show Go _ _ _ _ _ _ _ _ (mkF m 58 #[.val (.ref a0), .val (.ref a1), .val (.int i2), .val (.int (2 : Int32)), .val (.int i4), .val (.int i5), .val (.int i6), .val (.int i7), .val (.int (((contribV i5 i2 (2 : Int32)) + (contribV i6 i2 (2 : Int32))) + (contribV i7 i2 (2 : Int32)))), .unset, .unset] [(.double (FP.i2d i4)), (.double (FP.i2d (((contribV i5 i2 (2 : Int32)) + (contribV i6 i2 (2 : Int32))) + (contribV i7 i2 (2 : Int32)))))])
      refine Go.on (fun _ k => XS.ddivS X26.here hx rfl (hb hby d8_58) rfl (own_nnd' (Jvm.FP.Core.i2d_fin _) _ hn4) rfl k) ?_
      show Go _ _ _ _ _ _ _ _ (mkF m 59 #[.val (.ref a0), .val (.ref a1), .val (.int i2), .val (.int (2 : Int32)), .val (.int i4), .val (.int i5), .val (.int i6), .val (.int i7), .val (.int (((contribV i5 i2 (2 : Int32)) + (contribV i6 i2 (2 : Int32))) + (contribV i7 i2 (2 : Int32)))), .unset, .unset] [(.double (FP.ddiv (FP.i2d (((contribV i5 i2 (2 : Int32)) + (contribV i6 i2 (2 : Int32))) + (contribV i7 i2 (2 : Int32)))) (FP.i2d i4)))])
      refine Go.on (fun _ k => XS.dstore X26.here hx rfl (hb hby d8_59) rfl (l' := #[.val (.ref a0), .val (.ref a1), .val (.int i2), .val (.int (2 : Int32)), .val (.int i4), .val (.int i5), .val (.int i6), .val (.int i7), .val (.int (((contribV i5 i2 (2 : Int32)) + (contribV i6 i2 (2 : Int32))) + (contribV i7 i2 (2 : Int32)))), .val (.double (FP.ddiv (FP.i2d (((contribV i5 i2 (2 : Int32)) + (contribV i6 i2 (2 : Int32))) + (contribV i7 i2 (2 : Int32)))) (FP.i2d i4))), .second]) rfl k) ?_
      show Go _ _ _ _ _ _ _ _ (mkF m 61 #[.val (.ref a0), .val (.ref a1), .val (.int i2), .val (.int (2 : Int32)), .val (.int i4), .val (.int i5), .val (.int i6), .val (.int i7), .val (.int (((contribV i5 i2 (2 : Int32)) + (contribV i6 i2 (2 : Int32))) + (contribV i7 i2 (2 : Int32)))), .val (.double (FP.ddiv (FP.i2d (((contribV i5 i2 (2 : Int32)) + (contribV i6 i2 (2 : Int32))) + (contribV i7 i2 (2 : Int32)))) (FP.i2d i4))), .second] [])
      refine Go.on (fun _ k => XS.aloadN X26.here hx rfl (hb hby d8_61) rfl rfl k) ?_
      show Go _ _ _ _ _ _ _ _ (mkF m 62 #[.val (.ref a0), .val (.ref a1), .val (.int i2), .val (.int (2 : Int32)), .val (.int i4), .val (.int i5), .val (.int i6), .val (.int i7), .val (.int (((contribV i5 i2 (2 : Int32)) + (contribV i6 i2 (2 : Int32))) + (contribV i7 i2 (2 : Int32)))), .val (.double (FP.ddiv (FP.i2d (((contribV i5 i2 (2 : Int32)) + (contribV i6 i2 (2 : Int32))) + (contribV i7 i2 (2 : Int32)))) (FP.i2d i4))), .second] [(.ref a0)])
      refine Go.on (fun _ k => XS.iloadN X26.here hx rfl (hb hby d8_62) rfl k) ?_
      show Go _ _ _ _ _ _ _ _ (mkF m 63 #[.val (.ref a0), .val (.ref a1), .val (.int i2), .val (.int (2 : Int32)), .val (.int i4), .val (.int i5), .val (.int i6), .val (.int i7), .val (.int (((contribV i5 i2 (2 : Int32)) + (contribV i6 i2 (2 : Int32))) + (contribV i7 i2 (2 : Int32)))), .val (.double (FP.ddiv (FP.i2d (((contribV i5 i2 (2 : Int32)) + (contribV i6 i2 (2 : Int32))) + (contribV i7 i2 (2 : Int32)))) (FP.i2d i4))), .second] [(.int i2), (.ref a0)])
      obtain ⟨cl27, Ar27, -, S27, -, H27, -⟩ := id V_a0
      have hin27 : ¬ (i2 < 0 ∨ cl27.slots.size ≤ (i2).toNatClampNeg) := inb_of S27 (own_inb2 hp)
      refine Go.on (X26.daload hx (j := i2) (v := (.double (if i2 = (0 : Int32) then x0 else x1))) (by rw [e26]; exact Ar27.1) (State.isArrayOf_alike hZ.alike Ar27.2.1) Ar27.2.2 hin27 (H27.at hin27 (own_get2 hp _ _ _)) (g := (mkF m 63 #[.val (.ref a0), .val (.ref a1), .val (.int i2), .val (.int (2 : Int32)), .val (.int i4), .val (.int i5), .val (.int i6), .val (.int i7), .val (.int (((contribV i5 i2 (2 : Int32)) + (contribV i6 i2 (2 : Int32))) + (contribV i7 i2 (2 : Int32)))), .val (.double (FP.ddiv (FP.i2d (((contribV i5 i2 (2 : Int32)) + (contribV i6 i2 (2 : Int32))) + (contribV i7 i2 (2 : Int32)))) (FP.i2d i4))), .second] [(.int i2), (.ref a0)])) rfl rfl (hb hby d8_63)) ?_
      show Go _ _ _ _ _ _ _ _ (mkF m 64 #[.val (.ref a0), .val (.ref a1), .val (.int i2), .val (.int (2 : Int32)), .val (.int i4), .val (.int i5), .val (.int i6), .val (.int i7), .val (.int (((contribV i5 i2 (2 : Int32)) + (contribV i6 i2 (2 : Int32))) + (contribV i7 i2 (2 : Int32)))), .val (.double (FP.ddiv (FP.i2d (((contribV i5 i2 (2 : Int32)) + (contribV i6 i2 (2 : Int32))) + (contribV i7 i2 (2 : Int32)))) (FP.i2d i4))), .second] [(.double (if i2 = (0 : Int32) then x0 else x1))])
      refine Go.on (fun _ k => XS.dload X26.here hx rfl (hb hby d8_64) rfl k) ?_
      show Go _ _ _ _ _ _ _ _ (mkF m 66 #[.val (.ref a0), .val (.ref a1), .val (.int i2), .val (.int (2 : Int32)), .val (.int i4), .val (.int i5), .val (.int i6), .val (.int i7), .val (.int (((contribV i5 i2 (2 : Int32)) + (contribV i6 i2 (2 : Int32))) + (contribV i7 i2 (2 : Int32)))), .val (.double (FP.ddiv (FP.i2d (((contribV i5 i2 (2 : Int32)) + (contribV i6 i2 (2 : Int32))) + (contribV i7 i2 (2 : Int32)))) (FP.i2d i4))), .second] [(.double (FP.ddiv (FP.i2d (((contribV i5 i2 (2 : Int32)) + (contribV i6 i2 (2 : Int32))) + (contribV i7 i2 (2 : Int32)))) (FP.i2d i4))), (.double (if i2 = (0 : Int32) then x0 else x1))])
      refine Go.on (fun _ k => XS.dcmpS X26.here hx rfl (hb hby d8_66) rfl rfl k) ?_
      show Go _ _ _ _ _ _ _ _ (mkF m 67 #[.val (.ref a0), .val (.ref a1), .val (.int i2), .val (.int (2 : Int32)), .val (.int i4), .val (.int i5), .val (.int i6), .val (.int i7), .val (.int (((contribV i5 i2 (2 : Int32)) + (contribV i6 i2 (2 : Int32))) + (contribV i7 i2 (2 : Int32)))), .val (.double (FP.ddiv (FP.i2d (((contribV i5 i2 (2 : Int32)) + (contribV i6 i2 (2 : Int32))) + (contribV i7 i2 (2 : Int32)))) (FP.i2d i4))), .second] [(.int (cmpValue (FP.dcmp (if i2 = (0 : Int32) then x0 else x1) (FP.ddiv (FP.i2d (((contribV i5 i2 (2 : Int32)) + (contribV i6 i2 (2 : Int32))) + (contribV i7 i2 (2 : Int32)))) (FP.i2d i4))) .l))])
      by_cases hc28 : (cmpValue (FP.dcmp (if i2 = (0 : Int32) then x0 else x1) (FP.ddiv (FP.i2d (((contribV i5 i2 (2 : Int32)) + (contribV i6 i2 (2 : Int32))) + (contribV i7 i2 (2 : Int32)))) (FP.i2d i4))) .l) = (0 : Int32)
      · -- pc 67 yes
        refine Go.on (fun _ k => XS.ifNo X26.here hx rfl (hb hby d8_67) rfl ((if0 _ _).trans (teq hc28).2) k) ?_
        show Go _ _ _ _ _ _ _ _ (mkF m 70 #[.val (.ref a0), .val (.ref a1), .val (.int i2), .val (.int (2 : Int32)), .val (.int i4), .val (.int i5), .val (.int i6), .val (.int i7), .val (.int (((contribV i5 i2 (2 : Int32)) + (contribV i6 i2 (2 : Int32))) + (contribV i7 i2 (2 : Int32)))), .val (.double (FP.ddiv (FP.i2d (((contribV i5 i2 (2 : Int32)) + (contribV i6 i2 (2 : Int32))) + (contribV i7 i2 (2 : Int32)))) (FP.i2d i4))), .second] [])
        refine Go.on (fun _ k => XS.aloadN X26.here hx rfl (hb hby d8_70) rfl rfl k) ?_
        show Go _ _ _ _ _ _ _ _ (mkF m 71 #[.val (.ref a0), .val (.ref a1), .val (.int i2), .val (.int (2 : Int32)), .val (.int i4), .val (.int i5), .val (.int i6), .val (.int i7), .val (.int (((contribV i5 i2 (2 : Int32)) + (contribV i6 i2 (2 : Int32))) + (contribV i7 i2 (2 : Int32)))), .val (.double (FP.ddiv (FP.i2d (((contribV i5 i2 (2 : Int32)) + (contribV i6 i2 (2 : Int32))) + (contribV i7 i2 (2 : Int32)))) (FP.i2d i4))), .second] [(.ref a1)])
        refine Go.on (fun _ k => XS.iloadN X26.here hx rfl (hb hby d8_71) rfl k) ?_
        show Go _ _ _ _ _ _ _ _ (mkF m 72 #[.val (.ref a0), .val (.ref a1), .val (.int i2), .val (.int (2 : Int32)), .val (.int i4), .val (.int i5), .val (.int i6), .val (.int i7), .val (.int (((contribV i5 i2 (2 : Int32)) + (contribV i6 i2 (2 : Int32))) + (contribV i7 i2 (2 : Int32)))), .val (.double (FP.ddiv (FP.i2d (((contribV i5 i2 (2 : Int32)) + (contribV i6 i2 (2 : Int32))) + (contribV i7 i2 (2 : Int32)))) (FP.i2d i4))), .second] [(.int i2), (.ref a1)])
        obtain ⟨cl29, Ar29, -, S29, -, H29, -⟩ := id V_a1
        have hin29 : ¬ (i2 < 0 ∨ cl29.slots.size ≤ (i2).toNatClampNeg) := inb_of S29 (own_inb2 hp)
        refine Go.on (X26.daload hx (j := i2) (v := (.double (if i2 = (0 : Int32) then y0 else y1))) (by rw [e26]; exact Ar29.1) (State.isArrayOf_alike hZ.alike Ar29.2.1) Ar29.2.2 hin29 (H29.at hin29 (own_get2 hp _ _ _)) (g := (mkF m 72 #[.val (.ref a0), .val (.ref a1), .val (.int i2), .val (.int (2 : Int32)), .val (.int i4), .val (.int i5), .val (.int i6), .val (.int i7), .val (.int (((contribV i5 i2 (2 : Int32)) + (contribV i6 i2 (2 : Int32))) + (contribV i7 i2 (2 : Int32)))), .val (.double (FP.ddiv (FP.i2d (((contribV i5 i2 (2 : Int32)) + (contribV i6 i2 (2 : Int32))) + (contribV i7 i2 (2 : Int32)))) (FP.i2d i4))), .second] [(.int i2), (.ref a1)])) rfl rfl (hb hby d8_72)) ?_
        show Go _ _ _ _ _ _ _ _ (mkF m 73 #[.val (.ref a0), .val (.ref a1), .val (.int i2), .val (.int (2 : Int32)), .val (.int i4), .val (.int i5), .val (.int i6), .val (.int i7), .val (.int (((contribV i5 i2 (2 : Int32)) + (contribV i6 i2 (2 : Int32))) + (contribV i7 i2 (2 : Int32)))), .val (.double (FP.ddiv (FP.i2d (((contribV i5 i2 (2 : Int32)) + (contribV i6 i2 (2 : Int32))) + (contribV i7 i2 (2 : Int32)))) (FP.i2d i4))), .second] [(.double (if i2 = (0 : Int32) then y0 else y1))])
        refine Go.on (fun _ k => XS.dload X26.here hx rfl (hb hby d8_73) rfl k) ?_
        show Go _ _ _ _ _ _ _ _ (mkF m 75 #[.val (.ref a0), .val (.ref a1), .val (.int i2), .val (.int (2 : Int32)), .val (.int i4), .val (.int i5), .val (.int i6), .val (.int i7), .val (.int (((contribV i5 i2 (2 : Int32)) + (contribV i6 i2 (2 : Int32))) + (contribV i7 i2 (2 : Int32)))), .val (.double (FP.ddiv (FP.i2d (((contribV i5 i2 (2 : Int32)) + (contribV i6 i2 (2 : Int32))) + (contribV i7 i2 (2 : Int32)))) (FP.i2d i4))), .second] [(.double (FP.ddiv (FP.i2d (((contribV i5 i2 (2 : Int32)) + (contribV i6 i2 (2 : Int32))) + (contribV i7 i2 (2 : Int32)))) (FP.i2d i4))), (.double (if i2 = (0 : Int32) then y0 else y1))])
        refine Go.on (fun _ k => XS.dcmpS X26.here hx rfl (hb hby d8_75) rfl rfl k) ?_
        show Go _ _ _ _ _ _ _ _ (mkF m 76 #[.val (.ref a0), .val (.ref a1), .val (.int i2), .val (.int (2 : Int32)), .val (.int i4), .val (.int i5), .val (.int i6), .val (.int i7), .val (.int (((contribV i5 i2 (2 : Int32)) + (contribV i6 i2 (2 : Int32))) + (contribV i7 i2 (2 : Int32)))), .val (.double (FP.ddiv (FP.i2d (((contribV i5 i2 (2 : Int32)) + (contribV i6 i2 (2 : Int32))) + (contribV i7 i2 (2 : Int32)))) (FP.i2d i4))), .second] [(.int (cmpValue (FP.dcmp (if i2 = (0 : Int32) then y0 else y1) (FP.ddiv (FP.i2d (((contribV i5 i2 (2 : Int32)) + (contribV i6 i2 (2 : Int32))) + (contribV i7 i2 (2 : Int32)))) (FP.i2d i4))) .l))])
        suffices hJ31 : ∀ (v30 : Int32), v30 = (if (cmpValue (FP.dcmp (if i2 = (0 : Int32) then y0 else y1) (FP.ddiv (FP.i2d (((contribV i5 i2 (2 : Int32)) + (contribV i6 i2 (2 : Int32))) + (contribV i7 i2 (2 : Int32)))) (FP.i2d i4))) .l) = (0 : Int32) then (1 : Int32) else (0 : Int32)) → Go p e below s K1 K2 QQ T26 (mkF m 84 #[.val (.ref a0), .val (.ref a1), .val (.int i2), .val (.int (2 : Int32)), .val (.int i4), .val (.int i5), .val (.int i6), .val (.int i7), .val (.int (((contribV i5 i2 (2 : Int32)) + (contribV i6 i2 (2 : Int32))) + (contribV i7 i2 (2 : Int32)))), .val (.double (FP.ddiv (FP.i2d (((contribV i5 i2 (2 : Int32)) + (contribV i6 i2 (2 : Int32))) + (contribV i7 i2 (2 : Int32)))) (FP.i2d i4))), .second] [(.int v30)]) by
          by_cases hc32 : (cmpValue (FP.dcmp (if i2 = (0 : Int32) then y0 else y1) (FP.ddiv (FP.i2d (((contribV i5 i2 (2 : Int32)) + (contribV i6 i2 (2 : Int32))) + (contribV i7 i2 (2 : Int32)))) (FP.i2d i4))) .l) = (0 : Int32)
          · -- pc 76 yes
            refine Go.on (fun _ k => XS.ifNo X26.here hx rfl (hb hby d8_76) rfl ((if0 _ _).trans (teq hc32).2) k) ?_
            show Go _ _ _ _ _ _ _ _ (mkF m 79 #[.val (.ref a0), .val (.ref a1), .val (.int i2), .val (.int (2 : Int32)), .val (.int i4), .val (.int i5), .val (.int i6), .val (.int i7), .val (.int (((contribV i5 i2 (2 : Int32)) + (contribV i6 i2 (2 : Int32))) + (contribV i7 i2 (2 : Int32)))), .val (.double (FP.ddiv (FP.i2d (((contribV i5 i2 (2 : Int32)) + (contribV i6 i2 (2 : Int32))) + (contribV i7 i2 (2 : Int32)))) (FP.i2d i4))), .second] [])
            refine Go.on (fun _ k => XS.iconst X26.here hx rfl (hb hby d8_79) k) ?_
            show Go _ _ _ _ _ _ _ _ (mkF m 80 #[.val (.ref a0), .val (.ref a1), .val (.int i2), .val (.int (2 : Int32)), .val (.int i4), .val (.int i5), .val (.int i6), .val (.int i7), .val (.int (((contribV i5 i2 (2 : Int32)) + (contribV i6 i2 (2 : Int32))) + (contribV i7 i2 (2 : Int32)))), .val (.double (FP.ddiv (FP.i2d (((contribV i5 i2 (2 : Int32)) + (contribV i6 i2 (2 : Int32))) + (contribV i7 i2 (2 : Int32)))) (FP.i2d i4))), .second] [(.int (1 : Int32))])
            refine Go.on (fun _ k => XS.goto X26.here hx rfl (pc0 := 80) (pc' := 84) rfl (hb hby d8_80) (by decide) (by decide) k) ?_
            show Go _ _ _ _ _ _ _ _ (mkF m 84 #[.val (.ref a0), .val (.ref a1), .val (.int i2), .val (.int (2 : Int32)), .val (.int i4), .val (.int i5), .val (.int i6), .val (.int i7), .val (.int (((contribV i5 i2 (2 : Int32)) + (contribV i6 i2 (2 : Int32))) + (contribV i7 i2 (2 : Int32)))), .val (.double (FP.ddiv (FP.i2d (((contribV i5 i2 (2 : Int32)) + (contribV i6 i2 (2 : Int32))) + (contribV i7 i2 (2 : Int32)))) (FP.i2d i4))), .second] [(.int (1 : Int32))])
            exact hJ31 _ (by rw [if_pos hc32])
          · -- pc 76 no
            refine Go.on (fun _ k => XS.ifYes X26.here hx rfl (pc0 := 76) (pc' := 83) rfl (hb hby d8_76) rfl ((if0 _ _).trans (feq hc32).2) (by decide) (by decide) k) ?_
            show Go _ _ _ _ _ _ _ _ (mkF m 83 #[.val (.ref a0), .val (.ref a1), .val (.int i2), .val (.int (2 : Int32)), .val (.int i4), .val (.int i5), .val (.int i6), .val (.int i7), .val (.int (((contribV i5 i2 (2 : Int32)) + (contribV i6 i2 (2 : Int32))) + (contribV i7 i2 (2 : Int32)))), .val (.double (FP.ddiv (FP.i2d (((contribV i5 i2 (2 : Int32)) + (contribV i6 i2 (2 : Int32))) + (contribV i7 i2 (2 : Int32)))) (FP.i2d i4))), .second] [])
            refine Go.on (fun _ k => XS.iconst X26.here hx rfl (hb hby d8_83) k) ?_
            show Go _ _ _ _ _ _ _ _ (mkF m 84 #[.val (.ref a0), .val (.ref a1), .val (.int i2), .val (.int (2 : Int32)), .val (.int i4), .val (.int i5), .val (.int i6), .val (.int i7), .val (.int (((contribV i5 i2 (2 : Int32)) + (contribV i6 i2 (2 : Int32))) + (contribV i7 i2 (2 : Int32)))), .val (.double (FP.ddiv (FP.i2d (((contribV i5 i2 (2 : Int32)) + (contribV i6 i2 (2 : Int32))) + (contribV i7 i2 (2 : Int32)))) (FP.i2d i4))), .second] [(.int (0 : Int32))])
            exact hJ31 _ (by rw [if_neg hc32])
        intro v30 hv30
        refine Go.retN X26 hx (t := .boolean) Bd.returns (by simp) (hb hby d8_84) ?_ (by rw [hK1]; decide) (by rw [hK2]; decide)
        rw [e26, ← hQQ]
        refine ⟨?_, N26, rfl⟩
        unfold compV compT; rw [if_neg hc3, if_neg hc19, if_pos hc28]; rw [hv30]; (repeat' split) <;> rfl
      · -- pc 67 no
        refine Go.on (fun _ k => XS.ifYes X26.here hx rfl (pc0 := 67) (pc' := 83) rfl (hb hby d8_67) rfl ((if0 _ _).trans (feq hc28).2) (by decide) (by decide) k) ?_
        show Go _ _ _ _ _ _ _ _ (mkF m 83 #[.val (.ref a0), .val (.ref a1), .val (.int i2), .val (.int (2 : Int32)), .val (.int i4), .val (.int i5), .val (.int i6), .val (.int i7), .val (.int (((contribV i5 i2 (2 : Int32)) + (contribV i6 i2 (2 : Int32))) + (contribV i7 i2 (2 : Int32)))), .val (.double (FP.ddiv (FP.i2d (((contribV i5 i2 (2 : Int32)) + (contribV i6 i2 (2 : Int32))) + (contribV i7 i2 (2 : Int32)))) (FP.i2d i4))), .second] [])
        refine Go.on (fun _ k => XS.iconst X26.here hx rfl (hb hby d8_83) k) ?_
        show Go _ _ _ _ _ _ _ _ (mkF m 84 #[.val (.ref a0), .val (.ref a1), .val (.int i2), .val (.int (2 : Int32)), .val (.int i4), .val (.int i5), .val (.int i6), .val (.int i7), .val (.int (((contribV i5 i2 (2 : Int32)) + (contribV i6 i2 (2 : Int32))) + (contribV i7 i2 (2 : Int32)))), .val (.double (FP.ddiv (FP.i2d (((contribV i5 i2 (2 : Int32)) + (contribV i6 i2 (2 : Int32))) + (contribV i7 i2 (2 : Int32)))) (FP.i2d i4))), .second] [(.int (0 : Int32))])
        refine Go.retN X26 hx (t := .boolean) Bd.returns (by simp) (hb hby d8_84) ?_ (by rw [hK1]; decide) (by rw [hK2]; decide)
        rw [e26, ← hQQ]
        refine ⟨?_, N26, rfl⟩
        unfold compV compT; rw [if_neg hc3, if_neg hc19, if_neg hc28]; rfl
theorem ef_un_3 (m : MethodId) (i0 : Int32) : entryFrame m #[(.int i0), (.int (3 : Int32))] 3 = mkF m 0 #[.val (.int i0), .val (.int (3 : Int32)), .unset] [] := by first | (simp [entryFrame, mkF, argsToLocals, Value.category]; done) | rfl
def Q_un_3 (Z : State) (i0 : Int32) (h0 : Heap) (n0 : Nat) (v : Option Value) (h : Heap) (L : List Loc) : Prop := ∃ (ar : Addr) (k_ar : ClassId), v = some (.ref ar) ∧ Fr n0 L ∧ Keep h0 h [] ∧ h0.size ≤ ar ∧ Arv Z h ar k_ar .double (3 : Int32) [(.double (if (indexV i0 (3 : Int32)) = (0 : Int32) then (FP.i2d (signV i0)) else (0 : UInt64))), (.double (if (indexV i0 (3 : Int32)) = (1 : Int32) then (FP.i2d (signV i0)) else (0 : UInt64))), (.double (if (indexV i0 (3 : Int32)) = (2 : Int32) then (FP.i2d (signV i0)) else (0 : UInt64)))] (.double (0 : UInt64))
set_option maxRecDepth 65536 in
set_option maxHeartbeats 40000000 in
theorem un_3 (l : Launch) (Z : State) (aw : Array Value) (hw : ∀ d ∈ tables_1, d.before aw Z = true) (ws : List Jvm.Cond) (i0 : Int32) (h0 : Heap) (n0 : Nat) (Z0 : n0 ≤ h0.size) :
    MetFree l (⟨"com/example/d2rank/d2rank/rerank/CentroidMeanPinLaw", "unit", "(II)[D"⟩ : MethodName) (head1 (Jvm.Cond.code (⟨"com/example/d2rank/d2rank/rerank/CentroidMeanPinLaw", "unit", "(II)[D"⟩ : MethodName) method_5_code 3 (some (.array .double)) :: ws) ({ frames := 1, cells := 1, slots := 3, locals := 14 } : Room)) (fun a U => a = #[(.int i0), (.int (3 : Int32))] ∧ Z.Warmed39 U.vm ∧ U.heap = h0) (fun _ _ _ _ _ => True) (fun _ U o U' => ∃ v L, o = .returned v ∧ Q_un_3 Z i0 h0 n0 v U'.heap L ∧ FrameEnd U o U' L ({ frames := 1, cells := 1, slots := 3, locals := 14 } : Room).cells ({ frames := 1, cells := 1, slots := 3, locals := 14 } : Room).slots) := by
  refine MetFree.of_bodySF (plainFor_of_name pn_0) hisR ?_
  intro p e s m args below meth c s₁ Bd hml0 hP hK
  obtain ⟨rfl, hZ, hh⟩ := hP
  have hx := Bd.exec
  have hby := Bd.bytes
  have hml : c.maxLocals = 3 := hml0
  have hown : s.vm.findClass "com/example/d2rank/d2rank/rerank/CentroidMeanPinLaw" = some m.cls := findClass_of_methodNamed Bd.named
  have hnm := (name_of_methodNamed Bd.named Bd.method).1
  have hlk : meth.locks = false := BodyLoose.notSynchronized Bd
  have X0 : Stand p l e ({ frames := 1, cells := 1, slots := 3, locals := 14 } : Room) s m #[(.int i0), (.int (3 : Int32))] below meth c s₁ [] 0 0 := Stand.of_body Bd
  have e0 : s₁.heap = h0 := by rw [← hh, Bd.state]; rfl
  have N0 := Fr.nil n0
  have ZZ := Z0
  show Go p e below s ({ frames := 1, cells := 1, slots := 3, locals := 14 } : Room).cells ({ frames := 1, cells := 1, slots := 3, locals := 14 } : Room).slots (fun v h L => Q_un_3 Z i0 h0 n0 v h L) s₁ (entryFrame m #[(.int i0), (.int (3 : Int32))] 3)
  refine Go.cast (ef_un_3 m i0) ?_
  refine Go.gen ?_
  intro K1 K2 QQ hK1 hK2 hQQ
  have KP : Keep h0 h0 [] := Keep.refl _ _
  refine Go.on (fun _ k => XS.iloadN X0.here hx rfl (hb hby d3_0) rfl k) ?_
  show Go _ _ _ _ _ _ _ _ (mkF m 1 #[.val (.int i0), .val (.int (3 : Int32)), .unset] [(.int (3 : Int32))])
  obtain ⟨T1, h1, k_ar, X1, e1, E1, A1, st1⟩ := newP X0 hx hZ (hw _ (List.mem_of_getElem? (i := 9) rfl)) e0 (g := (mkF m 1 #[.val (.int i0), .val (.int (3 : Int32)), .unset] [(.int (3 : Int32))])) rfl (hb hby d3_1) rfl (by decide) (cap := 3) (by decide) (by decide) (by decide) (by decide)
  obtain ⟨ar, g1⟩ : ∃ z, z = h0.size := ⟨_, rfl⟩
  have g_ar : n0 ≤ ar := Nat.le_trans ZZ (Nat.le_of_eq g1.symm)
  have sz_ar : h0.size ≤ ar := Nat.le_trans KP.1 (Nat.le_of_eq g1.symm)
  rw [← g1] at A1 st1
  replace ZZ := Nat.le_trans ZZ E1.1
  replace KP := KP.ext E1
  have V_ar : Arv Z h1 ar k_ar .double (3 : Int32) [(.double (0 : UInt64)), (.double (0 : UInt64)), (.double (0 : UInt64))] (.double (0 : UInt64)) := (Arv.new A1 (by decide)).pad (pad_rep [] (.double (0 : UInt64)) 3)
  refine Go.on st1 ?_
  show Go _ _ _ _ _ _ _ _ (mkF m 3 #[.val (.int i0), .val (.int (3 : Int32)), .unset] [(.ref ar)])
  refine Go.on (fun _ k => XS.astoreN X1.here hx rfl (hb hby d3_3) rfl rfl (l' := #[.val (.int i0), .val (.int (3 : Int32)), .val (.ref ar)]) rfl k) ?_
  show Go _ _ _ _ _ _ _ _ (mkF m 4 #[.val (.int i0), .val (.int (3 : Int32)), .val (.ref ar)] [])
  refine Go.on (fun _ k => XS.aloadN X1.here hx rfl (hb hby d3_4) rfl rfl k) ?_
  show Go _ _ _ _ _ _ _ _ (mkF m 5 #[.val (.int i0), .val (.int (3 : Int32)), .val (.ref ar)] [(.ref ar)])
  refine Go.on (fun _ k => XS.iloadN X1.here hx rfl (hb hby d3_5) rfl k) ?_
  show Go _ _ _ _ _ _ _ _ (mkF m 6 #[.val (.int i0), .val (.int (3 : Int32)), .val (.ref ar)] [(.int i0), (.ref ar)])
  refine Go.on (fun _ k => XS.iloadN X1.here hx rfl (hb hby d3_6) rfl k) ?_
  show Go _ _ _ _ _ _ _ _ (mkF m 7 #[.val (.int i0), .val (.int (3 : Int32)), .val (.ref ar)] [(.int (3 : Int32)), (.int i0), (.ref ar)])
  obtain ⟨_, _, ⟨T2, L2, k2, n2⟩, -, X2, ⟨Lc2, hQ2, l2, y2, z2⟩, st2⟩ := Jvm.LawKit.callS X1 hx (y := (⟨"com/example/d2rank/d2rank/rerank/CentroidMeanPinLaw", "index", "(II)I"⟩ : MethodName)) hown (mvT hZ (hw _ (List.mem_of_getElem? (i := 16) rfl))) (mvT hZ (hw _ (List.mem_of_getElem? (i := 17) rfl))) (mvT hZ (hw _ (List.mem_of_getElem? (i := 14) rfl))) (mvT hZ (hw _ (List.mem_of_getElem? (i := 18) rfl))) (by decide) (backOf (W := 1) (rm4 l Z aw hw [] i0 (3 : Int32)  h1 n0 ZZ (by decide)) hZ (hw _ (List.mem_of_getElem? (i := 18) rfl)) (hw _ (List.mem_of_getElem? (i := 14) rfl)) (by decide) (by decide)) (g := (mkF m 7 #[.val (.int i0), .val (.int (3 : Int32)), .val (.ref ar)] [(.int (3 : Int32)), (.int i0), (.ref ar)])) rfl (by rw [hml]; rfl) (argsL := [(.int i0), (.int (3 : Int32))]) (rest := [(.ref ar)]) (lenOf pd_0 rfl) rfl (by show 2 * 0 + _ ≤ _; exact Nat.le_of_eq rfl) (hb hby d3_7) (fun _ _ => ⟨rfl, e1, (by decide : 1 + 0 ≤ _), (by decide : 3 + 0 ≤ _)⟩)
  dsimp only [Pt.U, Pt.locs, Pt.cells, Pt.slots] at X2 l2 y2 z2 st2 hQ2
  subst l2 y2 z2
  obtain ⟨rfl, N2q, e2⟩ := hQ2
  have N2 := Fr.app N0 N2q
  refine Go.on st2 ?_
  show Go _ _ _ _ _ _ _ _ (mkF m 10 #[.val (.int i0), .val (.int (3 : Int32)), .val (.ref ar)] [(.int (indexV i0 (3 : Int32))), (.ref ar)])
  refine Go.on (fun _ k => XS.iloadN X2.here hx rfl (hb hby d3_10) rfl k) ?_
  show Go _ _ _ _ _ _ _ _ (mkF m 11 #[.val (.int i0), .val (.int (3 : Int32)), .val (.ref ar)] [(.int i0), (.int (indexV i0 (3 : Int32))), (.ref ar)])
  obtain ⟨_, _, ⟨T3, L3, k3, n3⟩, -, X3, ⟨Lc3, hQ3, l3, y3, z3⟩, st3⟩ := Jvm.LawKit.callS X2 hx (y := (⟨"com/example/d2rank/d2rank/rerank/CentroidMeanPinLaw", "sign", "(I)I"⟩ : MethodName)) hown (mvT hZ (hw _ (List.mem_of_getElem? (i := 20) rfl))) (mvT hZ (hw _ (List.mem_of_getElem? (i := 21) rfl))) (mvT hZ (hw _ (List.mem_of_getElem? (i := 14) rfl))) (mvT hZ (hw _ (List.mem_of_getElem? (i := 22) rfl))) (by decide) (backOf (W := 2) (rm5 l Z aw hw [] i0  h1 n0 ZZ ) hZ (hw _ (List.mem_of_getElem? (i := 22) rfl)) (hw _ (List.mem_of_getElem? (i := 14) rfl)) (by decide) (by decide)) (g := (mkF m 11 #[.val (.int i0), .val (.int (3 : Int32)), .val (.ref ar)] [(.int i0), (.int (indexV i0 (3 : Int32))), (.ref ar)])) rfl (by rw [hml]; rfl) (argsL := [(.int i0)]) (rest := [(.int (indexV i0 (3 : Int32))), (.ref ar)]) (lenOf pd_1 rfl) rfl (by show 2 * 0 + _ ≤ _; exact Nat.le_of_eq rfl) (hb hby d3_11) (fun _ _ => ⟨rfl, e2, (by decide : 1 + 0 ≤ _), (by decide : 3 + 0 ≤ _)⟩)
  dsimp only [Pt.U, Pt.locs, Pt.cells, Pt.slots] at X3 l3 y3 z3 st3 hQ3
  subst l3 y3 z3
  obtain ⟨rfl, N3q, e3⟩ := hQ3
  have N3 := Fr.app N2 N3q
  refine Go.on st3 ?_
  show Go _ _ _ _ _ _ _ _ (mkF m 14 #[.val (.int i0), .val (.int (3 : Int32)), .val (.ref ar)] [(.int (signV i0)), (.int (indexV i0 (3 : Int32))), (.ref ar)])
  refine Go.on (fun _ k => XS.i2dS X3.here hx rfl (hb hby d3_14) rfl rfl k) ?_
  show Go _ _ _ _ _ _ _ _ (mkF m 15 #[.val (.int i0), .val (.int (3 : Int32)), .val (.ref ar)] [(.double (FP.i2d (signV i0))), (.int (indexV i0 (3 : Int32))), (.ref ar)])
  obtain ⟨cl4, Ar4, q4, S4, N4n, H4, G4⟩ := id V_ar
  have hin4 : ¬ ((indexV i0 (3 : Int32)) < 0 ∨ cl4.slots.size ≤ ((indexV i0 (3 : Int32))).toNatClampNeg) := inb_of S4 (own_inb3 (own_ix3 _))
  obtain ⟨T4, h4, X4, e4, W4, st4⟩ := stD X3 hx hZ e3 Ar4 (j := (indexV i0 (3 : Int32))) hin4 (g := (mkF m 15 #[.val (.int i0), .val (.int (3 : Int32)), .val (.ref ar)] [(.double (FP.i2d (signV i0))), (.int (indexV i0 (3 : Int32))), (.ref ar)])) rfl rfl (hb hby d3_15)
  replace V_ar := Arv.set Ar4 q4 S4 N4n H4 G4 rfl W4 _ rfl (own_lt3 (own_ix3 _) _ _ _)
  refine Go.on st4 ?_
  have N4 := Fr.snoc X4 N3 g_ar
  replace ZZ := Nat.le_trans ZZ (Keep.of_wr W4).1
  replace KP := KP.wr W4 (Or.inr sz_ar)
  rw [own_set3 (own_ix3 _)] at V_ar
  show Go _ _ _ _ _ _ _ _ (mkF m 16 #[.val (.int i0), .val (.int (3 : Int32)), .val (.ref ar)] [])
  refine Go.on (fun _ k => XS.aloadN X4.here hx rfl (hb hby d3_16) rfl rfl k) ?_
  show Go _ _ _ _ _ _ _ _ (mkF m 17 #[.val (.int i0), .val (.int (3 : Int32)), .val (.ref ar)] [(.ref ar)])
  refine Go.retV X4 hx Bd.returns rfl (Or.inr (Or.inr (Or.inr (Or.inr ⟨rfl, rfl, rfl⟩)))) (hb hby d3_17) ?_ (by rw [hK1]; decide) (by rw [hK2]; decide)
  rw [e4, ← hQQ]
  exact ⟨ar, k_ar, rfl, N4, KP, sz_ar, V_ar⟩
theorem ef_ci_3 (m : MethodId) (a0 : Addr) : entryFrame m #[(.ref a0), (.int (3 : Int32))] 2 = mkF m 0 #[.val (.ref a0), .val (.int (3 : Int32))] [] := by first | (simp [entryFrame, mkF, argsToLocals, Value.category]; done) | rfl
def Q_ci_3 (Z : State) (a0 : Addr) (u0 : Value) (h0 : Heap) (n0 : Nat) (v : Option Value) (h : Heap) (L : List Loc) : Prop := v = none ∧ Fr n0 L ∧ ∃ (ar : Addr) (k_ar : ClassId), Keep h0 h [a0] ∧ h0.size ≤ ar ∧ Exa Z h a0 "com/example/d2rank/d2rank/rerank/Centroid" ∧ Fld Z h a0 "com/example/d2rank/d2rank/rerank/Centroid" "sum" "[D" (.ref ar) ∧ Fld Z h a0 "com/example/d2rank/d2rank/rerank/Centroid" "count" "I" (.int (0 : Int32)) ∧ Arv Z h ar k_ar .double (3 : Int32) [(.double (0 : UInt64)), (.double (0 : UInt64)), (.double (0 : UInt64))] (.double (0 : UInt64))
set_option maxRecDepth 65536 in
set_option maxHeartbeats 40000000 in
theorem ci_3 (l : Launch) (Z : State) (aw : Array Value) (hw : ∀ d ∈ tables_1, d.before aw Z = true) (ws : List Jvm.Cond) (a0 : Addr) (u0 : Value) (h0 : Heap) (n0 : Nat) (Z0 : n0 ≤ h0.size) (E_a0 : Exa Z h0 a0 "com/example/d2rank/d2rank/rerank/Centroid") (F_sum_a0 : Fld Z h0 a0 "com/example/d2rank/d2rank/rerank/Centroid" "sum" "[D" u0) (F_count_a0 : Fld Z h0 a0 "com/example/d2rank/d2rank/rerank/Centroid" "count" "I" (.int (0 : Int32))) (g_a0 : n0 ≤ a0) :
    MetFree l (⟨"com/example/d2rank/d2rank/rerank/Centroid", "<init>", "(I)V"⟩ : MethodName) (head1 (Jvm.Cond.code (⟨"com/example/d2rank/d2rank/rerank/Centroid", "<init>", "(I)V"⟩ : MethodName) prog_44_method_1_code 2 none :: ws) ({ frames := 1, cells := 1, slots := 3, locals := 12 } : Room)) (fun a U => a = #[(.ref a0), (.int (3 : Int32))] ∧ Z.Warmed39 U.vm ∧ U.heap = h0) (fun _ _ _ _ _ => True) (fun _ U o U' => ∃ v L, o = .returned v ∧ Q_ci_3 Z a0 u0 h0 n0 v U'.heap L ∧ FrameEnd U o U' L ({ frames := 1, cells := 1, slots := 3, locals := 12 } : Room).cells ({ frames := 1, cells := 1, slots := 3, locals := 12 } : Room).slots) := by
  refine MetFree.of_bodySF (plainFor_of_name pn_1) hisR ?_
  intro p e s m args below meth c s₁ Bd hml0 hP hK
  obtain ⟨rfl, hZ, hh⟩ := hP
  have hx := Bd.exec
  have hby := Bd.bytes
  have hml : c.maxLocals = 2 := hml0
  have hown : s.vm.findClass "com/example/d2rank/d2rank/rerank/Centroid" = some m.cls := findClass_of_methodNamed Bd.named
  have hnm := (name_of_methodNamed Bd.named Bd.method).1
  have hlk : meth.locks = false := BodyLoose.notSynchronized Bd
  have X0 : Stand p l e ({ frames := 1, cells := 1, slots := 3, locals := 12 } : Room) s m #[(.ref a0), (.int (3 : Int32))] below meth c s₁ [] 0 0 := Stand.of_body Bd
  have e0 : s₁.heap = h0 := by rw [← hh, Bd.state]; rfl
  have N0 := Fr.nil n0
  have ZZ := Z0
  show Go p e below s ({ frames := 1, cells := 1, slots := 3, locals := 12 } : Room).cells ({ frames := 1, cells := 1, slots := 3, locals := 12 } : Room).slots (fun v h L => Q_ci_3 Z a0 u0 h0 n0 v h L) s₁ (entryFrame m #[(.ref a0), (.int (3 : Int32))] 2)
  refine Go.cast (ef_ci_3 m a0) ?_
  refine Go.gen ?_
  intro K1 K2 QQ hK1 hK2 hQQ
  have KP : Keep h0 h0 [a0] := Keep.refl _ _
  refine Go.on (fun _ k => XS.aloadN X0.here hx rfl (hb hby d1_0) rfl rfl k) ?_
  show Go _ _ _ _ _ _ _ _ (mkF m 1 #[.val (.ref a0), .val (.int (3 : Int32))] [(.ref a0)])
  obtain ⟨T1, X1, e1, st1⟩ := initO X0 hx hZ hown (hw _ (List.mem_of_getElem? (i := 6) rfl)) (hw _ (List.mem_of_getElem? (i := 7) rfl)) (hw _ (List.mem_of_getElem? (i := 8) rfl)) e0 (g := (mkF m 1 #[.val (.ref a0), .val (.int (3 : Int32))] [(.ref a0)])) rfl (by rw [hml]; rfl) rfl (hb hby d1_1) (by decide) (W := 0) (by show 2 * 0 + _ ≤ _; exact Nat.le_of_eq rfl) (by decide)
  refine Go.on st1 ?_
  show Go _ _ _ _ _ _ _ _ (mkF m 4 #[.val (.ref a0), .val (.int (3 : Int32))] [])
  refine Go.on (fun _ k => XS.aloadN X1.here hx rfl (hb hby d1_4) rfl rfl k) ?_
  show Go _ _ _ _ _ _ _ _ (mkF m 5 #[.val (.ref a0), .val (.int (3 : Int32))] [(.ref a0)])
  refine Go.on (fun _ k => XS.iloadN X1.here hx rfl (hb hby d1_5) rfl k) ?_
  show Go _ _ _ _ _ _ _ _ (mkF m 6 #[.val (.ref a0), .val (.int (3 : Int32))] [(.int (3 : Int32)), (.ref a0)])
  obtain ⟨T2, h2, k_ar, X2, e2, E2, A2, st2⟩ := newP X1 hx hZ (hw _ (List.mem_of_getElem? (i := 9) rfl)) e1 (g := (mkF m 6 #[.val (.ref a0), .val (.int (3 : Int32))] [(.int (3 : Int32)), (.ref a0)])) rfl (hb hby d1_6) rfl (by decide) (cap := 3) (by decide) (by decide) (by decide) (by decide)
  obtain ⟨ar, g2⟩ : ∃ z, z = h0.size := ⟨_, rfl⟩
  have ne_a0_ar : a0 ≠ ar := Nat.ne_of_lt (Nat.lt_of_lt_of_le E_a0.lt (Nat.le_of_eq g2.symm))
  have g_ar : n0 ≤ ar := Nat.le_trans ZZ (Nat.le_of_eq g2.symm)
  have sz_ar : h0.size ≤ ar := Nat.le_trans KP.1 (Nat.le_of_eq g2.symm)
  rw [← g2] at A2 st2
  replace E_a0 := E_a0.ext E2
  replace F_sum_a0 := F_sum_a0.ext E2
  replace F_count_a0 := F_count_a0.ext E2
  replace ZZ := Nat.le_trans ZZ E2.1
  replace KP := KP.ext E2
  have V_ar : Arv Z h2 ar k_ar .double (3 : Int32) [(.double (0 : UInt64)), (.double (0 : UInt64)), (.double (0 : UInt64))] (.double (0 : UInt64)) := (Arv.new A2 (by decide)).pad (pad_rep [] (.double (0 : UInt64)) 3)
  refine Go.on st2 ?_
  show Go _ _ _ _ _ _ _ _ (mkF m 8 #[.val (.ref a0), .val (.int (3 : Int32))] [(.ref ar), (.ref a0)])
  obtain ⟨T3, h3, X3, e3, W3, st3⟩ := putF X2 hx hZ hown (host := "") (Or.inl (hw _ (List.mem_of_getElem? (i := 10) rfl))) Via.refl e2 F_sum_a0 E_a0 (Or.inr ⟨(hw _ (List.mem_of_getElem? (i := 11) rfl)), rfl, hnm⟩) (hw _ (List.mem_of_getElem? (i := 1) rfl)) (ty := (.array .double)) (by decide) rfl rfl (g := (mkF m 8 #[.val (.ref a0), .val (.int (3 : Int32))] [(.ref ar), (.ref a0)])) rfl rfl (hb hby d1_8)
  refine Go.on st3 ?_
  replace F_sum_a0 := F_sum_a0.same W3
  replace E_a0 := E_a0.wr W3
  replace F_count_a0 := F_count_a0.other W3 (Or.inr (slot_ne (Or.inl (hw _ (List.mem_of_getElem? (i := 29) rfl))) (Or.inr (hw _ (List.mem_of_getElem? (i := 11) rfl))) (by decide) (t := .int) (t' := (.array .double)) (by decide) (by decide)))
  replace V_ar := V_ar.other W3 (Ne.symm ne_a0_ar)
  have N3 := Fr.snoc X3 N0 g_a0
  replace ZZ := Nat.le_trans ZZ (Keep.of_wr W3).1
  replace KP := KP.wr W3 (Or.inl (List.mem_of_getElem? (i := 0) rfl))
  show Go _ _ _ _ _ _ _ _ (mkF m 11 #[.val (.ref a0), .val (.int (3 : Int32))] [])
  refine Go.ret0 X3 hx Bd.returns (hb hby d1_11) ?_ (by rw [hK1]; decide) (by rw [hK2]; decide)
  rw [e3, ← hQQ]
  exact ⟨rfl, N3, ar, k_ar, KP, sz_ar, E_a0, F_sum_a0, F_count_a0, V_ar⟩
theorem ef_ca_3 (m : MethodId) (a0 : Addr) (a1 : Addr) : entryFrame m #[(.ref a0), (.ref a1)] 3 = mkF m 0 #[.val (.ref a0), .val (.ref a1), .unset] [] := by first | (simp [entryFrame, mkF, argsToLocals, Value.category]; done) | rfl
def Q_ca_3 (Z : State) (a0 : Addr) (a1 : Addr) (as : Addr) (ct : Int32) (k_as : ClassId) (x0 : UInt64) (x1 : UInt64) (x2 : UInt64) (k_a1 : ClassId) (y0 : UInt64) (y1 : UInt64) (y2 : UInt64) (h0 : Heap) (n0 : Nat) (v : Option Value) (h : Heap) (L : List Loc) : Prop := v = none ∧ Fr n0 L ∧ Keep h0 h [a0, as] ∧ Exa Z h a0 "com/example/d2rank/d2rank/rerank/Centroid" ∧ Fld Z h a0 "com/example/d2rank/d2rank/rerank/Centroid" "sum" "[D" (.ref as) ∧ Fld Z h a0 "com/example/d2rank/d2rank/rerank/Centroid" "count" "I" (.int (ct + (1 : Int32))) ∧ Arv Z h as k_as .double (3 : Int32) [(.double (FP.dadd x0 y0)), (.double (FP.dadd x1 y1)), (.double (FP.dadd x2 y2))] (.double (0 : UInt64))
set_option maxRecDepth 65536 in
set_option maxHeartbeats 40000000 in
theorem ca_3 (l : Launch) (Z : State) (aw : Array Value) (hw : ∀ d ∈ tables_1, d.before aw Z = true) (ws : List Jvm.Cond) (a0 : Addr) (a1 : Addr) (as : Addr) (ct : Int32) (k_as : ClassId) (x0 : UInt64) (x1 : UInt64) (x2 : UInt64) (k_a1 : ClassId) (y0 : UInt64) (y1 : UInt64) (y2 : UInt64) (h0 : Heap) (n0 : Nat) (Z0 : n0 ≤ h0.size) (E_a0 : Exa Z h0 a0 "com/example/d2rank/d2rank/rerank/Centroid") (F_sum_a0 : Fld Z h0 a0 "com/example/d2rank/d2rank/rerank/Centroid" "sum" "[D" (.ref as)) (F_count_a0 : Fld Z h0 a0 "com/example/d2rank/d2rank/rerank/Centroid" "count" "I" (.int ct)) (V_as : Arv Z h0 as k_as .double (3 : Int32) [(.double x0), (.double x1), (.double x2)] (.double (0 : UInt64))) (V_a1 : Arv Z h0 a1 k_a1 .double (3 : Int32) [(.double y0), (.double y1), (.double y2)] (.double (0 : UInt64))) (g_a0 : n0 ≤ a0) (g_as : n0 ≤ as) (ne_a0_as : a0 ≠ as) (ne_a1_as : a1 ≠ as) (ne_a1_a0 : a1 ≠ a0) (hs0 : Jvm.Free.Fl.NoNaN64 (FP.dadd x0 y0)) (hs1 : Jvm.Free.Fl.NoNaN64 (FP.dadd x1 y1)) (hs2 : Jvm.Free.Fl.NoNaN64 (FP.dadd x2 y2)) :
    MetFree l (⟨"com/example/d2rank/d2rank/rerank/Centroid", "add", "([D)V"⟩ : MethodName) (head1 (Jvm.Cond.code (⟨"com/example/d2rank/d2rank/rerank/Centroid", "add", "([D)V"⟩ : MethodName) prog_44_method_2_code 3 none :: ws) ({ frames := 0, cells := 0, slots := 0, locals := 0 } : Room)) (fun a U => a = #[(.ref a0), (.ref a1)] ∧ Z.Warmed39 U.vm ∧ U.heap = h0) (fun _ _ _ _ _ => True) (fun _ U o U' => ∃ v L, o = .returned v ∧ Q_ca_3 Z a0 a1 as ct k_as x0 x1 x2 k_a1 y0 y1 y2 h0 n0 v U'.heap L ∧ FrameEnd U o U' L ({ frames := 0, cells := 0, slots := 0, locals := 0 } : Room).cells ({ frames := 0, cells := 0, slots := 0, locals := 0 } : Room).slots) := by
  refine MetFree.of_bodySF (plainFor_of_name pn_1) hisR ?_
  intro p e s m args below meth c s₁ Bd hml0 hP hK
  obtain ⟨rfl, hZ, hh⟩ := hP
  have hx := Bd.exec
  have hby := Bd.bytes
  have hml : c.maxLocals = 3 := hml0
  have hown : s.vm.findClass "com/example/d2rank/d2rank/rerank/Centroid" = some m.cls := findClass_of_methodNamed Bd.named
  have hnm := (name_of_methodNamed Bd.named Bd.method).1
  have hlk : meth.locks = false := BodyLoose.notSynchronized Bd
  have X0 : Stand p l e ({ frames := 0, cells := 0, slots := 0, locals := 0 } : Room) s m #[(.ref a0), (.ref a1)] below meth c s₁ [] 0 0 := Stand.of_body Bd
  have e0 : s₁.heap = h0 := by rw [← hh, Bd.state]; rfl
  have N0 := Fr.nil n0
  have ZZ := Z0
  show Go p e below s ({ frames := 0, cells := 0, slots := 0, locals := 0 } : Room).cells ({ frames := 0, cells := 0, slots := 0, locals := 0 } : Room).slots (fun v h L => Q_ca_3 Z a0 a1 as ct k_as x0 x1 x2 k_a1 y0 y1 y2 h0 n0 v h L) s₁ (entryFrame m #[(.ref a0), (.ref a1)] 3)
  refine Go.cast (ef_ca_3 m a0 a1) ?_
  refine Go.gen ?_
  intro K1 K2 QQ hK1 hK2 hQQ
  have KP : Keep h0 h0 [a0, as] := Keep.refl _ _
  refine Go.on (fun _ k => XS.iconst X0.here hx rfl (hb hby d6_0) k) ?_
  show Go _ _ _ _ _ _ _ _ (mkF m 1 #[.val (.ref a0), .val (.ref a1), .unset] [(.int (0 : Int32))])
  refine Go.on (fun _ k => XS.istoreN X0.here hx rfl (hb hby d6_1) rfl (l' := #[.val (.ref a0), .val (.ref a1), .val (.int (0 : Int32))]) rfl k) ?_
  show Go _ _ _ _ _ _ _ _ (mkF m 2 #[.val (.ref a0), .val (.ref a1), .val (.int (0 : Int32))] [])
  refine Go.on (fun _ k => XS.iloadN X0.here hx rfl (hb hby d6_2) rfl k) ?_
  show Go _ _ _ _ _ _ _ _ (mkF m 3 #[.val (.ref a0), .val (.ref a1), .val (.int (0 : Int32))] [(.int (0 : Int32))])
  refine Go.on (fun _ k => XS.aloadN X0.here hx rfl (hb hby d6_3) rfl rfl k) ?_
  show Go _ _ _ _ _ _ _ _ (mkF m 4 #[.val (.ref a0), .val (.ref a1), .val (.int (0 : Int32))] [(.ref a0), (.int (0 : Int32))])
  obtain ⟨T1, X1, e1, st1⟩ := getF X0 hx hZ hown (host := "") (Or.inl (hw _ (List.mem_of_getElem? (i := 10) rfl))) Via.refl e0 F_sum_a0 (g := (mkF m 4 #[.val (.ref a0), .val (.ref a1), .val (.int (0 : Int32))] [(.ref a0), (.int (0 : Int32))])) rfl rfl (hb hby d6_4)
  refine Go.on st1 ?_
  show Go _ _ _ _ _ _ _ _ (mkF m 7 #[.val (.ref a0), .val (.ref a1), .val (.int (0 : Int32))] [(.ref as), (.int (0 : Int32))])
  obtain ⟨cl2, Ar2, -, S2, N2n, -, -⟩ := id V_as
  refine Go.on (X1.arraylength hx (by rw [e1]; exact Ar2.1) (State.isArrayOf_alike hZ.alike Ar2.2.1) (g := (mkF m 7 #[.val (.ref a0), .val (.ref a1), .val (.int (0 : Int32))] [(.ref as), (.int (0 : Int32))])) rfl rfl (hb hby d6_7)) ?_
  rw [len_of S2 N2n]
  show Go _ _ _ _ _ _ _ _ (mkF m 8 #[.val (.ref a0), .val (.ref a1), .val (.int (0 : Int32))] [(.int (3 : Int32)), (.int (0 : Int32))])
  have hc3 : (0 : Int32) < (3 : Int32) := by decide
  refine Go.on (fun _ k => XS.icmpNo X1.here hx rfl (hb hby d6_8) rfl (tlt hc3).2.1 k) ?_
  show Go _ _ _ _ _ _ _ _ (mkF m 11 #[.val (.ref a0), .val (.ref a1), .val (.int (0 : Int32))] [])
  refine Go.on (fun _ k => XS.aloadN X1.here hx rfl (hb hby d6_11) rfl rfl k) ?_
  show Go _ _ _ _ _ _ _ _ (mkF m 12 #[.val (.ref a0), .val (.ref a1), .val (.int (0 : Int32))] [(.ref a0)])
  obtain ⟨T4, X4, e4, st4⟩ := getF X1 hx hZ hown (host := "") (Or.inl (hw _ (List.mem_of_getElem? (i := 10) rfl))) Via.refl e1 F_sum_a0 (g := (mkF m 12 #[.val (.ref a0), .val (.ref a1), .val (.int (0 : Int32))] [(.ref a0)])) rfl rfl (hb hby d6_12)
  refine Go.on st4 ?_
  show Go _ _ _ _ _ _ _ _ (mkF m 15 #[.val (.ref a0), .val (.ref a1), .val (.int (0 : Int32))] [(.ref as)])
  refine Go.on (fun _ k => XS.iloadN X4.here hx rfl (hb hby d6_15) rfl k) ?_
  show Go _ _ _ _ _ _ _ _ (mkF m 16 #[.val (.ref a0), .val (.ref a1), .val (.int (0 : Int32))] [(.int (0 : Int32)), (.ref as)])
  refine Go.on (fun _ k => Jvm.Free.XT.dup2 X4.here hx rfl (hb hby d6_16) rfl rfl rfl k) ?_
  show Go _ _ _ _ _ _ _ _ (mkF m 17 #[.val (.ref a0), .val (.ref a1), .val (.int (0 : Int32))] [(.int (0 : Int32)), (.ref as), (.int (0 : Int32)), (.ref as)])
  obtain ⟨cl5, Ar5, -, S5, -, H5, -⟩ := id V_as
  have hin5 : ¬ ((0 : Int32) < 0 ∨ cl5.slots.size ≤ ((0 : Int32)).toNatClampNeg) := inb_of S5 ⟨by decide, by decide⟩
  refine Go.on (X4.daload hx (j := (0 : Int32)) (v := (.double x0)) (by rw [e4]; exact Ar5.1) (State.isArrayOf_alike hZ.alike Ar5.2.1) Ar5.2.2 hin5 (H5.at hin5 (rfl)) (g := (mkF m 17 #[.val (.ref a0), .val (.ref a1), .val (.int (0 : Int32))] [(.int (0 : Int32)), (.ref as), (.int (0 : Int32)), (.ref as)])) rfl rfl (hb hby d6_17)) ?_
  show Go _ _ _ _ _ _ _ _ (mkF m 18 #[.val (.ref a0), .val (.ref a1), .val (.int (0 : Int32))] [(.double x0), (.int (0 : Int32)), (.ref as)])
  refine Go.on (fun _ k => XS.aloadN X4.here hx rfl (hb hby d6_18) rfl rfl k) ?_
  show Go _ _ _ _ _ _ _ _ (mkF m 19 #[.val (.ref a0), .val (.ref a1), .val (.int (0 : Int32))] [(.ref a1), (.double x0), (.int (0 : Int32)), (.ref as)])
  refine Go.on (fun _ k => XS.iloadN X4.here hx rfl (hb hby d6_19) rfl k) ?_
  show Go _ _ _ _ _ _ _ _ (mkF m 20 #[.val (.ref a0), .val (.ref a1), .val (.int (0 : Int32))] [(.int (0 : Int32)), (.ref a1), (.double x0), (.int (0 : Int32)), (.ref as)])
  obtain ⟨cl6, Ar6, -, S6, -, H6, -⟩ := id V_a1
  have hin6 : ¬ ((0 : Int32) < 0 ∨ cl6.slots.size ≤ ((0 : Int32)).toNatClampNeg) := inb_of S6 ⟨by decide, by decide⟩
  refine Go.on (X4.daload hx (j := (0 : Int32)) (v := (.double y0)) (by rw [e4]; exact Ar6.1) (State.isArrayOf_alike hZ.alike Ar6.2.1) Ar6.2.2 hin6 (H6.at hin6 (rfl)) (g := (mkF m 20 #[.val (.ref a0), .val (.ref a1), .val (.int (0 : Int32))] [(.int (0 : Int32)), (.ref a1), (.double x0), (.int (0 : Int32)), (.ref as)])) rfl rfl (hb hby d6_20)) ?_
  show Go _ _ _ _ _ _ _ _ (mkF m 21 #[.val (.ref a0), .val (.ref a1), .val (.int (0 : Int32))] [(.double y0), (.double x0), (.int (0 : Int32)), (.ref as)])
  refine Go.on (fun _ k => XS.daddS X4.here hx rfl (hb hby d6_21) rfl (hs0) rfl k) ?_
  show Go _ _ _ _ _ _ _ _ (mkF m 22 #[.val (.ref a0), .val (.ref a1), .val (.int (0 : Int32))] [(.double (FP.dadd x0 y0)), (.int (0 : Int32)), (.ref as)])
  obtain ⟨cl7, Ar7, q7, S7, N7n, H7, G7⟩ := id V_as
  have hin7 : ¬ ((0 : Int32) < 0 ∨ cl7.slots.size ≤ ((0 : Int32)).toNatClampNeg) := inb_of S7 ⟨by decide, by decide⟩
  obtain ⟨T7, h7, X7, e7, W7, st7⟩ := stD X4 hx hZ e4 Ar7 (j := (0 : Int32)) hin7 (g := (mkF m 22 #[.val (.ref a0), .val (.ref a1), .val (.int (0 : Int32))] [(.double (FP.dadd x0 y0)), (.int (0 : Int32)), (.ref as)])) rfl rfl (hb hby d6_22)
  replace V_as := Arv.set Ar7 q7 S7 N7n H7 G7 rfl W7 0 rfl (Nat.le_of_ble_eq_true rfl)
  replace E_a0 := E_a0.wr W7
  replace F_sum_a0 := F_sum_a0.other W7 (Or.inl ne_a0_as)
  replace F_count_a0 := F_count_a0.other W7 (Or.inl ne_a0_as)
  replace V_a1 := V_a1.other W7 ne_a1_as
  refine Go.on st7 ?_
  have N7 := Fr.snoc X7 N0 g_as
  replace ZZ := Nat.le_trans ZZ (Keep.of_wr W7).1
  replace KP := KP.wr W7 (Or.inl (List.mem_of_getElem? (i := 1) rfl))
  change Arv Z h7 as k_as .double (3 : Int32) [(.double (FP.dadd x0 y0)), (.double x1), (.double x2)] (.double (0 : UInt64)) at V_as
  show Go _ _ _ _ _ _ _ _ (mkF m 23 #[.val (.ref a0), .val (.ref a1), .val (.int (0 : Int32))] [])
  refine Go.on (fun _ k => XS.iinc X7.here hx rfl (hb hby d6_23) rfl (l' := #[.val (.ref a0), .val (.ref a1), .val (.int (1 : Int32))]) rfl k) ?_
  show Go _ _ _ _ _ _ _ _ (mkF m 26 #[.val (.ref a0), .val (.ref a1), .val (.int (1 : Int32))] [])
  refine Go.on (fun _ k => XS.goto X7.here hx rfl (pc0 := 26) (pc' := 2) rfl (hb hby d6_26) (by decide) (by decide) k) ?_
  show Go _ _ _ _ _ _ _ _ (mkF m 2 #[.val (.ref a0), .val (.ref a1), .val (.int (1 : Int32))] [])
  refine Go.on (fun _ k => XS.iloadN X7.here hx rfl (hb hby d6_2) rfl k) ?_
  show Go _ _ _ _ _ _ _ _ (mkF m 3 #[.val (.ref a0), .val (.ref a1), .val (.int (1 : Int32))] [(.int (1 : Int32))])
  refine Go.on (fun _ k => XS.aloadN X7.here hx rfl (hb hby d6_3) rfl rfl k) ?_
  show Go _ _ _ _ _ _ _ _ (mkF m 4 #[.val (.ref a0), .val (.ref a1), .val (.int (1 : Int32))] [(.ref a0), (.int (1 : Int32))])
  obtain ⟨T8, X8, e8, st8⟩ := getF X7 hx hZ hown (host := "") (Or.inl (hw _ (List.mem_of_getElem? (i := 10) rfl))) Via.refl e7 F_sum_a0 (g := (mkF m 4 #[.val (.ref a0), .val (.ref a1), .val (.int (1 : Int32))] [(.ref a0), (.int (1 : Int32))])) rfl rfl (hb hby d6_4)
  refine Go.on st8 ?_
  show Go _ _ _ _ _ _ _ _ (mkF m 7 #[.val (.ref a0), .val (.ref a1), .val (.int (1 : Int32))] [(.ref as), (.int (1 : Int32))])
  obtain ⟨cl9, Ar9, -, S9, N9n, -, -⟩ := id V_as
  refine Go.on (X8.arraylength hx (by rw [e8]; exact Ar9.1) (State.isArrayOf_alike hZ.alike Ar9.2.1) (g := (mkF m 7 #[.val (.ref a0), .val (.ref a1), .val (.int (1 : Int32))] [(.ref as), (.int (1 : Int32))])) rfl rfl (hb hby d6_7)) ?_
  rw [len_of S9 N9n]
  show Go _ _ _ _ _ _ _ _ (mkF m 8 #[.val (.ref a0), .val (.ref a1), .val (.int (1 : Int32))] [(.int (3 : Int32)), (.int (1 : Int32))])
  have hc10 : (1 : Int32) < (3 : Int32) := by decide
  refine Go.on (fun _ k => XS.icmpNo X8.here hx rfl (hb hby d6_8) rfl (tlt hc10).2.1 k) ?_
  show Go _ _ _ _ _ _ _ _ (mkF m 11 #[.val (.ref a0), .val (.ref a1), .val (.int (1 : Int32))] [])
  refine Go.on (fun _ k => XS.aloadN X8.here hx rfl (hb hby d6_11) rfl rfl k) ?_
  show Go _ _ _ _ _ _ _ _ (mkF m 12 #[.val (.ref a0), .val (.ref a1), .val (.int (1 : Int32))] [(.ref a0)])
  obtain ⟨T11, X11, e11, st11⟩ := getF X8 hx hZ hown (host := "") (Or.inl (hw _ (List.mem_of_getElem? (i := 10) rfl))) Via.refl e8 F_sum_a0 (g := (mkF m 12 #[.val (.ref a0), .val (.ref a1), .val (.int (1 : Int32))] [(.ref a0)])) rfl rfl (hb hby d6_12)
  refine Go.on st11 ?_
  show Go _ _ _ _ _ _ _ _ (mkF m 15 #[.val (.ref a0), .val (.ref a1), .val (.int (1 : Int32))] [(.ref as)])
  refine Go.on (fun _ k => XS.iloadN X11.here hx rfl (hb hby d6_15) rfl k) ?_
  show Go _ _ _ _ _ _ _ _ (mkF m 16 #[.val (.ref a0), .val (.ref a1), .val (.int (1 : Int32))] [(.int (1 : Int32)), (.ref as)])
  refine Go.on (fun _ k => Jvm.Free.XT.dup2 X11.here hx rfl (hb hby d6_16) rfl rfl rfl k) ?_
  show Go _ _ _ _ _ _ _ _ (mkF m 17 #[.val (.ref a0), .val (.ref a1), .val (.int (1 : Int32))] [(.int (1 : Int32)), (.ref as), (.int (1 : Int32)), (.ref as)])
  obtain ⟨cl12, Ar12, -, S12, -, H12, -⟩ := id V_as
  have hin12 : ¬ ((1 : Int32) < 0 ∨ cl12.slots.size ≤ ((1 : Int32)).toNatClampNeg) := inb_of S12 ⟨by decide, by decide⟩
  refine Go.on (X11.daload hx (j := (1 : Int32)) (v := (.double x1)) (by rw [e11]; exact Ar12.1) (State.isArrayOf_alike hZ.alike Ar12.2.1) Ar12.2.2 hin12 (H12.at hin12 (rfl)) (g := (mkF m 17 #[.val (.ref a0), .val (.ref a1), .val (.int (1 : Int32))] [(.int (1 : Int32)), (.ref as), (.int (1 : Int32)), (.ref as)])) rfl rfl (hb hby d6_17)) ?_
  show Go _ _ _ _ _ _ _ _ (mkF m 18 #[.val (.ref a0), .val (.ref a1), .val (.int (1 : Int32))] [(.double x1), (.int (1 : Int32)), (.ref as)])
  refine Go.on (fun _ k => XS.aloadN X11.here hx rfl (hb hby d6_18) rfl rfl k) ?_
  show Go _ _ _ _ _ _ _ _ (mkF m 19 #[.val (.ref a0), .val (.ref a1), .val (.int (1 : Int32))] [(.ref a1), (.double x1), (.int (1 : Int32)), (.ref as)])
  refine Go.on (fun _ k => XS.iloadN X11.here hx rfl (hb hby d6_19) rfl k) ?_
  show Go _ _ _ _ _ _ _ _ (mkF m 20 #[.val (.ref a0), .val (.ref a1), .val (.int (1 : Int32))] [(.int (1 : Int32)), (.ref a1), (.double x1), (.int (1 : Int32)), (.ref as)])
  obtain ⟨cl13, Ar13, -, S13, -, H13, -⟩ := id V_a1
  have hin13 : ¬ ((1 : Int32) < 0 ∨ cl13.slots.size ≤ ((1 : Int32)).toNatClampNeg) := inb_of S13 ⟨by decide, by decide⟩
  refine Go.on (X11.daload hx (j := (1 : Int32)) (v := (.double y1)) (by rw [e11]; exact Ar13.1) (State.isArrayOf_alike hZ.alike Ar13.2.1) Ar13.2.2 hin13 (H13.at hin13 (rfl)) (g := (mkF m 20 #[.val (.ref a0), .val (.ref a1), .val (.int (1 : Int32))] [(.int (1 : Int32)), (.ref a1), (.double x1), (.int (1 : Int32)), (.ref as)])) rfl rfl (hb hby d6_20)) ?_
  show Go _ _ _ _ _ _ _ _ (mkF m 21 #[.val (.ref a0), .val (.ref a1), .val (.int (1 : Int32))] [(.double y1), (.double x1), (.int (1 : Int32)), (.ref as)])
  refine Go.on (fun _ k => XS.daddS X11.here hx rfl (hb hby d6_21) rfl (hs1) rfl k) ?_
  show Go _ _ _ _ _ _ _ _ (mkF m 22 #[.val (.ref a0), .val (.ref a1), .val (.int (1 : Int32))] [(.double (FP.dadd x1 y1)), (.int (1 : Int32)), (.ref as)])
  obtain ⟨cl14, Ar14, q14, S14, N14n, H14, G14⟩ := id V_as
  have hin14 : ¬ ((1 : Int32) < 0 ∨ cl14.slots.size ≤ ((1 : Int32)).toNatClampNeg) := inb_of S14 ⟨by decide, by decide⟩
  obtain ⟨T14, h14, X14, e14, W14, st14⟩ := stD X11 hx hZ e11 Ar14 (j := (1 : Int32)) hin14 (g := (mkF m 22 #[.val (.ref a0), .val (.ref a1), .val (.int (1 : Int32))] [(.double (FP.dadd x1 y1)), (.int (1 : Int32)), (.ref as)])) rfl rfl (hb hby d6_22)
  replace V_as := Arv.set Ar14 q14 S14 N14n H14 G14 rfl W14 1 rfl (Nat.le_of_ble_eq_true rfl)
  replace E_a0 := E_a0.wr W14
  replace F_sum_a0 := F_sum_a0.other W14 (Or.inl ne_a0_as)
  replace F_count_a0 := F_count_a0.other W14 (Or.inl ne_a0_as)
  replace V_a1 := V_a1.other W14 ne_a1_as
  refine Go.on st14 ?_
  have N14 := Fr.snoc X14 N7 g_as
  replace ZZ := Nat.le_trans ZZ (Keep.of_wr W14).1
  replace KP := KP.wr W14 (Or.inl (List.mem_of_getElem? (i := 1) rfl))
  change Arv Z h14 as k_as .double (3 : Int32) [(.double (FP.dadd x0 y0)), (.double (FP.dadd x1 y1)), (.double x2)] (.double (0 : UInt64)) at V_as
  show Go _ _ _ _ _ _ _ _ (mkF m 23 #[.val (.ref a0), .val (.ref a1), .val (.int (1 : Int32))] [])
  refine Go.on (fun _ k => XS.iinc X14.here hx rfl (hb hby d6_23) rfl (l' := #[.val (.ref a0), .val (.ref a1), .val (.int (2 : Int32))]) rfl k) ?_
  show Go _ _ _ _ _ _ _ _ (mkF m 26 #[.val (.ref a0), .val (.ref a1), .val (.int (2 : Int32))] [])
  refine Go.on (fun _ k => XS.goto X14.here hx rfl (pc0 := 26) (pc' := 2) rfl (hb hby d6_26) (by decide) (by decide) k) ?_
  show Go _ _ _ _ _ _ _ _ (mkF m 2 #[.val (.ref a0), .val (.ref a1), .val (.int (2 : Int32))] [])
  refine Go.on (fun _ k => XS.iloadN X14.here hx rfl (hb hby d6_2) rfl k) ?_
  show Go _ _ _ _ _ _ _ _ (mkF m 3 #[.val (.ref a0), .val (.ref a1), .val (.int (2 : Int32))] [(.int (2 : Int32))])
  refine Go.on (fun _ k => XS.aloadN X14.here hx rfl (hb hby d6_3) rfl rfl k) ?_
  show Go _ _ _ _ _ _ _ _ (mkF m 4 #[.val (.ref a0), .val (.ref a1), .val (.int (2 : Int32))] [(.ref a0), (.int (2 : Int32))])
  obtain ⟨T15, X15, e15, st15⟩ := getF X14 hx hZ hown (host := "") (Or.inl (hw _ (List.mem_of_getElem? (i := 10) rfl))) Via.refl e14 F_sum_a0 (g := (mkF m 4 #[.val (.ref a0), .val (.ref a1), .val (.int (2 : Int32))] [(.ref a0), (.int (2 : Int32))])) rfl rfl (hb hby d6_4)
  refine Go.on st15 ?_
  show Go _ _ _ _ _ _ _ _ (mkF m 7 #[.val (.ref a0), .val (.ref a1), .val (.int (2 : Int32))] [(.ref as), (.int (2 : Int32))])
  obtain ⟨cl16, Ar16, -, S16, N16n, -, -⟩ := id V_as
  refine Go.on (X15.arraylength hx (by rw [e15]; exact Ar16.1) (State.isArrayOf_alike hZ.alike Ar16.2.1) (g := (mkF m 7 #[.val (.ref a0), .val (.ref a1), .val (.int (2 : Int32))] [(.ref as), (.int (2 : Int32))])) rfl rfl (hb hby d6_7)) ?_
  rw [len_of S16 N16n]
  show Go _ _ _ _ _ _ _ _ (mkF m 8 #[.val (.ref a0), .val (.ref a1), .val (.int (2 : Int32))] [(.int (3 : Int32)), (.int (2 : Int32))])
  have hc17 : (2 : Int32) < (3 : Int32) := by decide
  refine Go.on (fun _ k => XS.icmpNo X15.here hx rfl (hb hby d6_8) rfl (tlt hc17).2.1 k) ?_
  show Go _ _ _ _ _ _ _ _ (mkF m 11 #[.val (.ref a0), .val (.ref a1), .val (.int (2 : Int32))] [])
  refine Go.on (fun _ k => XS.aloadN X15.here hx rfl (hb hby d6_11) rfl rfl k) ?_
  show Go _ _ _ _ _ _ _ _ (mkF m 12 #[.val (.ref a0), .val (.ref a1), .val (.int (2 : Int32))] [(.ref a0)])
  obtain ⟨T18, X18, e18, st18⟩ := getF X15 hx hZ hown (host := "") (Or.inl (hw _ (List.mem_of_getElem? (i := 10) rfl))) Via.refl e15 F_sum_a0 (g := (mkF m 12 #[.val (.ref a0), .val (.ref a1), .val (.int (2 : Int32))] [(.ref a0)])) rfl rfl (hb hby d6_12)
  refine Go.on st18 ?_
  show Go _ _ _ _ _ _ _ _ (mkF m 15 #[.val (.ref a0), .val (.ref a1), .val (.int (2 : Int32))] [(.ref as)])
  refine Go.on (fun _ k => XS.iloadN X18.here hx rfl (hb hby d6_15) rfl k) ?_
  show Go _ _ _ _ _ _ _ _ (mkF m 16 #[.val (.ref a0), .val (.ref a1), .val (.int (2 : Int32))] [(.int (2 : Int32)), (.ref as)])
  refine Go.on (fun _ k => Jvm.Free.XT.dup2 X18.here hx rfl (hb hby d6_16) rfl rfl rfl k) ?_
  show Go _ _ _ _ _ _ _ _ (mkF m 17 #[.val (.ref a0), .val (.ref a1), .val (.int (2 : Int32))] [(.int (2 : Int32)), (.ref as), (.int (2 : Int32)), (.ref as)])
  obtain ⟨cl19, Ar19, -, S19, -, H19, -⟩ := id V_as
  have hin19 : ¬ ((2 : Int32) < 0 ∨ cl19.slots.size ≤ ((2 : Int32)).toNatClampNeg) := inb_of S19 ⟨by decide, by decide⟩
  refine Go.on (X18.daload hx (j := (2 : Int32)) (v := (.double x2)) (by rw [e18]; exact Ar19.1) (State.isArrayOf_alike hZ.alike Ar19.2.1) Ar19.2.2 hin19 (H19.at hin19 (rfl)) (g := (mkF m 17 #[.val (.ref a0), .val (.ref a1), .val (.int (2 : Int32))] [(.int (2 : Int32)), (.ref as), (.int (2 : Int32)), (.ref as)])) rfl rfl (hb hby d6_17)) ?_
  show Go _ _ _ _ _ _ _ _ (mkF m 18 #[.val (.ref a0), .val (.ref a1), .val (.int (2 : Int32))] [(.double x2), (.int (2 : Int32)), (.ref as)])
  refine Go.on (fun _ k => XS.aloadN X18.here hx rfl (hb hby d6_18) rfl rfl k) ?_
  show Go _ _ _ _ _ _ _ _ (mkF m 19 #[.val (.ref a0), .val (.ref a1), .val (.int (2 : Int32))] [(.ref a1), (.double x2), (.int (2 : Int32)), (.ref as)])
  refine Go.on (fun _ k => XS.iloadN X18.here hx rfl (hb hby d6_19) rfl k) ?_
  show Go _ _ _ _ _ _ _ _ (mkF m 20 #[.val (.ref a0), .val (.ref a1), .val (.int (2 : Int32))] [(.int (2 : Int32)), (.ref a1), (.double x2), (.int (2 : Int32)), (.ref as)])
  obtain ⟨cl20, Ar20, -, S20, -, H20, -⟩ := id V_a1
  have hin20 : ¬ ((2 : Int32) < 0 ∨ cl20.slots.size ≤ ((2 : Int32)).toNatClampNeg) := inb_of S20 ⟨by decide, by decide⟩
  refine Go.on (X18.daload hx (j := (2 : Int32)) (v := (.double y2)) (by rw [e18]; exact Ar20.1) (State.isArrayOf_alike hZ.alike Ar20.2.1) Ar20.2.2 hin20 (H20.at hin20 (rfl)) (g := (mkF m 20 #[.val (.ref a0), .val (.ref a1), .val (.int (2 : Int32))] [(.int (2 : Int32)), (.ref a1), (.double x2), (.int (2 : Int32)), (.ref as)])) rfl rfl (hb hby d6_20)) ?_
  show Go _ _ _ _ _ _ _ _ (mkF m 21 #[.val (.ref a0), .val (.ref a1), .val (.int (2 : Int32))] [(.double y2), (.double x2), (.int (2 : Int32)), (.ref as)])
  refine Go.on (fun _ k => XS.daddS X18.here hx rfl (hb hby d6_21) rfl (hs2) rfl k) ?_
  show Go _ _ _ _ _ _ _ _ (mkF m 22 #[.val (.ref a0), .val (.ref a1), .val (.int (2 : Int32))] [(.double (FP.dadd x2 y2)), (.int (2 : Int32)), (.ref as)])
  obtain ⟨cl21, Ar21, q21, S21, N21n, H21, G21⟩ := id V_as
  have hin21 : ¬ ((2 : Int32) < 0 ∨ cl21.slots.size ≤ ((2 : Int32)).toNatClampNeg) := inb_of S21 ⟨by decide, by decide⟩
  obtain ⟨T21, h21, X21, e21, W21, st21⟩ := stD X18 hx hZ e18 Ar21 (j := (2 : Int32)) hin21 (g := (mkF m 22 #[.val (.ref a0), .val (.ref a1), .val (.int (2 : Int32))] [(.double (FP.dadd x2 y2)), (.int (2 : Int32)), (.ref as)])) rfl rfl (hb hby d6_22)
  replace V_as := Arv.set Ar21 q21 S21 N21n H21 G21 rfl W21 2 rfl (Nat.le_of_ble_eq_true rfl)
  replace E_a0 := E_a0.wr W21
  replace F_sum_a0 := F_sum_a0.other W21 (Or.inl ne_a0_as)
  replace F_count_a0 := F_count_a0.other W21 (Or.inl ne_a0_as)
  replace V_a1 := V_a1.other W21 ne_a1_as
  refine Go.on st21 ?_
  have N21 := Fr.snoc X21 N14 g_as
  replace ZZ := Nat.le_trans ZZ (Keep.of_wr W21).1
  replace KP := KP.wr W21 (Or.inl (List.mem_of_getElem? (i := 1) rfl))
  change Arv Z h21 as k_as .double (3 : Int32) [(.double (FP.dadd x0 y0)), (.double (FP.dadd x1 y1)), (.double (FP.dadd x2 y2))] (.double (0 : UInt64)) at V_as
  show Go _ _ _ _ _ _ _ _ (mkF m 23 #[.val (.ref a0), .val (.ref a1), .val (.int (2 : Int32))] [])
  refine Go.on (fun _ k => XS.iinc X21.here hx rfl (hb hby d6_23) rfl (l' := #[.val (.ref a0), .val (.ref a1), .val (.int (3 : Int32))]) rfl k) ?_
  show Go _ _ _ _ _ _ _ _ (mkF m 26 #[.val (.ref a0), .val (.ref a1), .val (.int (3 : Int32))] [])
  refine Go.on (fun _ k => XS.goto X21.here hx rfl (pc0 := 26) (pc' := 2) rfl (hb hby d6_26) (by decide) (by decide) k) ?_
  show Go _ _ _ _ _ _ _ _ (mkF m 2 #[.val (.ref a0), .val (.ref a1), .val (.int (3 : Int32))] [])
  refine Go.on (fun _ k => XS.iloadN X21.here hx rfl (hb hby d6_2) rfl k) ?_
  show Go _ _ _ _ _ _ _ _ (mkF m 3 #[.val (.ref a0), .val (.ref a1), .val (.int (3 : Int32))] [(.int (3 : Int32))])
  refine Go.on (fun _ k => XS.aloadN X21.here hx rfl (hb hby d6_3) rfl rfl k) ?_
  show Go _ _ _ _ _ _ _ _ (mkF m 4 #[.val (.ref a0), .val (.ref a1), .val (.int (3 : Int32))] [(.ref a0), (.int (3 : Int32))])
  obtain ⟨T22, X22, e22, st22⟩ := getF X21 hx hZ hown (host := "") (Or.inl (hw _ (List.mem_of_getElem? (i := 10) rfl))) Via.refl e21 F_sum_a0 (g := (mkF m 4 #[.val (.ref a0), .val (.ref a1), .val (.int (3 : Int32))] [(.ref a0), (.int (3 : Int32))])) rfl rfl (hb hby d6_4)
  refine Go.on st22 ?_
  show Go _ _ _ _ _ _ _ _ (mkF m 7 #[.val (.ref a0), .val (.ref a1), .val (.int (3 : Int32))] [(.ref as), (.int (3 : Int32))])
  obtain ⟨cl23, Ar23, -, S23, N23n, -, -⟩ := id V_as
  refine Go.on (X22.arraylength hx (by rw [e22]; exact Ar23.1) (State.isArrayOf_alike hZ.alike Ar23.2.1) (g := (mkF m 7 #[.val (.ref a0), .val (.ref a1), .val (.int (3 : Int32))] [(.ref as), (.int (3 : Int32))])) rfl rfl (hb hby d6_7)) ?_
  rw [len_of S23 N23n]
  show Go _ _ _ _ _ _ _ _ (mkF m 8 #[.val (.ref a0), .val (.ref a1), .val (.int (3 : Int32))] [(.int (3 : Int32)), (.int (3 : Int32))])
  have hc24 : ¬ ((3 : Int32) < (3 : Int32)) := by decide
  refine Go.on (fun _ k => XS.icmpYes X22.here hx rfl (pc0 := 8) (pc' := 29) rfl (hb hby d6_8) rfl (flt hc24).2.1 (by decide) (by decide) k) ?_
  show Go _ _ _ _ _ _ _ _ (mkF m 29 #[.val (.ref a0), .val (.ref a1), .val (.int (3 : Int32))] [])
  refine Go.on (fun _ k => XS.aloadN X22.here hx rfl (hb hby d6_29) rfl rfl k) ?_
  show Go _ _ _ _ _ _ _ _ (mkF m 30 #[.val (.ref a0), .val (.ref a1), .val (.int (3 : Int32))] [(.ref a0)])
  refine Go.on (fun _ k => XS.dup X22.here hx rfl (hb hby d6_30) rfl rfl k) ?_
  show Go _ _ _ _ _ _ _ _ (mkF m 31 #[.val (.ref a0), .val (.ref a1), .val (.int (3 : Int32))] [(.ref a0), (.ref a0)])
  obtain ⟨T25, X25, e25, st25⟩ := getF X22 hx hZ hown (host := "") (Or.inl (hw _ (List.mem_of_getElem? (i := 28) rfl))) Via.refl e22 F_count_a0 (g := (mkF m 31 #[.val (.ref a0), .val (.ref a1), .val (.int (3 : Int32))] [(.ref a0), (.ref a0)])) rfl rfl (hb hby d6_31)
  refine Go.on st25 ?_
  show Go _ _ _ _ _ _ _ _ (mkF m 34 #[.val (.ref a0), .val (.ref a1), .val (.int (3 : Int32))] [(.int ct), (.ref a0)])
  refine Go.on (fun _ k => XS.iconst X25.here hx rfl (hb hby d6_34) k) ?_
  show Go _ _ _ _ _ _ _ _ (mkF m 35 #[.val (.ref a0), .val (.ref a1), .val (.int (3 : Int32))] [(.int (1 : Int32)), (.int ct), (.ref a0)])
  refine Go.on (fun _ k => XS.iadd X25.here hx rfl (hb hby d6_35) rfl k) ?_
  show Go _ _ _ _ _ _ _ _ (mkF m 36 #[.val (.ref a0), .val (.ref a1), .val (.int (3 : Int32))] [(.int (ct + (1 : Int32))), (.ref a0)])
  obtain ⟨T26, h26, X26, e26, W26, st26⟩ := putF X25 hx hZ hown (host := "") (Or.inl (hw _ (List.mem_of_getElem? (i := 28) rfl))) Via.refl e25 F_count_a0 E_a0 (Or.inl (hw _ (List.mem_of_getElem? (i := 29) rfl))) (hw _ (List.mem_of_getElem? (i := 1) rfl)) (ty := .int) (by decide) rfl rfl (g := (mkF m 36 #[.val (.ref a0), .val (.ref a1), .val (.int (3 : Int32))] [(.int (ct + (1 : Int32))), (.ref a0)])) rfl rfl (hb hby d6_36)
  refine Go.on st26 ?_
  replace F_count_a0 := F_count_a0.same W26
  replace E_a0 := E_a0.wr W26
  replace F_sum_a0 := F_sum_a0.other W26 (Or.inr (slot_ne (Or.inr (hw _ (List.mem_of_getElem? (i := 11) rfl))) (Or.inl (hw _ (List.mem_of_getElem? (i := 29) rfl))) (by decide) (t := (.array .double)) (t' := .int) (by decide) (by decide)))
  replace V_as := V_as.other W26 (Ne.symm ne_a0_as)
  replace V_a1 := V_a1.other W26 ne_a1_a0
  have N26 := Fr.snoc X26 N21 g_a0
  replace ZZ := Nat.le_trans ZZ (Keep.of_wr W26).1
  replace KP := KP.wr W26 (Or.inl (List.mem_of_getElem? (i := 0) rfl))
  show Go _ _ _ _ _ _ _ _ (mkF m 39 #[.val (.ref a0), .val (.ref a1), .val (.int (3 : Int32))] [])
  refine Go.ret0 X26 hx Bd.returns (hb hby d6_39) ?_ (by rw [hK1]; decide) (by rw [hK2]; decide)
  rw [e26, ← hQQ]
  exact ⟨rfl, N26, KP, E_a0, F_sum_a0, F_count_a0, V_as⟩
theorem ef_cm_3 (m : MethodId) (a0 : Addr) : entryFrame m #[(.ref a0)] 3 = mkF m 0 #[.val (.ref a0), .unset, .unset] [] := by first | (simp [entryFrame, mkF, argsToLocals, Value.category]; done) | rfl
def Q_cm_3 (Z : State) (a0 : Addr) (as : Addr) (ct : Int32) (k_as : ClassId) (x0 : UInt64) (x1 : UInt64) (x2 : UInt64) (h0 : Heap) (n0 : Nat) (v : Option Value) (h : Heap) (L : List Loc) : Prop := ∃ (ar : Addr) (k_ar : ClassId), v = some (.ref ar) ∧ Fr n0 L ∧ Keep h0 h [] ∧ h0.size ≤ ar ∧ Arv Z h ar k_ar .double (3 : Int32) [(.double (FP.ddiv x0 (FP.i2d ct))), (.double (FP.ddiv x1 (FP.i2d ct))), (.double (FP.ddiv x2 (FP.i2d ct)))] (.double (0 : UInt64))
set_option maxRecDepth 65536 in
set_option maxHeartbeats 40000000 in
theorem cm_3 (l : Launch) (Z : State) (aw : Array Value) (hw : ∀ d ∈ tables_1, d.before aw Z = true) (ws : List Jvm.Cond) (a0 : Addr) (as : Addr) (ct : Int32) (k_as : ClassId) (x0 : UInt64) (x1 : UInt64) (x2 : UInt64) (h0 : Heap) (n0 : Nat) (Z0 : n0 ≤ h0.size) (F_sum_a0 : Fld Z h0 a0 "com/example/d2rank/d2rank/rerank/Centroid" "sum" "[D" (.ref as)) (F_count_a0 : Fld Z h0 a0 "com/example/d2rank/d2rank/rerank/Centroid" "count" "I" (.int ct)) (V_as : Arv Z h0 as k_as .double (3 : Int32) [(.double x0), (.double x1), (.double x2)] (.double (0 : UInt64))) (hd0 : Jvm.Free.Fl.NoNaN64 (FP.ddiv x0 (FP.i2d ct))) (hd1 : Jvm.Free.Fl.NoNaN64 (FP.ddiv x1 (FP.i2d ct))) (hd2 : Jvm.Free.Fl.NoNaN64 (FP.ddiv x2 (FP.i2d ct))) :
    MetFree l (⟨"com/example/d2rank/d2rank/rerank/Centroid", "mean", "()[D"⟩ : MethodName) (head1 (Jvm.Cond.code (⟨"com/example/d2rank/d2rank/rerank/Centroid", "mean", "()[D"⟩ : MethodName) prog_44_method_4_code 3 (some (.array .double)) :: ws) ({ frames := 0, cells := 1, slots := 3, locals := 0 } : Room)) (fun a U => a = #[(.ref a0)] ∧ Z.Warmed39 U.vm ∧ U.heap = h0) (fun _ _ _ _ _ => True) (fun _ U o U' => ∃ v L, o = .returned v ∧ Q_cm_3 Z a0 as ct k_as x0 x1 x2 h0 n0 v U'.heap L ∧ FrameEnd U o U' L ({ frames := 0, cells := 1, slots := 3, locals := 0 } : Room).cells ({ frames := 0, cells := 1, slots := 3, locals := 0 } : Room).slots) := by
  refine MetFree.of_bodySF (plainFor_of_name pn_1) hisR ?_
  intro p e s m args below meth c s₁ Bd hml0 hP hK
  obtain ⟨rfl, hZ, hh⟩ := hP
  have hx := Bd.exec
  have hby := Bd.bytes
  have hml : c.maxLocals = 3 := hml0
  have hown : s.vm.findClass "com/example/d2rank/d2rank/rerank/Centroid" = some m.cls := findClass_of_methodNamed Bd.named
  have hnm := (name_of_methodNamed Bd.named Bd.method).1
  have hlk : meth.locks = false := BodyLoose.notSynchronized Bd
  have X0 : Stand p l e ({ frames := 0, cells := 1, slots := 3, locals := 0 } : Room) s m #[(.ref a0)] below meth c s₁ [] 0 0 := Stand.of_body Bd
  have e0 : s₁.heap = h0 := by rw [← hh, Bd.state]; rfl
  have N0 := Fr.nil n0
  have ZZ := Z0
  show Go p e below s ({ frames := 0, cells := 1, slots := 3, locals := 0 } : Room).cells ({ frames := 0, cells := 1, slots := 3, locals := 0 } : Room).slots (fun v h L => Q_cm_3 Z a0 as ct k_as x0 x1 x2 h0 n0 v h L) s₁ (entryFrame m #[(.ref a0)] 3)
  refine Go.cast (ef_cm_3 m a0) ?_
  refine Go.gen ?_
  intro K1 K2 QQ hK1 hK2 hQQ
  have KP : Keep h0 h0 [] := Keep.refl _ _
  refine Go.on (fun _ k => XS.aloadN X0.here hx rfl (hb hby d7_0) rfl rfl k) ?_
  show Go _ _ _ _ _ _ _ _ (mkF m 1 #[.val (.ref a0), .unset, .unset] [(.ref a0)])
  obtain ⟨T1, X1, e1, st1⟩ := getF X0 hx hZ hown (host := "") (Or.inl (hw _ (List.mem_of_getElem? (i := 10) rfl))) Via.refl e0 F_sum_a0 (g := (mkF m 1 #[.val (.ref a0), .unset, .unset] [(.ref a0)])) rfl rfl (hb hby d7_1)
  refine Go.on st1 ?_
  show Go _ _ _ _ _ _ _ _ (mkF m 4 #[.val (.ref a0), .unset, .unset] [(.ref as)])
  obtain ⟨cl2, Ar2, -, S2, N2n, -, -⟩ := id V_as
  refine Go.on (X1.arraylength hx (by rw [e1]; exact Ar2.1) (State.isArrayOf_alike hZ.alike Ar2.2.1) (g := (mkF m 4 #[.val (.ref a0), .unset, .unset] [(.ref as)])) rfl rfl (hb hby d7_4)) ?_
  rw [len_of S2 N2n]
  show Go _ _ _ _ _ _ _ _ (mkF m 5 #[.val (.ref a0), .unset, .unset] [(.int (3 : Int32))])
  obtain ⟨T3, h3, k_ar, X3, e3, E3, A3, st3⟩ := newP X1 hx hZ (hw _ (List.mem_of_getElem? (i := 9) rfl)) e1 (g := (mkF m 5 #[.val (.ref a0), .unset, .unset] [(.int (3 : Int32))])) rfl (hb hby d7_5) rfl (by decide) (cap := 3) (by decide) (by decide) (by decide) (by decide)
  obtain ⟨ar, g3⟩ : ∃ z, z = h0.size := ⟨_, rfl⟩
  have ne_a0_ar : a0 ≠ ar := Nat.ne_of_lt (Nat.lt_of_lt_of_le F_sum_a0.lt (Nat.le_of_eq g3.symm))
  have ne_as_ar : as ≠ ar := Nat.ne_of_lt (Nat.lt_of_lt_of_le V_as.lt (Nat.le_of_eq g3.symm))
  have g_ar : n0 ≤ ar := Nat.le_trans ZZ (Nat.le_of_eq g3.symm)
  have sz_ar : h0.size ≤ ar := Nat.le_trans KP.1 (Nat.le_of_eq g3.symm)
  rw [← g3] at A3 st3
  replace F_sum_a0 := F_sum_a0.ext E3
  replace F_count_a0 := F_count_a0.ext E3
  replace V_as := V_as.ext E3
  replace ZZ := Nat.le_trans ZZ E3.1
  replace KP := KP.ext E3
  have V_ar : Arv Z h3 ar k_ar .double (3 : Int32) [(.double (0 : UInt64)), (.double (0 : UInt64)), (.double (0 : UInt64))] (.double (0 : UInt64)) := (Arv.new A3 (by decide)).pad (pad_rep [] (.double (0 : UInt64)) 3)
  refine Go.on st3 ?_
  show Go _ _ _ _ _ _ _ _ (mkF m 7 #[.val (.ref a0), .unset, .unset] [(.ref ar)])
  refine Go.on (fun _ k => XS.astoreN X3.here hx rfl (hb hby d7_7) rfl rfl (l' := #[.val (.ref a0), .val (.ref ar), .unset]) rfl k) ?_
  show Go _ _ _ _ _ _ _ _ (mkF m 8 #[.val (.ref a0), .val (.ref ar), .unset] [])
  refine Go.on (fun _ k => XS.iconst X3.here hx rfl (hb hby d7_8) k) ?_
  show Go _ _ _ _ _ _ _ _ (mkF m 9 #[.val (.ref a0), .val (.ref ar), .unset] [(.int (0 : Int32))])
  refine Go.on (fun _ k => XS.istoreN X3.here hx rfl (hb hby d7_9) rfl (l' := #[.val (.ref a0), .val (.ref ar), .val (.int (0 : Int32))]) rfl k) ?_
  show Go _ _ _ _ _ _ _ _ (mkF m 10 #[.val (.ref a0), .val (.ref ar), .val (.int (0 : Int32))] [])
  refine Go.on (fun _ k => XS.iloadN X3.here hx rfl (hb hby d7_10) rfl k) ?_
  show Go _ _ _ _ _ _ _ _ (mkF m 11 #[.val (.ref a0), .val (.ref ar), .val (.int (0 : Int32))] [(.int (0 : Int32))])
  refine Go.on (fun _ k => XS.aloadN X3.here hx rfl (hb hby d7_11) rfl rfl k) ?_
  show Go _ _ _ _ _ _ _ _ (mkF m 12 #[.val (.ref a0), .val (.ref ar), .val (.int (0 : Int32))] [(.ref a0), (.int (0 : Int32))])
  obtain ⟨T4, X4, e4, st4⟩ := getF X3 hx hZ hown (host := "") (Or.inl (hw _ (List.mem_of_getElem? (i := 10) rfl))) Via.refl e3 F_sum_a0 (g := (mkF m 12 #[.val (.ref a0), .val (.ref ar), .val (.int (0 : Int32))] [(.ref a0), (.int (0 : Int32))])) rfl rfl (hb hby d7_12)
  refine Go.on st4 ?_
  show Go _ _ _ _ _ _ _ _ (mkF m 15 #[.val (.ref a0), .val (.ref ar), .val (.int (0 : Int32))] [(.ref as), (.int (0 : Int32))])
  obtain ⟨cl5, Ar5, -, S5, N5n, -, -⟩ := id V_as
  refine Go.on (X4.arraylength hx (by rw [e4]; exact Ar5.1) (State.isArrayOf_alike hZ.alike Ar5.2.1) (g := (mkF m 15 #[.val (.ref a0), .val (.ref ar), .val (.int (0 : Int32))] [(.ref as), (.int (0 : Int32))])) rfl rfl (hb hby d7_15)) ?_
  rw [len_of S5 N5n]
  show Go _ _ _ _ _ _ _ _ (mkF m 16 #[.val (.ref a0), .val (.ref ar), .val (.int (0 : Int32))] [(.int (3 : Int32)), (.int (0 : Int32))])
  have hc6 : (0 : Int32) < (3 : Int32) := by decide
  refine Go.on (fun _ k => XS.icmpNo X4.here hx rfl (hb hby d7_16) rfl (tlt hc6).2.1 k) ?_
  show Go _ _ _ _ _ _ _ _ (mkF m 19 #[.val (.ref a0), .val (.ref ar), .val (.int (0 : Int32))] [])
  refine Go.on (fun _ k => XS.aloadN X4.here hx rfl (hb hby d7_19) rfl rfl k) ?_
  show Go _ _ _ _ _ _ _ _ (mkF m 20 #[.val (.ref a0), .val (.ref ar), .val (.int (0 : Int32))] [(.ref ar)])
  refine Go.on (fun _ k => XS.iloadN X4.here hx rfl (hb hby d7_20) rfl k) ?_
  show Go _ _ _ _ _ _ _ _ (mkF m 21 #[.val (.ref a0), .val (.ref ar), .val (.int (0 : Int32))] [(.int (0 : Int32)), (.ref ar)])
  refine Go.on (fun _ k => XS.aloadN X4.here hx rfl (hb hby d7_21) rfl rfl k) ?_
  show Go _ _ _ _ _ _ _ _ (mkF m 22 #[.val (.ref a0), .val (.ref ar), .val (.int (0 : Int32))] [(.ref a0), (.int (0 : Int32)), (.ref ar)])
  obtain ⟨T7, X7, e7, st7⟩ := getF X4 hx hZ hown (host := "") (Or.inl (hw _ (List.mem_of_getElem? (i := 10) rfl))) Via.refl e4 F_sum_a0 (g := (mkF m 22 #[.val (.ref a0), .val (.ref ar), .val (.int (0 : Int32))] [(.ref a0), (.int (0 : Int32)), (.ref ar)])) rfl rfl (hb hby d7_22)
  refine Go.on st7 ?_
  show Go _ _ _ _ _ _ _ _ (mkF m 25 #[.val (.ref a0), .val (.ref ar), .val (.int (0 : Int32))] [(.ref as), (.int (0 : Int32)), (.ref ar)])
  refine Go.on (fun _ k => XS.iloadN X7.here hx rfl (hb hby d7_25) rfl k) ?_
  show Go _ _ _ _ _ _ _ _ (mkF m 26 #[.val (.ref a0), .val (.ref ar), .val (.int (0 : Int32))] [(.int (0 : Int32)), (.ref as), (.int (0 : Int32)), (.ref ar)])
  obtain ⟨cl8, Ar8, -, S8, -, H8, -⟩ := id V_as
  have hin8 : ¬ ((0 : Int32) < 0 ∨ cl8.slots.size ≤ ((0 : Int32)).toNatClampNeg) := inb_of S8 ⟨by decide, by decide⟩
  refine Go.on (X7.daload hx (j := (0 : Int32)) (v := (.double x0)) (by rw [e7]; exact Ar8.1) (State.isArrayOf_alike hZ.alike Ar8.2.1) Ar8.2.2 hin8 (H8.at hin8 (rfl)) (g := (mkF m 26 #[.val (.ref a0), .val (.ref ar), .val (.int (0 : Int32))] [(.int (0 : Int32)), (.ref as), (.int (0 : Int32)), (.ref ar)])) rfl rfl (hb hby d7_26)) ?_
  show Go _ _ _ _ _ _ _ _ (mkF m 27 #[.val (.ref a0), .val (.ref ar), .val (.int (0 : Int32))] [(.double x0), (.int (0 : Int32)), (.ref ar)])
  refine Go.on (fun _ k => XS.aloadN X7.here hx rfl (hb hby d7_27) rfl rfl k) ?_
  show Go _ _ _ _ _ _ _ _ (mkF m 28 #[.val (.ref a0), .val (.ref ar), .val (.int (0 : Int32))] [(.ref a0), (.double x0), (.int (0 : Int32)), (.ref ar)])
  obtain ⟨T9, X9, e9, st9⟩ := getF X7 hx hZ hown (host := "") (Or.inl (hw _ (List.mem_of_getElem? (i := 28) rfl))) Via.refl e7 F_count_a0 (g := (mkF m 28 #[.val (.ref a0), .val (.ref ar), .val (.int (0 : Int32))] [(.ref a0), (.double x0), (.int (0 : Int32)), (.ref ar)])) rfl rfl (hb hby d7_28)
  refine Go.on st9 ?_
  show Go _ _ _ _ _ _ _ _ (mkF m 31 #[.val (.ref a0), .val (.ref ar), .val (.int (0 : Int32))] [(.int ct), (.double x0), (.int (0 : Int32)), (.ref ar)])
  refine Go.on (fun _ k => XS.i2dS X9.here hx rfl (hb hby d7_31) rfl rfl k) ?_
  show Go _ _ _ _ _ _ _ _ (mkF m 32 #[.val (.ref a0), .val (.ref ar), .val (.int (0 : Int32))] [(.double (FP.i2d ct)), (.double x0), (.int (0 : Int32)), (.ref ar)])
  refine Go.on (fun _ k => XS.ddivS X9.here hx rfl (hb hby d7_32) rfl (hd0) rfl k) ?_
  show Go _ _ _ _ _ _ _ _ (mkF m 33 #[.val (.ref a0), .val (.ref ar), .val (.int (0 : Int32))] [(.double (FP.ddiv x0 (FP.i2d ct))), (.int (0 : Int32)), (.ref ar)])
  obtain ⟨cl10, Ar10, q10, S10, N10n, H10, G10⟩ := id V_ar
  have hin10 : ¬ ((0 : Int32) < 0 ∨ cl10.slots.size ≤ ((0 : Int32)).toNatClampNeg) := inb_of S10 ⟨by decide, by decide⟩
  obtain ⟨T10, h10, X10, e10, W10, st10⟩ := stD X9 hx hZ e9 Ar10 (j := (0 : Int32)) hin10 (g := (mkF m 33 #[.val (.ref a0), .val (.ref ar), .val (.int (0 : Int32))] [(.double (FP.ddiv x0 (FP.i2d ct))), (.int (0 : Int32)), (.ref ar)])) rfl rfl (hb hby d7_33)
  replace V_ar := Arv.set Ar10 q10 S10 N10n H10 G10 rfl W10 0 rfl (Nat.le_of_ble_eq_true rfl)
  replace F_sum_a0 := F_sum_a0.other W10 (Or.inl ne_a0_ar)
  replace F_count_a0 := F_count_a0.other W10 (Or.inl ne_a0_ar)
  replace V_as := V_as.other W10 ne_as_ar
  refine Go.on st10 ?_
  have N10 := Fr.snoc X10 N0 g_ar
  replace ZZ := Nat.le_trans ZZ (Keep.of_wr W10).1
  replace KP := KP.wr W10 (Or.inr sz_ar)
  change Arv Z h10 ar k_ar .double (3 : Int32) [(.double (FP.ddiv x0 (FP.i2d ct))), (.double (0 : UInt64)), (.double (0 : UInt64))] (.double (0 : UInt64)) at V_ar
  show Go _ _ _ _ _ _ _ _ (mkF m 34 #[.val (.ref a0), .val (.ref ar), .val (.int (0 : Int32))] [])
  refine Go.on (fun _ k => XS.iinc X10.here hx rfl (hb hby d7_34) rfl (l' := #[.val (.ref a0), .val (.ref ar), .val (.int (1 : Int32))]) rfl k) ?_
  show Go _ _ _ _ _ _ _ _ (mkF m 37 #[.val (.ref a0), .val (.ref ar), .val (.int (1 : Int32))] [])
  refine Go.on (fun _ k => XS.goto X10.here hx rfl (pc0 := 37) (pc' := 10) rfl (hb hby d7_37) (by decide) (by decide) k) ?_
  show Go _ _ _ _ _ _ _ _ (mkF m 10 #[.val (.ref a0), .val (.ref ar), .val (.int (1 : Int32))] [])
  refine Go.on (fun _ k => XS.iloadN X10.here hx rfl (hb hby d7_10) rfl k) ?_
  show Go _ _ _ _ _ _ _ _ (mkF m 11 #[.val (.ref a0), .val (.ref ar), .val (.int (1 : Int32))] [(.int (1 : Int32))])
  refine Go.on (fun _ k => XS.aloadN X10.here hx rfl (hb hby d7_11) rfl rfl k) ?_
  show Go _ _ _ _ _ _ _ _ (mkF m 12 #[.val (.ref a0), .val (.ref ar), .val (.int (1 : Int32))] [(.ref a0), (.int (1 : Int32))])
  obtain ⟨T11, X11, e11, st11⟩ := getF X10 hx hZ hown (host := "") (Or.inl (hw _ (List.mem_of_getElem? (i := 10) rfl))) Via.refl e10 F_sum_a0 (g := (mkF m 12 #[.val (.ref a0), .val (.ref ar), .val (.int (1 : Int32))] [(.ref a0), (.int (1 : Int32))])) rfl rfl (hb hby d7_12)
  refine Go.on st11 ?_
  show Go _ _ _ _ _ _ _ _ (mkF m 15 #[.val (.ref a0), .val (.ref ar), .val (.int (1 : Int32))] [(.ref as), (.int (1 : Int32))])
  obtain ⟨cl12, Ar12, -, S12, N12n, -, -⟩ := id V_as
  refine Go.on (X11.arraylength hx (by rw [e11]; exact Ar12.1) (State.isArrayOf_alike hZ.alike Ar12.2.1) (g := (mkF m 15 #[.val (.ref a0), .val (.ref ar), .val (.int (1 : Int32))] [(.ref as), (.int (1 : Int32))])) rfl rfl (hb hby d7_15)) ?_
  rw [len_of S12 N12n]
  show Go _ _ _ _ _ _ _ _ (mkF m 16 #[.val (.ref a0), .val (.ref ar), .val (.int (1 : Int32))] [(.int (3 : Int32)), (.int (1 : Int32))])
  have hc13 : (1 : Int32) < (3 : Int32) := by decide
  refine Go.on (fun _ k => XS.icmpNo X11.here hx rfl (hb hby d7_16) rfl (tlt hc13).2.1 k) ?_
  show Go _ _ _ _ _ _ _ _ (mkF m 19 #[.val (.ref a0), .val (.ref ar), .val (.int (1 : Int32))] [])
  refine Go.on (fun _ k => XS.aloadN X11.here hx rfl (hb hby d7_19) rfl rfl k) ?_
  show Go _ _ _ _ _ _ _ _ (mkF m 20 #[.val (.ref a0), .val (.ref ar), .val (.int (1 : Int32))] [(.ref ar)])
  refine Go.on (fun _ k => XS.iloadN X11.here hx rfl (hb hby d7_20) rfl k) ?_
  show Go _ _ _ _ _ _ _ _ (mkF m 21 #[.val (.ref a0), .val (.ref ar), .val (.int (1 : Int32))] [(.int (1 : Int32)), (.ref ar)])
  refine Go.on (fun _ k => XS.aloadN X11.here hx rfl (hb hby d7_21) rfl rfl k) ?_
  show Go _ _ _ _ _ _ _ _ (mkF m 22 #[.val (.ref a0), .val (.ref ar), .val (.int (1 : Int32))] [(.ref a0), (.int (1 : Int32)), (.ref ar)])
  obtain ⟨T14, X14, e14, st14⟩ := getF X11 hx hZ hown (host := "") (Or.inl (hw _ (List.mem_of_getElem? (i := 10) rfl))) Via.refl e11 F_sum_a0 (g := (mkF m 22 #[.val (.ref a0), .val (.ref ar), .val (.int (1 : Int32))] [(.ref a0), (.int (1 : Int32)), (.ref ar)])) rfl rfl (hb hby d7_22)
  refine Go.on st14 ?_
  show Go _ _ _ _ _ _ _ _ (mkF m 25 #[.val (.ref a0), .val (.ref ar), .val (.int (1 : Int32))] [(.ref as), (.int (1 : Int32)), (.ref ar)])
  refine Go.on (fun _ k => XS.iloadN X14.here hx rfl (hb hby d7_25) rfl k) ?_
  show Go _ _ _ _ _ _ _ _ (mkF m 26 #[.val (.ref a0), .val (.ref ar), .val (.int (1 : Int32))] [(.int (1 : Int32)), (.ref as), (.int (1 : Int32)), (.ref ar)])
  obtain ⟨cl15, Ar15, -, S15, -, H15, -⟩ := id V_as
  have hin15 : ¬ ((1 : Int32) < 0 ∨ cl15.slots.size ≤ ((1 : Int32)).toNatClampNeg) := inb_of S15 ⟨by decide, by decide⟩
  refine Go.on (X14.daload hx (j := (1 : Int32)) (v := (.double x1)) (by rw [e14]; exact Ar15.1) (State.isArrayOf_alike hZ.alike Ar15.2.1) Ar15.2.2 hin15 (H15.at hin15 (rfl)) (g := (mkF m 26 #[.val (.ref a0), .val (.ref ar), .val (.int (1 : Int32))] [(.int (1 : Int32)), (.ref as), (.int (1 : Int32)), (.ref ar)])) rfl rfl (hb hby d7_26)) ?_
  show Go _ _ _ _ _ _ _ _ (mkF m 27 #[.val (.ref a0), .val (.ref ar), .val (.int (1 : Int32))] [(.double x1), (.int (1 : Int32)), (.ref ar)])
  refine Go.on (fun _ k => XS.aloadN X14.here hx rfl (hb hby d7_27) rfl rfl k) ?_
  show Go _ _ _ _ _ _ _ _ (mkF m 28 #[.val (.ref a0), .val (.ref ar), .val (.int (1 : Int32))] [(.ref a0), (.double x1), (.int (1 : Int32)), (.ref ar)])
  obtain ⟨T16, X16, e16, st16⟩ := getF X14 hx hZ hown (host := "") (Or.inl (hw _ (List.mem_of_getElem? (i := 28) rfl))) Via.refl e14 F_count_a0 (g := (mkF m 28 #[.val (.ref a0), .val (.ref ar), .val (.int (1 : Int32))] [(.ref a0), (.double x1), (.int (1 : Int32)), (.ref ar)])) rfl rfl (hb hby d7_28)
  refine Go.on st16 ?_
  show Go _ _ _ _ _ _ _ _ (mkF m 31 #[.val (.ref a0), .val (.ref ar), .val (.int (1 : Int32))] [(.int ct), (.double x1), (.int (1 : Int32)), (.ref ar)])
  refine Go.on (fun _ k => XS.i2dS X16.here hx rfl (hb hby d7_31) rfl rfl k) ?_
  show Go _ _ _ _ _ _ _ _ (mkF m 32 #[.val (.ref a0), .val (.ref ar), .val (.int (1 : Int32))] [(.double (FP.i2d ct)), (.double x1), (.int (1 : Int32)), (.ref ar)])
  refine Go.on (fun _ k => XS.ddivS X16.here hx rfl (hb hby d7_32) rfl (hd1) rfl k) ?_
  show Go _ _ _ _ _ _ _ _ (mkF m 33 #[.val (.ref a0), .val (.ref ar), .val (.int (1 : Int32))] [(.double (FP.ddiv x1 (FP.i2d ct))), (.int (1 : Int32)), (.ref ar)])
  obtain ⟨cl17, Ar17, q17, S17, N17n, H17, G17⟩ := id V_ar
  have hin17 : ¬ ((1 : Int32) < 0 ∨ cl17.slots.size ≤ ((1 : Int32)).toNatClampNeg) := inb_of S17 ⟨by decide, by decide⟩
  obtain ⟨T17, h17, X17, e17, W17, st17⟩ := stD X16 hx hZ e16 Ar17 (j := (1 : Int32)) hin17 (g := (mkF m 33 #[.val (.ref a0), .val (.ref ar), .val (.int (1 : Int32))] [(.double (FP.ddiv x1 (FP.i2d ct))), (.int (1 : Int32)), (.ref ar)])) rfl rfl (hb hby d7_33)
  replace V_ar := Arv.set Ar17 q17 S17 N17n H17 G17 rfl W17 1 rfl (Nat.le_of_ble_eq_true rfl)
  replace F_sum_a0 := F_sum_a0.other W17 (Or.inl ne_a0_ar)
  replace F_count_a0 := F_count_a0.other W17 (Or.inl ne_a0_ar)
  replace V_as := V_as.other W17 ne_as_ar
  refine Go.on st17 ?_
  have N17 := Fr.snoc X17 N10 g_ar
  replace ZZ := Nat.le_trans ZZ (Keep.of_wr W17).1
  replace KP := KP.wr W17 (Or.inr sz_ar)
  change Arv Z h17 ar k_ar .double (3 : Int32) [(.double (FP.ddiv x0 (FP.i2d ct))), (.double (FP.ddiv x1 (FP.i2d ct))), (.double (0 : UInt64))] (.double (0 : UInt64)) at V_ar
  show Go _ _ _ _ _ _ _ _ (mkF m 34 #[.val (.ref a0), .val (.ref ar), .val (.int (1 : Int32))] [])
  refine Go.on (fun _ k => XS.iinc X17.here hx rfl (hb hby d7_34) rfl (l' := #[.val (.ref a0), .val (.ref ar), .val (.int (2 : Int32))]) rfl k) ?_
  show Go _ _ _ _ _ _ _ _ (mkF m 37 #[.val (.ref a0), .val (.ref ar), .val (.int (2 : Int32))] [])
  refine Go.on (fun _ k => XS.goto X17.here hx rfl (pc0 := 37) (pc' := 10) rfl (hb hby d7_37) (by decide) (by decide) k) ?_
  show Go _ _ _ _ _ _ _ _ (mkF m 10 #[.val (.ref a0), .val (.ref ar), .val (.int (2 : Int32))] [])
  refine Go.on (fun _ k => XS.iloadN X17.here hx rfl (hb hby d7_10) rfl k) ?_
  show Go _ _ _ _ _ _ _ _ (mkF m 11 #[.val (.ref a0), .val (.ref ar), .val (.int (2 : Int32))] [(.int (2 : Int32))])
  refine Go.on (fun _ k => XS.aloadN X17.here hx rfl (hb hby d7_11) rfl rfl k) ?_
  show Go _ _ _ _ _ _ _ _ (mkF m 12 #[.val (.ref a0), .val (.ref ar), .val (.int (2 : Int32))] [(.ref a0), (.int (2 : Int32))])
  obtain ⟨T18, X18, e18, st18⟩ := getF X17 hx hZ hown (host := "") (Or.inl (hw _ (List.mem_of_getElem? (i := 10) rfl))) Via.refl e17 F_sum_a0 (g := (mkF m 12 #[.val (.ref a0), .val (.ref ar), .val (.int (2 : Int32))] [(.ref a0), (.int (2 : Int32))])) rfl rfl (hb hby d7_12)
  refine Go.on st18 ?_
  show Go _ _ _ _ _ _ _ _ (mkF m 15 #[.val (.ref a0), .val (.ref ar), .val (.int (2 : Int32))] [(.ref as), (.int (2 : Int32))])
  obtain ⟨cl19, Ar19, -, S19, N19n, -, -⟩ := id V_as
  refine Go.on (X18.arraylength hx (by rw [e18]; exact Ar19.1) (State.isArrayOf_alike hZ.alike Ar19.2.1) (g := (mkF m 15 #[.val (.ref a0), .val (.ref ar), .val (.int (2 : Int32))] [(.ref as), (.int (2 : Int32))])) rfl rfl (hb hby d7_15)) ?_
  rw [len_of S19 N19n]
  show Go _ _ _ _ _ _ _ _ (mkF m 16 #[.val (.ref a0), .val (.ref ar), .val (.int (2 : Int32))] [(.int (3 : Int32)), (.int (2 : Int32))])
  have hc20 : (2 : Int32) < (3 : Int32) := by decide
  refine Go.on (fun _ k => XS.icmpNo X18.here hx rfl (hb hby d7_16) rfl (tlt hc20).2.1 k) ?_
  show Go _ _ _ _ _ _ _ _ (mkF m 19 #[.val (.ref a0), .val (.ref ar), .val (.int (2 : Int32))] [])
  refine Go.on (fun _ k => XS.aloadN X18.here hx rfl (hb hby d7_19) rfl rfl k) ?_
  show Go _ _ _ _ _ _ _ _ (mkF m 20 #[.val (.ref a0), .val (.ref ar), .val (.int (2 : Int32))] [(.ref ar)])
  refine Go.on (fun _ k => XS.iloadN X18.here hx rfl (hb hby d7_20) rfl k) ?_
  show Go _ _ _ _ _ _ _ _ (mkF m 21 #[.val (.ref a0), .val (.ref ar), .val (.int (2 : Int32))] [(.int (2 : Int32)), (.ref ar)])
  refine Go.on (fun _ k => XS.aloadN X18.here hx rfl (hb hby d7_21) rfl rfl k) ?_
  show Go _ _ _ _ _ _ _ _ (mkF m 22 #[.val (.ref a0), .val (.ref ar), .val (.int (2 : Int32))] [(.ref a0), (.int (2 : Int32)), (.ref ar)])
  obtain ⟨T21, X21, e21, st21⟩ := getF X18 hx hZ hown (host := "") (Or.inl (hw _ (List.mem_of_getElem? (i := 10) rfl))) Via.refl e18 F_sum_a0 (g := (mkF m 22 #[.val (.ref a0), .val (.ref ar), .val (.int (2 : Int32))] [(.ref a0), (.int (2 : Int32)), (.ref ar)])) rfl rfl (hb hby d7_22)
  refine Go.on st21 ?_
  show Go _ _ _ _ _ _ _ _ (mkF m 25 #[.val (.ref a0), .val (.ref ar), .val (.int (2 : Int32))] [(.ref as), (.int (2 : Int32)), (.ref ar)])
  refine Go.on (fun _ k => XS.iloadN X21.here hx rfl (hb hby d7_25) rfl k) ?_
  show Go _ _ _ _ _ _ _ _ (mkF m 26 #[.val (.ref a0), .val (.ref ar), .val (.int (2 : Int32))] [(.int (2 : Int32)), (.ref as), (.int (2 : Int32)), (.ref ar)])
  obtain ⟨cl22, Ar22, -, S22, -, H22, -⟩ := id V_as
  have hin22 : ¬ ((2 : Int32) < 0 ∨ cl22.slots.size ≤ ((2 : Int32)).toNatClampNeg) := inb_of S22 ⟨by decide, by decide⟩
  refine Go.on (X21.daload hx (j := (2 : Int32)) (v := (.double x2)) (by rw [e21]; exact Ar22.1) (State.isArrayOf_alike hZ.alike Ar22.2.1) Ar22.2.2 hin22 (H22.at hin22 (rfl)) (g := (mkF m 26 #[.val (.ref a0), .val (.ref ar), .val (.int (2 : Int32))] [(.int (2 : Int32)), (.ref as), (.int (2 : Int32)), (.ref ar)])) rfl rfl (hb hby d7_26)) ?_
  show Go _ _ _ _ _ _ _ _ (mkF m 27 #[.val (.ref a0), .val (.ref ar), .val (.int (2 : Int32))] [(.double x2), (.int (2 : Int32)), (.ref ar)])
  refine Go.on (fun _ k => XS.aloadN X21.here hx rfl (hb hby d7_27) rfl rfl k) ?_
  show Go _ _ _ _ _ _ _ _ (mkF m 28 #[.val (.ref a0), .val (.ref ar), .val (.int (2 : Int32))] [(.ref a0), (.double x2), (.int (2 : Int32)), (.ref ar)])
  obtain ⟨T23, X23, e23, st23⟩ := getF X21 hx hZ hown (host := "") (Or.inl (hw _ (List.mem_of_getElem? (i := 28) rfl))) Via.refl e21 F_count_a0 (g := (mkF m 28 #[.val (.ref a0), .val (.ref ar), .val (.int (2 : Int32))] [(.ref a0), (.double x2), (.int (2 : Int32)), (.ref ar)])) rfl rfl (hb hby d7_28)
  refine Go.on st23 ?_
  show Go _ _ _ _ _ _ _ _ (mkF m 31 #[.val (.ref a0), .val (.ref ar), .val (.int (2 : Int32))] [(.int ct), (.double x2), (.int (2 : Int32)), (.ref ar)])
  refine Go.on (fun _ k => XS.i2dS X23.here hx rfl (hb hby d7_31) rfl rfl k) ?_
  show Go _ _ _ _ _ _ _ _ (mkF m 32 #[.val (.ref a0), .val (.ref ar), .val (.int (2 : Int32))] [(.double (FP.i2d ct)), (.double x2), (.int (2 : Int32)), (.ref ar)])
  refine Go.on (fun _ k => XS.ddivS X23.here hx rfl (hb hby d7_32) rfl (hd2) rfl k) ?_
  show Go _ _ _ _ _ _ _ _ (mkF m 33 #[.val (.ref a0), .val (.ref ar), .val (.int (2 : Int32))] [(.double (FP.ddiv x2 (FP.i2d ct))), (.int (2 : Int32)), (.ref ar)])
  obtain ⟨cl24, Ar24, q24, S24, N24n, H24, G24⟩ := id V_ar
  have hin24 : ¬ ((2 : Int32) < 0 ∨ cl24.slots.size ≤ ((2 : Int32)).toNatClampNeg) := inb_of S24 ⟨by decide, by decide⟩
  obtain ⟨T24, h24, X24, e24, W24, st24⟩ := stD X23 hx hZ e23 Ar24 (j := (2 : Int32)) hin24 (g := (mkF m 33 #[.val (.ref a0), .val (.ref ar), .val (.int (2 : Int32))] [(.double (FP.ddiv x2 (FP.i2d ct))), (.int (2 : Int32)), (.ref ar)])) rfl rfl (hb hby d7_33)
  replace V_ar := Arv.set Ar24 q24 S24 N24n H24 G24 rfl W24 2 rfl (Nat.le_of_ble_eq_true rfl)
  replace F_sum_a0 := F_sum_a0.other W24 (Or.inl ne_a0_ar)
  replace F_count_a0 := F_count_a0.other W24 (Or.inl ne_a0_ar)
  replace V_as := V_as.other W24 ne_as_ar
  refine Go.on st24 ?_
  have N24 := Fr.snoc X24 N17 g_ar
  replace ZZ := Nat.le_trans ZZ (Keep.of_wr W24).1
  replace KP := KP.wr W24 (Or.inr sz_ar)
  change Arv Z h24 ar k_ar .double (3 : Int32) [(.double (FP.ddiv x0 (FP.i2d ct))), (.double (FP.ddiv x1 (FP.i2d ct))), (.double (FP.ddiv x2 (FP.i2d ct)))] (.double (0 : UInt64)) at V_ar
  show Go _ _ _ _ _ _ _ _ (mkF m 34 #[.val (.ref a0), .val (.ref ar), .val (.int (2 : Int32))] [])
  refine Go.on (fun _ k => XS.iinc X24.here hx rfl (hb hby d7_34) rfl (l' := #[.val (.ref a0), .val (.ref ar), .val (.int (3 : Int32))]) rfl k) ?_
  show Go _ _ _ _ _ _ _ _ (mkF m 37 #[.val (.ref a0), .val (.ref ar), .val (.int (3 : Int32))] [])
  refine Go.on (fun _ k => XS.goto X24.here hx rfl (pc0 := 37) (pc' := 10) rfl (hb hby d7_37) (by decide) (by decide) k) ?_
  show Go _ _ _ _ _ _ _ _ (mkF m 10 #[.val (.ref a0), .val (.ref ar), .val (.int (3 : Int32))] [])
  refine Go.on (fun _ k => XS.iloadN X24.here hx rfl (hb hby d7_10) rfl k) ?_
  show Go _ _ _ _ _ _ _ _ (mkF m 11 #[.val (.ref a0), .val (.ref ar), .val (.int (3 : Int32))] [(.int (3 : Int32))])
  refine Go.on (fun _ k => XS.aloadN X24.here hx rfl (hb hby d7_11) rfl rfl k) ?_
  show Go _ _ _ _ _ _ _ _ (mkF m 12 #[.val (.ref a0), .val (.ref ar), .val (.int (3 : Int32))] [(.ref a0), (.int (3 : Int32))])
  obtain ⟨T25, X25, e25, st25⟩ := getF X24 hx hZ hown (host := "") (Or.inl (hw _ (List.mem_of_getElem? (i := 10) rfl))) Via.refl e24 F_sum_a0 (g := (mkF m 12 #[.val (.ref a0), .val (.ref ar), .val (.int (3 : Int32))] [(.ref a0), (.int (3 : Int32))])) rfl rfl (hb hby d7_12)
  refine Go.on st25 ?_
  show Go _ _ _ _ _ _ _ _ (mkF m 15 #[.val (.ref a0), .val (.ref ar), .val (.int (3 : Int32))] [(.ref as), (.int (3 : Int32))])
  obtain ⟨cl26, Ar26, -, S26, N26n, -, -⟩ := id V_as
  refine Go.on (X25.arraylength hx (by rw [e25]; exact Ar26.1) (State.isArrayOf_alike hZ.alike Ar26.2.1) (g := (mkF m 15 #[.val (.ref a0), .val (.ref ar), .val (.int (3 : Int32))] [(.ref as), (.int (3 : Int32))])) rfl rfl (hb hby d7_15)) ?_
  rw [len_of S26 N26n]
  show Go _ _ _ _ _ _ _ _ (mkF m 16 #[.val (.ref a0), .val (.ref ar), .val (.int (3 : Int32))] [(.int (3 : Int32)), (.int (3 : Int32))])
  have hc27 : ¬ ((3 : Int32) < (3 : Int32)) := by decide
  refine Go.on (fun _ k => XS.icmpYes X25.here hx rfl (pc0 := 16) (pc' := 40) rfl (hb hby d7_16) rfl (flt hc27).2.1 (by decide) (by decide) k) ?_
  show Go _ _ _ _ _ _ _ _ (mkF m 40 #[.val (.ref a0), .val (.ref ar), .val (.int (3 : Int32))] [])
  refine Go.on (fun _ k => XS.aloadN X25.here hx rfl (hb hby d7_40) rfl rfl k) ?_
  show Go _ _ _ _ _ _ _ _ (mkF m 41 #[.val (.ref a0), .val (.ref ar), .val (.int (3 : Int32))] [(.ref ar)])
  refine Go.retV X25 hx Bd.returns rfl (Or.inr (Or.inr (Or.inr (Or.inr ⟨rfl, rfl, rfl⟩)))) (hb hby d7_41) ?_ (by rw [hK1]; decide) (by rw [hK2]; decide)
  rw [e25, ← hQQ]
  exact ⟨ar, k_ar, rfl, N24, KP, sz_ar, V_ar⟩
theorem ef_cp_3 (m : MethodId) (a0 : Addr) (a1 : Addr) (i2 : Int32) (i4 : Int32) (i5 : Int32) (i6 : Int32) (i7 : Int32) : entryFrame m #[(.ref a0), (.ref a1), (.int i2), (.int (3 : Int32)), (.int i4), (.int i5), (.int i6), (.int i7)] 11 = mkF m 0 #[.val (.ref a0), .val (.ref a1), .val (.int i2), .val (.int (3 : Int32)), .val (.int i4), .val (.int i5), .val (.int i6), .val (.int i7), .unset, .unset, .unset] [] := by first | (simp [entryFrame, mkF, argsToLocals, Value.category]; done) | rfl
def Q_cp_3 (Z : State) (a0 : Addr) (a1 : Addr) (i2 : Int32) (i4 : Int32) (i5 : Int32) (i6 : Int32) (i7 : Int32) (k_a0 : ClassId) (x0 : UInt64) (x1 : UInt64) (x2 : UInt64) (k_a1 : ClassId) (y0 : UInt64) (y1 : UInt64) (y2 : UInt64) (h0 : Heap) (n0 : Nat) (v : Option Value) (h : Heap) (L : List Loc) : Prop := v = some (.int (compV (if i2 = (0 : Int32) then x0 else (if i2 = (1 : Int32) then x1 else x2)) (if i2 = (0 : Int32) then y0 else (if i2 = (1 : Int32) then y1 else y2)) i2 (3 : Int32) i4 i5 i6 i7)) ∧ Fr n0 L ∧ h = h0
set_option maxRecDepth 65536 in
set_option maxHeartbeats 40000000 in
theorem cp_3 (l : Launch) (Z : State) (aw : Array Value) (hw : ∀ d ∈ tables_1, d.before aw Z = true) (ws : List Jvm.Cond) (a0 : Addr) (a1 : Addr) (i2 : Int32) (i4 : Int32) (i5 : Int32) (i6 : Int32) (i7 : Int32) (k_a0 : ClassId) (x0 : UInt64) (x1 : UInt64) (x2 : UInt64) (k_a1 : ClassId) (y0 : UInt64) (y1 : UInt64) (y2 : UInt64) (h0 : Heap) (n0 : Nat) (Z0 : n0 ≤ h0.size) (V_a0 : Arv Z h0 a0 k_a0 .double (3 : Int32) [(.double x0), (.double x1), (.double x2)] (.double (0 : UInt64))) (V_a1 : Arv Z h0 a1 k_a1 .double (3 : Int32) [(.double y0), (.double y1), (.double y2)] (.double (0 : UInt64))) (hp : (i2 = (0 : Int32) ∨ i2 = (1 : Int32) ∨ i2 = (2 : Int32))) (hn4 : i4 ≠ 0) :
    MetFree l (⟨"com/example/d2rank/d2rank/rerank/CentroidMeanPinLaw", "comp", "([D[DIIIIII)Z"⟩ : MethodName) (head1 (Jvm.Cond.code (⟨"com/example/d2rank/d2rank/rerank/CentroidMeanPinLaw", "comp", "([D[DIIIIII)Z"⟩ : MethodName) method_7_code 11 (some .boolean) :: ws) ({ frames := 2, cells := 0, slots := 0, locals := 28 } : Room)) (fun a U => a = #[(.ref a0), (.ref a1), (.int i2), (.int (3 : Int32)), (.int i4), (.int i5), (.int i6), (.int i7)] ∧ Z.Warmed39 U.vm ∧ U.heap = h0) (fun _ _ _ _ _ => True) (fun _ U o U' => ∃ v L, o = .returned v ∧ Q_cp_3 Z a0 a1 i2 i4 i5 i6 i7 k_a0 x0 x1 x2 k_a1 y0 y1 y2 h0 n0 v U'.heap L ∧ FrameEnd U o U' L ({ frames := 2, cells := 0, slots := 0, locals := 28 } : Room).cells ({ frames := 2, cells := 0, slots := 0, locals := 28 } : Room).slots) := by
  refine MetFree.of_bodySF (plainFor_of_name pn_0) hisR ?_
  intro p e s m args below meth c s₁ Bd hml0 hP hK
  obtain ⟨rfl, hZ, hh⟩ := hP
  have hx := Bd.exec
  have hby := Bd.bytes
  have hml : c.maxLocals = 11 := hml0
  have hown : s.vm.findClass "com/example/d2rank/d2rank/rerank/CentroidMeanPinLaw" = some m.cls := findClass_of_methodNamed Bd.named
  have hnm := (name_of_methodNamed Bd.named Bd.method).1
  have hlk : meth.locks = false := BodyLoose.notSynchronized Bd
  have X0 : Stand p l e ({ frames := 2, cells := 0, slots := 0, locals := 28 } : Room) s m #[(.ref a0), (.ref a1), (.int i2), (.int (3 : Int32)), (.int i4), (.int i5), (.int i6), (.int i7)] below meth c s₁ [] 0 0 := Stand.of_body Bd
  have e0 : s₁.heap = h0 := by rw [← hh, Bd.state]; rfl
  have N0 := Fr.nil n0
  have ZZ := Z0
  show Go p e below s ({ frames := 2, cells := 0, slots := 0, locals := 28 } : Room).cells ({ frames := 2, cells := 0, slots := 0, locals := 28 } : Room).slots (fun v h L => Q_cp_3 Z a0 a1 i2 i4 i5 i6 i7 k_a0 x0 x1 x2 k_a1 y0 y1 y2 h0 n0 v h L) s₁ (entryFrame m #[(.ref a0), (.ref a1), (.int i2), (.int (3 : Int32)), (.int i4), (.int i5), (.int i6), (.int i7)] 11)
  refine Go.cast (ef_cp_3 m a0 a1 i2 i4 i5 i6 i7) ?_
  refine Go.gen ?_
  intro K1 K2 QQ hK1 hK2 hQQ
  refine Go.on (fun _ k => XS.iloadN X0.here hx rfl (hb hby d8_0) rfl k) ?_
  show Go _ _ _ _ _ _ _ _ (mkF m 1 #[.val (.ref a0), .val (.ref a1), .val (.int i2), .val (.int (3 : Int32)), .val (.int i4), .val (.int i5), .val (.int i6), .val (.int i7), .unset, .unset, .unset] [(.int i2)])
  refine Go.on (fun _ k => XS.iloadN X0.here hx rfl (hb hby d8_1) rfl k) ?_
  show Go _ _ _ _ _ _ _ _ (mkF m 2 #[.val (.ref a0), .val (.ref a1), .val (.int i2), .val (.int (3 : Int32)), .val (.int i4), .val (.int i5), .val (.int i6), .val (.int i7), .unset, .unset, .unset] [(.int (3 : Int32)), (.int i2)])
  have hc1 : i2 < (3 : Int32) := (own_inb3 hp).2
  refine Go.on (fun _ k => XS.icmpYes X0.here hx rfl (pc0 := 2) (pc' := 7) rfl (hb hby d8_2) rfl (tlt hc1).1 (by decide) (by decide) k) ?_
  show Go _ _ _ _ _ _ _ _ (mkF m 7 #[.val (.ref a0), .val (.ref a1), .val (.int i2), .val (.int (3 : Int32)), .val (.int i4), .val (.int i5), .val (.int i6), .val (.int i7), .unset, .unset, .unset] [])
  refine Go.on (fun _ k => XS.iload X0.here hx rfl (hb hby d8_7) rfl k) ?_
  show Go _ _ _ _ _ _ _ _ (mkF m 9 #[.val (.ref a0), .val (.ref a1), .val (.int i2), .val (.int (3 : Int32)), .val (.int i4), .val (.int i5), .val (.int i6), .val (.int i7), .unset, .unset, .unset] [(.int i5)])
  refine Go.on (fun _ k => XS.iloadN X0.here hx rfl (hb hby d8_9) rfl k) ?_
  show Go _ _ _ _ _ _ _ _ (mkF m 10 #[.val (.ref a0), .val (.ref a1), .val (.int i2), .val (.int (3 : Int32)), .val (.int i4), .val (.int i5), .val (.int i6), .val (.int i7), .unset, .unset, .unset] [(.int i2), (.int i5)])
  refine Go.on (fun _ k => XS.iloadN X0.here hx rfl (hb hby d8_10) rfl k) ?_
  show Go _ _ _ _ _ _ _ _ (mkF m 11 #[.val (.ref a0), .val (.ref a1), .val (.int i2), .val (.int (3 : Int32)), .val (.int i4), .val (.int i5), .val (.int i6), .val (.int i7), .unset, .unset, .unset] [(.int (3 : Int32)), (.int i2), (.int i5)])
  obtain ⟨_, _, ⟨T2, L2, k2, n2⟩, -, X2, ⟨Lc2, hQ2, l2, y2, z2⟩, st2⟩ := Jvm.LawKit.callS X0 hx (y := (⟨"com/example/d2rank/d2rank/rerank/CentroidMeanPinLaw", "contrib", "(III)I"⟩ : MethodName)) hown (mvT hZ (hw _ (List.mem_of_getElem? (i := 38) rfl))) (mvT hZ (hw _ (List.mem_of_getElem? (i := 39) rfl))) (mvT hZ (hw _ (List.mem_of_getElem? (i := 14) rfl))) (mvT hZ (hw _ (List.mem_of_getElem? (i := 40) rfl))) (by decide) (backOf (W := 0) (rm9 l Z aw hw [] i5 i2 (3 : Int32)  h0 n0 ZZ (by decide)) hZ (hw _ (List.mem_of_getElem? (i := 40) rfl)) (hw _ (List.mem_of_getElem? (i := 14) rfl)) (by decide) (by decide)) (g := (mkF m 11 #[.val (.ref a0), .val (.ref a1), .val (.int i2), .val (.int (3 : Int32)), .val (.int i4), .val (.int i5), .val (.int i6), .val (.int i7), .unset, .unset, .unset] [(.int (3 : Int32)), (.int i2), (.int i5)])) rfl (by rw [hml]; rfl) (argsL := [(.int i5), (.int i2), (.int (3 : Int32))]) (rest := []) (lenOf pd_2 rfl) rfl (by show 2 * 0 + _ ≤ _; exact Nat.le_of_eq rfl) (hb hby d8_11) (fun _ _ => ⟨rfl, e0, (by decide : 0 + 0 ≤ _), (by decide : 0 + 0 ≤ _)⟩)
  dsimp only [Pt.U, Pt.locs, Pt.cells, Pt.slots] at X2 l2 y2 z2 st2 hQ2
  subst l2 y2 z2
  obtain ⟨rfl, N2q, e2⟩ := hQ2
  have N2 := Fr.app N0 N2q
  refine Go.on st2 ?_
  show Go _ _ _ _ _ _ _ _ (mkF m 14 #[.val (.ref a0), .val (.ref a1), .val (.int i2), .val (.int (3 : Int32)), .val (.int i4), .val (.int i5), .val (.int i6), .val (.int i7), .unset, .unset, .unset] [(.int (contribV i5 i2 (3 : Int32)))])
  refine Go.on (fun _ k => XS.istore X2.here hx rfl (hb hby d8_14) rfl (l' := #[.val (.ref a0), .val (.ref a1), .val (.int i2), .val (.int (3 : Int32)), .val (.int i4), .val (.int i5), .val (.int i6), .val (.int i7), .val (.int (contribV i5 i2 (3 : Int32))), .unset, .unset]) rfl k) ?_
  show Go _ _ _ _ _ _ _ _ (mkF m 16 #[.val (.ref a0), .val (.ref a1), .val (.int i2), .val (.int (3 : Int32)), .val (.int i4), .val (.int i5), .val (.int i6), .val (.int i7), .val (.int (contribV i5 i2 (3 : Int32))), .unset, .unset] [])
  refine Go.on (fun _ k => XS.iload X2.here hx rfl (hb hby d8_16) rfl k) ?_
  show Go _ _ _ _ _ _ _ _ (mkF m 18 #[.val (.ref a0), .val (.ref a1), .val (.int i2), .val (.int (3 : Int32)), .val (.int i4), .val (.int i5), .val (.int i6), .val (.int i7), .val (.int (contribV i5 i2 (3 : Int32))), .unset, .unset] [(.int i4)])
  refine Go.on (fun _ k => XS.iconst X2.here hx rfl (hb hby d8_18) k) ?_
  show Go _ _ _ _ _ _ _ _ (mkF m 19 #[.val (.ref a0), .val (.ref a1), .val (.int i2), .val (.int (3 : Int32)), .val (.int i4), .val (.int i5), .val (.int i6), .val (.int i7), .val (.int (contribV i5 i2 (3 : Int32))), .unset, .unset] [(.int (2 : Int32)), (.int i4)])
  by_cases hc3 : i4 < (2 : Int32)
  · -- pc 19 yes
    refine Go.on (fun _ k => XS.icmpYes X2.here hx rfl (pc0 := 19) (pc' := 34) rfl (hb hby d8_19) rfl (tlt hc3).1 (by decide) (by decide) k) ?_
    show Go _ _ _ _ _ _ _ _ (mkF m 34 #[.val (.ref a0), .val (.ref a1), .val (.int i2), .val (.int (3 : Int32)), .val (.int i4), .val (.int i5), .val (.int i6), .val (.int i7), .val (.int (contribV i5 i2 (3 : Int32))), .unset, .unset] [])
    refine Go.on (fun _ k => XS.iload X2.here hx rfl (hb hby d8_34) rfl k) ?_
    show Go _ _ _ _ _ _ _ _ (mkF m 36 #[.val (.ref a0), .val (.ref a1), .val (.int i2), .val (.int (3 : Int32)), .val (.int i4), .val (.int i5), .val (.int i6), .val (.int i7), .val (.int (contribV i5 i2 (3 : Int32))), .unset, .unset] [(.int i4)])
    refine Go.on (fun _ k => XS.iconst X2.here hx rfl (hb hby d8_36) k) ?_
    show Go _ _ _ _ _ _ _ _ (mkF m 37 #[.val (.ref a0), .val (.ref a1), .val (.int i2), .val (.int (3 : Int32)), .val (.int i4), .val (.int i5), .val (.int i6), .val (.int i7), .val (.int (contribV i5 i2 (3 : Int32))), .unset, .unset] [(.int (3 : Int32)), (.int i4)])
    by_cases hc4 : i4 < (3 : Int32)
    · -- pc 37 yes
      refine Go.on (fun _ k => XS.icmpYes X2.here hx rfl (pc0 := 37) (pc' := 52) rfl (hb hby d8_37) rfl (tlt hc4).1 (by decide) (by decide) k) ?_
      show Go _ _ _ _ _ _ _ _ (mkF m 52 #[.val (.ref a0), .val (.ref a1), .val (.int i2), .val (.int (3 : Int32)), .val (.int i4), .val (.int i5), .val (.int i6), .val (.int i7), .val (.int (contribV i5 i2 (3 : Int32))), .unset, .unset] [])
      refine Go.on (fun _ k => XS.iload X2.here hx rfl (hb hby d8_52) rfl k) ?_
      show Go _ _ _ _ _ _ _ _ (mkF m 54 #[.val (.ref a0), .val (.ref a1), .val (.int i2), .val (.int (3 : Int32)), .val (.int i4), .val (.int i5), .val (.int i6), .val (.int i7), .val (.int (contribV i5 i2 (3 : Int32))), .unset, .unset] [(.int (contribV i5 i2 (3 : Int32)))])
      refine Go.on (fun _ k => XS.i2dS X2.here hx rfl (hb hby d8_54) rfl rfl k) ?_
      show Go _ _ _ _ _ _ _ _ (mkF m 55 #[.val (.ref a0), .val (.ref a1), .val (.int i2), .val (.int (3 : Int32)), .val (.int i4), .val (.int i5), .val (.int i6), .val (.int i7), .val (.int (contribV i5 i2 (3 : Int32))), .unset, .unset] [(.double (FP.i2d (contribV i5 i2 (3 : Int32))))])
      refine Go.on (fun _ k => XS.iload X2.here hx rfl (hb hby d8_55) rfl k) ?_
      show Go _ _ _ _ _ _ _ _ (mkF m 57 #[.val (.ref a0), .val (.ref a1), .val (.int i2), .val (.int (3 : Int32)), .val (.int i4), .val (.int i5), .val (.int i6), .val (.int i7), .val (.int (contribV i5 i2 (3 : Int32))), .unset, .unset] [(.int i4), (.double (FP.i2d (contribV i5 i2 (3 : Int32))))])
      refine Go.on (fun _ k => XS.i2dS X2.here hx rfl (hb hby d8_57) rfl rfl k) ?_
      show Go _ _ _ _ _ _ _ _ (mkF m 58 #[.val (.ref a0), .val (.ref a1), .val (.int i2), .val (.int (3 : Int32)), .val (.int i4), .val (.int i5), .val (.int i6), .val (.int i7), .val (.int (contribV i5 i2 (3 : Int32))), .unset, .unset] [(.double (FP.i2d i4)), (.double (FP.i2d (contribV i5 i2 (3 : Int32))))])
      refine Go.on (fun _ k => XS.ddivS X2.here hx rfl (hb hby d8_58) rfl (own_nnd' (Jvm.FP.Core.i2d_fin _) _ hn4) rfl k) ?_
      show Go _ _ _ _ _ _ _ _ (mkF m 59 #[.val (.ref a0), .val (.ref a1), .val (.int i2), .val (.int (3 : Int32)), .val (.int i4), .val (.int i5), .val (.int i6), .val (.int i7), .val (.int (contribV i5 i2 (3 : Int32))), .unset, .unset] [(.double (FP.ddiv (FP.i2d (contribV i5 i2 (3 : Int32))) (FP.i2d i4)))])
      refine Go.on (fun _ k => XS.dstore X2.here hx rfl (hb hby d8_59) rfl (l' := #[.val (.ref a0), .val (.ref a1), .val (.int i2), .val (.int (3 : Int32)), .val (.int i4), .val (.int i5), .val (.int i6), .val (.int i7), .val (.int (contribV i5 i2 (3 : Int32))), .val (.double (FP.ddiv (FP.i2d (contribV i5 i2 (3 : Int32))) (FP.i2d i4))), .second]) rfl k) ?_
      show Go _ _ _ _ _ _ _ _ (mkF m 61 #[.val (.ref a0), .val (.ref a1), .val (.int i2), .val (.int (3 : Int32)), .val (.int i4), .val (.int i5), .val (.int i6), .val (.int i7), .val (.int (contribV i5 i2 (3 : Int32))), .val (.double (FP.ddiv (FP.i2d (contribV i5 i2 (3 : Int32))) (FP.i2d i4))), .second] [])
      refine Go.on (fun _ k => XS.aloadN X2.here hx rfl (hb hby d8_61) rfl rfl k) ?_
      show Go _ _ _ _ _ _ _ _ (mkF m 62 #[.val (.ref a0), .val (.ref a1), .val (.int i2), .val (.int (3 : Int32)), .val (.int i4), .val (.int i5), .val (.int i6), .val (.int i7), .val (.int (contribV i5 i2 (3 : Int32))), .val (.double (FP.ddiv (FP.i2d (contribV i5 i2 (3 : Int32))) (FP.i2d i4))), .second] [(.ref a0)])
      refine Go.on (fun _ k => XS.iloadN X2.here hx rfl (hb hby d8_62) rfl k) ?_
      show Go _ _ _ _ _ _ _ _ (mkF m 63 #[.val (.ref a0), .val (.ref a1), .val (.int i2), .val (.int (3 : Int32)), .val (.int i4), .val (.int i5), .val (.int i6), .val (.int i7), .val (.int (contribV i5 i2 (3 : Int32))), .val (.double (FP.ddiv (FP.i2d (contribV i5 i2 (3 : Int32))) (FP.i2d i4))), .second] [(.int i2), (.ref a0)])
      obtain ⟨cl5, Ar5, -, S5, -, H5, -⟩ := id V_a0
      have hin5 : ¬ (i2 < 0 ∨ cl5.slots.size ≤ (i2).toNatClampNeg) := inb_of S5 (own_inb3 hp)
      refine Go.on (X2.daload hx (j := i2) (v := (.double (if i2 = (0 : Int32) then x0 else (if i2 = (1 : Int32) then x1 else x2)))) (by rw [e2]; exact Ar5.1) (State.isArrayOf_alike hZ.alike Ar5.2.1) Ar5.2.2 hin5 (H5.at hin5 (own_get3 hp _ _ _ _)) (g := (mkF m 63 #[.val (.ref a0), .val (.ref a1), .val (.int i2), .val (.int (3 : Int32)), .val (.int i4), .val (.int i5), .val (.int i6), .val (.int i7), .val (.int (contribV i5 i2 (3 : Int32))), .val (.double (FP.ddiv (FP.i2d (contribV i5 i2 (3 : Int32))) (FP.i2d i4))), .second] [(.int i2), (.ref a0)])) rfl rfl (hb hby d8_63)) ?_
      show Go _ _ _ _ _ _ _ _ (mkF m 64 #[.val (.ref a0), .val (.ref a1), .val (.int i2), .val (.int (3 : Int32)), .val (.int i4), .val (.int i5), .val (.int i6), .val (.int i7), .val (.int (contribV i5 i2 (3 : Int32))), .val (.double (FP.ddiv (FP.i2d (contribV i5 i2 (3 : Int32))) (FP.i2d i4))), .second] [(.double (if i2 = (0 : Int32) then x0 else (if i2 = (1 : Int32) then x1 else x2)))])
      refine Go.on (fun _ k => XS.dload X2.here hx rfl (hb hby d8_64) rfl k) ?_
      show Go _ _ _ _ _ _ _ _ (mkF m 66 #[.val (.ref a0), .val (.ref a1), .val (.int i2), .val (.int (3 : Int32)), .val (.int i4), .val (.int i5), .val (.int i6), .val (.int i7), .val (.int (contribV i5 i2 (3 : Int32))), .val (.double (FP.ddiv (FP.i2d (contribV i5 i2 (3 : Int32))) (FP.i2d i4))), .second] [(.double (FP.ddiv (FP.i2d (contribV i5 i2 (3 : Int32))) (FP.i2d i4))), (.double (if i2 = (0 : Int32) then x0 else (if i2 = (1 : Int32) then x1 else x2)))])
      refine Go.on (fun _ k => XS.dcmpS X2.here hx rfl (hb hby d8_66) rfl rfl k) ?_
      show Go _ _ _ _ _ _ _ _ (mkF m 67 #[.val (.ref a0), .val (.ref a1), .val (.int i2), .val (.int (3 : Int32)), .val (.int i4), .val (.int i5), .val (.int i6), .val (.int i7), .val (.int (contribV i5 i2 (3 : Int32))), .val (.double (FP.ddiv (FP.i2d (contribV i5 i2 (3 : Int32))) (FP.i2d i4))), .second] [(.int (cmpValue (FP.dcmp (if i2 = (0 : Int32) then x0 else (if i2 = (1 : Int32) then x1 else x2)) (FP.ddiv (FP.i2d (contribV i5 i2 (3 : Int32))) (FP.i2d i4))) .l))])
      by_cases hc6 : (cmpValue (FP.dcmp (if i2 = (0 : Int32) then x0 else (if i2 = (1 : Int32) then x1 else x2)) (FP.ddiv (FP.i2d (contribV i5 i2 (3 : Int32))) (FP.i2d i4))) .l) = (0 : Int32)
      · -- pc 67 yes
        refine Go.on (fun _ k => XS.ifNo X2.here hx rfl (hb hby d8_67) rfl ((if0 _ _).trans (teq hc6).2) k) ?_
        show Go _ _ _ _ _ _ _ _ (mkF m 70 #[.val (.ref a0), .val (.ref a1), .val (.int i2), .val (.int (3 : Int32)), .val (.int i4), .val (.int i5), .val (.int i6), .val (.int i7), .val (.int (contribV i5 i2 (3 : Int32))), .val (.double (FP.ddiv (FP.i2d (contribV i5 i2 (3 : Int32))) (FP.i2d i4))), .second] [])
        refine Go.on (fun _ k => XS.aloadN X2.here hx rfl (hb hby d8_70) rfl rfl k) ?_
        show Go _ _ _ _ _ _ _ _ (mkF m 71 #[.val (.ref a0), .val (.ref a1), .val (.int i2), .val (.int (3 : Int32)), .val (.int i4), .val (.int i5), .val (.int i6), .val (.int i7), .val (.int (contribV i5 i2 (3 : Int32))), .val (.double (FP.ddiv (FP.i2d (contribV i5 i2 (3 : Int32))) (FP.i2d i4))), .second] [(.ref a1)])
        refine Go.on (fun _ k => XS.iloadN X2.here hx rfl (hb hby d8_71) rfl k) ?_
        show Go _ _ _ _ _ _ _ _ (mkF m 72 #[.val (.ref a0), .val (.ref a1), .val (.int i2), .val (.int (3 : Int32)), .val (.int i4), .val (.int i5), .val (.int i6), .val (.int i7), .val (.int (contribV i5 i2 (3 : Int32))), .val (.double (FP.ddiv (FP.i2d (contribV i5 i2 (3 : Int32))) (FP.i2d i4))), .second] [(.int i2), (.ref a1)])
        obtain ⟨cl7, Ar7, -, S7, -, H7, -⟩ := id V_a1
        have hin7 : ¬ (i2 < 0 ∨ cl7.slots.size ≤ (i2).toNatClampNeg) := inb_of S7 (own_inb3 hp)
        refine Go.on (X2.daload hx (j := i2) (v := (.double (if i2 = (0 : Int32) then y0 else (if i2 = (1 : Int32) then y1 else y2)))) (by rw [e2]; exact Ar7.1) (State.isArrayOf_alike hZ.alike Ar7.2.1) Ar7.2.2 hin7 (H7.at hin7 (own_get3 hp _ _ _ _)) (g := (mkF m 72 #[.val (.ref a0), .val (.ref a1), .val (.int i2), .val (.int (3 : Int32)), .val (.int i4), .val (.int i5), .val (.int i6), .val (.int i7), .val (.int (contribV i5 i2 (3 : Int32))), .val (.double (FP.ddiv (FP.i2d (contribV i5 i2 (3 : Int32))) (FP.i2d i4))), .second] [(.int i2), (.ref a1)])) rfl rfl (hb hby d8_72)) ?_
        show Go _ _ _ _ _ _ _ _ (mkF m 73 #[.val (.ref a0), .val (.ref a1), .val (.int i2), .val (.int (3 : Int32)), .val (.int i4), .val (.int i5), .val (.int i6), .val (.int i7), .val (.int (contribV i5 i2 (3 : Int32))), .val (.double (FP.ddiv (FP.i2d (contribV i5 i2 (3 : Int32))) (FP.i2d i4))), .second] [(.double (if i2 = (0 : Int32) then y0 else (if i2 = (1 : Int32) then y1 else y2)))])
        refine Go.on (fun _ k => XS.dload X2.here hx rfl (hb hby d8_73) rfl k) ?_
        show Go _ _ _ _ _ _ _ _ (mkF m 75 #[.val (.ref a0), .val (.ref a1), .val (.int i2), .val (.int (3 : Int32)), .val (.int i4), .val (.int i5), .val (.int i6), .val (.int i7), .val (.int (contribV i5 i2 (3 : Int32))), .val (.double (FP.ddiv (FP.i2d (contribV i5 i2 (3 : Int32))) (FP.i2d i4))), .second] [(.double (FP.ddiv (FP.i2d (contribV i5 i2 (3 : Int32))) (FP.i2d i4))), (.double (if i2 = (0 : Int32) then y0 else (if i2 = (1 : Int32) then y1 else y2)))])
        refine Go.on (fun _ k => XS.dcmpS X2.here hx rfl (hb hby d8_75) rfl rfl k) ?_
        show Go _ _ _ _ _ _ _ _ (mkF m 76 #[.val (.ref a0), .val (.ref a1), .val (.int i2), .val (.int (3 : Int32)), .val (.int i4), .val (.int i5), .val (.int i6), .val (.int i7), .val (.int (contribV i5 i2 (3 : Int32))), .val (.double (FP.ddiv (FP.i2d (contribV i5 i2 (3 : Int32))) (FP.i2d i4))), .second] [(.int (cmpValue (FP.dcmp (if i2 = (0 : Int32) then y0 else (if i2 = (1 : Int32) then y1 else y2)) (FP.ddiv (FP.i2d (contribV i5 i2 (3 : Int32))) (FP.i2d i4))) .l))])
        suffices hJ9 : ∀ (v8 : Int32), v8 = (if (cmpValue (FP.dcmp (if i2 = (0 : Int32) then y0 else (if i2 = (1 : Int32) then y1 else y2)) (FP.ddiv (FP.i2d (contribV i5 i2 (3 : Int32))) (FP.i2d i4))) .l) = (0 : Int32) then (1 : Int32) else (0 : Int32)) → Go p e below s K1 K2 QQ T2 (mkF m 84 #[.val (.ref a0), .val (.ref a1), .val (.int i2), .val (.int (3 : Int32)), .val (.int i4), .val (.int i5), .val (.int i6), .val (.int i7), .val (.int (contribV i5 i2 (3 : Int32))), .val (.double (FP.ddiv (FP.i2d (contribV i5 i2 (3 : Int32))) (FP.i2d i4))), .second] [(.int v8)]) by
          by_cases hc10 : (cmpValue (FP.dcmp (if i2 = (0 : Int32) then y0 else (if i2 = (1 : Int32) then y1 else y2)) (FP.ddiv (FP.i2d (contribV i5 i2 (3 : Int32))) (FP.i2d i4))) .l) = (0 : Int32)
          · -- pc 76 yes
            refine Go.on (fun _ k => XS.ifNo X2.here hx rfl (hb hby d8_76) rfl ((if0 _ _).trans (teq hc10).2) k) ?_
            show Go _ _ _ _ _ _ _ _ (mkF m 79 #[.val (.ref a0), .val (.ref a1), .val (.int i2), .val (.int (3 : Int32)), .val (.int i4), .val (.int i5), .val (.int i6), .val (.int i7), .val (.int (contribV i5 i2 (3 : Int32))), .val (.double (FP.ddiv (FP.i2d (contribV i5 i2 (3 : Int32))) (FP.i2d i4))), .second] [])
            refine Go.on (fun _ k => XS.iconst X2.here hx rfl (hb hby d8_79) k) ?_
            show Go _ _ _ _ _ _ _ _ (mkF m 80 #[.val (.ref a0), .val (.ref a1), .val (.int i2), .val (.int (3 : Int32)), .val (.int i4), .val (.int i5), .val (.int i6), .val (.int i7), .val (.int (contribV i5 i2 (3 : Int32))), .val (.double (FP.ddiv (FP.i2d (contribV i5 i2 (3 : Int32))) (FP.i2d i4))), .second] [(.int (1 : Int32))])
            refine Go.on (fun _ k => XS.goto X2.here hx rfl (pc0 := 80) (pc' := 84) rfl (hb hby d8_80) (by decide) (by decide) k) ?_
            show Go _ _ _ _ _ _ _ _ (mkF m 84 #[.val (.ref a0), .val (.ref a1), .val (.int i2), .val (.int (3 : Int32)), .val (.int i4), .val (.int i5), .val (.int i6), .val (.int i7), .val (.int (contribV i5 i2 (3 : Int32))), .val (.double (FP.ddiv (FP.i2d (contribV i5 i2 (3 : Int32))) (FP.i2d i4))), .second] [(.int (1 : Int32))])
            exact hJ9 _ (by rw [if_pos hc10])
          · -- pc 76 no
            refine Go.on (fun _ k => XS.ifYes X2.here hx rfl (pc0 := 76) (pc' := 83) rfl (hb hby d8_76) rfl ((if0 _ _).trans (feq hc10).2) (by decide) (by decide) k) ?_
            show Go _ _ _ _ _ _ _ _ (mkF m 83 #[.val (.ref a0), .val (.ref a1), .val (.int i2), .val (.int (3 : Int32)), .val (.int i4), .val (.int i5), .val (.int i6), .val (.int i7), .val (.int (contribV i5 i2 (3 : Int32))), .val (.double (FP.ddiv (FP.i2d (contribV i5 i2 (3 : Int32))) (FP.i2d i4))), .second] [])
            refine Go.on (fun _ k => XS.iconst X2.here hx rfl (hb hby d8_83) k) ?_
            show Go _ _ _ _ _ _ _ _ (mkF m 84 #[.val (.ref a0), .val (.ref a1), .val (.int i2), .val (.int (3 : Int32)), .val (.int i4), .val (.int i5), .val (.int i6), .val (.int i7), .val (.int (contribV i5 i2 (3 : Int32))), .val (.double (FP.ddiv (FP.i2d (contribV i5 i2 (3 : Int32))) (FP.i2d i4))), .second] [(.int (0 : Int32))])
            exact hJ9 _ (by rw [if_neg hc10])
        intro v8 hv8
        refine Go.retN X2 hx (t := .boolean) Bd.returns (by simp) (hb hby d8_84) ?_ (by rw [hK1]; decide) (by rw [hK2]; decide)
        rw [e2, ← hQQ]
        refine ⟨?_, N2, rfl⟩
        unfold compV compT; rw [if_pos hc3, if_pos hc4, if_pos hc6]; rw [hv8]; (repeat' split) <;> rfl
      · -- pc 67 no
        refine Go.on (fun _ k => XS.ifYes X2.here hx rfl (pc0 := 67) (pc' := 83) rfl (hb hby d8_67) rfl ((if0 _ _).trans (feq hc6).2) (by decide) (by decide) k) ?_
        show Go _ _ _ _ _ _ _ _ (mkF m 83 #[.val (.ref a0), .val (.ref a1), .val (.int i2), .val (.int (3 : Int32)), .val (.int i4), .val (.int i5), .val (.int i6), .val (.int i7), .val (.int (contribV i5 i2 (3 : Int32))), .val (.double (FP.ddiv (FP.i2d (contribV i5 i2 (3 : Int32))) (FP.i2d i4))), .second] [])
        refine Go.on (fun _ k => XS.iconst X2.here hx rfl (hb hby d8_83) k) ?_
        show Go _ _ _ _ _ _ _ _ (mkF m 84 #[.val (.ref a0), .val (.ref a1), .val (.int i2), .val (.int (3 : Int32)), .val (.int i4), .val (.int i5), .val (.int i6), .val (.int i7), .val (.int (contribV i5 i2 (3 : Int32))), .val (.double (FP.ddiv (FP.i2d (contribV i5 i2 (3 : Int32))) (FP.i2d i4))), .second] [(.int (0 : Int32))])
        refine Go.retN X2 hx (t := .boolean) Bd.returns (by simp) (hb hby d8_84) ?_ (by rw [hK1]; decide) (by rw [hK2]; decide)
        rw [e2, ← hQQ]
        refine ⟨?_, N2, rfl⟩
        unfold compV compT; rw [if_pos hc3, if_pos hc4, if_neg hc6]; rfl
    · -- pc 37 no
      refine Go.on (fun _ k => XS.icmpNo X2.here hx rfl (hb hby d8_37) rfl (flt hc4).1 k) ?_
      show Go _ _ _ _ _ _ _ _ (mkF m 40 #[.val (.ref a0), .val (.ref a1), .val (.int i2), .val (.int (3 : Int32)), .val (.int i4), .val (.int i5), .val (.int i6), .val (.int i7), .val (.int (contribV i5 i2 (3 : Int32))), .unset, .unset] [])
      refine Go.on (fun _ k => XS.iload X2.here hx rfl (hb hby d8_40) rfl k) ?_
      show Go _ _ _ _ _ _ _ _ (mkF m 42 #[.val (.ref a0), .val (.ref a1), .val (.int i2), .val (.int (3 : Int32)), .val (.int i4), .val (.int i5), .val (.int i6), .val (.int i7), .val (.int (contribV i5 i2 (3 : Int32))), .unset, .unset] [(.int (contribV i5 i2 (3 : Int32)))])
      refine Go.on (fun _ k => XS.iload X2.here hx rfl (hb hby d8_42) rfl k) ?_
      show Go _ _ _ _ _ _ _ _ (mkF m 44 #[.val (.ref a0), .val (.ref a1), .val (.int i2), .val (.int (3 : Int32)), .val (.int i4), .val (.int i5), .val (.int i6), .val (.int i7), .val (.int (contribV i5 i2 (3 : Int32))), .unset, .unset] [(.int i7), (.int (contribV i5 i2 (3 : Int32)))])
      refine Go.on (fun _ k => XS.iloadN X2.here hx rfl (hb hby d8_44) rfl k) ?_
      show Go _ _ _ _ _ _ _ _ (mkF m 45 #[.val (.ref a0), .val (.ref a1), .val (.int i2), .val (.int (3 : Int32)), .val (.int i4), .val (.int i5), .val (.int i6), .val (.int i7), .val (.int (contribV i5 i2 (3 : Int32))), .unset, .unset] [(.int i2), (.int i7), (.int (contribV i5 i2 (3 : Int32)))])
      refine Go.on (fun _ k => XS.iloadN X2.here hx rfl (hb hby d8_45) rfl k) ?_
      show Go _ _ _ _ _ _ _ _ (mkF m 46 #[.val (.ref a0), .val (.ref a1), .val (.int i2), .val (.int (3 : Int32)), .val (.int i4), .val (.int i5), .val (.int i6), .val (.int i7), .val (.int (contribV i5 i2 (3 : Int32))), .unset, .unset] [(.int (3 : Int32)), (.int i2), (.int i7), (.int (contribV i5 i2 (3 : Int32)))])
      obtain ⟨_, _, ⟨T11, L11, k11, n11⟩, -, X11, ⟨Lc11, hQ11, l11, y11, z11⟩, st11⟩ := Jvm.LawKit.callS X2 hx (y := (⟨"com/example/d2rank/d2rank/rerank/CentroidMeanPinLaw", "contrib", "(III)I"⟩ : MethodName)) hown (mvT hZ (hw _ (List.mem_of_getElem? (i := 38) rfl))) (mvT hZ (hw _ (List.mem_of_getElem? (i := 39) rfl))) (mvT hZ (hw _ (List.mem_of_getElem? (i := 14) rfl))) (mvT hZ (hw _ (List.mem_of_getElem? (i := 40) rfl))) (by decide) (backOf (W := 1) (rm9 l Z aw hw [] i7 i2 (3 : Int32)  h0 n0 ZZ (by decide)) hZ (hw _ (List.mem_of_getElem? (i := 40) rfl)) (hw _ (List.mem_of_getElem? (i := 14) rfl)) (by decide) (by decide)) (g := (mkF m 46 #[.val (.ref a0), .val (.ref a1), .val (.int i2), .val (.int (3 : Int32)), .val (.int i4), .val (.int i5), .val (.int i6), .val (.int i7), .val (.int (contribV i5 i2 (3 : Int32))), .unset, .unset] [(.int (3 : Int32)), (.int i2), (.int i7), (.int (contribV i5 i2 (3 : Int32)))])) rfl (by rw [hml]; rfl) (argsL := [(.int i7), (.int i2), (.int (3 : Int32))]) (rest := [(.int (contribV i5 i2 (3 : Int32)))]) (lenOf pd_2 rfl) rfl (by show 2 * 0 + _ ≤ _; exact Nat.le_of_eq rfl) (hb hby d8_46) (fun _ _ => ⟨rfl, e2, (by decide : 0 + 0 ≤ _), (by decide : 0 + 0 ≤ _)⟩)
      dsimp only [Pt.U, Pt.locs, Pt.cells, Pt.slots] at X11 l11 y11 z11 st11 hQ11
      subst l11 y11 z11
      obtain ⟨rfl, N11q, e11⟩ := hQ11
      have N11 := Fr.app N2 N11q
      refine Go.on st11 ?_
      show Go _ _ _ _ _ _ _ _ (mkF m 49 #[.val (.ref a0), .val (.ref a1), .val (.int i2), .val (.int (3 : Int32)), .val (.int i4), .val (.int i5), .val (.int i6), .val (.int i7), .val (.int (contribV i5 i2 (3 : Int32))), .unset, .unset] [(.int (contribV i7 i2 (3 : Int32))), (.int (contribV i5 i2 (3 : Int32)))])
      refine Go.on (fun _ k => XS.iadd X11.here hx rfl (hb hby d8_49) rfl k) ?_
      show Go _ _ _ _ _ _ _ _ (mkF m 50 #[.val (.ref a0), .val (.ref a1), .val (.int i2), .val (.int (3 : Int32)), .val (.int i4), .val (.int i5), .val (.int i6), .val (.int i7), .val (.int (contribV i5 i2 (3 : Int32))), .unset, .unset] [(.int ((contribV i5 i2 (3 : Int32)) + (contribV i7 i2 (3 : Int32))))])
      refine Go.on (fun _ k => XS.istore X11.here hx rfl (hb hby d8_50) rfl (l' := #[.val (.ref a0), .val (.ref a1), .val (.int i2), .val (.int (3 : Int32)), .val (.int i4), .val (.int i5), .val (.int i6), .val (.int i7), .val (.int ((contribV i5 i2 (3 : Int32)) + (contribV i7 i2 (3 : Int32)))), .unset, .unset]) rfl k) ?_
      show Go _ _ _ _ _ _ _ _ (mkF m 52 #[.val (.ref a0), .val (.ref a1), .val (.int i2), .val (.int (3 : Int32)), .val (.int i4), .val (.int i5), .val (.int i6), .val (.int i7), .val (.int ((contribV i5 i2 (3 : Int32)) + (contribV i7 i2 (3 : Int32)))), .unset, .unset] [])
      refine Go.on (fun _ k => XS.iload X11.here hx rfl (hb hby d8_52) rfl k) ?_
      show Go _ _ _ _ _ _ _ _ (mkF m 54 #[.val (.ref a0), .val (.ref a1), .val (.int i2), .val (.int (3 : Int32)), .val (.int i4), .val (.int i5), .val (.int i6), .val (.int i7), .val (.int ((contribV i5 i2 (3 : Int32)) + (contribV i7 i2 (3 : Int32)))), .unset, .unset] [(.int ((contribV i5 i2 (3 : Int32)) + (contribV i7 i2 (3 : Int32))))])
      refine Go.on (fun _ k => XS.i2dS X11.here hx rfl (hb hby d8_54) rfl rfl k) ?_
      show Go _ _ _ _ _ _ _ _ (mkF m 55 #[.val (.ref a0), .val (.ref a1), .val (.int i2), .val (.int (3 : Int32)), .val (.int i4), .val (.int i5), .val (.int i6), .val (.int i7), .val (.int ((contribV i5 i2 (3 : Int32)) + (contribV i7 i2 (3 : Int32)))), .unset, .unset] [(.double (FP.i2d ((contribV i5 i2 (3 : Int32)) + (contribV i7 i2 (3 : Int32)))))])
      refine Go.on (fun _ k => XS.iload X11.here hx rfl (hb hby d8_55) rfl k) ?_
      show Go _ _ _ _ _ _ _ _ (mkF m 57 #[.val (.ref a0), .val (.ref a1), .val (.int i2), .val (.int (3 : Int32)), .val (.int i4), .val (.int i5), .val (.int i6), .val (.int i7), .val (.int ((contribV i5 i2 (3 : Int32)) + (contribV i7 i2 (3 : Int32)))), .unset, .unset] [(.int i4), (.double (FP.i2d ((contribV i5 i2 (3 : Int32)) + (contribV i7 i2 (3 : Int32)))))])
      refine Go.on (fun _ k => XS.i2dS X11.here hx rfl (hb hby d8_57) rfl rfl k) ?_
      show Go _ _ _ _ _ _ _ _ (mkF m 58 #[.val (.ref a0), .val (.ref a1), .val (.int i2), .val (.int (3 : Int32)), .val (.int i4), .val (.int i5), .val (.int i6), .val (.int i7), .val (.int ((contribV i5 i2 (3 : Int32)) + (contribV i7 i2 (3 : Int32)))), .unset, .unset] [(.double (FP.i2d i4)), (.double (FP.i2d ((contribV i5 i2 (3 : Int32)) + (contribV i7 i2 (3 : Int32)))))])
      refine Go.on (fun _ k => XS.ddivS X11.here hx rfl (hb hby d8_58) rfl (own_nnd' (Jvm.FP.Core.i2d_fin _) _ hn4) rfl k) ?_
      show Go _ _ _ _ _ _ _ _ (mkF m 59 #[.val (.ref a0), .val (.ref a1), .val (.int i2), .val (.int (3 : Int32)), .val (.int i4), .val (.int i5), .val (.int i6), .val (.int i7), .val (.int ((contribV i5 i2 (3 : Int32)) + (contribV i7 i2 (3 : Int32)))), .unset, .unset] [(.double (FP.ddiv (FP.i2d ((contribV i5 i2 (3 : Int32)) + (contribV i7 i2 (3 : Int32)))) (FP.i2d i4)))])
      refine Go.on (fun _ k => XS.dstore X11.here hx rfl (hb hby d8_59) rfl (l' := #[.val (.ref a0), .val (.ref a1), .val (.int i2), .val (.int (3 : Int32)), .val (.int i4), .val (.int i5), .val (.int i6), .val (.int i7), .val (.int ((contribV i5 i2 (3 : Int32)) + (contribV i7 i2 (3 : Int32)))), .val (.double (FP.ddiv (FP.i2d ((contribV i5 i2 (3 : Int32)) + (contribV i7 i2 (3 : Int32)))) (FP.i2d i4))), .second]) rfl k) ?_
      show Go _ _ _ _ _ _ _ _ (mkF m 61 #[.val (.ref a0), .val (.ref a1), .val (.int i2), .val (.int (3 : Int32)), .val (.int i4), .val (.int i5), .val (.int i6), .val (.int i7), .val (.int ((contribV i5 i2 (3 : Int32)) + (contribV i7 i2 (3 : Int32)))), .val (.double (FP.ddiv (FP.i2d ((contribV i5 i2 (3 : Int32)) + (contribV i7 i2 (3 : Int32)))) (FP.i2d i4))), .second] [])
      refine Go.on (fun _ k => XS.aloadN X11.here hx rfl (hb hby d8_61) rfl rfl k) ?_
      show Go _ _ _ _ _ _ _ _ (mkF m 62 #[.val (.ref a0), .val (.ref a1), .val (.int i2), .val (.int (3 : Int32)), .val (.int i4), .val (.int i5), .val (.int i6), .val (.int i7), .val (.int ((contribV i5 i2 (3 : Int32)) + (contribV i7 i2 (3 : Int32)))), .val (.double (FP.ddiv (FP.i2d ((contribV i5 i2 (3 : Int32)) + (contribV i7 i2 (3 : Int32)))) (FP.i2d i4))), .second] [(.ref a0)])
      refine Go.on (fun _ k => XS.iloadN X11.here hx rfl (hb hby d8_62) rfl k) ?_
      show Go _ _ _ _ _ _ _ _ (mkF m 63 #[.val (.ref a0), .val (.ref a1), .val (.int i2), .val (.int (3 : Int32)), .val (.int i4), .val (.int i5), .val (.int i6), .val (.int i7), .val (.int ((contribV i5 i2 (3 : Int32)) + (contribV i7 i2 (3 : Int32)))), .val (.double (FP.ddiv (FP.i2d ((contribV i5 i2 (3 : Int32)) + (contribV i7 i2 (3 : Int32)))) (FP.i2d i4))), .second] [(.int i2), (.ref a0)])
      obtain ⟨cl12, Ar12, -, S12, -, H12, -⟩ := id V_a0
      have hin12 : ¬ (i2 < 0 ∨ cl12.slots.size ≤ (i2).toNatClampNeg) := inb_of S12 (own_inb3 hp)
      refine Go.on (X11.daload hx (j := i2) (v := (.double (if i2 = (0 : Int32) then x0 else (if i2 = (1 : Int32) then x1 else x2)))) (by rw [e11]; exact Ar12.1) (State.isArrayOf_alike hZ.alike Ar12.2.1) Ar12.2.2 hin12 (H12.at hin12 (own_get3 hp _ _ _ _)) (g := (mkF m 63 #[.val (.ref a0), .val (.ref a1), .val (.int i2), .val (.int (3 : Int32)), .val (.int i4), .val (.int i5), .val (.int i6), .val (.int i7), .val (.int ((contribV i5 i2 (3 : Int32)) + (contribV i7 i2 (3 : Int32)))), .val (.double (FP.ddiv (FP.i2d ((contribV i5 i2 (3 : Int32)) + (contribV i7 i2 (3 : Int32)))) (FP.i2d i4))), .second] [(.int i2), (.ref a0)])) rfl rfl (hb hby d8_63)) ?_
      show Go _ _ _ _ _ _ _ _ (mkF m 64 #[.val (.ref a0), .val (.ref a1), .val (.int i2), .val (.int (3 : Int32)), .val (.int i4), .val (.int i5), .val (.int i6), .val (.int i7), .val (.int ((contribV i5 i2 (3 : Int32)) + (contribV i7 i2 (3 : Int32)))), .val (.double (FP.ddiv (FP.i2d ((contribV i5 i2 (3 : Int32)) + (contribV i7 i2 (3 : Int32)))) (FP.i2d i4))), .second] [(.double (if i2 = (0 : Int32) then x0 else (if i2 = (1 : Int32) then x1 else x2)))])
      refine Go.on (fun _ k => XS.dload X11.here hx rfl (hb hby d8_64) rfl k) ?_
      show Go _ _ _ _ _ _ _ _ (mkF m 66 #[.val (.ref a0), .val (.ref a1), .val (.int i2), .val (.int (3 : Int32)), .val (.int i4), .val (.int i5), .val (.int i6), .val (.int i7), .val (.int ((contribV i5 i2 (3 : Int32)) + (contribV i7 i2 (3 : Int32)))), .val (.double (FP.ddiv (FP.i2d ((contribV i5 i2 (3 : Int32)) + (contribV i7 i2 (3 : Int32)))) (FP.i2d i4))), .second] [(.double (FP.ddiv (FP.i2d ((contribV i5 i2 (3 : Int32)) + (contribV i7 i2 (3 : Int32)))) (FP.i2d i4))), (.double (if i2 = (0 : Int32) then x0 else (if i2 = (1 : Int32) then x1 else x2)))])
      refine Go.on (fun _ k => XS.dcmpS X11.here hx rfl (hb hby d8_66) rfl rfl k) ?_
      show Go _ _ _ _ _ _ _ _ (mkF m 67 #[.val (.ref a0), .val (.ref a1), .val (.int i2), .val (.int (3 : Int32)), .val (.int i4), .val (.int i5), .val (.int i6), .val (.int i7), .val (.int ((contribV i5 i2 (3 : Int32)) + (contribV i7 i2 (3 : Int32)))), .val (.double (FP.ddiv (FP.i2d ((contribV i5 i2 (3 : Int32)) + (contribV i7 i2 (3 : Int32)))) (FP.i2d i4))), .second] [(.int (cmpValue (FP.dcmp (if i2 = (0 : Int32) then x0 else (if i2 = (1 : Int32) then x1 else x2)) (FP.ddiv (FP.i2d ((contribV i5 i2 (3 : Int32)) + (contribV i7 i2 (3 : Int32)))) (FP.i2d i4))) .l))])
      by_cases hc13 : (cmpValue (FP.dcmp (if i2 = (0 : Int32) then x0 else (if i2 = (1 : Int32) then x1 else x2)) (FP.ddiv (FP.i2d ((contribV i5 i2 (3 : Int32)) + (contribV i7 i2 (3 : Int32)))) (FP.i2d i4))) .l) = (0 : Int32)
      · -- pc 67 yes
        refine Go.on (fun _ k => XS.ifNo X11.here hx rfl (hb hby d8_67) rfl ((if0 _ _).trans (teq hc13).2) k) ?_
        show Go _ _ _ _ _ _ _ _ (mkF m 70 #[.val (.ref a0), .val (.ref a1), .val (.int i2), .val (.int (3 : Int32)), .val (.int i4), .val (.int i5), .val (.int i6), .val (.int i7), .val (.int ((contribV i5 i2 (3 : Int32)) + (contribV i7 i2 (3 : Int32)))), .val (.double (FP.ddiv (FP.i2d ((contribV i5 i2 (3 : Int32)) + (contribV i7 i2 (3 : Int32)))) (FP.i2d i4))), .second] [])
        refine Go.on (fun _ k => XS.aloadN X11.here hx rfl (hb hby d8_70) rfl rfl k) ?_
        show Go _ _ _ _ _ _ _ _ (mkF m 71 #[.val (.ref a0), .val (.ref a1), .val (.int i2), .val (.int (3 : Int32)), .val (.int i4), .val (.int i5), .val (.int i6), .val (.int i7), .val (.int ((contribV i5 i2 (3 : Int32)) + (contribV i7 i2 (3 : Int32)))), .val (.double (FP.ddiv (FP.i2d ((contribV i5 i2 (3 : Int32)) + (contribV i7 i2 (3 : Int32)))) (FP.i2d i4))), .second] [(.ref a1)])
        refine Go.on (fun _ k => XS.iloadN X11.here hx rfl (hb hby d8_71) rfl k) ?_
        show Go _ _ _ _ _ _ _ _ (mkF m 72 #[.val (.ref a0), .val (.ref a1), .val (.int i2), .val (.int (3 : Int32)), .val (.int i4), .val (.int i5), .val (.int i6), .val (.int i7), .val (.int ((contribV i5 i2 (3 : Int32)) + (contribV i7 i2 (3 : Int32)))), .val (.double (FP.ddiv (FP.i2d ((contribV i5 i2 (3 : Int32)) + (contribV i7 i2 (3 : Int32)))) (FP.i2d i4))), .second] [(.int i2), (.ref a1)])
        obtain ⟨cl14, Ar14, -, S14, -, H14, -⟩ := id V_a1
        have hin14 : ¬ (i2 < 0 ∨ cl14.slots.size ≤ (i2).toNatClampNeg) := inb_of S14 (own_inb3 hp)
        refine Go.on (X11.daload hx (j := i2) (v := (.double (if i2 = (0 : Int32) then y0 else (if i2 = (1 : Int32) then y1 else y2)))) (by rw [e11]; exact Ar14.1) (State.isArrayOf_alike hZ.alike Ar14.2.1) Ar14.2.2 hin14 (H14.at hin14 (own_get3 hp _ _ _ _)) (g := (mkF m 72 #[.val (.ref a0), .val (.ref a1), .val (.int i2), .val (.int (3 : Int32)), .val (.int i4), .val (.int i5), .val (.int i6), .val (.int i7), .val (.int ((contribV i5 i2 (3 : Int32)) + (contribV i7 i2 (3 : Int32)))), .val (.double (FP.ddiv (FP.i2d ((contribV i5 i2 (3 : Int32)) + (contribV i7 i2 (3 : Int32)))) (FP.i2d i4))), .second] [(.int i2), (.ref a1)])) rfl rfl (hb hby d8_72)) ?_
        show Go _ _ _ _ _ _ _ _ (mkF m 73 #[.val (.ref a0), .val (.ref a1), .val (.int i2), .val (.int (3 : Int32)), .val (.int i4), .val (.int i5), .val (.int i6), .val (.int i7), .val (.int ((contribV i5 i2 (3 : Int32)) + (contribV i7 i2 (3 : Int32)))), .val (.double (FP.ddiv (FP.i2d ((contribV i5 i2 (3 : Int32)) + (contribV i7 i2 (3 : Int32)))) (FP.i2d i4))), .second] [(.double (if i2 = (0 : Int32) then y0 else (if i2 = (1 : Int32) then y1 else y2)))])
        refine Go.on (fun _ k => XS.dload X11.here hx rfl (hb hby d8_73) rfl k) ?_
        show Go _ _ _ _ _ _ _ _ (mkF m 75 #[.val (.ref a0), .val (.ref a1), .val (.int i2), .val (.int (3 : Int32)), .val (.int i4), .val (.int i5), .val (.int i6), .val (.int i7), .val (.int ((contribV i5 i2 (3 : Int32)) + (contribV i7 i2 (3 : Int32)))), .val (.double (FP.ddiv (FP.i2d ((contribV i5 i2 (3 : Int32)) + (contribV i7 i2 (3 : Int32)))) (FP.i2d i4))), .second] [(.double (FP.ddiv (FP.i2d ((contribV i5 i2 (3 : Int32)) + (contribV i7 i2 (3 : Int32)))) (FP.i2d i4))), (.double (if i2 = (0 : Int32) then y0 else (if i2 = (1 : Int32) then y1 else y2)))])
        refine Go.on (fun _ k => XS.dcmpS X11.here hx rfl (hb hby d8_75) rfl rfl k) ?_
        show Go _ _ _ _ _ _ _ _ (mkF m 76 #[.val (.ref a0), .val (.ref a1), .val (.int i2), .val (.int (3 : Int32)), .val (.int i4), .val (.int i5), .val (.int i6), .val (.int i7), .val (.int ((contribV i5 i2 (3 : Int32)) + (contribV i7 i2 (3 : Int32)))), .val (.double (FP.ddiv (FP.i2d ((contribV i5 i2 (3 : Int32)) + (contribV i7 i2 (3 : Int32)))) (FP.i2d i4))), .second] [(.int (cmpValue (FP.dcmp (if i2 = (0 : Int32) then y0 else (if i2 = (1 : Int32) then y1 else y2)) (FP.ddiv (FP.i2d ((contribV i5 i2 (3 : Int32)) + (contribV i7 i2 (3 : Int32)))) (FP.i2d i4))) .l))])
        suffices hJ16 : ∀ (v15 : Int32), v15 = (if (cmpValue (FP.dcmp (if i2 = (0 : Int32) then y0 else (if i2 = (1 : Int32) then y1 else y2)) (FP.ddiv (FP.i2d ((contribV i5 i2 (3 : Int32)) + (contribV i7 i2 (3 : Int32)))) (FP.i2d i4))) .l) = (0 : Int32) then (1 : Int32) else (0 : Int32)) → Go p e below s K1 K2 QQ T11 (mkF m 84 #[.val (.ref a0), .val (.ref a1), .val (.int i2), .val (.int (3 : Int32)), .val (.int i4), .val (.int i5), .val (.int i6), .val (.int i7), .val (.int ((contribV i5 i2 (3 : Int32)) + (contribV i7 i2 (3 : Int32)))), .val (.double (FP.ddiv (FP.i2d ((contribV i5 i2 (3 : Int32)) + (contribV i7 i2 (3 : Int32)))) (FP.i2d i4))), .second] [(.int v15)]) by
          by_cases hc17 : (cmpValue (FP.dcmp (if i2 = (0 : Int32) then y0 else (if i2 = (1 : Int32) then y1 else y2)) (FP.ddiv (FP.i2d ((contribV i5 i2 (3 : Int32)) + (contribV i7 i2 (3 : Int32)))) (FP.i2d i4))) .l) = (0 : Int32)
          · -- pc 76 yes
            refine Go.on (fun _ k => XS.ifNo X11.here hx rfl (hb hby d8_76) rfl ((if0 _ _).trans (teq hc17).2) k) ?_
            show Go _ _ _ _ _ _ _ _ (mkF m 79 #[.val (.ref a0), .val (.ref a1), .val (.int i2), .val (.int (3 : Int32)), .val (.int i4), .val (.int i5), .val (.int i6), .val (.int i7), .val (.int ((contribV i5 i2 (3 : Int32)) + (contribV i7 i2 (3 : Int32)))), .val (.double (FP.ddiv (FP.i2d ((contribV i5 i2 (3 : Int32)) + (contribV i7 i2 (3 : Int32)))) (FP.i2d i4))), .second] [])
            refine Go.on (fun _ k => XS.iconst X11.here hx rfl (hb hby d8_79) k) ?_
            show Go _ _ _ _ _ _ _ _ (mkF m 80 #[.val (.ref a0), .val (.ref a1), .val (.int i2), .val (.int (3 : Int32)), .val (.int i4), .val (.int i5), .val (.int i6), .val (.int i7), .val (.int ((contribV i5 i2 (3 : Int32)) + (contribV i7 i2 (3 : Int32)))), .val (.double (FP.ddiv (FP.i2d ((contribV i5 i2 (3 : Int32)) + (contribV i7 i2 (3 : Int32)))) (FP.i2d i4))), .second] [(.int (1 : Int32))])
            refine Go.on (fun _ k => XS.goto X11.here hx rfl (pc0 := 80) (pc' := 84) rfl (hb hby d8_80) (by decide) (by decide) k) ?_
            show Go _ _ _ _ _ _ _ _ (mkF m 84 #[.val (.ref a0), .val (.ref a1), .val (.int i2), .val (.int (3 : Int32)), .val (.int i4), .val (.int i5), .val (.int i6), .val (.int i7), .val (.int ((contribV i5 i2 (3 : Int32)) + (contribV i7 i2 (3 : Int32)))), .val (.double (FP.ddiv (FP.i2d ((contribV i5 i2 (3 : Int32)) + (contribV i7 i2 (3 : Int32)))) (FP.i2d i4))), .second] [(.int (1 : Int32))])
            exact hJ16 _ (by rw [if_pos hc17])
          · -- pc 76 no
            refine Go.on (fun _ k => XS.ifYes X11.here hx rfl (pc0 := 76) (pc' := 83) rfl (hb hby d8_76) rfl ((if0 _ _).trans (feq hc17).2) (by decide) (by decide) k) ?_
            show Go _ _ _ _ _ _ _ _ (mkF m 83 #[.val (.ref a0), .val (.ref a1), .val (.int i2), .val (.int (3 : Int32)), .val (.int i4), .val (.int i5), .val (.int i6), .val (.int i7), .val (.int ((contribV i5 i2 (3 : Int32)) + (contribV i7 i2 (3 : Int32)))), .val (.double (FP.ddiv (FP.i2d ((contribV i5 i2 (3 : Int32)) + (contribV i7 i2 (3 : Int32)))) (FP.i2d i4))), .second] [])
            refine Go.on (fun _ k => XS.iconst X11.here hx rfl (hb hby d8_83) k) ?_
            show Go _ _ _ _ _ _ _ _ (mkF m 84 #[.val (.ref a0), .val (.ref a1), .val (.int i2), .val (.int (3 : Int32)), .val (.int i4), .val (.int i5), .val (.int i6), .val (.int i7), .val (.int ((contribV i5 i2 (3 : Int32)) + (contribV i7 i2 (3 : Int32)))), .val (.double (FP.ddiv (FP.i2d ((contribV i5 i2 (3 : Int32)) + (contribV i7 i2 (3 : Int32)))) (FP.i2d i4))), .second] [(.int (0 : Int32))])
            exact hJ16 _ (by rw [if_neg hc17])
        intro v15 hv15
        refine Go.retN X11 hx (t := .boolean) Bd.returns (by simp) (hb hby d8_84) ?_ (by rw [hK1]; decide) (by rw [hK2]; decide)
        rw [e11, ← hQQ]
        refine ⟨?_, N11, rfl⟩
        unfold compV compT; rw [if_pos hc3, if_neg hc4, if_pos hc13]; rw [hv15]; (repeat' split) <;> rfl
      · -- pc 67 no
        refine Go.on (fun _ k => XS.ifYes X11.here hx rfl (pc0 := 67) (pc' := 83) rfl (hb hby d8_67) rfl ((if0 _ _).trans (feq hc13).2) (by decide) (by decide) k) ?_
        show Go _ _ _ _ _ _ _ _ (mkF m 83 #[.val (.ref a0), .val (.ref a1), .val (.int i2), .val (.int (3 : Int32)), .val (.int i4), .val (.int i5), .val (.int i6), .val (.int i7), .val (.int ((contribV i5 i2 (3 : Int32)) + (contribV i7 i2 (3 : Int32)))), .val (.double (FP.ddiv (FP.i2d ((contribV i5 i2 (3 : Int32)) + (contribV i7 i2 (3 : Int32)))) (FP.i2d i4))), .second] [])
        refine Go.on (fun _ k => XS.iconst X11.here hx rfl (hb hby d8_83) k) ?_
        show Go _ _ _ _ _ _ _ _ (mkF m 84 #[.val (.ref a0), .val (.ref a1), .val (.int i2), .val (.int (3 : Int32)), .val (.int i4), .val (.int i5), .val (.int i6), .val (.int i7), .val (.int ((contribV i5 i2 (3 : Int32)) + (contribV i7 i2 (3 : Int32)))), .val (.double (FP.ddiv (FP.i2d ((contribV i5 i2 (3 : Int32)) + (contribV i7 i2 (3 : Int32)))) (FP.i2d i4))), .second] [(.int (0 : Int32))])
        refine Go.retN X11 hx (t := .boolean) Bd.returns (by simp) (hb hby d8_84) ?_ (by rw [hK1]; decide) (by rw [hK2]; decide)
        rw [e11, ← hQQ]
        refine ⟨?_, N11, rfl⟩
        unfold compV compT; rw [if_pos hc3, if_neg hc4, if_neg hc13]; rfl
  · -- pc 19 no
    refine Go.on (fun _ k => XS.icmpNo X2.here hx rfl (hb hby d8_19) rfl (flt hc3).1 k) ?_
    show Go _ _ _ _ _ _ _ _ (mkF m 22 #[.val (.ref a0), .val (.ref a1), .val (.int i2), .val (.int (3 : Int32)), .val (.int i4), .val (.int i5), .val (.int i6), .val (.int i7), .val (.int (contribV i5 i2 (3 : Int32))), .unset, .unset] [])
    refine Go.on (fun _ k => XS.iload X2.here hx rfl (hb hby d8_22) rfl k) ?_
    show Go _ _ _ _ _ _ _ _ (mkF m 24 #[.val (.ref a0), .val (.ref a1), .val (.int i2), .val (.int (3 : Int32)), .val (.int i4), .val (.int i5), .val (.int i6), .val (.int i7), .val (.int (contribV i5 i2 (3 : Int32))), .unset, .unset] [(.int (contribV i5 i2 (3 : Int32)))])
    refine Go.on (fun _ k => XS.iload X2.here hx rfl (hb hby d8_24) rfl k) ?_
    show Go _ _ _ _ _ _ _ _ (mkF m 26 #[.val (.ref a0), .val (.ref a1), .val (.int i2), .val (.int (3 : Int32)), .val (.int i4), .val (.int i5), .val (.int i6), .val (.int i7), .val (.int (contribV i5 i2 (3 : Int32))), .unset, .unset] [(.int i6), (.int (contribV i5 i2 (3 : Int32)))])
    refine Go.on (fun _ k => XS.iloadN X2.here hx rfl (hb hby d8_26) rfl k) ?_
    show Go _ _ _ _ _ _ _ _ (mkF m 27 #[.val (.ref a0), .val (.ref a1), .val (.int i2), .val (.int (3 : Int32)), .val (.int i4), .val (.int i5), .val (.int i6), .val (.int i7), .val (.int (contribV i5 i2 (3 : Int32))), .unset, .unset] [(.int i2), (.int i6), (.int (contribV i5 i2 (3 : Int32)))])
    refine Go.on (fun _ k => XS.iloadN X2.here hx rfl (hb hby d8_27) rfl k) ?_
    show Go _ _ _ _ _ _ _ _ (mkF m 28 #[.val (.ref a0), .val (.ref a1), .val (.int i2), .val (.int (3 : Int32)), .val (.int i4), .val (.int i5), .val (.int i6), .val (.int i7), .val (.int (contribV i5 i2 (3 : Int32))), .unset, .unset] [(.int (3 : Int32)), (.int i2), (.int i6), (.int (contribV i5 i2 (3 : Int32)))])
    obtain ⟨_, _, ⟨T18, L18, k18, n18⟩, -, X18, ⟨Lc18, hQ18, l18, y18, z18⟩, st18⟩ := Jvm.LawKit.callS X2 hx (y := (⟨"com/example/d2rank/d2rank/rerank/CentroidMeanPinLaw", "contrib", "(III)I"⟩ : MethodName)) hown (mvT hZ (hw _ (List.mem_of_getElem? (i := 38) rfl))) (mvT hZ (hw _ (List.mem_of_getElem? (i := 39) rfl))) (mvT hZ (hw _ (List.mem_of_getElem? (i := 14) rfl))) (mvT hZ (hw _ (List.mem_of_getElem? (i := 40) rfl))) (by decide) (backOf (W := 1) (rm9 l Z aw hw [] i6 i2 (3 : Int32)  h0 n0 ZZ (by decide)) hZ (hw _ (List.mem_of_getElem? (i := 40) rfl)) (hw _ (List.mem_of_getElem? (i := 14) rfl)) (by decide) (by decide)) (g := (mkF m 28 #[.val (.ref a0), .val (.ref a1), .val (.int i2), .val (.int (3 : Int32)), .val (.int i4), .val (.int i5), .val (.int i6), .val (.int i7), .val (.int (contribV i5 i2 (3 : Int32))), .unset, .unset] [(.int (3 : Int32)), (.int i2), (.int i6), (.int (contribV i5 i2 (3 : Int32)))])) rfl (by rw [hml]; rfl) (argsL := [(.int i6), (.int i2), (.int (3 : Int32))]) (rest := [(.int (contribV i5 i2 (3 : Int32)))]) (lenOf pd_2 rfl) rfl (by show 2 * 0 + _ ≤ _; exact Nat.le_of_eq rfl) (hb hby d8_28) (fun _ _ => ⟨rfl, e2, (by decide : 0 + 0 ≤ _), (by decide : 0 + 0 ≤ _)⟩)
    dsimp only [Pt.U, Pt.locs, Pt.cells, Pt.slots] at X18 l18 y18 z18 st18 hQ18
    subst l18 y18 z18
    obtain ⟨rfl, N18q, e18⟩ := hQ18
    have N18 := Fr.app N2 N18q
    refine Go.on st18 ?_
    show Go _ _ _ _ _ _ _ _ (mkF m 31 #[.val (.ref a0), .val (.ref a1), .val (.int i2), .val (.int (3 : Int32)), .val (.int i4), .val (.int i5), .val (.int i6), .val (.int i7), .val (.int (contribV i5 i2 (3 : Int32))), .unset, .unset] [(.int (contribV i6 i2 (3 : Int32))), (.int (contribV i5 i2 (3 : Int32)))])
    refine Go.on (fun _ k => XS.iadd X18.here hx rfl (hb hby d8_31) rfl k) ?_
    show Go _ _ _ _ _ _ _ _ (mkF m 32 #[.val (.ref a0), .val (.ref a1), .val (.int i2), .val (.int (3 : Int32)), .val (.int i4), .val (.int i5), .val (.int i6), .val (.int i7), .val (.int (contribV i5 i2 (3 : Int32))), .unset, .unset] [(.int ((contribV i5 i2 (3 : Int32)) + (contribV i6 i2 (3 : Int32))))])
    refine Go.on (fun _ k => XS.istore X18.here hx rfl (hb hby d8_32) rfl (l' := #[.val (.ref a0), .val (.ref a1), .val (.int i2), .val (.int (3 : Int32)), .val (.int i4), .val (.int i5), .val (.int i6), .val (.int i7), .val (.int ((contribV i5 i2 (3 : Int32)) + (contribV i6 i2 (3 : Int32)))), .unset, .unset]) rfl k) ?_
    show Go _ _ _ _ _ _ _ _ (mkF m 34 #[.val (.ref a0), .val (.ref a1), .val (.int i2), .val (.int (3 : Int32)), .val (.int i4), .val (.int i5), .val (.int i6), .val (.int i7), .val (.int ((contribV i5 i2 (3 : Int32)) + (contribV i6 i2 (3 : Int32)))), .unset, .unset] [])
    refine Go.on (fun _ k => XS.iload X18.here hx rfl (hb hby d8_34) rfl k) ?_
    show Go _ _ _ _ _ _ _ _ (mkF m 36 #[.val (.ref a0), .val (.ref a1), .val (.int i2), .val (.int (3 : Int32)), .val (.int i4), .val (.int i5), .val (.int i6), .val (.int i7), .val (.int ((contribV i5 i2 (3 : Int32)) + (contribV i6 i2 (3 : Int32)))), .unset, .unset] [(.int i4)])
    refine Go.on (fun _ k => XS.iconst X18.here hx rfl (hb hby d8_36) k) ?_
    show Go _ _ _ _ _ _ _ _ (mkF m 37 #[.val (.ref a0), .val (.ref a1), .val (.int i2), .val (.int (3 : Int32)), .val (.int i4), .val (.int i5), .val (.int i6), .val (.int i7), .val (.int ((contribV i5 i2 (3 : Int32)) + (contribV i6 i2 (3 : Int32)))), .unset, .unset] [(.int (3 : Int32)), (.int i4)])
    by_cases hc19 : i4 < (3 : Int32)
    · -- pc 37 yes
      refine Go.on (fun _ k => XS.icmpYes X18.here hx rfl (pc0 := 37) (pc' := 52) rfl (hb hby d8_37) rfl (tlt hc19).1 (by decide) (by decide) k) ?_
      show Go _ _ _ _ _ _ _ _ (mkF m 52 #[.val (.ref a0), .val (.ref a1), .val (.int i2), .val (.int (3 : Int32)), .val (.int i4), .val (.int i5), .val (.int i6), .val (.int i7), .val (.int ((contribV i5 i2 (3 : Int32)) + (contribV i6 i2 (3 : Int32)))), .unset, .unset] [])
      refine Go.on (fun _ k => XS.iload X18.here hx rfl (hb hby d8_52) rfl k) ?_
      show Go _ _ _ _ _ _ _ _ (mkF m 54 #[.val (.ref a0), .val (.ref a1), .val (.int i2), .val (.int (3 : Int32)), .val (.int i4), .val (.int i5), .val (.int i6), .val (.int i7), .val (.int ((contribV i5 i2 (3 : Int32)) + (contribV i6 i2 (3 : Int32)))), .unset, .unset] [(.int ((contribV i5 i2 (3 : Int32)) + (contribV i6 i2 (3 : Int32))))])
      refine Go.on (fun _ k => XS.i2dS X18.here hx rfl (hb hby d8_54) rfl rfl k) ?_
      show Go _ _ _ _ _ _ _ _ (mkF m 55 #[.val (.ref a0), .val (.ref a1), .val (.int i2), .val (.int (3 : Int32)), .val (.int i4), .val (.int i5), .val (.int i6), .val (.int i7), .val (.int ((contribV i5 i2 (3 : Int32)) + (contribV i6 i2 (3 : Int32)))), .unset, .unset] [(.double (FP.i2d ((contribV i5 i2 (3 : Int32)) + (contribV i6 i2 (3 : Int32)))))])
      refine Go.on (fun _ k => XS.iload X18.here hx rfl (hb hby d8_55) rfl k) ?_
      show Go _ _ _ _ _ _ _ _ (mkF m 57 #[.val (.ref a0), .val (.ref a1), .val (.int i2), .val (.int (3 : Int32)), .val (.int i4), .val (.int i5), .val (.int i6), .val (.int i7), .val (.int ((contribV i5 i2 (3 : Int32)) + (contribV i6 i2 (3 : Int32)))), .unset, .unset] [(.int i4), (.double (FP.i2d ((contribV i5 i2 (3 : Int32)) + (contribV i6 i2 (3 : Int32)))))])
      refine Go.on (fun _ k => XS.i2dS X18.here hx rfl (hb hby d8_57) rfl rfl k) ?_
      show Go _ _ _ _ _ _ _ _ (mkF m 58 #[.val (.ref a0), .val (.ref a1), .val (.int i2), .val (.int (3 : Int32)), .val (.int i4), .val (.int i5), .val (.int i6), .val (.int i7), .val (.int ((contribV i5 i2 (3 : Int32)) + (contribV i6 i2 (3 : Int32)))), .unset, .unset] [(.double (FP.i2d i4)), (.double (FP.i2d ((contribV i5 i2 (3 : Int32)) + (contribV i6 i2 (3 : Int32)))))])
      refine Go.on (fun _ k => XS.ddivS X18.here hx rfl (hb hby d8_58) rfl (own_nnd' (Jvm.FP.Core.i2d_fin _) _ hn4) rfl k) ?_
      show Go _ _ _ _ _ _ _ _ (mkF m 59 #[.val (.ref a0), .val (.ref a1), .val (.int i2), .val (.int (3 : Int32)), .val (.int i4), .val (.int i5), .val (.int i6), .val (.int i7), .val (.int ((contribV i5 i2 (3 : Int32)) + (contribV i6 i2 (3 : Int32)))), .unset, .unset] [(.double (FP.ddiv (FP.i2d ((contribV i5 i2 (3 : Int32)) + (contribV i6 i2 (3 : Int32)))) (FP.i2d i4)))])
      refine Go.on (fun _ k => XS.dstore X18.here hx rfl (hb hby d8_59) rfl (l' := #[.val (.ref a0), .val (.ref a1), .val (.int i2), .val (.int (3 : Int32)), .val (.int i4), .val (.int i5), .val (.int i6), .val (.int i7), .val (.int ((contribV i5 i2 (3 : Int32)) + (contribV i6 i2 (3 : Int32)))), .val (.double (FP.ddiv (FP.i2d ((contribV i5 i2 (3 : Int32)) + (contribV i6 i2 (3 : Int32)))) (FP.i2d i4))), .second]) rfl k) ?_
      show Go _ _ _ _ _ _ _ _ (mkF m 61 #[.val (.ref a0), .val (.ref a1), .val (.int i2), .val (.int (3 : Int32)), .val (.int i4), .val (.int i5), .val (.int i6), .val (.int i7), .val (.int ((contribV i5 i2 (3 : Int32)) + (contribV i6 i2 (3 : Int32)))), .val (.double (FP.ddiv (FP.i2d ((contribV i5 i2 (3 : Int32)) + (contribV i6 i2 (3 : Int32)))) (FP.i2d i4))), .second] [])
      refine Go.on (fun _ k => XS.aloadN X18.here hx rfl (hb hby d8_61) rfl rfl k) ?_
      show Go _ _ _ _ _ _ _ _ (mkF m 62 #[.val (.ref a0), .val (.ref a1), .val (.int i2), .val (.int (3 : Int32)), .val (.int i4), .val (.int i5), .val (.int i6), .val (.int i7), .val (.int ((contribV i5 i2 (3 : Int32)) + (contribV i6 i2 (3 : Int32)))), .val (.double (FP.ddiv (FP.i2d ((contribV i5 i2 (3 : Int32)) + (contribV i6 i2 (3 : Int32)))) (FP.i2d i4))), .second] [(.ref a0)])
      refine Go.on (fun _ k => XS.iloadN X18.here hx rfl (hb hby d8_62) rfl k) ?_
      show Go _ _ _ _ _ _ _ _ (mkF m 63 #[.val (.ref a0), .val (.ref a1), .val (.int i2), .val (.int (3 : Int32)), .val (.int i4), .val (.int i5), .val (.int i6), .val (.int i7), .val (.int ((contribV i5 i2 (3 : Int32)) + (contribV i6 i2 (3 : Int32)))), .val (.double (FP.ddiv (FP.i2d ((contribV i5 i2 (3 : Int32)) + (contribV i6 i2 (3 : Int32)))) (FP.i2d i4))), .second] [(.int i2), (.ref a0)])
      obtain ⟨cl20, Ar20, -, S20, -, H20, -⟩ := id V_a0
      have hin20 : ¬ (i2 < 0 ∨ cl20.slots.size ≤ (i2).toNatClampNeg) := inb_of S20 (own_inb3 hp)
      refine Go.on (X18.daload hx (j := i2) (v := (.double (if i2 = (0 : Int32) then x0 else (if i2 = (1 : Int32) then x1 else x2)))) (by rw [e18]; exact Ar20.1) (State.isArrayOf_alike hZ.alike Ar20.2.1) Ar20.2.2 hin20 (H20.at hin20 (own_get3 hp _ _ _ _)) (g := (mkF m 63 #[.val (.ref a0), .val (.ref a1), .val (.int i2), .val (.int (3 : Int32)), .val (.int i4), .val (.int i5), .val (.int i6), .val (.int i7), .val (.int ((contribV i5 i2 (3 : Int32)) + (contribV i6 i2 (3 : Int32)))), .val (.double (FP.ddiv (FP.i2d ((contribV i5 i2 (3 : Int32)) + (contribV i6 i2 (3 : Int32)))) (FP.i2d i4))), .second] [(.int i2), (.ref a0)])) rfl rfl (hb hby d8_63)) ?_
      show Go _ _ _ _ _ _ _ _ (mkF m 64 #[.val (.ref a0), .val (.ref a1), .val (.int i2), .val (.int (3 : Int32)), .val (.int i4), .val (.int i5), .val (.int i6), .val (.int i7), .val (.int ((contribV i5 i2 (3 : Int32)) + (contribV i6 i2 (3 : Int32)))), .val (.double (FP.ddiv (FP.i2d ((contribV i5 i2 (3 : Int32)) + (contribV i6 i2 (3 : Int32)))) (FP.i2d i4))), .second] [(.double (if i2 = (0 : Int32) then x0 else (if i2 = (1 : Int32) then x1 else x2)))])
      refine Go.on (fun _ k => XS.dload X18.here hx rfl (hb hby d8_64) rfl k) ?_
      show Go _ _ _ _ _ _ _ _ (mkF m 66 #[.val (.ref a0), .val (.ref a1), .val (.int i2), .val (.int (3 : Int32)), .val (.int i4), .val (.int i5), .val (.int i6), .val (.int i7), .val (.int ((contribV i5 i2 (3 : Int32)) + (contribV i6 i2 (3 : Int32)))), .val (.double (FP.ddiv (FP.i2d ((contribV i5 i2 (3 : Int32)) + (contribV i6 i2 (3 : Int32)))) (FP.i2d i4))), .second] [(.double (FP.ddiv (FP.i2d ((contribV i5 i2 (3 : Int32)) + (contribV i6 i2 (3 : Int32)))) (FP.i2d i4))), (.double (if i2 = (0 : Int32) then x0 else (if i2 = (1 : Int32) then x1 else x2)))])
      refine Go.on (fun _ k => XS.dcmpS X18.here hx rfl (hb hby d8_66) rfl rfl k) ?_
      show Go _ _ _ _ _ _ _ _ (mkF m 67 #[.val (.ref a0), .val (.ref a1), .val (.int i2), .val (.int (3 : Int32)), .val (.int i4), .val (.int i5), .val (.int i6), .val (.int i7), .val (.int ((contribV i5 i2 (3 : Int32)) + (contribV i6 i2 (3 : Int32)))), .val (.double (FP.ddiv (FP.i2d ((contribV i5 i2 (3 : Int32)) + (contribV i6 i2 (3 : Int32)))) (FP.i2d i4))), .second] [(.int (cmpValue (FP.dcmp (if i2 = (0 : Int32) then x0 else (if i2 = (1 : Int32) then x1 else x2)) (FP.ddiv (FP.i2d ((contribV i5 i2 (3 : Int32)) + (contribV i6 i2 (3 : Int32)))) (FP.i2d i4))) .l))])
      by_cases hc21 : (cmpValue (FP.dcmp (if i2 = (0 : Int32) then x0 else (if i2 = (1 : Int32) then x1 else x2)) (FP.ddiv (FP.i2d ((contribV i5 i2 (3 : Int32)) + (contribV i6 i2 (3 : Int32)))) (FP.i2d i4))) .l) = (0 : Int32)
      · -- pc 67 yes
        refine Go.on (fun _ k => XS.ifNo X18.here hx rfl (hb hby d8_67) rfl ((if0 _ _).trans (teq hc21).2) k) ?_
        show Go _ _ _ _ _ _ _ _ (mkF m 70 #[.val (.ref a0), .val (.ref a1), .val (.int i2), .val (.int (3 : Int32)), .val (.int i4), .val (.int i5), .val (.int i6), .val (.int i7), .val (.int ((contribV i5 i2 (3 : Int32)) + (contribV i6 i2 (3 : Int32)))), .val (.double (FP.ddiv (FP.i2d ((contribV i5 i2 (3 : Int32)) + (contribV i6 i2 (3 : Int32)))) (FP.i2d i4))), .second] [])
        refine Go.on (fun _ k => XS.aloadN X18.here hx rfl (hb hby d8_70) rfl rfl k) ?_
        show Go _ _ _ _ _ _ _ _ (mkF m 71 #[.val (.ref a0), .val (.ref a1), .val (.int i2), .val (.int (3 : Int32)), .val (.int i4), .val (.int i5), .val (.int i6), .val (.int i7), .val (.int ((contribV i5 i2 (3 : Int32)) + (contribV i6 i2 (3 : Int32)))), .val (.double (FP.ddiv (FP.i2d ((contribV i5 i2 (3 : Int32)) + (contribV i6 i2 (3 : Int32)))) (FP.i2d i4))), .second] [(.ref a1)])
        refine Go.on (fun _ k => XS.iloadN X18.here hx rfl (hb hby d8_71) rfl k) ?_
        show Go _ _ _ _ _ _ _ _ (mkF m 72 #[.val (.ref a0), .val (.ref a1), .val (.int i2), .val (.int (3 : Int32)), .val (.int i4), .val (.int i5), .val (.int i6), .val (.int i7), .val (.int ((contribV i5 i2 (3 : Int32)) + (contribV i6 i2 (3 : Int32)))), .val (.double (FP.ddiv (FP.i2d ((contribV i5 i2 (3 : Int32)) + (contribV i6 i2 (3 : Int32)))) (FP.i2d i4))), .second] [(.int i2), (.ref a1)])
        obtain ⟨cl22, Ar22, -, S22, -, H22, -⟩ := id V_a1
        have hin22 : ¬ (i2 < 0 ∨ cl22.slots.size ≤ (i2).toNatClampNeg) := inb_of S22 (own_inb3 hp)
        refine Go.on (X18.daload hx (j := i2) (v := (.double (if i2 = (0 : Int32) then y0 else (if i2 = (1 : Int32) then y1 else y2)))) (by rw [e18]; exact Ar22.1) (State.isArrayOf_alike hZ.alike Ar22.2.1) Ar22.2.2 hin22 (H22.at hin22 (own_get3 hp _ _ _ _)) (g := (mkF m 72 #[.val (.ref a0), .val (.ref a1), .val (.int i2), .val (.int (3 : Int32)), .val (.int i4), .val (.int i5), .val (.int i6), .val (.int i7), .val (.int ((contribV i5 i2 (3 : Int32)) + (contribV i6 i2 (3 : Int32)))), .val (.double (FP.ddiv (FP.i2d ((contribV i5 i2 (3 : Int32)) + (contribV i6 i2 (3 : Int32)))) (FP.i2d i4))), .second] [(.int i2), (.ref a1)])) rfl rfl (hb hby d8_72)) ?_
        show Go _ _ _ _ _ _ _ _ (mkF m 73 #[.val (.ref a0), .val (.ref a1), .val (.int i2), .val (.int (3 : Int32)), .val (.int i4), .val (.int i5), .val (.int i6), .val (.int i7), .val (.int ((contribV i5 i2 (3 : Int32)) + (contribV i6 i2 (3 : Int32)))), .val (.double (FP.ddiv (FP.i2d ((contribV i5 i2 (3 : Int32)) + (contribV i6 i2 (3 : Int32)))) (FP.i2d i4))), .second] [(.double (if i2 = (0 : Int32) then y0 else (if i2 = (1 : Int32) then y1 else y2)))])
        refine Go.on (fun _ k => XS.dload X18.here hx rfl (hb hby d8_73) rfl k) ?_
        show Go _ _ _ _ _ _ _ _ (mkF m 75 #[.val (.ref a0), .val (.ref a1), .val (.int i2), .val (.int (3 : Int32)), .val (.int i4), .val (.int i5), .val (.int i6), .val (.int i7), .val (.int ((contribV i5 i2 (3 : Int32)) + (contribV i6 i2 (3 : Int32)))), .val (.double (FP.ddiv (FP.i2d ((contribV i5 i2 (3 : Int32)) + (contribV i6 i2 (3 : Int32)))) (FP.i2d i4))), .second] [(.double (FP.ddiv (FP.i2d ((contribV i5 i2 (3 : Int32)) + (contribV i6 i2 (3 : Int32)))) (FP.i2d i4))), (.double (if i2 = (0 : Int32) then y0 else (if i2 = (1 : Int32) then y1 else y2)))])
        refine Go.on (fun _ k => XS.dcmpS X18.here hx rfl (hb hby d8_75) rfl rfl k) ?_
        show Go _ _ _ _ _ _ _ _ (mkF m 76 #[.val (.ref a0), .val (.ref a1), .val (.int i2), .val (.int (3 : Int32)), .val (.int i4), .val (.int i5), .val (.int i6), .val (.int i7), .val (.int ((contribV i5 i2 (3 : Int32)) + (contribV i6 i2 (3 : Int32)))), .val (.double (FP.ddiv (FP.i2d ((contribV i5 i2 (3 : Int32)) + (contribV i6 i2 (3 : Int32)))) (FP.i2d i4))), .second] [(.int (cmpValue (FP.dcmp (if i2 = (0 : Int32) then y0 else (if i2 = (1 : Int32) then y1 else y2)) (FP.ddiv (FP.i2d ((contribV i5 i2 (3 : Int32)) + (contribV i6 i2 (3 : Int32)))) (FP.i2d i4))) .l))])
        suffices hJ24 : ∀ (v23 : Int32), v23 = (if (cmpValue (FP.dcmp (if i2 = (0 : Int32) then y0 else (if i2 = (1 : Int32) then y1 else y2)) (FP.ddiv (FP.i2d ((contribV i5 i2 (3 : Int32)) + (contribV i6 i2 (3 : Int32)))) (FP.i2d i4))) .l) = (0 : Int32) then (1 : Int32) else (0 : Int32)) → Go p e below s K1 K2 QQ T18 (mkF m 84 #[.val (.ref a0), .val (.ref a1), .val (.int i2), .val (.int (3 : Int32)), .val (.int i4), .val (.int i5), .val (.int i6), .val (.int i7), .val (.int ((contribV i5 i2 (3 : Int32)) + (contribV i6 i2 (3 : Int32)))), .val (.double (FP.ddiv (FP.i2d ((contribV i5 i2 (3 : Int32)) + (contribV i6 i2 (3 : Int32)))) (FP.i2d i4))), .second] [(.int v23)]) by
          by_cases hc25 : (cmpValue (FP.dcmp (if i2 = (0 : Int32) then y0 else (if i2 = (1 : Int32) then y1 else y2)) (FP.ddiv (FP.i2d ((contribV i5 i2 (3 : Int32)) + (contribV i6 i2 (3 : Int32)))) (FP.i2d i4))) .l) = (0 : Int32)
          · -- pc 76 yes
            refine Go.on (fun _ k => XS.ifNo X18.here hx rfl (hb hby d8_76) rfl ((if0 _ _).trans (teq hc25).2) k) ?_
            show Go _ _ _ _ _ _ _ _ (mkF m 79 #[.val (.ref a0), .val (.ref a1), .val (.int i2), .val (.int (3 : Int32)), .val (.int i4), .val (.int i5), .val (.int i6), .val (.int i7), .val (.int ((contribV i5 i2 (3 : Int32)) + (contribV i6 i2 (3 : Int32)))), .val (.double (FP.ddiv (FP.i2d ((contribV i5 i2 (3 : Int32)) + (contribV i6 i2 (3 : Int32)))) (FP.i2d i4))), .second] [])
            refine Go.on (fun _ k => XS.iconst X18.here hx rfl (hb hby d8_79) k) ?_
            show Go _ _ _ _ _ _ _ _ (mkF m 80 #[.val (.ref a0), .val (.ref a1), .val (.int i2), .val (.int (3 : Int32)), .val (.int i4), .val (.int i5), .val (.int i6), .val (.int i7), .val (.int ((contribV i5 i2 (3 : Int32)) + (contribV i6 i2 (3 : Int32)))), .val (.double (FP.ddiv (FP.i2d ((contribV i5 i2 (3 : Int32)) + (contribV i6 i2 (3 : Int32)))) (FP.i2d i4))), .second] [(.int (1 : Int32))])
            refine Go.on (fun _ k => XS.goto X18.here hx rfl (pc0 := 80) (pc' := 84) rfl (hb hby d8_80) (by decide) (by decide) k) ?_
            show Go _ _ _ _ _ _ _ _ (mkF m 84 #[.val (.ref a0), .val (.ref a1), .val (.int i2), .val (.int (3 : Int32)), .val (.int i4), .val (.int i5), .val (.int i6), .val (.int i7), .val (.int ((contribV i5 i2 (3 : Int32)) + (contribV i6 i2 (3 : Int32)))), .val (.double (FP.ddiv (FP.i2d ((contribV i5 i2 (3 : Int32)) + (contribV i6 i2 (3 : Int32)))) (FP.i2d i4))), .second] [(.int (1 : Int32))])
            exact hJ24 _ (by rw [if_pos hc25])
          · -- pc 76 no
            refine Go.on (fun _ k => XS.ifYes X18.here hx rfl (pc0 := 76) (pc' := 83) rfl (hb hby d8_76) rfl ((if0 _ _).trans (feq hc25).2) (by decide) (by decide) k) ?_
            show Go _ _ _ _ _ _ _ _ (mkF m 83 #[.val (.ref a0), .val (.ref a1), .val (.int i2), .val (.int (3 : Int32)), .val (.int i4), .val (.int i5), .val (.int i6), .val (.int i7), .val (.int ((contribV i5 i2 (3 : Int32)) + (contribV i6 i2 (3 : Int32)))), .val (.double (FP.ddiv (FP.i2d ((contribV i5 i2 (3 : Int32)) + (contribV i6 i2 (3 : Int32)))) (FP.i2d i4))), .second] [])
            refine Go.on (fun _ k => XS.iconst X18.here hx rfl (hb hby d8_83) k) ?_
            show Go _ _ _ _ _ _ _ _ (mkF m 84 #[.val (.ref a0), .val (.ref a1), .val (.int i2), .val (.int (3 : Int32)), .val (.int i4), .val (.int i5), .val (.int i6), .val (.int i7), .val (.int ((contribV i5 i2 (3 : Int32)) + (contribV i6 i2 (3 : Int32)))), .val (.double (FP.ddiv (FP.i2d ((contribV i5 i2 (3 : Int32)) + (contribV i6 i2 (3 : Int32)))) (FP.i2d i4))), .second] [(.int (0 : Int32))])
            exact hJ24 _ (by rw [if_neg hc25])
        intro v23 hv23
        refine Go.retN X18 hx (t := .boolean) Bd.returns (by simp) (hb hby d8_84) ?_ (by rw [hK1]; decide) (by rw [hK2]; decide)
        rw [e18, ← hQQ]
        refine ⟨?_, N18, rfl⟩
        unfold compV compT; rw [if_neg hc3, if_pos hc19, if_pos hc21]; rw [hv23]; (repeat' split) <;> rfl
      · -- pc 67 no
        refine Go.on (fun _ k => XS.ifYes X18.here hx rfl (pc0 := 67) (pc' := 83) rfl (hb hby d8_67) rfl ((if0 _ _).trans (feq hc21).2) (by decide) (by decide) k) ?_
        show Go _ _ _ _ _ _ _ _ (mkF m 83 #[.val (.ref a0), .val (.ref a1), .val (.int i2), .val (.int (3 : Int32)), .val (.int i4), .val (.int i5), .val (.int i6), .val (.int i7), .val (.int ((contribV i5 i2 (3 : Int32)) + (contribV i6 i2 (3 : Int32)))), .val (.double (FP.ddiv (FP.i2d ((contribV i5 i2 (3 : Int32)) + (contribV i6 i2 (3 : Int32)))) (FP.i2d i4))), .second] [])
        refine Go.on (fun _ k => XS.iconst X18.here hx rfl (hb hby d8_83) k) ?_
        show Go _ _ _ _ _ _ _ _ (mkF m 84 #[.val (.ref a0), .val (.ref a1), .val (.int i2), .val (.int (3 : Int32)), .val (.int i4), .val (.int i5), .val (.int i6), .val (.int i7), .val (.int ((contribV i5 i2 (3 : Int32)) + (contribV i6 i2 (3 : Int32)))), .val (.double (FP.ddiv (FP.i2d ((contribV i5 i2 (3 : Int32)) + (contribV i6 i2 (3 : Int32)))) (FP.i2d i4))), .second] [(.int (0 : Int32))])
        refine Go.retN X18 hx (t := .boolean) Bd.returns (by simp) (hb hby d8_84) ?_ (by rw [hK1]; decide) (by rw [hK2]; decide)
        rw [e18, ← hQQ]
        refine ⟨?_, N18, rfl⟩
        unfold compV compT; rw [if_neg hc3, if_pos hc19, if_neg hc21]; rfl
    · -- pc 37 no
      refine Go.on (fun _ k => XS.icmpNo X18.here hx rfl (hb hby d8_37) rfl (flt hc19).1 k) ?_
      show Go _ _ _ _ _ _ _ _ (mkF m 40 #[.val (.ref a0), .val (.ref a1), .val (.int i2), .val (.int (3 : Int32)), .val (.int i4), .val (.int i5), .val (.int i6), .val (.int i7), .val (.int ((contribV i5 i2 (3 : Int32)) + (contribV i6 i2 (3 : Int32)))), .unset, .unset] [])
      refine Go.on (fun _ k => XS.iload X18.here hx rfl (hb hby d8_40) rfl k) ?_
      show Go _ _ _ _ _ _ _ _ (mkF m 42 #[.val (.ref a0), .val (.ref a1), .val (.int i2), .val (.int (3 : Int32)), .val (.int i4), .val (.int i5), .val (.int i6), .val (.int i7), .val (.int ((contribV i5 i2 (3 : Int32)) + (contribV i6 i2 (3 : Int32)))), .unset, .unset] [(.int ((contribV i5 i2 (3 : Int32)) + (contribV i6 i2 (3 : Int32))))])
      refine Go.on (fun _ k => XS.iload X18.here hx rfl (hb hby d8_42) rfl k) ?_
      show Go _ _ _ _ _ _ _ _ (mkF m 44 #[.val (.ref a0), .val (.ref a1), .val (.int i2), .val (.int (3 : Int32)), .val (.int i4), .val (.int i5), .val (.int i6), .val (.int i7), .val (.int ((contribV i5 i2 (3 : Int32)) + (contribV i6 i2 (3 : Int32)))), .unset, .unset] [(.int i7), (.int ((contribV i5 i2 (3 : Int32)) + (contribV i6 i2 (3 : Int32))))])
      refine Go.on (fun _ k => XS.iloadN X18.here hx rfl (hb hby d8_44) rfl k) ?_
      show Go _ _ _ _ _ _ _ _ (mkF m 45 #[.val (.ref a0), .val (.ref a1), .val (.int i2), .val (.int (3 : Int32)), .val (.int i4), .val (.int i5), .val (.int i6), .val (.int i7), .val (.int ((contribV i5 i2 (3 : Int32)) + (contribV i6 i2 (3 : Int32)))), .unset, .unset] [(.int i2), (.int i7), (.int ((contribV i5 i2 (3 : Int32)) + (contribV i6 i2 (3 : Int32))))])
      refine Go.on (fun _ k => XS.iloadN X18.here hx rfl (hb hby d8_45) rfl k) ?_
      show Go _ _ _ _ _ _ _ _ (mkF m 46 #[.val (.ref a0), .val (.ref a1), .val (.int i2), .val (.int (3 : Int32)), .val (.int i4), .val (.int i5), .val (.int i6), .val (.int i7), .val (.int ((contribV i5 i2 (3 : Int32)) + (contribV i6 i2 (3 : Int32)))), .unset, .unset] [(.int (3 : Int32)), (.int i2), (.int i7), (.int ((contribV i5 i2 (3 : Int32)) + (contribV i6 i2 (3 : Int32))))])
      obtain ⟨_, _, ⟨T26, L26, k26, n26⟩, -, X26, ⟨Lc26, hQ26, l26, y26, z26⟩, st26⟩ := Jvm.LawKit.callS X18 hx (y := (⟨"com/example/d2rank/d2rank/rerank/CentroidMeanPinLaw", "contrib", "(III)I"⟩ : MethodName)) hown (mvT hZ (hw _ (List.mem_of_getElem? (i := 38) rfl))) (mvT hZ (hw _ (List.mem_of_getElem? (i := 39) rfl))) (mvT hZ (hw _ (List.mem_of_getElem? (i := 14) rfl))) (mvT hZ (hw _ (List.mem_of_getElem? (i := 40) rfl))) (by decide) (backOf (W := 1) (rm9 l Z aw hw [] i7 i2 (3 : Int32)  h0 n0 ZZ (by decide)) hZ (hw _ (List.mem_of_getElem? (i := 40) rfl)) (hw _ (List.mem_of_getElem? (i := 14) rfl)) (by decide) (by decide)) (g := (mkF m 46 #[.val (.ref a0), .val (.ref a1), .val (.int i2), .val (.int (3 : Int32)), .val (.int i4), .val (.int i5), .val (.int i6), .val (.int i7), .val (.int ((contribV i5 i2 (3 : Int32)) + (contribV i6 i2 (3 : Int32)))), .unset, .unset] [(.int (3 : Int32)), (.int i2), (.int i7), (.int ((contribV i5 i2 (3 : Int32)) + (contribV i6 i2 (3 : Int32))))])) rfl (by rw [hml]; rfl) (argsL := [(.int i7), (.int i2), (.int (3 : Int32))]) (rest := [(.int ((contribV i5 i2 (3 : Int32)) + (contribV i6 i2 (3 : Int32))))]) (lenOf pd_2 rfl) rfl (by show 2 * 0 + _ ≤ _; exact Nat.le_of_eq rfl) (hb hby d8_46) (fun _ _ => ⟨rfl, e18, (by decide : 0 + 0 ≤ _), (by decide : 0 + 0 ≤ _)⟩)
      dsimp only [Pt.U, Pt.locs, Pt.cells, Pt.slots] at X26 l26 y26 z26 st26 hQ26
      subst l26 y26 z26
      obtain ⟨rfl, N26q, e26⟩ := hQ26
      have N26 := Fr.app N18 N26q
      refine Go.on st26 ?_
      show Go _ _ _ _ _ _ _ _ (mkF m 49 #[.val (.ref a0), .val (.ref a1), .val (.int i2), .val (.int (3 : Int32)), .val (.int i4), .val (.int i5), .val (.int i6), .val (.int i7), .val (.int ((contribV i5 i2 (3 : Int32)) + (contribV i6 i2 (3 : Int32)))), .unset, .unset] [(.int (contribV i7 i2 (3 : Int32))), (.int ((contribV i5 i2 (3 : Int32)) + (contribV i6 i2 (3 : Int32))))])
      refine Go.on (fun _ k => XS.iadd X26.here hx rfl (hb hby d8_49) rfl k) ?_
      show Go _ _ _ _ _ _ _ _ (mkF m 50 #[.val (.ref a0), .val (.ref a1), .val (.int i2), .val (.int (3 : Int32)), .val (.int i4), .val (.int i5), .val (.int i6), .val (.int i7), .val (.int ((contribV i5 i2 (3 : Int32)) + (contribV i6 i2 (3 : Int32)))), .unset, .unset] [(.int (((contribV i5 i2 (3 : Int32)) + (contribV i6 i2 (3 : Int32))) + (contribV i7 i2 (3 : Int32))))])
      refine Go.on (fun _ k => XS.istore X26.here hx rfl (hb hby d8_50) rfl (l' := #[.val (.ref a0), .val (.ref a1), .val (.int i2), .val (.int (3 : Int32)), .val (.int i4), .val (.int i5), .val (.int i6), .val (.int i7), .val (.int (((contribV i5 i2 (3 : Int32)) + (contribV i6 i2 (3 : Int32))) + (contribV i7 i2 (3 : Int32)))), .unset, .unset]) rfl k) ?_
      show Go _ _ _ _ _ _ _ _ (mkF m 52 #[.val (.ref a0), .val (.ref a1), .val (.int i2), .val (.int (3 : Int32)), .val (.int i4), .val (.int i5), .val (.int i6), .val (.int i7), .val (.int (((contribV i5 i2 (3 : Int32)) + (contribV i6 i2 (3 : Int32))) + (contribV i7 i2 (3 : Int32)))), .unset, .unset] [])
      refine Go.on (fun _ k => XS.iload X26.here hx rfl (hb hby d8_52) rfl k) ?_
      show Go _ _ _ _ _ _ _ _ (mkF m 54 #[.val (.ref a0), .val (.ref a1), .val (.int i2), .val (.int (3 : Int32)), .val (.int i4), .val (.int i5), .val (.int i6), .val (.int i7), .val (.int (((contribV i5 i2 (3 : Int32)) + (contribV i6 i2 (3 : Int32))) + (contribV i7 i2 (3 : Int32)))), .unset, .unset] [(.int (((contribV i5 i2 (3 : Int32)) + (contribV i6 i2 (3 : Int32))) + (contribV i7 i2 (3 : Int32))))])
      refine Go.on (fun _ k => XS.i2dS X26.here hx rfl (hb hby d8_54) rfl rfl k) ?_
      show Go _ _ _ _ _ _ _ _ (mkF m 55 #[.val (.ref a0), .val (.ref a1), .val (.int i2), .val (.int (3 : Int32)), .val (.int i4), .val (.int i5), .val (.int i6), .val (.int i7), .val (.int (((contribV i5 i2 (3 : Int32)) + (contribV i6 i2 (3 : Int32))) + (contribV i7 i2 (3 : Int32)))), .unset, .unset] [(.double (FP.i2d (((contribV i5 i2 (3 : Int32)) + (contribV i6 i2 (3 : Int32))) + (contribV i7 i2 (3 : Int32)))))])
      refine Go.on (fun _ k => XS.iload X26.here hx rfl (hb hby d8_55) rfl k) ?_
      show Go _ _ _ _ _ _ _ _ (mkF m 57 #[.val (.ref a0), .val (.ref a1), .val (.int i2), .val (.int (3 : Int32)), .val (.int i4), .val (.int i5), .val (.int i6), .val (.int i7), .val (.int (((contribV i5 i2 (3 : Int32)) + (contribV i6 i2 (3 : Int32))) + (contribV i7 i2 (3 : Int32)))), .unset, .unset] [(.int i4), (.double (FP.i2d (((contribV i5 i2 (3 : Int32)) + (contribV i6 i2 (3 : Int32))) + (contribV i7 i2 (3 : Int32)))))])
      refine Go.on (fun _ k => XS.i2dS X26.here hx rfl (hb hby d8_57) rfl rfl k) ?_
      show Go _ _ _ _ _ _ _ _ (mkF m 58 #[.val (.ref a0), .val (.ref a1), .val (.int i2), .val (.int (3 : Int32)), .val (.int i4), .val (.int i5), .val (.int i6), .val (.int i7), .val (.int (((contribV i5 i2 (3 : Int32)) + (contribV i6 i2 (3 : Int32))) + (contribV i7 i2 (3 : Int32)))), .unset, .unset] [(.double (FP.i2d i4)), (.double (FP.i2d (((contribV i5 i2 (3 : Int32)) + (contribV i6 i2 (3 : Int32))) + (contribV i7 i2 (3 : Int32)))))])
      refine Go.on (fun _ k => XS.ddivS X26.here hx rfl (hb hby d8_58) rfl (own_nnd' (Jvm.FP.Core.i2d_fin _) _ hn4) rfl k) ?_
      show Go _ _ _ _ _ _ _ _ (mkF m 59 #[.val (.ref a0), .val (.ref a1), .val (.int i2), .val (.int (3 : Int32)), .val (.int i4), .val (.int i5), .val (.int i6), .val (.int i7), .val (.int (((contribV i5 i2 (3 : Int32)) + (contribV i6 i2 (3 : Int32))) + (contribV i7 i2 (3 : Int32)))), .unset, .unset] [(.double (FP.ddiv (FP.i2d (((contribV i5 i2 (3 : Int32)) + (contribV i6 i2 (3 : Int32))) + (contribV i7 i2 (3 : Int32)))) (FP.i2d i4)))])
      refine Go.on (fun _ k => XS.dstore X26.here hx rfl (hb hby d8_59) rfl (l' := #[.val (.ref a0), .val (.ref a1), .val (.int i2), .val (.int (3 : Int32)), .val (.int i4), .val (.int i5), .val (.int i6), .val (.int i7), .val (.int (((contribV i5 i2 (3 : Int32)) + (contribV i6 i2 (3 : Int32))) + (contribV i7 i2 (3 : Int32)))), .val (.double (FP.ddiv (FP.i2d (((contribV i5 i2 (3 : Int32)) + (contribV i6 i2 (3 : Int32))) + (contribV i7 i2 (3 : Int32)))) (FP.i2d i4))), .second]) rfl k) ?_
      show Go _ _ _ _ _ _ _ _ (mkF m 61 #[.val (.ref a0), .val (.ref a1), .val (.int i2), .val (.int (3 : Int32)), .val (.int i4), .val (.int i5), .val (.int i6), .val (.int i7), .val (.int (((contribV i5 i2 (3 : Int32)) + (contribV i6 i2 (3 : Int32))) + (contribV i7 i2 (3 : Int32)))), .val (.double (FP.ddiv (FP.i2d (((contribV i5 i2 (3 : Int32)) + (contribV i6 i2 (3 : Int32))) + (contribV i7 i2 (3 : Int32)))) (FP.i2d i4))), .second] [])
      refine Go.on (fun _ k => XS.aloadN X26.here hx rfl (hb hby d8_61) rfl rfl k) ?_
      show Go _ _ _ _ _ _ _ _ (mkF m 62 #[.val (.ref a0), .val (.ref a1), .val (.int i2), .val (.int (3 : Int32)), .val (.int i4), .val (.int i5), .val (.int i6), .val (.int i7), .val (.int (((contribV i5 i2 (3 : Int32)) + (contribV i6 i2 (3 : Int32))) + (contribV i7 i2 (3 : Int32)))), .val (.double (FP.ddiv (FP.i2d (((contribV i5 i2 (3 : Int32)) + (contribV i6 i2 (3 : Int32))) + (contribV i7 i2 (3 : Int32)))) (FP.i2d i4))), .second] [(.ref a0)])
      refine Go.on (fun _ k => XS.iloadN X26.here hx rfl (hb hby d8_62) rfl k) ?_
      show Go _ _ _ _ _ _ _ _ (mkF m 63 #[.val (.ref a0), .val (.ref a1), .val (.int i2), .val (.int (3 : Int32)), .val (.int i4), .val (.int i5), .val (.int i6), .val (.int i7), .val (.int (((contribV i5 i2 (3 : Int32)) + (contribV i6 i2 (3 : Int32))) + (contribV i7 i2 (3 : Int32)))), .val (.double (FP.ddiv (FP.i2d (((contribV i5 i2 (3 : Int32)) + (contribV i6 i2 (3 : Int32))) + (contribV i7 i2 (3 : Int32)))) (FP.i2d i4))), .second] [(.int i2), (.ref a0)])
      obtain ⟨cl27, Ar27, -, S27, -, H27, -⟩ := id V_a0
      have hin27 : ¬ (i2 < 0 ∨ cl27.slots.size ≤ (i2).toNatClampNeg) := inb_of S27 (own_inb3 hp)
      refine Go.on (X26.daload hx (j := i2) (v := (.double (if i2 = (0 : Int32) then x0 else (if i2 = (1 : Int32) then x1 else x2)))) (by rw [e26]; exact Ar27.1) (State.isArrayOf_alike hZ.alike Ar27.2.1) Ar27.2.2 hin27 (H27.at hin27 (own_get3 hp _ _ _ _)) (g := (mkF m 63 #[.val (.ref a0), .val (.ref a1), .val (.int i2), .val (.int (3 : Int32)), .val (.int i4), .val (.int i5), .val (.int i6), .val (.int i7), .val (.int (((contribV i5 i2 (3 : Int32)) + (contribV i6 i2 (3 : Int32))) + (contribV i7 i2 (3 : Int32)))), .val (.double (FP.ddiv (FP.i2d (((contribV i5 i2 (3 : Int32)) + (contribV i6 i2 (3 : Int32))) + (contribV i7 i2 (3 : Int32)))) (FP.i2d i4))), .second] [(.int i2), (.ref a0)])) rfl rfl (hb hby d8_63)) ?_
      show Go _ _ _ _ _ _ _ _ (mkF m 64 #[.val (.ref a0), .val (.ref a1), .val (.int i2), .val (.int (3 : Int32)), .val (.int i4), .val (.int i5), .val (.int i6), .val (.int i7), .val (.int (((contribV i5 i2 (3 : Int32)) + (contribV i6 i2 (3 : Int32))) + (contribV i7 i2 (3 : Int32)))), .val (.double (FP.ddiv (FP.i2d (((contribV i5 i2 (3 : Int32)) + (contribV i6 i2 (3 : Int32))) + (contribV i7 i2 (3 : Int32)))) (FP.i2d i4))), .second] [(.double (if i2 = (0 : Int32) then x0 else (if i2 = (1 : Int32) then x1 else x2)))])
      refine Go.on (fun _ k => XS.dload X26.here hx rfl (hb hby d8_64) rfl k) ?_
      show Go _ _ _ _ _ _ _ _ (mkF m 66 #[.val (.ref a0), .val (.ref a1), .val (.int i2), .val (.int (3 : Int32)), .val (.int i4), .val (.int i5), .val (.int i6), .val (.int i7), .val (.int (((contribV i5 i2 (3 : Int32)) + (contribV i6 i2 (3 : Int32))) + (contribV i7 i2 (3 : Int32)))), .val (.double (FP.ddiv (FP.i2d (((contribV i5 i2 (3 : Int32)) + (contribV i6 i2 (3 : Int32))) + (contribV i7 i2 (3 : Int32)))) (FP.i2d i4))), .second] [(.double (FP.ddiv (FP.i2d (((contribV i5 i2 (3 : Int32)) + (contribV i6 i2 (3 : Int32))) + (contribV i7 i2 (3 : Int32)))) (FP.i2d i4))), (.double (if i2 = (0 : Int32) then x0 else (if i2 = (1 : Int32) then x1 else x2)))])
      refine Go.on (fun _ k => XS.dcmpS X26.here hx rfl (hb hby d8_66) rfl rfl k) ?_
      show Go _ _ _ _ _ _ _ _ (mkF m 67 #[.val (.ref a0), .val (.ref a1), .val (.int i2), .val (.int (3 : Int32)), .val (.int i4), .val (.int i5), .val (.int i6), .val (.int i7), .val (.int (((contribV i5 i2 (3 : Int32)) + (contribV i6 i2 (3 : Int32))) + (contribV i7 i2 (3 : Int32)))), .val (.double (FP.ddiv (FP.i2d (((contribV i5 i2 (3 : Int32)) + (contribV i6 i2 (3 : Int32))) + (contribV i7 i2 (3 : Int32)))) (FP.i2d i4))), .second] [(.int (cmpValue (FP.dcmp (if i2 = (0 : Int32) then x0 else (if i2 = (1 : Int32) then x1 else x2)) (FP.ddiv (FP.i2d (((contribV i5 i2 (3 : Int32)) + (contribV i6 i2 (3 : Int32))) + (contribV i7 i2 (3 : Int32)))) (FP.i2d i4))) .l))])
      by_cases hc28 : (cmpValue (FP.dcmp (if i2 = (0 : Int32) then x0 else (if i2 = (1 : Int32) then x1 else x2)) (FP.ddiv (FP.i2d (((contribV i5 i2 (3 : Int32)) + (contribV i6 i2 (3 : Int32))) + (contribV i7 i2 (3 : Int32)))) (FP.i2d i4))) .l) = (0 : Int32)
      · -- pc 67 yes
        refine Go.on (fun _ k => XS.ifNo X26.here hx rfl (hb hby d8_67) rfl ((if0 _ _).trans (teq hc28).2) k) ?_
        show Go _ _ _ _ _ _ _ _ (mkF m 70 #[.val (.ref a0), .val (.ref a1), .val (.int i2), .val (.int (3 : Int32)), .val (.int i4), .val (.int i5), .val (.int i6), .val (.int i7), .val (.int (((contribV i5 i2 (3 : Int32)) + (contribV i6 i2 (3 : Int32))) + (contribV i7 i2 (3 : Int32)))), .val (.double (FP.ddiv (FP.i2d (((contribV i5 i2 (3 : Int32)) + (contribV i6 i2 (3 : Int32))) + (contribV i7 i2 (3 : Int32)))) (FP.i2d i4))), .second] [])
        refine Go.on (fun _ k => XS.aloadN X26.here hx rfl (hb hby d8_70) rfl rfl k) ?_
        show Go _ _ _ _ _ _ _ _ (mkF m 71 #[.val (.ref a0), .val (.ref a1), .val (.int i2), .val (.int (3 : Int32)), .val (.int i4), .val (.int i5), .val (.int i6), .val (.int i7), .val (.int (((contribV i5 i2 (3 : Int32)) + (contribV i6 i2 (3 : Int32))) + (contribV i7 i2 (3 : Int32)))), .val (.double (FP.ddiv (FP.i2d (((contribV i5 i2 (3 : Int32)) + (contribV i6 i2 (3 : Int32))) + (contribV i7 i2 (3 : Int32)))) (FP.i2d i4))), .second] [(.ref a1)])
        refine Go.on (fun _ k => XS.iloadN X26.here hx rfl (hb hby d8_71) rfl k) ?_
        show Go _ _ _ _ _ _ _ _ (mkF m 72 #[.val (.ref a0), .val (.ref a1), .val (.int i2), .val (.int (3 : Int32)), .val (.int i4), .val (.int i5), .val (.int i6), .val (.int i7), .val (.int (((contribV i5 i2 (3 : Int32)) + (contribV i6 i2 (3 : Int32))) + (contribV i7 i2 (3 : Int32)))), .val (.double (FP.ddiv (FP.i2d (((contribV i5 i2 (3 : Int32)) + (contribV i6 i2 (3 : Int32))) + (contribV i7 i2 (3 : Int32)))) (FP.i2d i4))), .second] [(.int i2), (.ref a1)])
        obtain ⟨cl29, Ar29, -, S29, -, H29, -⟩ := id V_a1
        have hin29 : ¬ (i2 < 0 ∨ cl29.slots.size ≤ (i2).toNatClampNeg) := inb_of S29 (own_inb3 hp)
        refine Go.on (X26.daload hx (j := i2) (v := (.double (if i2 = (0 : Int32) then y0 else (if i2 = (1 : Int32) then y1 else y2)))) (by rw [e26]; exact Ar29.1) (State.isArrayOf_alike hZ.alike Ar29.2.1) Ar29.2.2 hin29 (H29.at hin29 (own_get3 hp _ _ _ _)) (g := (mkF m 72 #[.val (.ref a0), .val (.ref a1), .val (.int i2), .val (.int (3 : Int32)), .val (.int i4), .val (.int i5), .val (.int i6), .val (.int i7), .val (.int (((contribV i5 i2 (3 : Int32)) + (contribV i6 i2 (3 : Int32))) + (contribV i7 i2 (3 : Int32)))), .val (.double (FP.ddiv (FP.i2d (((contribV i5 i2 (3 : Int32)) + (contribV i6 i2 (3 : Int32))) + (contribV i7 i2 (3 : Int32)))) (FP.i2d i4))), .second] [(.int i2), (.ref a1)])) rfl rfl (hb hby d8_72)) ?_
        show Go _ _ _ _ _ _ _ _ (mkF m 73 #[.val (.ref a0), .val (.ref a1), .val (.int i2), .val (.int (3 : Int32)), .val (.int i4), .val (.int i5), .val (.int i6), .val (.int i7), .val (.int (((contribV i5 i2 (3 : Int32)) + (contribV i6 i2 (3 : Int32))) + (contribV i7 i2 (3 : Int32)))), .val (.double (FP.ddiv (FP.i2d (((contribV i5 i2 (3 : Int32)) + (contribV i6 i2 (3 : Int32))) + (contribV i7 i2 (3 : Int32)))) (FP.i2d i4))), .second] [(.double (if i2 = (0 : Int32) then y0 else (if i2 = (1 : Int32) then y1 else y2)))])
        refine Go.on (fun _ k => XS.dload X26.here hx rfl (hb hby d8_73) rfl k) ?_
        show Go _ _ _ _ _ _ _ _ (mkF m 75 #[.val (.ref a0), .val (.ref a1), .val (.int i2), .val (.int (3 : Int32)), .val (.int i4), .val (.int i5), .val (.int i6), .val (.int i7), .val (.int (((contribV i5 i2 (3 : Int32)) + (contribV i6 i2 (3 : Int32))) + (contribV i7 i2 (3 : Int32)))), .val (.double (FP.ddiv (FP.i2d (((contribV i5 i2 (3 : Int32)) + (contribV i6 i2 (3 : Int32))) + (contribV i7 i2 (3 : Int32)))) (FP.i2d i4))), .second] [(.double (FP.ddiv (FP.i2d (((contribV i5 i2 (3 : Int32)) + (contribV i6 i2 (3 : Int32))) + (contribV i7 i2 (3 : Int32)))) (FP.i2d i4))), (.double (if i2 = (0 : Int32) then y0 else (if i2 = (1 : Int32) then y1 else y2)))])
        refine Go.on (fun _ k => XS.dcmpS X26.here hx rfl (hb hby d8_75) rfl rfl k) ?_
        show Go _ _ _ _ _ _ _ _ (mkF m 76 #[.val (.ref a0), .val (.ref a1), .val (.int i2), .val (.int (3 : Int32)), .val (.int i4), .val (.int i5), .val (.int i6), .val (.int i7), .val (.int (((contribV i5 i2 (3 : Int32)) + (contribV i6 i2 (3 : Int32))) + (contribV i7 i2 (3 : Int32)))), .val (.double (FP.ddiv (FP.i2d (((contribV i5 i2 (3 : Int32)) + (contribV i6 i2 (3 : Int32))) + (contribV i7 i2 (3 : Int32)))) (FP.i2d i4))), .second] [(.int (cmpValue (FP.dcmp (if i2 = (0 : Int32) then y0 else (if i2 = (1 : Int32) then y1 else y2)) (FP.ddiv (FP.i2d (((contribV i5 i2 (3 : Int32)) + (contribV i6 i2 (3 : Int32))) + (contribV i7 i2 (3 : Int32)))) (FP.i2d i4))) .l))])
        suffices hJ31 : ∀ (v30 : Int32), v30 = (if (cmpValue (FP.dcmp (if i2 = (0 : Int32) then y0 else (if i2 = (1 : Int32) then y1 else y2)) (FP.ddiv (FP.i2d (((contribV i5 i2 (3 : Int32)) + (contribV i6 i2 (3 : Int32))) + (contribV i7 i2 (3 : Int32)))) (FP.i2d i4))) .l) = (0 : Int32) then (1 : Int32) else (0 : Int32)) → Go p e below s K1 K2 QQ T26 (mkF m 84 #[.val (.ref a0), .val (.ref a1), .val (.int i2), .val (.int (3 : Int32)), .val (.int i4), .val (.int i5), .val (.int i6), .val (.int i7), .val (.int (((contribV i5 i2 (3 : Int32)) + (contribV i6 i2 (3 : Int32))) + (contribV i7 i2 (3 : Int32)))), .val (.double (FP.ddiv (FP.i2d (((contribV i5 i2 (3 : Int32)) + (contribV i6 i2 (3 : Int32))) + (contribV i7 i2 (3 : Int32)))) (FP.i2d i4))), .second] [(.int v30)]) by
          by_cases hc32 : (cmpValue (FP.dcmp (if i2 = (0 : Int32) then y0 else (if i2 = (1 : Int32) then y1 else y2)) (FP.ddiv (FP.i2d (((contribV i5 i2 (3 : Int32)) + (contribV i6 i2 (3 : Int32))) + (contribV i7 i2 (3 : Int32)))) (FP.i2d i4))) .l) = (0 : Int32)
          · -- pc 76 yes
            refine Go.on (fun _ k => XS.ifNo X26.here hx rfl (hb hby d8_76) rfl ((if0 _ _).trans (teq hc32).2) k) ?_
            show Go _ _ _ _ _ _ _ _ (mkF m 79 #[.val (.ref a0), .val (.ref a1), .val (.int i2), .val (.int (3 : Int32)), .val (.int i4), .val (.int i5), .val (.int i6), .val (.int i7), .val (.int (((contribV i5 i2 (3 : Int32)) + (contribV i6 i2 (3 : Int32))) + (contribV i7 i2 (3 : Int32)))), .val (.double (FP.ddiv (FP.i2d (((contribV i5 i2 (3 : Int32)) + (contribV i6 i2 (3 : Int32))) + (contribV i7 i2 (3 : Int32)))) (FP.i2d i4))), .second] [])
            refine Go.on (fun _ k => XS.iconst X26.here hx rfl (hb hby d8_79) k) ?_
            show Go _ _ _ _ _ _ _ _ (mkF m 80 #[.val (.ref a0), .val (.ref a1), .val (.int i2), .val (.int (3 : Int32)), .val (.int i4), .val (.int i5), .val (.int i6), .val (.int i7), .val (.int (((contribV i5 i2 (3 : Int32)) + (contribV i6 i2 (3 : Int32))) + (contribV i7 i2 (3 : Int32)))), .val (.double (FP.ddiv (FP.i2d (((contribV i5 i2 (3 : Int32)) + (contribV i6 i2 (3 : Int32))) + (contribV i7 i2 (3 : Int32)))) (FP.i2d i4))), .second] [(.int (1 : Int32))])
            refine Go.on (fun _ k => XS.goto X26.here hx rfl (pc0 := 80) (pc' := 84) rfl (hb hby d8_80) (by decide) (by decide) k) ?_
            show Go _ _ _ _ _ _ _ _ (mkF m 84 #[.val (.ref a0), .val (.ref a1), .val (.int i2), .val (.int (3 : Int32)), .val (.int i4), .val (.int i5), .val (.int i6), .val (.int i7), .val (.int (((contribV i5 i2 (3 : Int32)) + (contribV i6 i2 (3 : Int32))) + (contribV i7 i2 (3 : Int32)))), .val (.double (FP.ddiv (FP.i2d (((contribV i5 i2 (3 : Int32)) + (contribV i6 i2 (3 : Int32))) + (contribV i7 i2 (3 : Int32)))) (FP.i2d i4))), .second] [(.int (1 : Int32))])
            exact hJ31 _ (by rw [if_pos hc32])
          · -- pc 76 no
            refine Go.on (fun _ k => XS.ifYes X26.here hx rfl (pc0 := 76) (pc' := 83) rfl (hb hby d8_76) rfl ((if0 _ _).trans (feq hc32).2) (by decide) (by decide) k) ?_
            show Go _ _ _ _ _ _ _ _ (mkF m 83 #[.val (.ref a0), .val (.ref a1), .val (.int i2), .val (.int (3 : Int32)), .val (.int i4), .val (.int i5), .val (.int i6), .val (.int i7), .val (.int (((contribV i5 i2 (3 : Int32)) + (contribV i6 i2 (3 : Int32))) + (contribV i7 i2 (3 : Int32)))), .val (.double (FP.ddiv (FP.i2d (((contribV i5 i2 (3 : Int32)) + (contribV i6 i2 (3 : Int32))) + (contribV i7 i2 (3 : Int32)))) (FP.i2d i4))), .second] [])
            refine Go.on (fun _ k => XS.iconst X26.here hx rfl (hb hby d8_83) k) ?_
            show Go _ _ _ _ _ _ _ _ (mkF m 84 #[.val (.ref a0), .val (.ref a1), .val (.int i2), .val (.int (3 : Int32)), .val (.int i4), .val (.int i5), .val (.int i6), .val (.int i7), .val (.int (((contribV i5 i2 (3 : Int32)) + (contribV i6 i2 (3 : Int32))) + (contribV i7 i2 (3 : Int32)))), .val (.double (FP.ddiv (FP.i2d (((contribV i5 i2 (3 : Int32)) + (contribV i6 i2 (3 : Int32))) + (contribV i7 i2 (3 : Int32)))) (FP.i2d i4))), .second] [(.int (0 : Int32))])
            exact hJ31 _ (by rw [if_neg hc32])
        intro v30 hv30
        refine Go.retN X26 hx (t := .boolean) Bd.returns (by simp) (hb hby d8_84) ?_ (by rw [hK1]; decide) (by rw [hK2]; decide)
        rw [e26, ← hQQ]
        refine ⟨?_, N26, rfl⟩
        unfold compV compT; rw [if_neg hc3, if_neg hc19, if_pos hc28]; rw [hv30]; (repeat' split) <;> rfl
      · -- pc 67 no
        refine Go.on (fun _ k => XS.ifYes X26.here hx rfl (pc0 := 67) (pc' := 83) rfl (hb hby d8_67) rfl ((if0 _ _).trans (feq hc28).2) (by decide) (by decide) k) ?_
        show Go _ _ _ _ _ _ _ _ (mkF m 83 #[.val (.ref a0), .val (.ref a1), .val (.int i2), .val (.int (3 : Int32)), .val (.int i4), .val (.int i5), .val (.int i6), .val (.int i7), .val (.int (((contribV i5 i2 (3 : Int32)) + (contribV i6 i2 (3 : Int32))) + (contribV i7 i2 (3 : Int32)))), .val (.double (FP.ddiv (FP.i2d (((contribV i5 i2 (3 : Int32)) + (contribV i6 i2 (3 : Int32))) + (contribV i7 i2 (3 : Int32)))) (FP.i2d i4))), .second] [])
        refine Go.on (fun _ k => XS.iconst X26.here hx rfl (hb hby d8_83) k) ?_
        show Go _ _ _ _ _ _ _ _ (mkF m 84 #[.val (.ref a0), .val (.ref a1), .val (.int i2), .val (.int (3 : Int32)), .val (.int i4), .val (.int i5), .val (.int i6), .val (.int i7), .val (.int (((contribV i5 i2 (3 : Int32)) + (contribV i6 i2 (3 : Int32))) + (contribV i7 i2 (3 : Int32)))), .val (.double (FP.ddiv (FP.i2d (((contribV i5 i2 (3 : Int32)) + (contribV i6 i2 (3 : Int32))) + (contribV i7 i2 (3 : Int32)))) (FP.i2d i4))), .second] [(.int (0 : Int32))])
        refine Go.retN X26 hx (t := .boolean) Bd.returns (by simp) (hb hby d8_84) ?_ (by rw [hK1]; decide) (by rw [hK2]; decide)
        rw [e26, ← hQQ]
        refine ⟨?_, N26, rfl⟩
        unfold compV compT; rw [if_neg hc3, if_neg hc19, if_neg hc28]; rfl
theorem ef_un_4 (m : MethodId) (i0 : Int32) : entryFrame m #[(.int i0), (.int (4 : Int32))] 3 = mkF m 0 #[.val (.int i0), .val (.int (4 : Int32)), .unset] [] := by first | (simp [entryFrame, mkF, argsToLocals, Value.category]; done) | rfl
def Q_un_4 (Z : State) (i0 : Int32) (h0 : Heap) (n0 : Nat) (v : Option Value) (h : Heap) (L : List Loc) : Prop := ∃ (ar : Addr) (k_ar : ClassId), v = some (.ref ar) ∧ Fr n0 L ∧ Keep h0 h [] ∧ h0.size ≤ ar ∧ Arv Z h ar k_ar .double (4 : Int32) [(.double (if (indexV i0 (4 : Int32)) = (0 : Int32) then (FP.i2d (signV i0)) else (0 : UInt64))), (.double (if (indexV i0 (4 : Int32)) = (1 : Int32) then (FP.i2d (signV i0)) else (0 : UInt64))), (.double (if (indexV i0 (4 : Int32)) = (2 : Int32) then (FP.i2d (signV i0)) else (0 : UInt64))), (.double (if (indexV i0 (4 : Int32)) = (3 : Int32) then (FP.i2d (signV i0)) else (0 : UInt64)))] (.double (0 : UInt64))
set_option maxRecDepth 65536 in
set_option maxHeartbeats 40000000 in
theorem un_4 (l : Launch) (Z : State) (aw : Array Value) (hw : ∀ d ∈ tables_1, d.before aw Z = true) (ws : List Jvm.Cond) (i0 : Int32) (h0 : Heap) (n0 : Nat) (Z0 : n0 ≤ h0.size) :
    MetFree l (⟨"com/example/d2rank/d2rank/rerank/CentroidMeanPinLaw", "unit", "(II)[D"⟩ : MethodName) (head1 (Jvm.Cond.code (⟨"com/example/d2rank/d2rank/rerank/CentroidMeanPinLaw", "unit", "(II)[D"⟩ : MethodName) method_5_code 3 (some (.array .double)) :: ws) ({ frames := 1, cells := 1, slots := 4, locals := 14 } : Room)) (fun a U => a = #[(.int i0), (.int (4 : Int32))] ∧ Z.Warmed39 U.vm ∧ U.heap = h0) (fun _ _ _ _ _ => True) (fun _ U o U' => ∃ v L, o = .returned v ∧ Q_un_4 Z i0 h0 n0 v U'.heap L ∧ FrameEnd U o U' L ({ frames := 1, cells := 1, slots := 4, locals := 14 } : Room).cells ({ frames := 1, cells := 1, slots := 4, locals := 14 } : Room).slots) := by
  refine MetFree.of_bodySF (plainFor_of_name pn_0) hisR ?_
  intro p e s m args below meth c s₁ Bd hml0 hP hK
  obtain ⟨rfl, hZ, hh⟩ := hP
  have hx := Bd.exec
  have hby := Bd.bytes
  have hml : c.maxLocals = 3 := hml0
  have hown : s.vm.findClass "com/example/d2rank/d2rank/rerank/CentroidMeanPinLaw" = some m.cls := findClass_of_methodNamed Bd.named
  have hnm := (name_of_methodNamed Bd.named Bd.method).1
  have hlk : meth.locks = false := BodyLoose.notSynchronized Bd
  have X0 : Stand p l e ({ frames := 1, cells := 1, slots := 4, locals := 14 } : Room) s m #[(.int i0), (.int (4 : Int32))] below meth c s₁ [] 0 0 := Stand.of_body Bd
  have e0 : s₁.heap = h0 := by rw [← hh, Bd.state]; rfl
  have N0 := Fr.nil n0
  have ZZ := Z0
  show Go p e below s ({ frames := 1, cells := 1, slots := 4, locals := 14 } : Room).cells ({ frames := 1, cells := 1, slots := 4, locals := 14 } : Room).slots (fun v h L => Q_un_4 Z i0 h0 n0 v h L) s₁ (entryFrame m #[(.int i0), (.int (4 : Int32))] 3)
  refine Go.cast (ef_un_4 m i0) ?_
  refine Go.gen ?_
  intro K1 K2 QQ hK1 hK2 hQQ
  have KP : Keep h0 h0 [] := Keep.refl _ _
  refine Go.on (fun _ k => XS.iloadN X0.here hx rfl (hb hby d3_0) rfl k) ?_
  show Go _ _ _ _ _ _ _ _ (mkF m 1 #[.val (.int i0), .val (.int (4 : Int32)), .unset] [(.int (4 : Int32))])
  obtain ⟨T1, h1, k_ar, X1, e1, E1, A1, st1⟩ := newP X0 hx hZ (hw _ (List.mem_of_getElem? (i := 9) rfl)) e0 (g := (mkF m 1 #[.val (.int i0), .val (.int (4 : Int32)), .unset] [(.int (4 : Int32))])) rfl (hb hby d3_1) rfl (by decide) (cap := 4) (by decide) (by decide) (by decide) (by decide)
  obtain ⟨ar, g1⟩ : ∃ z, z = h0.size := ⟨_, rfl⟩
  have g_ar : n0 ≤ ar := Nat.le_trans ZZ (Nat.le_of_eq g1.symm)
  have sz_ar : h0.size ≤ ar := Nat.le_trans KP.1 (Nat.le_of_eq g1.symm)
  rw [← g1] at A1 st1
  replace ZZ := Nat.le_trans ZZ E1.1
  replace KP := KP.ext E1
  have V_ar : Arv Z h1 ar k_ar .double (4 : Int32) [(.double (0 : UInt64)), (.double (0 : UInt64)), (.double (0 : UInt64)), (.double (0 : UInt64))] (.double (0 : UInt64)) := (Arv.new A1 (by decide)).pad (pad_rep [] (.double (0 : UInt64)) 4)
  refine Go.on st1 ?_
  show Go _ _ _ _ _ _ _ _ (mkF m 3 #[.val (.int i0), .val (.int (4 : Int32)), .unset] [(.ref ar)])
  refine Go.on (fun _ k => XS.astoreN X1.here hx rfl (hb hby d3_3) rfl rfl (l' := #[.val (.int i0), .val (.int (4 : Int32)), .val (.ref ar)]) rfl k) ?_
  show Go _ _ _ _ _ _ _ _ (mkF m 4 #[.val (.int i0), .val (.int (4 : Int32)), .val (.ref ar)] [])
  refine Go.on (fun _ k => XS.aloadN X1.here hx rfl (hb hby d3_4) rfl rfl k) ?_
  show Go _ _ _ _ _ _ _ _ (mkF m 5 #[.val (.int i0), .val (.int (4 : Int32)), .val (.ref ar)] [(.ref ar)])
  refine Go.on (fun _ k => XS.iloadN X1.here hx rfl (hb hby d3_5) rfl k) ?_
  show Go _ _ _ _ _ _ _ _ (mkF m 6 #[.val (.int i0), .val (.int (4 : Int32)), .val (.ref ar)] [(.int i0), (.ref ar)])
  refine Go.on (fun _ k => XS.iloadN X1.here hx rfl (hb hby d3_6) rfl k) ?_
  show Go _ _ _ _ _ _ _ _ (mkF m 7 #[.val (.int i0), .val (.int (4 : Int32)), .val (.ref ar)] [(.int (4 : Int32)), (.int i0), (.ref ar)])
  obtain ⟨_, _, ⟨T2, L2, k2, n2⟩, -, X2, ⟨Lc2, hQ2, l2, y2, z2⟩, st2⟩ := Jvm.LawKit.callS X1 hx (y := (⟨"com/example/d2rank/d2rank/rerank/CentroidMeanPinLaw", "index", "(II)I"⟩ : MethodName)) hown (mvT hZ (hw _ (List.mem_of_getElem? (i := 16) rfl))) (mvT hZ (hw _ (List.mem_of_getElem? (i := 17) rfl))) (mvT hZ (hw _ (List.mem_of_getElem? (i := 14) rfl))) (mvT hZ (hw _ (List.mem_of_getElem? (i := 18) rfl))) (by decide) (backOf (W := 1) (rm4 l Z aw hw [] i0 (4 : Int32)  h1 n0 ZZ (by decide)) hZ (hw _ (List.mem_of_getElem? (i := 18) rfl)) (hw _ (List.mem_of_getElem? (i := 14) rfl)) (by decide) (by decide)) (g := (mkF m 7 #[.val (.int i0), .val (.int (4 : Int32)), .val (.ref ar)] [(.int (4 : Int32)), (.int i0), (.ref ar)])) rfl (by rw [hml]; rfl) (argsL := [(.int i0), (.int (4 : Int32))]) (rest := [(.ref ar)]) (lenOf pd_0 rfl) rfl (by show 2 * 0 + _ ≤ _; exact Nat.le_of_eq rfl) (hb hby d3_7) (fun _ _ => ⟨rfl, e1, (by decide : 1 + 0 ≤ _), (by decide : 4 + 0 ≤ _)⟩)
  dsimp only [Pt.U, Pt.locs, Pt.cells, Pt.slots] at X2 l2 y2 z2 st2 hQ2
  subst l2 y2 z2
  obtain ⟨rfl, N2q, e2⟩ := hQ2
  have N2 := Fr.app N0 N2q
  refine Go.on st2 ?_
  show Go _ _ _ _ _ _ _ _ (mkF m 10 #[.val (.int i0), .val (.int (4 : Int32)), .val (.ref ar)] [(.int (indexV i0 (4 : Int32))), (.ref ar)])
  refine Go.on (fun _ k => XS.iloadN X2.here hx rfl (hb hby d3_10) rfl k) ?_
  show Go _ _ _ _ _ _ _ _ (mkF m 11 #[.val (.int i0), .val (.int (4 : Int32)), .val (.ref ar)] [(.int i0), (.int (indexV i0 (4 : Int32))), (.ref ar)])
  obtain ⟨_, _, ⟨T3, L3, k3, n3⟩, -, X3, ⟨Lc3, hQ3, l3, y3, z3⟩, st3⟩ := Jvm.LawKit.callS X2 hx (y := (⟨"com/example/d2rank/d2rank/rerank/CentroidMeanPinLaw", "sign", "(I)I"⟩ : MethodName)) hown (mvT hZ (hw _ (List.mem_of_getElem? (i := 20) rfl))) (mvT hZ (hw _ (List.mem_of_getElem? (i := 21) rfl))) (mvT hZ (hw _ (List.mem_of_getElem? (i := 14) rfl))) (mvT hZ (hw _ (List.mem_of_getElem? (i := 22) rfl))) (by decide) (backOf (W := 2) (rm5 l Z aw hw [] i0  h1 n0 ZZ ) hZ (hw _ (List.mem_of_getElem? (i := 22) rfl)) (hw _ (List.mem_of_getElem? (i := 14) rfl)) (by decide) (by decide)) (g := (mkF m 11 #[.val (.int i0), .val (.int (4 : Int32)), .val (.ref ar)] [(.int i0), (.int (indexV i0 (4 : Int32))), (.ref ar)])) rfl (by rw [hml]; rfl) (argsL := [(.int i0)]) (rest := [(.int (indexV i0 (4 : Int32))), (.ref ar)]) (lenOf pd_1 rfl) rfl (by show 2 * 0 + _ ≤ _; exact Nat.le_of_eq rfl) (hb hby d3_11) (fun _ _ => ⟨rfl, e2, (by decide : 1 + 0 ≤ _), (by decide : 4 + 0 ≤ _)⟩)
  dsimp only [Pt.U, Pt.locs, Pt.cells, Pt.slots] at X3 l3 y3 z3 st3 hQ3
  subst l3 y3 z3
  obtain ⟨rfl, N3q, e3⟩ := hQ3
  have N3 := Fr.app N2 N3q
  refine Go.on st3 ?_
  show Go _ _ _ _ _ _ _ _ (mkF m 14 #[.val (.int i0), .val (.int (4 : Int32)), .val (.ref ar)] [(.int (signV i0)), (.int (indexV i0 (4 : Int32))), (.ref ar)])
  refine Go.on (fun _ k => XS.i2dS X3.here hx rfl (hb hby d3_14) rfl rfl k) ?_
  show Go _ _ _ _ _ _ _ _ (mkF m 15 #[.val (.int i0), .val (.int (4 : Int32)), .val (.ref ar)] [(.double (FP.i2d (signV i0))), (.int (indexV i0 (4 : Int32))), (.ref ar)])
  obtain ⟨cl4, Ar4, q4, S4, N4n, H4, G4⟩ := id V_ar
  have hin4 : ¬ ((indexV i0 (4 : Int32)) < 0 ∨ cl4.slots.size ≤ ((indexV i0 (4 : Int32))).toNatClampNeg) := inb_of S4 (own_inb4 (own_ix4 _))
  obtain ⟨T4, h4, X4, e4, W4, st4⟩ := stD X3 hx hZ e3 Ar4 (j := (indexV i0 (4 : Int32))) hin4 (g := (mkF m 15 #[.val (.int i0), .val (.int (4 : Int32)), .val (.ref ar)] [(.double (FP.i2d (signV i0))), (.int (indexV i0 (4 : Int32))), (.ref ar)])) rfl rfl (hb hby d3_15)
  replace V_ar := Arv.set Ar4 q4 S4 N4n H4 G4 rfl W4 _ rfl (own_lt4 (own_ix4 _) _ _ _ _)
  refine Go.on st4 ?_
  have N4 := Fr.snoc X4 N3 g_ar
  replace ZZ := Nat.le_trans ZZ (Keep.of_wr W4).1
  replace KP := KP.wr W4 (Or.inr sz_ar)
  rw [own_set4 (own_ix4 _)] at V_ar
  show Go _ _ _ _ _ _ _ _ (mkF m 16 #[.val (.int i0), .val (.int (4 : Int32)), .val (.ref ar)] [])
  refine Go.on (fun _ k => XS.aloadN X4.here hx rfl (hb hby d3_16) rfl rfl k) ?_
  show Go _ _ _ _ _ _ _ _ (mkF m 17 #[.val (.int i0), .val (.int (4 : Int32)), .val (.ref ar)] [(.ref ar)])
  refine Go.retV X4 hx Bd.returns rfl (Or.inr (Or.inr (Or.inr (Or.inr ⟨rfl, rfl, rfl⟩)))) (hb hby d3_17) ?_ (by rw [hK1]; decide) (by rw [hK2]; decide)
  rw [e4, ← hQQ]
  exact ⟨ar, k_ar, rfl, N4, KP, sz_ar, V_ar⟩
theorem ef_ci_4 (m : MethodId) (a0 : Addr) : entryFrame m #[(.ref a0), (.int (4 : Int32))] 2 = mkF m 0 #[.val (.ref a0), .val (.int (4 : Int32))] [] := by first | (simp [entryFrame, mkF, argsToLocals, Value.category]; done) | rfl
def Q_ci_4 (Z : State) (a0 : Addr) (u0 : Value) (h0 : Heap) (n0 : Nat) (v : Option Value) (h : Heap) (L : List Loc) : Prop := v = none ∧ Fr n0 L ∧ ∃ (ar : Addr) (k_ar : ClassId), Keep h0 h [a0] ∧ h0.size ≤ ar ∧ Exa Z h a0 "com/example/d2rank/d2rank/rerank/Centroid" ∧ Fld Z h a0 "com/example/d2rank/d2rank/rerank/Centroid" "sum" "[D" (.ref ar) ∧ Fld Z h a0 "com/example/d2rank/d2rank/rerank/Centroid" "count" "I" (.int (0 : Int32)) ∧ Arv Z h ar k_ar .double (4 : Int32) [(.double (0 : UInt64)), (.double (0 : UInt64)), (.double (0 : UInt64)), (.double (0 : UInt64))] (.double (0 : UInt64))
set_option maxRecDepth 65536 in
set_option maxHeartbeats 40000000 in
theorem ci_4 (l : Launch) (Z : State) (aw : Array Value) (hw : ∀ d ∈ tables_1, d.before aw Z = true) (ws : List Jvm.Cond) (a0 : Addr) (u0 : Value) (h0 : Heap) (n0 : Nat) (Z0 : n0 ≤ h0.size) (E_a0 : Exa Z h0 a0 "com/example/d2rank/d2rank/rerank/Centroid") (F_sum_a0 : Fld Z h0 a0 "com/example/d2rank/d2rank/rerank/Centroid" "sum" "[D" u0) (F_count_a0 : Fld Z h0 a0 "com/example/d2rank/d2rank/rerank/Centroid" "count" "I" (.int (0 : Int32))) (g_a0 : n0 ≤ a0) :
    MetFree l (⟨"com/example/d2rank/d2rank/rerank/Centroid", "<init>", "(I)V"⟩ : MethodName) (head1 (Jvm.Cond.code (⟨"com/example/d2rank/d2rank/rerank/Centroid", "<init>", "(I)V"⟩ : MethodName) prog_44_method_1_code 2 none :: ws) ({ frames := 1, cells := 1, slots := 4, locals := 12 } : Room)) (fun a U => a = #[(.ref a0), (.int (4 : Int32))] ∧ Z.Warmed39 U.vm ∧ U.heap = h0) (fun _ _ _ _ _ => True) (fun _ U o U' => ∃ v L, o = .returned v ∧ Q_ci_4 Z a0 u0 h0 n0 v U'.heap L ∧ FrameEnd U o U' L ({ frames := 1, cells := 1, slots := 4, locals := 12 } : Room).cells ({ frames := 1, cells := 1, slots := 4, locals := 12 } : Room).slots) := by
  refine MetFree.of_bodySF (plainFor_of_name pn_1) hisR ?_
  intro p e s m args below meth c s₁ Bd hml0 hP hK
  obtain ⟨rfl, hZ, hh⟩ := hP
  have hx := Bd.exec
  have hby := Bd.bytes
  have hml : c.maxLocals = 2 := hml0
  have hown : s.vm.findClass "com/example/d2rank/d2rank/rerank/Centroid" = some m.cls := findClass_of_methodNamed Bd.named
  have hnm := (name_of_methodNamed Bd.named Bd.method).1
  have hlk : meth.locks = false := BodyLoose.notSynchronized Bd
  have X0 : Stand p l e ({ frames := 1, cells := 1, slots := 4, locals := 12 } : Room) s m #[(.ref a0), (.int (4 : Int32))] below meth c s₁ [] 0 0 := Stand.of_body Bd
  have e0 : s₁.heap = h0 := by rw [← hh, Bd.state]; rfl
  have N0 := Fr.nil n0
  have ZZ := Z0
  show Go p e below s ({ frames := 1, cells := 1, slots := 4, locals := 12 } : Room).cells ({ frames := 1, cells := 1, slots := 4, locals := 12 } : Room).slots (fun v h L => Q_ci_4 Z a0 u0 h0 n0 v h L) s₁ (entryFrame m #[(.ref a0), (.int (4 : Int32))] 2)
  refine Go.cast (ef_ci_4 m a0) ?_
  refine Go.gen ?_
  intro K1 K2 QQ hK1 hK2 hQQ
  have KP : Keep h0 h0 [a0] := Keep.refl _ _
  refine Go.on (fun _ k => XS.aloadN X0.here hx rfl (hb hby d1_0) rfl rfl k) ?_
  show Go _ _ _ _ _ _ _ _ (mkF m 1 #[.val (.ref a0), .val (.int (4 : Int32))] [(.ref a0)])
  obtain ⟨T1, X1, e1, st1⟩ := initO X0 hx hZ hown (hw _ (List.mem_of_getElem? (i := 6) rfl)) (hw _ (List.mem_of_getElem? (i := 7) rfl)) (hw _ (List.mem_of_getElem? (i := 8) rfl)) e0 (g := (mkF m 1 #[.val (.ref a0), .val (.int (4 : Int32))] [(.ref a0)])) rfl (by rw [hml]; rfl) rfl (hb hby d1_1) (by decide) (W := 0) (by show 2 * 0 + _ ≤ _; exact Nat.le_of_eq rfl) (by decide)
  refine Go.on st1 ?_
  show Go _ _ _ _ _ _ _ _ (mkF m 4 #[.val (.ref a0), .val (.int (4 : Int32))] [])
  refine Go.on (fun _ k => XS.aloadN X1.here hx rfl (hb hby d1_4) rfl rfl k) ?_
  show Go _ _ _ _ _ _ _ _ (mkF m 5 #[.val (.ref a0), .val (.int (4 : Int32))] [(.ref a0)])
  refine Go.on (fun _ k => XS.iloadN X1.here hx rfl (hb hby d1_5) rfl k) ?_
  show Go _ _ _ _ _ _ _ _ (mkF m 6 #[.val (.ref a0), .val (.int (4 : Int32))] [(.int (4 : Int32)), (.ref a0)])
  obtain ⟨T2, h2, k_ar, X2, e2, E2, A2, st2⟩ := newP X1 hx hZ (hw _ (List.mem_of_getElem? (i := 9) rfl)) e1 (g := (mkF m 6 #[.val (.ref a0), .val (.int (4 : Int32))] [(.int (4 : Int32)), (.ref a0)])) rfl (hb hby d1_6) rfl (by decide) (cap := 4) (by decide) (by decide) (by decide) (by decide)
  obtain ⟨ar, g2⟩ : ∃ z, z = h0.size := ⟨_, rfl⟩
  have ne_a0_ar : a0 ≠ ar := Nat.ne_of_lt (Nat.lt_of_lt_of_le E_a0.lt (Nat.le_of_eq g2.symm))
  have g_ar : n0 ≤ ar := Nat.le_trans ZZ (Nat.le_of_eq g2.symm)
  have sz_ar : h0.size ≤ ar := Nat.le_trans KP.1 (Nat.le_of_eq g2.symm)
  rw [← g2] at A2 st2
  replace E_a0 := E_a0.ext E2
  replace F_sum_a0 := F_sum_a0.ext E2
  replace F_count_a0 := F_count_a0.ext E2
  replace ZZ := Nat.le_trans ZZ E2.1
  replace KP := KP.ext E2
  have V_ar : Arv Z h2 ar k_ar .double (4 : Int32) [(.double (0 : UInt64)), (.double (0 : UInt64)), (.double (0 : UInt64)), (.double (0 : UInt64))] (.double (0 : UInt64)) := (Arv.new A2 (by decide)).pad (pad_rep [] (.double (0 : UInt64)) 4)
  refine Go.on st2 ?_
  show Go _ _ _ _ _ _ _ _ (mkF m 8 #[.val (.ref a0), .val (.int (4 : Int32))] [(.ref ar), (.ref a0)])
  obtain ⟨T3, h3, X3, e3, W3, st3⟩ := putF X2 hx hZ hown (host := "") (Or.inl (hw _ (List.mem_of_getElem? (i := 10) rfl))) Via.refl e2 F_sum_a0 E_a0 (Or.inr ⟨(hw _ (List.mem_of_getElem? (i := 11) rfl)), rfl, hnm⟩) (hw _ (List.mem_of_getElem? (i := 1) rfl)) (ty := (.array .double)) (by decide) rfl rfl (g := (mkF m 8 #[.val (.ref a0), .val (.int (4 : Int32))] [(.ref ar), (.ref a0)])) rfl rfl (hb hby d1_8)
  refine Go.on st3 ?_
  replace F_sum_a0 := F_sum_a0.same W3
  replace E_a0 := E_a0.wr W3
  replace F_count_a0 := F_count_a0.other W3 (Or.inr (slot_ne (Or.inl (hw _ (List.mem_of_getElem? (i := 29) rfl))) (Or.inr (hw _ (List.mem_of_getElem? (i := 11) rfl))) (by decide) (t := .int) (t' := (.array .double)) (by decide) (by decide)))
  replace V_ar := V_ar.other W3 (Ne.symm ne_a0_ar)
  have N3 := Fr.snoc X3 N0 g_a0
  replace ZZ := Nat.le_trans ZZ (Keep.of_wr W3).1
  replace KP := KP.wr W3 (Or.inl (List.mem_of_getElem? (i := 0) rfl))
  show Go _ _ _ _ _ _ _ _ (mkF m 11 #[.val (.ref a0), .val (.int (4 : Int32))] [])
  refine Go.ret0 X3 hx Bd.returns (hb hby d1_11) ?_ (by rw [hK1]; decide) (by rw [hK2]; decide)
  rw [e3, ← hQQ]
  exact ⟨rfl, N3, ar, k_ar, KP, sz_ar, E_a0, F_sum_a0, F_count_a0, V_ar⟩
theorem ef_ca_4 (m : MethodId) (a0 : Addr) (a1 : Addr) : entryFrame m #[(.ref a0), (.ref a1)] 3 = mkF m 0 #[.val (.ref a0), .val (.ref a1), .unset] [] := by first | (simp [entryFrame, mkF, argsToLocals, Value.category]; done) | rfl
def Q_ca_4 (Z : State) (a0 : Addr) (a1 : Addr) (as : Addr) (ct : Int32) (k_as : ClassId) (x0 : UInt64) (x1 : UInt64) (x2 : UInt64) (x3 : UInt64) (k_a1 : ClassId) (y0 : UInt64) (y1 : UInt64) (y2 : UInt64) (y3 : UInt64) (h0 : Heap) (n0 : Nat) (v : Option Value) (h : Heap) (L : List Loc) : Prop := v = none ∧ Fr n0 L ∧ Keep h0 h [a0, as] ∧ Exa Z h a0 "com/example/d2rank/d2rank/rerank/Centroid" ∧ Fld Z h a0 "com/example/d2rank/d2rank/rerank/Centroid" "sum" "[D" (.ref as) ∧ Fld Z h a0 "com/example/d2rank/d2rank/rerank/Centroid" "count" "I" (.int (ct + (1 : Int32))) ∧ Arv Z h as k_as .double (4 : Int32) [(.double (FP.dadd x0 y0)), (.double (FP.dadd x1 y1)), (.double (FP.dadd x2 y2)), (.double (FP.dadd x3 y3))] (.double (0 : UInt64))
set_option maxRecDepth 65536 in
set_option maxHeartbeats 40000000 in
theorem ca_4 (l : Launch) (Z : State) (aw : Array Value) (hw : ∀ d ∈ tables_1, d.before aw Z = true) (ws : List Jvm.Cond) (a0 : Addr) (a1 : Addr) (as : Addr) (ct : Int32) (k_as : ClassId) (x0 : UInt64) (x1 : UInt64) (x2 : UInt64) (x3 : UInt64) (k_a1 : ClassId) (y0 : UInt64) (y1 : UInt64) (y2 : UInt64) (y3 : UInt64) (h0 : Heap) (n0 : Nat) (Z0 : n0 ≤ h0.size) (E_a0 : Exa Z h0 a0 "com/example/d2rank/d2rank/rerank/Centroid") (F_sum_a0 : Fld Z h0 a0 "com/example/d2rank/d2rank/rerank/Centroid" "sum" "[D" (.ref as)) (F_count_a0 : Fld Z h0 a0 "com/example/d2rank/d2rank/rerank/Centroid" "count" "I" (.int ct)) (V_as : Arv Z h0 as k_as .double (4 : Int32) [(.double x0), (.double x1), (.double x2), (.double x3)] (.double (0 : UInt64))) (V_a1 : Arv Z h0 a1 k_a1 .double (4 : Int32) [(.double y0), (.double y1), (.double y2), (.double y3)] (.double (0 : UInt64))) (g_a0 : n0 ≤ a0) (g_as : n0 ≤ as) (ne_a0_as : a0 ≠ as) (ne_a1_as : a1 ≠ as) (ne_a1_a0 : a1 ≠ a0) (hs0 : Jvm.Free.Fl.NoNaN64 (FP.dadd x0 y0)) (hs1 : Jvm.Free.Fl.NoNaN64 (FP.dadd x1 y1)) (hs2 : Jvm.Free.Fl.NoNaN64 (FP.dadd x2 y2)) (hs3 : Jvm.Free.Fl.NoNaN64 (FP.dadd x3 y3)) :
    MetFree l (⟨"com/example/d2rank/d2rank/rerank/Centroid", "add", "([D)V"⟩ : MethodName) (head1 (Jvm.Cond.code (⟨"com/example/d2rank/d2rank/rerank/Centroid", "add", "([D)V"⟩ : MethodName) prog_44_method_2_code 3 none :: ws) ({ frames := 0, cells := 0, slots := 0, locals := 0 } : Room)) (fun a U => a = #[(.ref a0), (.ref a1)] ∧ Z.Warmed39 U.vm ∧ U.heap = h0) (fun _ _ _ _ _ => True) (fun _ U o U' => ∃ v L, o = .returned v ∧ Q_ca_4 Z a0 a1 as ct k_as x0 x1 x2 x3 k_a1 y0 y1 y2 y3 h0 n0 v U'.heap L ∧ FrameEnd U o U' L ({ frames := 0, cells := 0, slots := 0, locals := 0 } : Room).cells ({ frames := 0, cells := 0, slots := 0, locals := 0 } : Room).slots) := by
  refine MetFree.of_bodySF (plainFor_of_name pn_1) hisR ?_
  intro p e s m args below meth c s₁ Bd hml0 hP hK
  obtain ⟨rfl, hZ, hh⟩ := hP
  have hx := Bd.exec
  have hby := Bd.bytes
  have hml : c.maxLocals = 3 := hml0
  have hown : s.vm.findClass "com/example/d2rank/d2rank/rerank/Centroid" = some m.cls := findClass_of_methodNamed Bd.named
  have hnm := (name_of_methodNamed Bd.named Bd.method).1
  have hlk : meth.locks = false := BodyLoose.notSynchronized Bd
  have X0 : Stand p l e ({ frames := 0, cells := 0, slots := 0, locals := 0 } : Room) s m #[(.ref a0), (.ref a1)] below meth c s₁ [] 0 0 := Stand.of_body Bd
  have e0 : s₁.heap = h0 := by rw [← hh, Bd.state]; rfl
  have N0 := Fr.nil n0
  have ZZ := Z0
  show Go p e below s ({ frames := 0, cells := 0, slots := 0, locals := 0 } : Room).cells ({ frames := 0, cells := 0, slots := 0, locals := 0 } : Room).slots (fun v h L => Q_ca_4 Z a0 a1 as ct k_as x0 x1 x2 x3 k_a1 y0 y1 y2 y3 h0 n0 v h L) s₁ (entryFrame m #[(.ref a0), (.ref a1)] 3)
  refine Go.cast (ef_ca_4 m a0 a1) ?_
  refine Go.gen ?_
  intro K1 K2 QQ hK1 hK2 hQQ
  have KP : Keep h0 h0 [a0, as] := Keep.refl _ _
  refine Go.on (fun _ k => XS.iconst X0.here hx rfl (hb hby d6_0) k) ?_
  show Go _ _ _ _ _ _ _ _ (mkF m 1 #[.val (.ref a0), .val (.ref a1), .unset] [(.int (0 : Int32))])
  refine Go.on (fun _ k => XS.istoreN X0.here hx rfl (hb hby d6_1) rfl (l' := #[.val (.ref a0), .val (.ref a1), .val (.int (0 : Int32))]) rfl k) ?_
  show Go _ _ _ _ _ _ _ _ (mkF m 2 #[.val (.ref a0), .val (.ref a1), .val (.int (0 : Int32))] [])
  refine Go.on (fun _ k => XS.iloadN X0.here hx rfl (hb hby d6_2) rfl k) ?_
  show Go _ _ _ _ _ _ _ _ (mkF m 3 #[.val (.ref a0), .val (.ref a1), .val (.int (0 : Int32))] [(.int (0 : Int32))])
  refine Go.on (fun _ k => XS.aloadN X0.here hx rfl (hb hby d6_3) rfl rfl k) ?_
  show Go _ _ _ _ _ _ _ _ (mkF m 4 #[.val (.ref a0), .val (.ref a1), .val (.int (0 : Int32))] [(.ref a0), (.int (0 : Int32))])
  obtain ⟨T1, X1, e1, st1⟩ := getF X0 hx hZ hown (host := "") (Or.inl (hw _ (List.mem_of_getElem? (i := 10) rfl))) Via.refl e0 F_sum_a0 (g := (mkF m 4 #[.val (.ref a0), .val (.ref a1), .val (.int (0 : Int32))] [(.ref a0), (.int (0 : Int32))])) rfl rfl (hb hby d6_4)
  refine Go.on st1 ?_
  show Go _ _ _ _ _ _ _ _ (mkF m 7 #[.val (.ref a0), .val (.ref a1), .val (.int (0 : Int32))] [(.ref as), (.int (0 : Int32))])
  obtain ⟨cl2, Ar2, -, S2, N2n, -, -⟩ := id V_as
  refine Go.on (X1.arraylength hx (by rw [e1]; exact Ar2.1) (State.isArrayOf_alike hZ.alike Ar2.2.1) (g := (mkF m 7 #[.val (.ref a0), .val (.ref a1), .val (.int (0 : Int32))] [(.ref as), (.int (0 : Int32))])) rfl rfl (hb hby d6_7)) ?_
  rw [len_of S2 N2n]
  show Go _ _ _ _ _ _ _ _ (mkF m 8 #[.val (.ref a0), .val (.ref a1), .val (.int (0 : Int32))] [(.int (4 : Int32)), (.int (0 : Int32))])
  have hc3 : (0 : Int32) < (4 : Int32) := by decide
  refine Go.on (fun _ k => XS.icmpNo X1.here hx rfl (hb hby d6_8) rfl (tlt hc3).2.1 k) ?_
  show Go _ _ _ _ _ _ _ _ (mkF m 11 #[.val (.ref a0), .val (.ref a1), .val (.int (0 : Int32))] [])
  refine Go.on (fun _ k => XS.aloadN X1.here hx rfl (hb hby d6_11) rfl rfl k) ?_
  show Go _ _ _ _ _ _ _ _ (mkF m 12 #[.val (.ref a0), .val (.ref a1), .val (.int (0 : Int32))] [(.ref a0)])
  obtain ⟨T4, X4, e4, st4⟩ := getF X1 hx hZ hown (host := "") (Or.inl (hw _ (List.mem_of_getElem? (i := 10) rfl))) Via.refl e1 F_sum_a0 (g := (mkF m 12 #[.val (.ref a0), .val (.ref a1), .val (.int (0 : Int32))] [(.ref a0)])) rfl rfl (hb hby d6_12)
  refine Go.on st4 ?_
  show Go _ _ _ _ _ _ _ _ (mkF m 15 #[.val (.ref a0), .val (.ref a1), .val (.int (0 : Int32))] [(.ref as)])
  refine Go.on (fun _ k => XS.iloadN X4.here hx rfl (hb hby d6_15) rfl k) ?_
  show Go _ _ _ _ _ _ _ _ (mkF m 16 #[.val (.ref a0), .val (.ref a1), .val (.int (0 : Int32))] [(.int (0 : Int32)), (.ref as)])
  refine Go.on (fun _ k => Jvm.Free.XT.dup2 X4.here hx rfl (hb hby d6_16) rfl rfl rfl k) ?_
  show Go _ _ _ _ _ _ _ _ (mkF m 17 #[.val (.ref a0), .val (.ref a1), .val (.int (0 : Int32))] [(.int (0 : Int32)), (.ref as), (.int (0 : Int32)), (.ref as)])
  obtain ⟨cl5, Ar5, -, S5, -, H5, -⟩ := id V_as
  have hin5 : ¬ ((0 : Int32) < 0 ∨ cl5.slots.size ≤ ((0 : Int32)).toNatClampNeg) := inb_of S5 ⟨by decide, by decide⟩
  refine Go.on (X4.daload hx (j := (0 : Int32)) (v := (.double x0)) (by rw [e4]; exact Ar5.1) (State.isArrayOf_alike hZ.alike Ar5.2.1) Ar5.2.2 hin5 (H5.at hin5 (rfl)) (g := (mkF m 17 #[.val (.ref a0), .val (.ref a1), .val (.int (0 : Int32))] [(.int (0 : Int32)), (.ref as), (.int (0 : Int32)), (.ref as)])) rfl rfl (hb hby d6_17)) ?_
  show Go _ _ _ _ _ _ _ _ (mkF m 18 #[.val (.ref a0), .val (.ref a1), .val (.int (0 : Int32))] [(.double x0), (.int (0 : Int32)), (.ref as)])
  refine Go.on (fun _ k => XS.aloadN X4.here hx rfl (hb hby d6_18) rfl rfl k) ?_
  show Go _ _ _ _ _ _ _ _ (mkF m 19 #[.val (.ref a0), .val (.ref a1), .val (.int (0 : Int32))] [(.ref a1), (.double x0), (.int (0 : Int32)), (.ref as)])
  refine Go.on (fun _ k => XS.iloadN X4.here hx rfl (hb hby d6_19) rfl k) ?_
  show Go _ _ _ _ _ _ _ _ (mkF m 20 #[.val (.ref a0), .val (.ref a1), .val (.int (0 : Int32))] [(.int (0 : Int32)), (.ref a1), (.double x0), (.int (0 : Int32)), (.ref as)])
  obtain ⟨cl6, Ar6, -, S6, -, H6, -⟩ := id V_a1
  have hin6 : ¬ ((0 : Int32) < 0 ∨ cl6.slots.size ≤ ((0 : Int32)).toNatClampNeg) := inb_of S6 ⟨by decide, by decide⟩
  refine Go.on (X4.daload hx (j := (0 : Int32)) (v := (.double y0)) (by rw [e4]; exact Ar6.1) (State.isArrayOf_alike hZ.alike Ar6.2.1) Ar6.2.2 hin6 (H6.at hin6 (rfl)) (g := (mkF m 20 #[.val (.ref a0), .val (.ref a1), .val (.int (0 : Int32))] [(.int (0 : Int32)), (.ref a1), (.double x0), (.int (0 : Int32)), (.ref as)])) rfl rfl (hb hby d6_20)) ?_
  show Go _ _ _ _ _ _ _ _ (mkF m 21 #[.val (.ref a0), .val (.ref a1), .val (.int (0 : Int32))] [(.double y0), (.double x0), (.int (0 : Int32)), (.ref as)])
  refine Go.on (fun _ k => XS.daddS X4.here hx rfl (hb hby d6_21) rfl (hs0) rfl k) ?_
  show Go _ _ _ _ _ _ _ _ (mkF m 22 #[.val (.ref a0), .val (.ref a1), .val (.int (0 : Int32))] [(.double (FP.dadd x0 y0)), (.int (0 : Int32)), (.ref as)])
  obtain ⟨cl7, Ar7, q7, S7, N7n, H7, G7⟩ := id V_as
  have hin7 : ¬ ((0 : Int32) < 0 ∨ cl7.slots.size ≤ ((0 : Int32)).toNatClampNeg) := inb_of S7 ⟨by decide, by decide⟩
  obtain ⟨T7, h7, X7, e7, W7, st7⟩ := stD X4 hx hZ e4 Ar7 (j := (0 : Int32)) hin7 (g := (mkF m 22 #[.val (.ref a0), .val (.ref a1), .val (.int (0 : Int32))] [(.double (FP.dadd x0 y0)), (.int (0 : Int32)), (.ref as)])) rfl rfl (hb hby d6_22)
  replace V_as := Arv.set Ar7 q7 S7 N7n H7 G7 rfl W7 0 rfl (Nat.le_of_ble_eq_true rfl)
  replace E_a0 := E_a0.wr W7
  replace F_sum_a0 := F_sum_a0.other W7 (Or.inl ne_a0_as)
  replace F_count_a0 := F_count_a0.other W7 (Or.inl ne_a0_as)
  replace V_a1 := V_a1.other W7 ne_a1_as
  refine Go.on st7 ?_
  have N7 := Fr.snoc X7 N0 g_as
  replace ZZ := Nat.le_trans ZZ (Keep.of_wr W7).1
  replace KP := KP.wr W7 (Or.inl (List.mem_of_getElem? (i := 1) rfl))
  change Arv Z h7 as k_as .double (4 : Int32) [(.double (FP.dadd x0 y0)), (.double x1), (.double x2), (.double x3)] (.double (0 : UInt64)) at V_as
  show Go _ _ _ _ _ _ _ _ (mkF m 23 #[.val (.ref a0), .val (.ref a1), .val (.int (0 : Int32))] [])
  refine Go.on (fun _ k => XS.iinc X7.here hx rfl (hb hby d6_23) rfl (l' := #[.val (.ref a0), .val (.ref a1), .val (.int (1 : Int32))]) rfl k) ?_
  show Go _ _ _ _ _ _ _ _ (mkF m 26 #[.val (.ref a0), .val (.ref a1), .val (.int (1 : Int32))] [])
  refine Go.on (fun _ k => XS.goto X7.here hx rfl (pc0 := 26) (pc' := 2) rfl (hb hby d6_26) (by decide) (by decide) k) ?_
  show Go _ _ _ _ _ _ _ _ (mkF m 2 #[.val (.ref a0), .val (.ref a1), .val (.int (1 : Int32))] [])
  refine Go.on (fun _ k => XS.iloadN X7.here hx rfl (hb hby d6_2) rfl k) ?_
  show Go _ _ _ _ _ _ _ _ (mkF m 3 #[.val (.ref a0), .val (.ref a1), .val (.int (1 : Int32))] [(.int (1 : Int32))])
  refine Go.on (fun _ k => XS.aloadN X7.here hx rfl (hb hby d6_3) rfl rfl k) ?_
  show Go _ _ _ _ _ _ _ _ (mkF m 4 #[.val (.ref a0), .val (.ref a1), .val (.int (1 : Int32))] [(.ref a0), (.int (1 : Int32))])
  obtain ⟨T8, X8, e8, st8⟩ := getF X7 hx hZ hown (host := "") (Or.inl (hw _ (List.mem_of_getElem? (i := 10) rfl))) Via.refl e7 F_sum_a0 (g := (mkF m 4 #[.val (.ref a0), .val (.ref a1), .val (.int (1 : Int32))] [(.ref a0), (.int (1 : Int32))])) rfl rfl (hb hby d6_4)
  refine Go.on st8 ?_
  show Go _ _ _ _ _ _ _ _ (mkF m 7 #[.val (.ref a0), .val (.ref a1), .val (.int (1 : Int32))] [(.ref as), (.int (1 : Int32))])
  obtain ⟨cl9, Ar9, -, S9, N9n, -, -⟩ := id V_as
  refine Go.on (X8.arraylength hx (by rw [e8]; exact Ar9.1) (State.isArrayOf_alike hZ.alike Ar9.2.1) (g := (mkF m 7 #[.val (.ref a0), .val (.ref a1), .val (.int (1 : Int32))] [(.ref as), (.int (1 : Int32))])) rfl rfl (hb hby d6_7)) ?_
  rw [len_of S9 N9n]
  show Go _ _ _ _ _ _ _ _ (mkF m 8 #[.val (.ref a0), .val (.ref a1), .val (.int (1 : Int32))] [(.int (4 : Int32)), (.int (1 : Int32))])
  have hc10 : (1 : Int32) < (4 : Int32) := by decide
  refine Go.on (fun _ k => XS.icmpNo X8.here hx rfl (hb hby d6_8) rfl (tlt hc10).2.1 k) ?_
  show Go _ _ _ _ _ _ _ _ (mkF m 11 #[.val (.ref a0), .val (.ref a1), .val (.int (1 : Int32))] [])
  refine Go.on (fun _ k => XS.aloadN X8.here hx rfl (hb hby d6_11) rfl rfl k) ?_
  show Go _ _ _ _ _ _ _ _ (mkF m 12 #[.val (.ref a0), .val (.ref a1), .val (.int (1 : Int32))] [(.ref a0)])
  obtain ⟨T11, X11, e11, st11⟩ := getF X8 hx hZ hown (host := "") (Or.inl (hw _ (List.mem_of_getElem? (i := 10) rfl))) Via.refl e8 F_sum_a0 (g := (mkF m 12 #[.val (.ref a0), .val (.ref a1), .val (.int (1 : Int32))] [(.ref a0)])) rfl rfl (hb hby d6_12)
  refine Go.on st11 ?_
  show Go _ _ _ _ _ _ _ _ (mkF m 15 #[.val (.ref a0), .val (.ref a1), .val (.int (1 : Int32))] [(.ref as)])
  refine Go.on (fun _ k => XS.iloadN X11.here hx rfl (hb hby d6_15) rfl k) ?_
  show Go _ _ _ _ _ _ _ _ (mkF m 16 #[.val (.ref a0), .val (.ref a1), .val (.int (1 : Int32))] [(.int (1 : Int32)), (.ref as)])
  refine Go.on (fun _ k => Jvm.Free.XT.dup2 X11.here hx rfl (hb hby d6_16) rfl rfl rfl k) ?_
  show Go _ _ _ _ _ _ _ _ (mkF m 17 #[.val (.ref a0), .val (.ref a1), .val (.int (1 : Int32))] [(.int (1 : Int32)), (.ref as), (.int (1 : Int32)), (.ref as)])
  obtain ⟨cl12, Ar12, -, S12, -, H12, -⟩ := id V_as
  have hin12 : ¬ ((1 : Int32) < 0 ∨ cl12.slots.size ≤ ((1 : Int32)).toNatClampNeg) := inb_of S12 ⟨by decide, by decide⟩
  refine Go.on (X11.daload hx (j := (1 : Int32)) (v := (.double x1)) (by rw [e11]; exact Ar12.1) (State.isArrayOf_alike hZ.alike Ar12.2.1) Ar12.2.2 hin12 (H12.at hin12 (rfl)) (g := (mkF m 17 #[.val (.ref a0), .val (.ref a1), .val (.int (1 : Int32))] [(.int (1 : Int32)), (.ref as), (.int (1 : Int32)), (.ref as)])) rfl rfl (hb hby d6_17)) ?_
  show Go _ _ _ _ _ _ _ _ (mkF m 18 #[.val (.ref a0), .val (.ref a1), .val (.int (1 : Int32))] [(.double x1), (.int (1 : Int32)), (.ref as)])
  refine Go.on (fun _ k => XS.aloadN X11.here hx rfl (hb hby d6_18) rfl rfl k) ?_
  show Go _ _ _ _ _ _ _ _ (mkF m 19 #[.val (.ref a0), .val (.ref a1), .val (.int (1 : Int32))] [(.ref a1), (.double x1), (.int (1 : Int32)), (.ref as)])
  refine Go.on (fun _ k => XS.iloadN X11.here hx rfl (hb hby d6_19) rfl k) ?_
  show Go _ _ _ _ _ _ _ _ (mkF m 20 #[.val (.ref a0), .val (.ref a1), .val (.int (1 : Int32))] [(.int (1 : Int32)), (.ref a1), (.double x1), (.int (1 : Int32)), (.ref as)])
  obtain ⟨cl13, Ar13, -, S13, -, H13, -⟩ := id V_a1
  have hin13 : ¬ ((1 : Int32) < 0 ∨ cl13.slots.size ≤ ((1 : Int32)).toNatClampNeg) := inb_of S13 ⟨by decide, by decide⟩
  refine Go.on (X11.daload hx (j := (1 : Int32)) (v := (.double y1)) (by rw [e11]; exact Ar13.1) (State.isArrayOf_alike hZ.alike Ar13.2.1) Ar13.2.2 hin13 (H13.at hin13 (rfl)) (g := (mkF m 20 #[.val (.ref a0), .val (.ref a1), .val (.int (1 : Int32))] [(.int (1 : Int32)), (.ref a1), (.double x1), (.int (1 : Int32)), (.ref as)])) rfl rfl (hb hby d6_20)) ?_
  show Go _ _ _ _ _ _ _ _ (mkF m 21 #[.val (.ref a0), .val (.ref a1), .val (.int (1 : Int32))] [(.double y1), (.double x1), (.int (1 : Int32)), (.ref as)])
  refine Go.on (fun _ k => XS.daddS X11.here hx rfl (hb hby d6_21) rfl (hs1) rfl k) ?_
  show Go _ _ _ _ _ _ _ _ (mkF m 22 #[.val (.ref a0), .val (.ref a1), .val (.int (1 : Int32))] [(.double (FP.dadd x1 y1)), (.int (1 : Int32)), (.ref as)])
  obtain ⟨cl14, Ar14, q14, S14, N14n, H14, G14⟩ := id V_as
  have hin14 : ¬ ((1 : Int32) < 0 ∨ cl14.slots.size ≤ ((1 : Int32)).toNatClampNeg) := inb_of S14 ⟨by decide, by decide⟩
  obtain ⟨T14, h14, X14, e14, W14, st14⟩ := stD X11 hx hZ e11 Ar14 (j := (1 : Int32)) hin14 (g := (mkF m 22 #[.val (.ref a0), .val (.ref a1), .val (.int (1 : Int32))] [(.double (FP.dadd x1 y1)), (.int (1 : Int32)), (.ref as)])) rfl rfl (hb hby d6_22)
  replace V_as := Arv.set Ar14 q14 S14 N14n H14 G14 rfl W14 1 rfl (Nat.le_of_ble_eq_true rfl)
  replace E_a0 := E_a0.wr W14
  replace F_sum_a0 := F_sum_a0.other W14 (Or.inl ne_a0_as)
  replace F_count_a0 := F_count_a0.other W14 (Or.inl ne_a0_as)
  replace V_a1 := V_a1.other W14 ne_a1_as
  refine Go.on st14 ?_
  have N14 := Fr.snoc X14 N7 g_as
  replace ZZ := Nat.le_trans ZZ (Keep.of_wr W14).1
  replace KP := KP.wr W14 (Or.inl (List.mem_of_getElem? (i := 1) rfl))
  change Arv Z h14 as k_as .double (4 : Int32) [(.double (FP.dadd x0 y0)), (.double (FP.dadd x1 y1)), (.double x2), (.double x3)] (.double (0 : UInt64)) at V_as
  show Go _ _ _ _ _ _ _ _ (mkF m 23 #[.val (.ref a0), .val (.ref a1), .val (.int (1 : Int32))] [])
  refine Go.on (fun _ k => XS.iinc X14.here hx rfl (hb hby d6_23) rfl (l' := #[.val (.ref a0), .val (.ref a1), .val (.int (2 : Int32))]) rfl k) ?_
  show Go _ _ _ _ _ _ _ _ (mkF m 26 #[.val (.ref a0), .val (.ref a1), .val (.int (2 : Int32))] [])
  refine Go.on (fun _ k => XS.goto X14.here hx rfl (pc0 := 26) (pc' := 2) rfl (hb hby d6_26) (by decide) (by decide) k) ?_
  show Go _ _ _ _ _ _ _ _ (mkF m 2 #[.val (.ref a0), .val (.ref a1), .val (.int (2 : Int32))] [])
  refine Go.on (fun _ k => XS.iloadN X14.here hx rfl (hb hby d6_2) rfl k) ?_
  show Go _ _ _ _ _ _ _ _ (mkF m 3 #[.val (.ref a0), .val (.ref a1), .val (.int (2 : Int32))] [(.int (2 : Int32))])
  refine Go.on (fun _ k => XS.aloadN X14.here hx rfl (hb hby d6_3) rfl rfl k) ?_
  show Go _ _ _ _ _ _ _ _ (mkF m 4 #[.val (.ref a0), .val (.ref a1), .val (.int (2 : Int32))] [(.ref a0), (.int (2 : Int32))])
  obtain ⟨T15, X15, e15, st15⟩ := getF X14 hx hZ hown (host := "") (Or.inl (hw _ (List.mem_of_getElem? (i := 10) rfl))) Via.refl e14 F_sum_a0 (g := (mkF m 4 #[.val (.ref a0), .val (.ref a1), .val (.int (2 : Int32))] [(.ref a0), (.int (2 : Int32))])) rfl rfl (hb hby d6_4)
  refine Go.on st15 ?_
  show Go _ _ _ _ _ _ _ _ (mkF m 7 #[.val (.ref a0), .val (.ref a1), .val (.int (2 : Int32))] [(.ref as), (.int (2 : Int32))])
  obtain ⟨cl16, Ar16, -, S16, N16n, -, -⟩ := id V_as
  refine Go.on (X15.arraylength hx (by rw [e15]; exact Ar16.1) (State.isArrayOf_alike hZ.alike Ar16.2.1) (g := (mkF m 7 #[.val (.ref a0), .val (.ref a1), .val (.int (2 : Int32))] [(.ref as), (.int (2 : Int32))])) rfl rfl (hb hby d6_7)) ?_
  rw [len_of S16 N16n]
  show Go _ _ _ _ _ _ _ _ (mkF m 8 #[.val (.ref a0), .val (.ref a1), .val (.int (2 : Int32))] [(.int (4 : Int32)), (.int (2 : Int32))])
  have hc17 : (2 : Int32) < (4 : Int32) := by decide
  refine Go.on (fun _ k => XS.icmpNo X15.here hx rfl (hb hby d6_8) rfl (tlt hc17).2.1 k) ?_
  show Go _ _ _ _ _ _ _ _ (mkF m 11 #[.val (.ref a0), .val (.ref a1), .val (.int (2 : Int32))] [])
  refine Go.on (fun _ k => XS.aloadN X15.here hx rfl (hb hby d6_11) rfl rfl k) ?_
  show Go _ _ _ _ _ _ _ _ (mkF m 12 #[.val (.ref a0), .val (.ref a1), .val (.int (2 : Int32))] [(.ref a0)])
  obtain ⟨T18, X18, e18, st18⟩ := getF X15 hx hZ hown (host := "") (Or.inl (hw _ (List.mem_of_getElem? (i := 10) rfl))) Via.refl e15 F_sum_a0 (g := (mkF m 12 #[.val (.ref a0), .val (.ref a1), .val (.int (2 : Int32))] [(.ref a0)])) rfl rfl (hb hby d6_12)
  refine Go.on st18 ?_
  show Go _ _ _ _ _ _ _ _ (mkF m 15 #[.val (.ref a0), .val (.ref a1), .val (.int (2 : Int32))] [(.ref as)])
  refine Go.on (fun _ k => XS.iloadN X18.here hx rfl (hb hby d6_15) rfl k) ?_
  show Go _ _ _ _ _ _ _ _ (mkF m 16 #[.val (.ref a0), .val (.ref a1), .val (.int (2 : Int32))] [(.int (2 : Int32)), (.ref as)])
  refine Go.on (fun _ k => Jvm.Free.XT.dup2 X18.here hx rfl (hb hby d6_16) rfl rfl rfl k) ?_
  show Go _ _ _ _ _ _ _ _ (mkF m 17 #[.val (.ref a0), .val (.ref a1), .val (.int (2 : Int32))] [(.int (2 : Int32)), (.ref as), (.int (2 : Int32)), (.ref as)])
  obtain ⟨cl19, Ar19, -, S19, -, H19, -⟩ := id V_as
  have hin19 : ¬ ((2 : Int32) < 0 ∨ cl19.slots.size ≤ ((2 : Int32)).toNatClampNeg) := inb_of S19 ⟨by decide, by decide⟩
  refine Go.on (X18.daload hx (j := (2 : Int32)) (v := (.double x2)) (by rw [e18]; exact Ar19.1) (State.isArrayOf_alike hZ.alike Ar19.2.1) Ar19.2.2 hin19 (H19.at hin19 (rfl)) (g := (mkF m 17 #[.val (.ref a0), .val (.ref a1), .val (.int (2 : Int32))] [(.int (2 : Int32)), (.ref as), (.int (2 : Int32)), (.ref as)])) rfl rfl (hb hby d6_17)) ?_
  show Go _ _ _ _ _ _ _ _ (mkF m 18 #[.val (.ref a0), .val (.ref a1), .val (.int (2 : Int32))] [(.double x2), (.int (2 : Int32)), (.ref as)])
  refine Go.on (fun _ k => XS.aloadN X18.here hx rfl (hb hby d6_18) rfl rfl k) ?_
  show Go _ _ _ _ _ _ _ _ (mkF m 19 #[.val (.ref a0), .val (.ref a1), .val (.int (2 : Int32))] [(.ref a1), (.double x2), (.int (2 : Int32)), (.ref as)])
  refine Go.on (fun _ k => XS.iloadN X18.here hx rfl (hb hby d6_19) rfl k) ?_
  show Go _ _ _ _ _ _ _ _ (mkF m 20 #[.val (.ref a0), .val (.ref a1), .val (.int (2 : Int32))] [(.int (2 : Int32)), (.ref a1), (.double x2), (.int (2 : Int32)), (.ref as)])
  obtain ⟨cl20, Ar20, -, S20, -, H20, -⟩ := id V_a1
  have hin20 : ¬ ((2 : Int32) < 0 ∨ cl20.slots.size ≤ ((2 : Int32)).toNatClampNeg) := inb_of S20 ⟨by decide, by decide⟩
  refine Go.on (X18.daload hx (j := (2 : Int32)) (v := (.double y2)) (by rw [e18]; exact Ar20.1) (State.isArrayOf_alike hZ.alike Ar20.2.1) Ar20.2.2 hin20 (H20.at hin20 (rfl)) (g := (mkF m 20 #[.val (.ref a0), .val (.ref a1), .val (.int (2 : Int32))] [(.int (2 : Int32)), (.ref a1), (.double x2), (.int (2 : Int32)), (.ref as)])) rfl rfl (hb hby d6_20)) ?_
  show Go _ _ _ _ _ _ _ _ (mkF m 21 #[.val (.ref a0), .val (.ref a1), .val (.int (2 : Int32))] [(.double y2), (.double x2), (.int (2 : Int32)), (.ref as)])
  refine Go.on (fun _ k => XS.daddS X18.here hx rfl (hb hby d6_21) rfl (hs2) rfl k) ?_
  show Go _ _ _ _ _ _ _ _ (mkF m 22 #[.val (.ref a0), .val (.ref a1), .val (.int (2 : Int32))] [(.double (FP.dadd x2 y2)), (.int (2 : Int32)), (.ref as)])
  obtain ⟨cl21, Ar21, q21, S21, N21n, H21, G21⟩ := id V_as
  have hin21 : ¬ ((2 : Int32) < 0 ∨ cl21.slots.size ≤ ((2 : Int32)).toNatClampNeg) := inb_of S21 ⟨by decide, by decide⟩
  obtain ⟨T21, h21, X21, e21, W21, st21⟩ := stD X18 hx hZ e18 Ar21 (j := (2 : Int32)) hin21 (g := (mkF m 22 #[.val (.ref a0), .val (.ref a1), .val (.int (2 : Int32))] [(.double (FP.dadd x2 y2)), (.int (2 : Int32)), (.ref as)])) rfl rfl (hb hby d6_22)
  replace V_as := Arv.set Ar21 q21 S21 N21n H21 G21 rfl W21 2 rfl (Nat.le_of_ble_eq_true rfl)
  replace E_a0 := E_a0.wr W21
  replace F_sum_a0 := F_sum_a0.other W21 (Or.inl ne_a0_as)
  replace F_count_a0 := F_count_a0.other W21 (Or.inl ne_a0_as)
  replace V_a1 := V_a1.other W21 ne_a1_as
  refine Go.on st21 ?_
  have N21 := Fr.snoc X21 N14 g_as
  replace ZZ := Nat.le_trans ZZ (Keep.of_wr W21).1
  replace KP := KP.wr W21 (Or.inl (List.mem_of_getElem? (i := 1) rfl))
  change Arv Z h21 as k_as .double (4 : Int32) [(.double (FP.dadd x0 y0)), (.double (FP.dadd x1 y1)), (.double (FP.dadd x2 y2)), (.double x3)] (.double (0 : UInt64)) at V_as
  show Go _ _ _ _ _ _ _ _ (mkF m 23 #[.val (.ref a0), .val (.ref a1), .val (.int (2 : Int32))] [])
  refine Go.on (fun _ k => XS.iinc X21.here hx rfl (hb hby d6_23) rfl (l' := #[.val (.ref a0), .val (.ref a1), .val (.int (3 : Int32))]) rfl k) ?_
  show Go _ _ _ _ _ _ _ _ (mkF m 26 #[.val (.ref a0), .val (.ref a1), .val (.int (3 : Int32))] [])
  refine Go.on (fun _ k => XS.goto X21.here hx rfl (pc0 := 26) (pc' := 2) rfl (hb hby d6_26) (by decide) (by decide) k) ?_
  show Go _ _ _ _ _ _ _ _ (mkF m 2 #[.val (.ref a0), .val (.ref a1), .val (.int (3 : Int32))] [])
  refine Go.on (fun _ k => XS.iloadN X21.here hx rfl (hb hby d6_2) rfl k) ?_
  show Go _ _ _ _ _ _ _ _ (mkF m 3 #[.val (.ref a0), .val (.ref a1), .val (.int (3 : Int32))] [(.int (3 : Int32))])
  refine Go.on (fun _ k => XS.aloadN X21.here hx rfl (hb hby d6_3) rfl rfl k) ?_
  show Go _ _ _ _ _ _ _ _ (mkF m 4 #[.val (.ref a0), .val (.ref a1), .val (.int (3 : Int32))] [(.ref a0), (.int (3 : Int32))])
  obtain ⟨T22, X22, e22, st22⟩ := getF X21 hx hZ hown (host := "") (Or.inl (hw _ (List.mem_of_getElem? (i := 10) rfl))) Via.refl e21 F_sum_a0 (g := (mkF m 4 #[.val (.ref a0), .val (.ref a1), .val (.int (3 : Int32))] [(.ref a0), (.int (3 : Int32))])) rfl rfl (hb hby d6_4)
  refine Go.on st22 ?_
  show Go _ _ _ _ _ _ _ _ (mkF m 7 #[.val (.ref a0), .val (.ref a1), .val (.int (3 : Int32))] [(.ref as), (.int (3 : Int32))])
  obtain ⟨cl23, Ar23, -, S23, N23n, -, -⟩ := id V_as
  refine Go.on (X22.arraylength hx (by rw [e22]; exact Ar23.1) (State.isArrayOf_alike hZ.alike Ar23.2.1) (g := (mkF m 7 #[.val (.ref a0), .val (.ref a1), .val (.int (3 : Int32))] [(.ref as), (.int (3 : Int32))])) rfl rfl (hb hby d6_7)) ?_
  rw [len_of S23 N23n]
  show Go _ _ _ _ _ _ _ _ (mkF m 8 #[.val (.ref a0), .val (.ref a1), .val (.int (3 : Int32))] [(.int (4 : Int32)), (.int (3 : Int32))])
  have hc24 : (3 : Int32) < (4 : Int32) := by decide
  refine Go.on (fun _ k => XS.icmpNo X22.here hx rfl (hb hby d6_8) rfl (tlt hc24).2.1 k) ?_
  show Go _ _ _ _ _ _ _ _ (mkF m 11 #[.val (.ref a0), .val (.ref a1), .val (.int (3 : Int32))] [])
  refine Go.on (fun _ k => XS.aloadN X22.here hx rfl (hb hby d6_11) rfl rfl k) ?_
  show Go _ _ _ _ _ _ _ _ (mkF m 12 #[.val (.ref a0), .val (.ref a1), .val (.int (3 : Int32))] [(.ref a0)])
  obtain ⟨T25, X25, e25, st25⟩ := getF X22 hx hZ hown (host := "") (Or.inl (hw _ (List.mem_of_getElem? (i := 10) rfl))) Via.refl e22 F_sum_a0 (g := (mkF m 12 #[.val (.ref a0), .val (.ref a1), .val (.int (3 : Int32))] [(.ref a0)])) rfl rfl (hb hby d6_12)
  refine Go.on st25 ?_
  show Go _ _ _ _ _ _ _ _ (mkF m 15 #[.val (.ref a0), .val (.ref a1), .val (.int (3 : Int32))] [(.ref as)])
  refine Go.on (fun _ k => XS.iloadN X25.here hx rfl (hb hby d6_15) rfl k) ?_
  show Go _ _ _ _ _ _ _ _ (mkF m 16 #[.val (.ref a0), .val (.ref a1), .val (.int (3 : Int32))] [(.int (3 : Int32)), (.ref as)])
  refine Go.on (fun _ k => Jvm.Free.XT.dup2 X25.here hx rfl (hb hby d6_16) rfl rfl rfl k) ?_
  show Go _ _ _ _ _ _ _ _ (mkF m 17 #[.val (.ref a0), .val (.ref a1), .val (.int (3 : Int32))] [(.int (3 : Int32)), (.ref as), (.int (3 : Int32)), (.ref as)])
  obtain ⟨cl26, Ar26, -, S26, -, H26, -⟩ := id V_as
  have hin26 : ¬ ((3 : Int32) < 0 ∨ cl26.slots.size ≤ ((3 : Int32)).toNatClampNeg) := inb_of S26 ⟨by decide, by decide⟩
  refine Go.on (X25.daload hx (j := (3 : Int32)) (v := (.double x3)) (by rw [e25]; exact Ar26.1) (State.isArrayOf_alike hZ.alike Ar26.2.1) Ar26.2.2 hin26 (H26.at hin26 (rfl)) (g := (mkF m 17 #[.val (.ref a0), .val (.ref a1), .val (.int (3 : Int32))] [(.int (3 : Int32)), (.ref as), (.int (3 : Int32)), (.ref as)])) rfl rfl (hb hby d6_17)) ?_
  show Go _ _ _ _ _ _ _ _ (mkF m 18 #[.val (.ref a0), .val (.ref a1), .val (.int (3 : Int32))] [(.double x3), (.int (3 : Int32)), (.ref as)])
  refine Go.on (fun _ k => XS.aloadN X25.here hx rfl (hb hby d6_18) rfl rfl k) ?_
  show Go _ _ _ _ _ _ _ _ (mkF m 19 #[.val (.ref a0), .val (.ref a1), .val (.int (3 : Int32))] [(.ref a1), (.double x3), (.int (3 : Int32)), (.ref as)])
  refine Go.on (fun _ k => XS.iloadN X25.here hx rfl (hb hby d6_19) rfl k) ?_
  show Go _ _ _ _ _ _ _ _ (mkF m 20 #[.val (.ref a0), .val (.ref a1), .val (.int (3 : Int32))] [(.int (3 : Int32)), (.ref a1), (.double x3), (.int (3 : Int32)), (.ref as)])
  obtain ⟨cl27, Ar27, -, S27, -, H27, -⟩ := id V_a1
  have hin27 : ¬ ((3 : Int32) < 0 ∨ cl27.slots.size ≤ ((3 : Int32)).toNatClampNeg) := inb_of S27 ⟨by decide, by decide⟩
  refine Go.on (X25.daload hx (j := (3 : Int32)) (v := (.double y3)) (by rw [e25]; exact Ar27.1) (State.isArrayOf_alike hZ.alike Ar27.2.1) Ar27.2.2 hin27 (H27.at hin27 (rfl)) (g := (mkF m 20 #[.val (.ref a0), .val (.ref a1), .val (.int (3 : Int32))] [(.int (3 : Int32)), (.ref a1), (.double x3), (.int (3 : Int32)), (.ref as)])) rfl rfl (hb hby d6_20)) ?_
  show Go _ _ _ _ _ _ _ _ (mkF m 21 #[.val (.ref a0), .val (.ref a1), .val (.int (3 : Int32))] [(.double y3), (.double x3), (.int (3 : Int32)), (.ref as)])
  refine Go.on (fun _ k => XS.daddS X25.here hx rfl (hb hby d6_21) rfl (hs3) rfl k) ?_
  show Go _ _ _ _ _ _ _ _ (mkF m 22 #[.val (.ref a0), .val (.ref a1), .val (.int (3 : Int32))] [(.double (FP.dadd x3 y3)), (.int (3 : Int32)), (.ref as)])
  obtain ⟨cl28, Ar28, q28, S28, N28n, H28, G28⟩ := id V_as
  have hin28 : ¬ ((3 : Int32) < 0 ∨ cl28.slots.size ≤ ((3 : Int32)).toNatClampNeg) := inb_of S28 ⟨by decide, by decide⟩
  obtain ⟨T28, h28, X28, e28, W28, st28⟩ := stD X25 hx hZ e25 Ar28 (j := (3 : Int32)) hin28 (g := (mkF m 22 #[.val (.ref a0), .val (.ref a1), .val (.int (3 : Int32))] [(.double (FP.dadd x3 y3)), (.int (3 : Int32)), (.ref as)])) rfl rfl (hb hby d6_22)
  replace V_as := Arv.set Ar28 q28 S28 N28n H28 G28 rfl W28 3 rfl (Nat.le_of_ble_eq_true rfl)
  replace E_a0 := E_a0.wr W28
  replace F_sum_a0 := F_sum_a0.other W28 (Or.inl ne_a0_as)
  replace F_count_a0 := F_count_a0.other W28 (Or.inl ne_a0_as)
  replace V_a1 := V_a1.other W28 ne_a1_as
  refine Go.on st28 ?_
  have N28 := Fr.snoc X28 N21 g_as
  replace ZZ := Nat.le_trans ZZ (Keep.of_wr W28).1
  replace KP := KP.wr W28 (Or.inl (List.mem_of_getElem? (i := 1) rfl))
  change Arv Z h28 as k_as .double (4 : Int32) [(.double (FP.dadd x0 y0)), (.double (FP.dadd x1 y1)), (.double (FP.dadd x2 y2)), (.double (FP.dadd x3 y3))] (.double (0 : UInt64)) at V_as
  show Go _ _ _ _ _ _ _ _ (mkF m 23 #[.val (.ref a0), .val (.ref a1), .val (.int (3 : Int32))] [])
  refine Go.on (fun _ k => XS.iinc X28.here hx rfl (hb hby d6_23) rfl (l' := #[.val (.ref a0), .val (.ref a1), .val (.int (4 : Int32))]) rfl k) ?_
  show Go _ _ _ _ _ _ _ _ (mkF m 26 #[.val (.ref a0), .val (.ref a1), .val (.int (4 : Int32))] [])
  refine Go.on (fun _ k => XS.goto X28.here hx rfl (pc0 := 26) (pc' := 2) rfl (hb hby d6_26) (by decide) (by decide) k) ?_
  show Go _ _ _ _ _ _ _ _ (mkF m 2 #[.val (.ref a0), .val (.ref a1), .val (.int (4 : Int32))] [])
  refine Go.on (fun _ k => XS.iloadN X28.here hx rfl (hb hby d6_2) rfl k) ?_
  show Go _ _ _ _ _ _ _ _ (mkF m 3 #[.val (.ref a0), .val (.ref a1), .val (.int (4 : Int32))] [(.int (4 : Int32))])
  refine Go.on (fun _ k => XS.aloadN X28.here hx rfl (hb hby d6_3) rfl rfl k) ?_
  show Go _ _ _ _ _ _ _ _ (mkF m 4 #[.val (.ref a0), .val (.ref a1), .val (.int (4 : Int32))] [(.ref a0), (.int (4 : Int32))])
  obtain ⟨T29, X29, e29, st29⟩ := getF X28 hx hZ hown (host := "") (Or.inl (hw _ (List.mem_of_getElem? (i := 10) rfl))) Via.refl e28 F_sum_a0 (g := (mkF m 4 #[.val (.ref a0), .val (.ref a1), .val (.int (4 : Int32))] [(.ref a0), (.int (4 : Int32))])) rfl rfl (hb hby d6_4)
  refine Go.on st29 ?_
  show Go _ _ _ _ _ _ _ _ (mkF m 7 #[.val (.ref a0), .val (.ref a1), .val (.int (4 : Int32))] [(.ref as), (.int (4 : Int32))])
  obtain ⟨cl30, Ar30, -, S30, N30n, -, -⟩ := id V_as
  refine Go.on (X29.arraylength hx (by rw [e29]; exact Ar30.1) (State.isArrayOf_alike hZ.alike Ar30.2.1) (g := (mkF m 7 #[.val (.ref a0), .val (.ref a1), .val (.int (4 : Int32))] [(.ref as), (.int (4 : Int32))])) rfl rfl (hb hby d6_7)) ?_
  rw [len_of S30 N30n]
  show Go _ _ _ _ _ _ _ _ (mkF m 8 #[.val (.ref a0), .val (.ref a1), .val (.int (4 : Int32))] [(.int (4 : Int32)), (.int (4 : Int32))])
  have hc31 : ¬ ((4 : Int32) < (4 : Int32)) := by decide
  refine Go.on (fun _ k => XS.icmpYes X29.here hx rfl (pc0 := 8) (pc' := 29) rfl (hb hby d6_8) rfl (flt hc31).2.1 (by decide) (by decide) k) ?_
  show Go _ _ _ _ _ _ _ _ (mkF m 29 #[.val (.ref a0), .val (.ref a1), .val (.int (4 : Int32))] [])
  refine Go.on (fun _ k => XS.aloadN X29.here hx rfl (hb hby d6_29) rfl rfl k) ?_
  show Go _ _ _ _ _ _ _ _ (mkF m 30 #[.val (.ref a0), .val (.ref a1), .val (.int (4 : Int32))] [(.ref a0)])
  refine Go.on (fun _ k => XS.dup X29.here hx rfl (hb hby d6_30) rfl rfl k) ?_
  show Go _ _ _ _ _ _ _ _ (mkF m 31 #[.val (.ref a0), .val (.ref a1), .val (.int (4 : Int32))] [(.ref a0), (.ref a0)])
  obtain ⟨T32, X32, e32, st32⟩ := getF X29 hx hZ hown (host := "") (Or.inl (hw _ (List.mem_of_getElem? (i := 28) rfl))) Via.refl e29 F_count_a0 (g := (mkF m 31 #[.val (.ref a0), .val (.ref a1), .val (.int (4 : Int32))] [(.ref a0), (.ref a0)])) rfl rfl (hb hby d6_31)
  refine Go.on st32 ?_
  show Go _ _ _ _ _ _ _ _ (mkF m 34 #[.val (.ref a0), .val (.ref a1), .val (.int (4 : Int32))] [(.int ct), (.ref a0)])
  refine Go.on (fun _ k => XS.iconst X32.here hx rfl (hb hby d6_34) k) ?_
  show Go _ _ _ _ _ _ _ _ (mkF m 35 #[.val (.ref a0), .val (.ref a1), .val (.int (4 : Int32))] [(.int (1 : Int32)), (.int ct), (.ref a0)])
  refine Go.on (fun _ k => XS.iadd X32.here hx rfl (hb hby d6_35) rfl k) ?_
  show Go _ _ _ _ _ _ _ _ (mkF m 36 #[.val (.ref a0), .val (.ref a1), .val (.int (4 : Int32))] [(.int (ct + (1 : Int32))), (.ref a0)])
  obtain ⟨T33, h33, X33, e33, W33, st33⟩ := putF X32 hx hZ hown (host := "") (Or.inl (hw _ (List.mem_of_getElem? (i := 28) rfl))) Via.refl e32 F_count_a0 E_a0 (Or.inl (hw _ (List.mem_of_getElem? (i := 29) rfl))) (hw _ (List.mem_of_getElem? (i := 1) rfl)) (ty := .int) (by decide) rfl rfl (g := (mkF m 36 #[.val (.ref a0), .val (.ref a1), .val (.int (4 : Int32))] [(.int (ct + (1 : Int32))), (.ref a0)])) rfl rfl (hb hby d6_36)
  refine Go.on st33 ?_
  replace F_count_a0 := F_count_a0.same W33
  replace E_a0 := E_a0.wr W33
  replace F_sum_a0 := F_sum_a0.other W33 (Or.inr (slot_ne (Or.inr (hw _ (List.mem_of_getElem? (i := 11) rfl))) (Or.inl (hw _ (List.mem_of_getElem? (i := 29) rfl))) (by decide) (t := (.array .double)) (t' := .int) (by decide) (by decide)))
  replace V_as := V_as.other W33 (Ne.symm ne_a0_as)
  replace V_a1 := V_a1.other W33 ne_a1_a0
  have N33 := Fr.snoc X33 N28 g_a0
  replace ZZ := Nat.le_trans ZZ (Keep.of_wr W33).1
  replace KP := KP.wr W33 (Or.inl (List.mem_of_getElem? (i := 0) rfl))
  show Go _ _ _ _ _ _ _ _ (mkF m 39 #[.val (.ref a0), .val (.ref a1), .val (.int (4 : Int32))] [])
  refine Go.ret0 X33 hx Bd.returns (hb hby d6_39) ?_ (by rw [hK1]; decide) (by rw [hK2]; decide)
  rw [e33, ← hQQ]
  exact ⟨rfl, N33, KP, E_a0, F_sum_a0, F_count_a0, V_as⟩
theorem ef_cm_4 (m : MethodId) (a0 : Addr) : entryFrame m #[(.ref a0)] 3 = mkF m 0 #[.val (.ref a0), .unset, .unset] [] := by first | (simp [entryFrame, mkF, argsToLocals, Value.category]; done) | rfl
def Q_cm_4 (Z : State) (a0 : Addr) (as : Addr) (ct : Int32) (k_as : ClassId) (x0 : UInt64) (x1 : UInt64) (x2 : UInt64) (x3 : UInt64) (h0 : Heap) (n0 : Nat) (v : Option Value) (h : Heap) (L : List Loc) : Prop := ∃ (ar : Addr) (k_ar : ClassId), v = some (.ref ar) ∧ Fr n0 L ∧ Keep h0 h [] ∧ h0.size ≤ ar ∧ Arv Z h ar k_ar .double (4 : Int32) [(.double (FP.ddiv x0 (FP.i2d ct))), (.double (FP.ddiv x1 (FP.i2d ct))), (.double (FP.ddiv x2 (FP.i2d ct))), (.double (FP.ddiv x3 (FP.i2d ct)))] (.double (0 : UInt64))
set_option maxRecDepth 65536 in
set_option maxHeartbeats 40000000 in
theorem cm_4 (l : Launch) (Z : State) (aw : Array Value) (hw : ∀ d ∈ tables_1, d.before aw Z = true) (ws : List Jvm.Cond) (a0 : Addr) (as : Addr) (ct : Int32) (k_as : ClassId) (x0 : UInt64) (x1 : UInt64) (x2 : UInt64) (x3 : UInt64) (h0 : Heap) (n0 : Nat) (Z0 : n0 ≤ h0.size) (F_sum_a0 : Fld Z h0 a0 "com/example/d2rank/d2rank/rerank/Centroid" "sum" "[D" (.ref as)) (F_count_a0 : Fld Z h0 a0 "com/example/d2rank/d2rank/rerank/Centroid" "count" "I" (.int ct)) (V_as : Arv Z h0 as k_as .double (4 : Int32) [(.double x0), (.double x1), (.double x2), (.double x3)] (.double (0 : UInt64))) (hd0 : Jvm.Free.Fl.NoNaN64 (FP.ddiv x0 (FP.i2d ct))) (hd1 : Jvm.Free.Fl.NoNaN64 (FP.ddiv x1 (FP.i2d ct))) (hd2 : Jvm.Free.Fl.NoNaN64 (FP.ddiv x2 (FP.i2d ct))) (hd3 : Jvm.Free.Fl.NoNaN64 (FP.ddiv x3 (FP.i2d ct))) :
    MetFree l (⟨"com/example/d2rank/d2rank/rerank/Centroid", "mean", "()[D"⟩ : MethodName) (head1 (Jvm.Cond.code (⟨"com/example/d2rank/d2rank/rerank/Centroid", "mean", "()[D"⟩ : MethodName) prog_44_method_4_code 3 (some (.array .double)) :: ws) ({ frames := 0, cells := 1, slots := 4, locals := 0 } : Room)) (fun a U => a = #[(.ref a0)] ∧ Z.Warmed39 U.vm ∧ U.heap = h0) (fun _ _ _ _ _ => True) (fun _ U o U' => ∃ v L, o = .returned v ∧ Q_cm_4 Z a0 as ct k_as x0 x1 x2 x3 h0 n0 v U'.heap L ∧ FrameEnd U o U' L ({ frames := 0, cells := 1, slots := 4, locals := 0 } : Room).cells ({ frames := 0, cells := 1, slots := 4, locals := 0 } : Room).slots) := by
  refine MetFree.of_bodySF (plainFor_of_name pn_1) hisR ?_
  intro p e s m args below meth c s₁ Bd hml0 hP hK
  obtain ⟨rfl, hZ, hh⟩ := hP
  have hx := Bd.exec
  have hby := Bd.bytes
  have hml : c.maxLocals = 3 := hml0
  have hown : s.vm.findClass "com/example/d2rank/d2rank/rerank/Centroid" = some m.cls := findClass_of_methodNamed Bd.named
  have hnm := (name_of_methodNamed Bd.named Bd.method).1
  have hlk : meth.locks = false := BodyLoose.notSynchronized Bd
  have X0 : Stand p l e ({ frames := 0, cells := 1, slots := 4, locals := 0 } : Room) s m #[(.ref a0)] below meth c s₁ [] 0 0 := Stand.of_body Bd
  have e0 : s₁.heap = h0 := by rw [← hh, Bd.state]; rfl
  have N0 := Fr.nil n0
  have ZZ := Z0
  show Go p e below s ({ frames := 0, cells := 1, slots := 4, locals := 0 } : Room).cells ({ frames := 0, cells := 1, slots := 4, locals := 0 } : Room).slots (fun v h L => Q_cm_4 Z a0 as ct k_as x0 x1 x2 x3 h0 n0 v h L) s₁ (entryFrame m #[(.ref a0)] 3)
  refine Go.cast (ef_cm_4 m a0) ?_
  refine Go.gen ?_
  intro K1 K2 QQ hK1 hK2 hQQ
  have KP : Keep h0 h0 [] := Keep.refl _ _
  refine Go.on (fun _ k => XS.aloadN X0.here hx rfl (hb hby d7_0) rfl rfl k) ?_
  show Go _ _ _ _ _ _ _ _ (mkF m 1 #[.val (.ref a0), .unset, .unset] [(.ref a0)])
  obtain ⟨T1, X1, e1, st1⟩ := getF X0 hx hZ hown (host := "") (Or.inl (hw _ (List.mem_of_getElem? (i := 10) rfl))) Via.refl e0 F_sum_a0 (g := (mkF m 1 #[.val (.ref a0), .unset, .unset] [(.ref a0)])) rfl rfl (hb hby d7_1)
  refine Go.on st1 ?_
  show Go _ _ _ _ _ _ _ _ (mkF m 4 #[.val (.ref a0), .unset, .unset] [(.ref as)])
  obtain ⟨cl2, Ar2, -, S2, N2n, -, -⟩ := id V_as
  refine Go.on (X1.arraylength hx (by rw [e1]; exact Ar2.1) (State.isArrayOf_alike hZ.alike Ar2.2.1) (g := (mkF m 4 #[.val (.ref a0), .unset, .unset] [(.ref as)])) rfl rfl (hb hby d7_4)) ?_
  rw [len_of S2 N2n]
  show Go _ _ _ _ _ _ _ _ (mkF m 5 #[.val (.ref a0), .unset, .unset] [(.int (4 : Int32))])
  obtain ⟨T3, h3, k_ar, X3, e3, E3, A3, st3⟩ := newP X1 hx hZ (hw _ (List.mem_of_getElem? (i := 9) rfl)) e1 (g := (mkF m 5 #[.val (.ref a0), .unset, .unset] [(.int (4 : Int32))])) rfl (hb hby d7_5) rfl (by decide) (cap := 4) (by decide) (by decide) (by decide) (by decide)
  obtain ⟨ar, g3⟩ : ∃ z, z = h0.size := ⟨_, rfl⟩
  have ne_a0_ar : a0 ≠ ar := Nat.ne_of_lt (Nat.lt_of_lt_of_le F_sum_a0.lt (Nat.le_of_eq g3.symm))
  have ne_as_ar : as ≠ ar := Nat.ne_of_lt (Nat.lt_of_lt_of_le V_as.lt (Nat.le_of_eq g3.symm))
  have g_ar : n0 ≤ ar := Nat.le_trans ZZ (Nat.le_of_eq g3.symm)
  have sz_ar : h0.size ≤ ar := Nat.le_trans KP.1 (Nat.le_of_eq g3.symm)
  rw [← g3] at A3 st3
  replace F_sum_a0 := F_sum_a0.ext E3
  replace F_count_a0 := F_count_a0.ext E3
  replace V_as := V_as.ext E3
  replace ZZ := Nat.le_trans ZZ E3.1
  replace KP := KP.ext E3
  have V_ar : Arv Z h3 ar k_ar .double (4 : Int32) [(.double (0 : UInt64)), (.double (0 : UInt64)), (.double (0 : UInt64)), (.double (0 : UInt64))] (.double (0 : UInt64)) := (Arv.new A3 (by decide)).pad (pad_rep [] (.double (0 : UInt64)) 4)
  refine Go.on st3 ?_
  show Go _ _ _ _ _ _ _ _ (mkF m 7 #[.val (.ref a0), .unset, .unset] [(.ref ar)])
  refine Go.on (fun _ k => XS.astoreN X3.here hx rfl (hb hby d7_7) rfl rfl (l' := #[.val (.ref a0), .val (.ref ar), .unset]) rfl k) ?_
  show Go _ _ _ _ _ _ _ _ (mkF m 8 #[.val (.ref a0), .val (.ref ar), .unset] [])
  refine Go.on (fun _ k => XS.iconst X3.here hx rfl (hb hby d7_8) k) ?_
  show Go _ _ _ _ _ _ _ _ (mkF m 9 #[.val (.ref a0), .val (.ref ar), .unset] [(.int (0 : Int32))])
  refine Go.on (fun _ k => XS.istoreN X3.here hx rfl (hb hby d7_9) rfl (l' := #[.val (.ref a0), .val (.ref ar), .val (.int (0 : Int32))]) rfl k) ?_
  show Go _ _ _ _ _ _ _ _ (mkF m 10 #[.val (.ref a0), .val (.ref ar), .val (.int (0 : Int32))] [])
  refine Go.on (fun _ k => XS.iloadN X3.here hx rfl (hb hby d7_10) rfl k) ?_
  show Go _ _ _ _ _ _ _ _ (mkF m 11 #[.val (.ref a0), .val (.ref ar), .val (.int (0 : Int32))] [(.int (0 : Int32))])
  refine Go.on (fun _ k => XS.aloadN X3.here hx rfl (hb hby d7_11) rfl rfl k) ?_
  show Go _ _ _ _ _ _ _ _ (mkF m 12 #[.val (.ref a0), .val (.ref ar), .val (.int (0 : Int32))] [(.ref a0), (.int (0 : Int32))])
  obtain ⟨T4, X4, e4, st4⟩ := getF X3 hx hZ hown (host := "") (Or.inl (hw _ (List.mem_of_getElem? (i := 10) rfl))) Via.refl e3 F_sum_a0 (g := (mkF m 12 #[.val (.ref a0), .val (.ref ar), .val (.int (0 : Int32))] [(.ref a0), (.int (0 : Int32))])) rfl rfl (hb hby d7_12)
  refine Go.on st4 ?_
  show Go _ _ _ _ _ _ _ _ (mkF m 15 #[.val (.ref a0), .val (.ref ar), .val (.int (0 : Int32))] [(.ref as), (.int (0 : Int32))])
  obtain ⟨cl5, Ar5, -, S5, N5n, -, -⟩ := id V_as
  refine Go.on (X4.arraylength hx (by rw [e4]; exact Ar5.1) (State.isArrayOf_alike hZ.alike Ar5.2.1) (g := (mkF m 15 #[.val (.ref a0), .val (.ref ar), .val (.int (0 : Int32))] [(.ref as), (.int (0 : Int32))])) rfl rfl (hb hby d7_15)) ?_
  rw [len_of S5 N5n]
  show Go _ _ _ _ _ _ _ _ (mkF m 16 #[.val (.ref a0), .val (.ref ar), .val (.int (0 : Int32))] [(.int (4 : Int32)), (.int (0 : Int32))])
  have hc6 : (0 : Int32) < (4 : Int32) := by decide
  refine Go.on (fun _ k => XS.icmpNo X4.here hx rfl (hb hby d7_16) rfl (tlt hc6).2.1 k) ?_
  show Go _ _ _ _ _ _ _ _ (mkF m 19 #[.val (.ref a0), .val (.ref ar), .val (.int (0 : Int32))] [])
  refine Go.on (fun _ k => XS.aloadN X4.here hx rfl (hb hby d7_19) rfl rfl k) ?_
  show Go _ _ _ _ _ _ _ _ (mkF m 20 #[.val (.ref a0), .val (.ref ar), .val (.int (0 : Int32))] [(.ref ar)])
  refine Go.on (fun _ k => XS.iloadN X4.here hx rfl (hb hby d7_20) rfl k) ?_
  show Go _ _ _ _ _ _ _ _ (mkF m 21 #[.val (.ref a0), .val (.ref ar), .val (.int (0 : Int32))] [(.int (0 : Int32)), (.ref ar)])
  refine Go.on (fun _ k => XS.aloadN X4.here hx rfl (hb hby d7_21) rfl rfl k) ?_
  show Go _ _ _ _ _ _ _ _ (mkF m 22 #[.val (.ref a0), .val (.ref ar), .val (.int (0 : Int32))] [(.ref a0), (.int (0 : Int32)), (.ref ar)])
  obtain ⟨T7, X7, e7, st7⟩ := getF X4 hx hZ hown (host := "") (Or.inl (hw _ (List.mem_of_getElem? (i := 10) rfl))) Via.refl e4 F_sum_a0 (g := (mkF m 22 #[.val (.ref a0), .val (.ref ar), .val (.int (0 : Int32))] [(.ref a0), (.int (0 : Int32)), (.ref ar)])) rfl rfl (hb hby d7_22)
  refine Go.on st7 ?_
  show Go _ _ _ _ _ _ _ _ (mkF m 25 #[.val (.ref a0), .val (.ref ar), .val (.int (0 : Int32))] [(.ref as), (.int (0 : Int32)), (.ref ar)])
  refine Go.on (fun _ k => XS.iloadN X7.here hx rfl (hb hby d7_25) rfl k) ?_
  show Go _ _ _ _ _ _ _ _ (mkF m 26 #[.val (.ref a0), .val (.ref ar), .val (.int (0 : Int32))] [(.int (0 : Int32)), (.ref as), (.int (0 : Int32)), (.ref ar)])
  obtain ⟨cl8, Ar8, -, S8, -, H8, -⟩ := id V_as
  have hin8 : ¬ ((0 : Int32) < 0 ∨ cl8.slots.size ≤ ((0 : Int32)).toNatClampNeg) := inb_of S8 ⟨by decide, by decide⟩
  refine Go.on (X7.daload hx (j := (0 : Int32)) (v := (.double x0)) (by rw [e7]; exact Ar8.1) (State.isArrayOf_alike hZ.alike Ar8.2.1) Ar8.2.2 hin8 (H8.at hin8 (rfl)) (g := (mkF m 26 #[.val (.ref a0), .val (.ref ar), .val (.int (0 : Int32))] [(.int (0 : Int32)), (.ref as), (.int (0 : Int32)), (.ref ar)])) rfl rfl (hb hby d7_26)) ?_
  show Go _ _ _ _ _ _ _ _ (mkF m 27 #[.val (.ref a0), .val (.ref ar), .val (.int (0 : Int32))] [(.double x0), (.int (0 : Int32)), (.ref ar)])
  refine Go.on (fun _ k => XS.aloadN X7.here hx rfl (hb hby d7_27) rfl rfl k) ?_
  show Go _ _ _ _ _ _ _ _ (mkF m 28 #[.val (.ref a0), .val (.ref ar), .val (.int (0 : Int32))] [(.ref a0), (.double x0), (.int (0 : Int32)), (.ref ar)])
  obtain ⟨T9, X9, e9, st9⟩ := getF X7 hx hZ hown (host := "") (Or.inl (hw _ (List.mem_of_getElem? (i := 28) rfl))) Via.refl e7 F_count_a0 (g := (mkF m 28 #[.val (.ref a0), .val (.ref ar), .val (.int (0 : Int32))] [(.ref a0), (.double x0), (.int (0 : Int32)), (.ref ar)])) rfl rfl (hb hby d7_28)
  refine Go.on st9 ?_
  show Go _ _ _ _ _ _ _ _ (mkF m 31 #[.val (.ref a0), .val (.ref ar), .val (.int (0 : Int32))] [(.int ct), (.double x0), (.int (0 : Int32)), (.ref ar)])
  refine Go.on (fun _ k => XS.i2dS X9.here hx rfl (hb hby d7_31) rfl rfl k) ?_
  show Go _ _ _ _ _ _ _ _ (mkF m 32 #[.val (.ref a0), .val (.ref ar), .val (.int (0 : Int32))] [(.double (FP.i2d ct)), (.double x0), (.int (0 : Int32)), (.ref ar)])
  refine Go.on (fun _ k => XS.ddivS X9.here hx rfl (hb hby d7_32) rfl (hd0) rfl k) ?_
  show Go _ _ _ _ _ _ _ _ (mkF m 33 #[.val (.ref a0), .val (.ref ar), .val (.int (0 : Int32))] [(.double (FP.ddiv x0 (FP.i2d ct))), (.int (0 : Int32)), (.ref ar)])
  obtain ⟨cl10, Ar10, q10, S10, N10n, H10, G10⟩ := id V_ar
  have hin10 : ¬ ((0 : Int32) < 0 ∨ cl10.slots.size ≤ ((0 : Int32)).toNatClampNeg) := inb_of S10 ⟨by decide, by decide⟩
  obtain ⟨T10, h10, X10, e10, W10, st10⟩ := stD X9 hx hZ e9 Ar10 (j := (0 : Int32)) hin10 (g := (mkF m 33 #[.val (.ref a0), .val (.ref ar), .val (.int (0 : Int32))] [(.double (FP.ddiv x0 (FP.i2d ct))), (.int (0 : Int32)), (.ref ar)])) rfl rfl (hb hby d7_33)
  replace V_ar := Arv.set Ar10 q10 S10 N10n H10 G10 rfl W10 0 rfl (Nat.le_of_ble_eq_true rfl)
  replace F_sum_a0 := F_sum_a0.other W10 (Or.inl ne_a0_ar)
  replace F_count_a0 := F_count_a0.other W10 (Or.inl ne_a0_ar)
  replace V_as := V_as.other W10 ne_as_ar
  refine Go.on st10 ?_
  have N10 := Fr.snoc X10 N0 g_ar
  replace ZZ := Nat.le_trans ZZ (Keep.of_wr W10).1
  replace KP := KP.wr W10 (Or.inr sz_ar)
  change Arv Z h10 ar k_ar .double (4 : Int32) [(.double (FP.ddiv x0 (FP.i2d ct))), (.double (0 : UInt64)), (.double (0 : UInt64)), (.double (0 : UInt64))] (.double (0 : UInt64)) at V_ar
  show Go _ _ _ _ _ _ _ _ (mkF m 34 #[.val (.ref a0), .val (.ref ar), .val (.int (0 : Int32))] [])
  refine Go.on (fun _ k => XS.iinc X10.here hx rfl (hb hby d7_34) rfl (l' := #[.val (.ref a0), .val (.ref ar), .val (.int (1 : Int32))]) rfl k) ?_
  show Go _ _ _ _ _ _ _ _ (mkF m 37 #[.val (.ref a0), .val (.ref ar), .val (.int (1 : Int32))] [])
  refine Go.on (fun _ k => XS.goto X10.here hx rfl (pc0 := 37) (pc' := 10) rfl (hb hby d7_37) (by decide) (by decide) k) ?_
  show Go _ _ _ _ _ _ _ _ (mkF m 10 #[.val (.ref a0), .val (.ref ar), .val (.int (1 : Int32))] [])
  refine Go.on (fun _ k => XS.iloadN X10.here hx rfl (hb hby d7_10) rfl k) ?_
  show Go _ _ _ _ _ _ _ _ (mkF m 11 #[.val (.ref a0), .val (.ref ar), .val (.int (1 : Int32))] [(.int (1 : Int32))])
  refine Go.on (fun _ k => XS.aloadN X10.here hx rfl (hb hby d7_11) rfl rfl k) ?_
  show Go _ _ _ _ _ _ _ _ (mkF m 12 #[.val (.ref a0), .val (.ref ar), .val (.int (1 : Int32))] [(.ref a0), (.int (1 : Int32))])
  obtain ⟨T11, X11, e11, st11⟩ := getF X10 hx hZ hown (host := "") (Or.inl (hw _ (List.mem_of_getElem? (i := 10) rfl))) Via.refl e10 F_sum_a0 (g := (mkF m 12 #[.val (.ref a0), .val (.ref ar), .val (.int (1 : Int32))] [(.ref a0), (.int (1 : Int32))])) rfl rfl (hb hby d7_12)
  refine Go.on st11 ?_
  show Go _ _ _ _ _ _ _ _ (mkF m 15 #[.val (.ref a0), .val (.ref ar), .val (.int (1 : Int32))] [(.ref as), (.int (1 : Int32))])
  obtain ⟨cl12, Ar12, -, S12, N12n, -, -⟩ := id V_as
  refine Go.on (X11.arraylength hx (by rw [e11]; exact Ar12.1) (State.isArrayOf_alike hZ.alike Ar12.2.1) (g := (mkF m 15 #[.val (.ref a0), .val (.ref ar), .val (.int (1 : Int32))] [(.ref as), (.int (1 : Int32))])) rfl rfl (hb hby d7_15)) ?_
  rw [len_of S12 N12n]
  show Go _ _ _ _ _ _ _ _ (mkF m 16 #[.val (.ref a0), .val (.ref ar), .val (.int (1 : Int32))] [(.int (4 : Int32)), (.int (1 : Int32))])
  have hc13 : (1 : Int32) < (4 : Int32) := by decide
  refine Go.on (fun _ k => XS.icmpNo X11.here hx rfl (hb hby d7_16) rfl (tlt hc13).2.1 k) ?_
  show Go _ _ _ _ _ _ _ _ (mkF m 19 #[.val (.ref a0), .val (.ref ar), .val (.int (1 : Int32))] [])
  refine Go.on (fun _ k => XS.aloadN X11.here hx rfl (hb hby d7_19) rfl rfl k) ?_
  show Go _ _ _ _ _ _ _ _ (mkF m 20 #[.val (.ref a0), .val (.ref ar), .val (.int (1 : Int32))] [(.ref ar)])
  refine Go.on (fun _ k => XS.iloadN X11.here hx rfl (hb hby d7_20) rfl k) ?_
  show Go _ _ _ _ _ _ _ _ (mkF m 21 #[.val (.ref a0), .val (.ref ar), .val (.int (1 : Int32))] [(.int (1 : Int32)), (.ref ar)])
  refine Go.on (fun _ k => XS.aloadN X11.here hx rfl (hb hby d7_21) rfl rfl k) ?_
  show Go _ _ _ _ _ _ _ _ (mkF m 22 #[.val (.ref a0), .val (.ref ar), .val (.int (1 : Int32))] [(.ref a0), (.int (1 : Int32)), (.ref ar)])
  obtain ⟨T14, X14, e14, st14⟩ := getF X11 hx hZ hown (host := "") (Or.inl (hw _ (List.mem_of_getElem? (i := 10) rfl))) Via.refl e11 F_sum_a0 (g := (mkF m 22 #[.val (.ref a0), .val (.ref ar), .val (.int (1 : Int32))] [(.ref a0), (.int (1 : Int32)), (.ref ar)])) rfl rfl (hb hby d7_22)
  refine Go.on st14 ?_
  show Go _ _ _ _ _ _ _ _ (mkF m 25 #[.val (.ref a0), .val (.ref ar), .val (.int (1 : Int32))] [(.ref as), (.int (1 : Int32)), (.ref ar)])
  refine Go.on (fun _ k => XS.iloadN X14.here hx rfl (hb hby d7_25) rfl k) ?_
  show Go _ _ _ _ _ _ _ _ (mkF m 26 #[.val (.ref a0), .val (.ref ar), .val (.int (1 : Int32))] [(.int (1 : Int32)), (.ref as), (.int (1 : Int32)), (.ref ar)])
  obtain ⟨cl15, Ar15, -, S15, -, H15, -⟩ := id V_as
  have hin15 : ¬ ((1 : Int32) < 0 ∨ cl15.slots.size ≤ ((1 : Int32)).toNatClampNeg) := inb_of S15 ⟨by decide, by decide⟩
  refine Go.on (X14.daload hx (j := (1 : Int32)) (v := (.double x1)) (by rw [e14]; exact Ar15.1) (State.isArrayOf_alike hZ.alike Ar15.2.1) Ar15.2.2 hin15 (H15.at hin15 (rfl)) (g := (mkF m 26 #[.val (.ref a0), .val (.ref ar), .val (.int (1 : Int32))] [(.int (1 : Int32)), (.ref as), (.int (1 : Int32)), (.ref ar)])) rfl rfl (hb hby d7_26)) ?_
  show Go _ _ _ _ _ _ _ _ (mkF m 27 #[.val (.ref a0), .val (.ref ar), .val (.int (1 : Int32))] [(.double x1), (.int (1 : Int32)), (.ref ar)])
  refine Go.on (fun _ k => XS.aloadN X14.here hx rfl (hb hby d7_27) rfl rfl k) ?_
  show Go _ _ _ _ _ _ _ _ (mkF m 28 #[.val (.ref a0), .val (.ref ar), .val (.int (1 : Int32))] [(.ref a0), (.double x1), (.int (1 : Int32)), (.ref ar)])
  obtain ⟨T16, X16, e16, st16⟩ := getF X14 hx hZ hown (host := "") (Or.inl (hw _ (List.mem_of_getElem? (i := 28) rfl))) Via.refl e14 F_count_a0 (g := (mkF m 28 #[.val (.ref a0), .val (.ref ar), .val (.int (1 : Int32))] [(.ref a0), (.double x1), (.int (1 : Int32)), (.ref ar)])) rfl rfl (hb hby d7_28)
  refine Go.on st16 ?_
  show Go _ _ _ _ _ _ _ _ (mkF m 31 #[.val (.ref a0), .val (.ref ar), .val (.int (1 : Int32))] [(.int ct), (.double x1), (.int (1 : Int32)), (.ref ar)])
  refine Go.on (fun _ k => XS.i2dS X16.here hx rfl (hb hby d7_31) rfl rfl k) ?_
  show Go _ _ _ _ _ _ _ _ (mkF m 32 #[.val (.ref a0), .val (.ref ar), .val (.int (1 : Int32))] [(.double (FP.i2d ct)), (.double x1), (.int (1 : Int32)), (.ref ar)])
  refine Go.on (fun _ k => XS.ddivS X16.here hx rfl (hb hby d7_32) rfl (hd1) rfl k) ?_
  show Go _ _ _ _ _ _ _ _ (mkF m 33 #[.val (.ref a0), .val (.ref ar), .val (.int (1 : Int32))] [(.double (FP.ddiv x1 (FP.i2d ct))), (.int (1 : Int32)), (.ref ar)])
  obtain ⟨cl17, Ar17, q17, S17, N17n, H17, G17⟩ := id V_ar
  have hin17 : ¬ ((1 : Int32) < 0 ∨ cl17.slots.size ≤ ((1 : Int32)).toNatClampNeg) := inb_of S17 ⟨by decide, by decide⟩
  obtain ⟨T17, h17, X17, e17, W17, st17⟩ := stD X16 hx hZ e16 Ar17 (j := (1 : Int32)) hin17 (g := (mkF m 33 #[.val (.ref a0), .val (.ref ar), .val (.int (1 : Int32))] [(.double (FP.ddiv x1 (FP.i2d ct))), (.int (1 : Int32)), (.ref ar)])) rfl rfl (hb hby d7_33)
  replace V_ar := Arv.set Ar17 q17 S17 N17n H17 G17 rfl W17 1 rfl (Nat.le_of_ble_eq_true rfl)
  replace F_sum_a0 := F_sum_a0.other W17 (Or.inl ne_a0_ar)
  replace F_count_a0 := F_count_a0.other W17 (Or.inl ne_a0_ar)
  replace V_as := V_as.other W17 ne_as_ar
  refine Go.on st17 ?_
  have N17 := Fr.snoc X17 N10 g_ar
  replace ZZ := Nat.le_trans ZZ (Keep.of_wr W17).1
  replace KP := KP.wr W17 (Or.inr sz_ar)
  change Arv Z h17 ar k_ar .double (4 : Int32) [(.double (FP.ddiv x0 (FP.i2d ct))), (.double (FP.ddiv x1 (FP.i2d ct))), (.double (0 : UInt64)), (.double (0 : UInt64))] (.double (0 : UInt64)) at V_ar
  show Go _ _ _ _ _ _ _ _ (mkF m 34 #[.val (.ref a0), .val (.ref ar), .val (.int (1 : Int32))] [])
  refine Go.on (fun _ k => XS.iinc X17.here hx rfl (hb hby d7_34) rfl (l' := #[.val (.ref a0), .val (.ref ar), .val (.int (2 : Int32))]) rfl k) ?_
  show Go _ _ _ _ _ _ _ _ (mkF m 37 #[.val (.ref a0), .val (.ref ar), .val (.int (2 : Int32))] [])
  refine Go.on (fun _ k => XS.goto X17.here hx rfl (pc0 := 37) (pc' := 10) rfl (hb hby d7_37) (by decide) (by decide) k) ?_
  show Go _ _ _ _ _ _ _ _ (mkF m 10 #[.val (.ref a0), .val (.ref ar), .val (.int (2 : Int32))] [])
  refine Go.on (fun _ k => XS.iloadN X17.here hx rfl (hb hby d7_10) rfl k) ?_
  show Go _ _ _ _ _ _ _ _ (mkF m 11 #[.val (.ref a0), .val (.ref ar), .val (.int (2 : Int32))] [(.int (2 : Int32))])
  refine Go.on (fun _ k => XS.aloadN X17.here hx rfl (hb hby d7_11) rfl rfl k) ?_
  show Go _ _ _ _ _ _ _ _ (mkF m 12 #[.val (.ref a0), .val (.ref ar), .val (.int (2 : Int32))] [(.ref a0), (.int (2 : Int32))])
  obtain ⟨T18, X18, e18, st18⟩ := getF X17 hx hZ hown (host := "") (Or.inl (hw _ (List.mem_of_getElem? (i := 10) rfl))) Via.refl e17 F_sum_a0 (g := (mkF m 12 #[.val (.ref a0), .val (.ref ar), .val (.int (2 : Int32))] [(.ref a0), (.int (2 : Int32))])) rfl rfl (hb hby d7_12)
  refine Go.on st18 ?_
  show Go _ _ _ _ _ _ _ _ (mkF m 15 #[.val (.ref a0), .val (.ref ar), .val (.int (2 : Int32))] [(.ref as), (.int (2 : Int32))])
  obtain ⟨cl19, Ar19, -, S19, N19n, -, -⟩ := id V_as
  refine Go.on (X18.arraylength hx (by rw [e18]; exact Ar19.1) (State.isArrayOf_alike hZ.alike Ar19.2.1) (g := (mkF m 15 #[.val (.ref a0), .val (.ref ar), .val (.int (2 : Int32))] [(.ref as), (.int (2 : Int32))])) rfl rfl (hb hby d7_15)) ?_
  rw [len_of S19 N19n]
  show Go _ _ _ _ _ _ _ _ (mkF m 16 #[.val (.ref a0), .val (.ref ar), .val (.int (2 : Int32))] [(.int (4 : Int32)), (.int (2 : Int32))])
  have hc20 : (2 : Int32) < (4 : Int32) := by decide
  refine Go.on (fun _ k => XS.icmpNo X18.here hx rfl (hb hby d7_16) rfl (tlt hc20).2.1 k) ?_
  show Go _ _ _ _ _ _ _ _ (mkF m 19 #[.val (.ref a0), .val (.ref ar), .val (.int (2 : Int32))] [])
  refine Go.on (fun _ k => XS.aloadN X18.here hx rfl (hb hby d7_19) rfl rfl k) ?_
  show Go _ _ _ _ _ _ _ _ (mkF m 20 #[.val (.ref a0), .val (.ref ar), .val (.int (2 : Int32))] [(.ref ar)])
  refine Go.on (fun _ k => XS.iloadN X18.here hx rfl (hb hby d7_20) rfl k) ?_
  show Go _ _ _ _ _ _ _ _ (mkF m 21 #[.val (.ref a0), .val (.ref ar), .val (.int (2 : Int32))] [(.int (2 : Int32)), (.ref ar)])
  refine Go.on (fun _ k => XS.aloadN X18.here hx rfl (hb hby d7_21) rfl rfl k) ?_
  show Go _ _ _ _ _ _ _ _ (mkF m 22 #[.val (.ref a0), .val (.ref ar), .val (.int (2 : Int32))] [(.ref a0), (.int (2 : Int32)), (.ref ar)])
  obtain ⟨T21, X21, e21, st21⟩ := getF X18 hx hZ hown (host := "") (Or.inl (hw _ (List.mem_of_getElem? (i := 10) rfl))) Via.refl e18 F_sum_a0 (g := (mkF m 22 #[.val (.ref a0), .val (.ref ar), .val (.int (2 : Int32))] [(.ref a0), (.int (2 : Int32)), (.ref ar)])) rfl rfl (hb hby d7_22)
  refine Go.on st21 ?_
  show Go _ _ _ _ _ _ _ _ (mkF m 25 #[.val (.ref a0), .val (.ref ar), .val (.int (2 : Int32))] [(.ref as), (.int (2 : Int32)), (.ref ar)])
  refine Go.on (fun _ k => XS.iloadN X21.here hx rfl (hb hby d7_25) rfl k) ?_
  show Go _ _ _ _ _ _ _ _ (mkF m 26 #[.val (.ref a0), .val (.ref ar), .val (.int (2 : Int32))] [(.int (2 : Int32)), (.ref as), (.int (2 : Int32)), (.ref ar)])
  obtain ⟨cl22, Ar22, -, S22, -, H22, -⟩ := id V_as
  have hin22 : ¬ ((2 : Int32) < 0 ∨ cl22.slots.size ≤ ((2 : Int32)).toNatClampNeg) := inb_of S22 ⟨by decide, by decide⟩
  refine Go.on (X21.daload hx (j := (2 : Int32)) (v := (.double x2)) (by rw [e21]; exact Ar22.1) (State.isArrayOf_alike hZ.alike Ar22.2.1) Ar22.2.2 hin22 (H22.at hin22 (rfl)) (g := (mkF m 26 #[.val (.ref a0), .val (.ref ar), .val (.int (2 : Int32))] [(.int (2 : Int32)), (.ref as), (.int (2 : Int32)), (.ref ar)])) rfl rfl (hb hby d7_26)) ?_
  show Go _ _ _ _ _ _ _ _ (mkF m 27 #[.val (.ref a0), .val (.ref ar), .val (.int (2 : Int32))] [(.double x2), (.int (2 : Int32)), (.ref ar)])
  refine Go.on (fun _ k => XS.aloadN X21.here hx rfl (hb hby d7_27) rfl rfl k) ?_
  show Go _ _ _ _ _ _ _ _ (mkF m 28 #[.val (.ref a0), .val (.ref ar), .val (.int (2 : Int32))] [(.ref a0), (.double x2), (.int (2 : Int32)), (.ref ar)])
  obtain ⟨T23, X23, e23, st23⟩ := getF X21 hx hZ hown (host := "") (Or.inl (hw _ (List.mem_of_getElem? (i := 28) rfl))) Via.refl e21 F_count_a0 (g := (mkF m 28 #[.val (.ref a0), .val (.ref ar), .val (.int (2 : Int32))] [(.ref a0), (.double x2), (.int (2 : Int32)), (.ref ar)])) rfl rfl (hb hby d7_28)
  refine Go.on st23 ?_
  show Go _ _ _ _ _ _ _ _ (mkF m 31 #[.val (.ref a0), .val (.ref ar), .val (.int (2 : Int32))] [(.int ct), (.double x2), (.int (2 : Int32)), (.ref ar)])
  refine Go.on (fun _ k => XS.i2dS X23.here hx rfl (hb hby d7_31) rfl rfl k) ?_
  show Go _ _ _ _ _ _ _ _ (mkF m 32 #[.val (.ref a0), .val (.ref ar), .val (.int (2 : Int32))] [(.double (FP.i2d ct)), (.double x2), (.int (2 : Int32)), (.ref ar)])
  refine Go.on (fun _ k => XS.ddivS X23.here hx rfl (hb hby d7_32) rfl (hd2) rfl k) ?_
  show Go _ _ _ _ _ _ _ _ (mkF m 33 #[.val (.ref a0), .val (.ref ar), .val (.int (2 : Int32))] [(.double (FP.ddiv x2 (FP.i2d ct))), (.int (2 : Int32)), (.ref ar)])
  obtain ⟨cl24, Ar24, q24, S24, N24n, H24, G24⟩ := id V_ar
  have hin24 : ¬ ((2 : Int32) < 0 ∨ cl24.slots.size ≤ ((2 : Int32)).toNatClampNeg) := inb_of S24 ⟨by decide, by decide⟩
  obtain ⟨T24, h24, X24, e24, W24, st24⟩ := stD X23 hx hZ e23 Ar24 (j := (2 : Int32)) hin24 (g := (mkF m 33 #[.val (.ref a0), .val (.ref ar), .val (.int (2 : Int32))] [(.double (FP.ddiv x2 (FP.i2d ct))), (.int (2 : Int32)), (.ref ar)])) rfl rfl (hb hby d7_33)
  replace V_ar := Arv.set Ar24 q24 S24 N24n H24 G24 rfl W24 2 rfl (Nat.le_of_ble_eq_true rfl)
  replace F_sum_a0 := F_sum_a0.other W24 (Or.inl ne_a0_ar)
  replace F_count_a0 := F_count_a0.other W24 (Or.inl ne_a0_ar)
  replace V_as := V_as.other W24 ne_as_ar
  refine Go.on st24 ?_
  have N24 := Fr.snoc X24 N17 g_ar
  replace ZZ := Nat.le_trans ZZ (Keep.of_wr W24).1
  replace KP := KP.wr W24 (Or.inr sz_ar)
  change Arv Z h24 ar k_ar .double (4 : Int32) [(.double (FP.ddiv x0 (FP.i2d ct))), (.double (FP.ddiv x1 (FP.i2d ct))), (.double (FP.ddiv x2 (FP.i2d ct))), (.double (0 : UInt64))] (.double (0 : UInt64)) at V_ar
  show Go _ _ _ _ _ _ _ _ (mkF m 34 #[.val (.ref a0), .val (.ref ar), .val (.int (2 : Int32))] [])
  refine Go.on (fun _ k => XS.iinc X24.here hx rfl (hb hby d7_34) rfl (l' := #[.val (.ref a0), .val (.ref ar), .val (.int (3 : Int32))]) rfl k) ?_
  show Go _ _ _ _ _ _ _ _ (mkF m 37 #[.val (.ref a0), .val (.ref ar), .val (.int (3 : Int32))] [])
  refine Go.on (fun _ k => XS.goto X24.here hx rfl (pc0 := 37) (pc' := 10) rfl (hb hby d7_37) (by decide) (by decide) k) ?_
  show Go _ _ _ _ _ _ _ _ (mkF m 10 #[.val (.ref a0), .val (.ref ar), .val (.int (3 : Int32))] [])
  refine Go.on (fun _ k => XS.iloadN X24.here hx rfl (hb hby d7_10) rfl k) ?_
  show Go _ _ _ _ _ _ _ _ (mkF m 11 #[.val (.ref a0), .val (.ref ar), .val (.int (3 : Int32))] [(.int (3 : Int32))])
  refine Go.on (fun _ k => XS.aloadN X24.here hx rfl (hb hby d7_11) rfl rfl k) ?_
  show Go _ _ _ _ _ _ _ _ (mkF m 12 #[.val (.ref a0), .val (.ref ar), .val (.int (3 : Int32))] [(.ref a0), (.int (3 : Int32))])
  obtain ⟨T25, X25, e25, st25⟩ := getF X24 hx hZ hown (host := "") (Or.inl (hw _ (List.mem_of_getElem? (i := 10) rfl))) Via.refl e24 F_sum_a0 (g := (mkF m 12 #[.val (.ref a0), .val (.ref ar), .val (.int (3 : Int32))] [(.ref a0), (.int (3 : Int32))])) rfl rfl (hb hby d7_12)
  refine Go.on st25 ?_
  show Go _ _ _ _ _ _ _ _ (mkF m 15 #[.val (.ref a0), .val (.ref ar), .val (.int (3 : Int32))] [(.ref as), (.int (3 : Int32))])
  obtain ⟨cl26, Ar26, -, S26, N26n, -, -⟩ := id V_as
  refine Go.on (X25.arraylength hx (by rw [e25]; exact Ar26.1) (State.isArrayOf_alike hZ.alike Ar26.2.1) (g := (mkF m 15 #[.val (.ref a0), .val (.ref ar), .val (.int (3 : Int32))] [(.ref as), (.int (3 : Int32))])) rfl rfl (hb hby d7_15)) ?_
  rw [len_of S26 N26n]
  show Go _ _ _ _ _ _ _ _ (mkF m 16 #[.val (.ref a0), .val (.ref ar), .val (.int (3 : Int32))] [(.int (4 : Int32)), (.int (3 : Int32))])
  have hc27 : (3 : Int32) < (4 : Int32) := by decide
  refine Go.on (fun _ k => XS.icmpNo X25.here hx rfl (hb hby d7_16) rfl (tlt hc27).2.1 k) ?_
  show Go _ _ _ _ _ _ _ _ (mkF m 19 #[.val (.ref a0), .val (.ref ar), .val (.int (3 : Int32))] [])
  refine Go.on (fun _ k => XS.aloadN X25.here hx rfl (hb hby d7_19) rfl rfl k) ?_
  show Go _ _ _ _ _ _ _ _ (mkF m 20 #[.val (.ref a0), .val (.ref ar), .val (.int (3 : Int32))] [(.ref ar)])
  refine Go.on (fun _ k => XS.iloadN X25.here hx rfl (hb hby d7_20) rfl k) ?_
  show Go _ _ _ _ _ _ _ _ (mkF m 21 #[.val (.ref a0), .val (.ref ar), .val (.int (3 : Int32))] [(.int (3 : Int32)), (.ref ar)])
  refine Go.on (fun _ k => XS.aloadN X25.here hx rfl (hb hby d7_21) rfl rfl k) ?_
  show Go _ _ _ _ _ _ _ _ (mkF m 22 #[.val (.ref a0), .val (.ref ar), .val (.int (3 : Int32))] [(.ref a0), (.int (3 : Int32)), (.ref ar)])
  obtain ⟨T28, X28, e28, st28⟩ := getF X25 hx hZ hown (host := "") (Or.inl (hw _ (List.mem_of_getElem? (i := 10) rfl))) Via.refl e25 F_sum_a0 (g := (mkF m 22 #[.val (.ref a0), .val (.ref ar), .val (.int (3 : Int32))] [(.ref a0), (.int (3 : Int32)), (.ref ar)])) rfl rfl (hb hby d7_22)
  refine Go.on st28 ?_
  show Go _ _ _ _ _ _ _ _ (mkF m 25 #[.val (.ref a0), .val (.ref ar), .val (.int (3 : Int32))] [(.ref as), (.int (3 : Int32)), (.ref ar)])
  refine Go.on (fun _ k => XS.iloadN X28.here hx rfl (hb hby d7_25) rfl k) ?_
  show Go _ _ _ _ _ _ _ _ (mkF m 26 #[.val (.ref a0), .val (.ref ar), .val (.int (3 : Int32))] [(.int (3 : Int32)), (.ref as), (.int (3 : Int32)), (.ref ar)])
  obtain ⟨cl29, Ar29, -, S29, -, H29, -⟩ := id V_as
  have hin29 : ¬ ((3 : Int32) < 0 ∨ cl29.slots.size ≤ ((3 : Int32)).toNatClampNeg) := inb_of S29 ⟨by decide, by decide⟩
  refine Go.on (X28.daload hx (j := (3 : Int32)) (v := (.double x3)) (by rw [e28]; exact Ar29.1) (State.isArrayOf_alike hZ.alike Ar29.2.1) Ar29.2.2 hin29 (H29.at hin29 (rfl)) (g := (mkF m 26 #[.val (.ref a0), .val (.ref ar), .val (.int (3 : Int32))] [(.int (3 : Int32)), (.ref as), (.int (3 : Int32)), (.ref ar)])) rfl rfl (hb hby d7_26)) ?_
  show Go _ _ _ _ _ _ _ _ (mkF m 27 #[.val (.ref a0), .val (.ref ar), .val (.int (3 : Int32))] [(.double x3), (.int (3 : Int32)), (.ref ar)])
  refine Go.on (fun _ k => XS.aloadN X28.here hx rfl (hb hby d7_27) rfl rfl k) ?_
  show Go _ _ _ _ _ _ _ _ (mkF m 28 #[.val (.ref a0), .val (.ref ar), .val (.int (3 : Int32))] [(.ref a0), (.double x3), (.int (3 : Int32)), (.ref ar)])
  obtain ⟨T30, X30, e30, st30⟩ := getF X28 hx hZ hown (host := "") (Or.inl (hw _ (List.mem_of_getElem? (i := 28) rfl))) Via.refl e28 F_count_a0 (g := (mkF m 28 #[.val (.ref a0), .val (.ref ar), .val (.int (3 : Int32))] [(.ref a0), (.double x3), (.int (3 : Int32)), (.ref ar)])) rfl rfl (hb hby d7_28)
  refine Go.on st30 ?_
  show Go _ _ _ _ _ _ _ _ (mkF m 31 #[.val (.ref a0), .val (.ref ar), .val (.int (3 : Int32))] [(.int ct), (.double x3), (.int (3 : Int32)), (.ref ar)])
  refine Go.on (fun _ k => XS.i2dS X30.here hx rfl (hb hby d7_31) rfl rfl k) ?_
  show Go _ _ _ _ _ _ _ _ (mkF m 32 #[.val (.ref a0), .val (.ref ar), .val (.int (3 : Int32))] [(.double (FP.i2d ct)), (.double x3), (.int (3 : Int32)), (.ref ar)])
  refine Go.on (fun _ k => XS.ddivS X30.here hx rfl (hb hby d7_32) rfl (hd3) rfl k) ?_
  show Go _ _ _ _ _ _ _ _ (mkF m 33 #[.val (.ref a0), .val (.ref ar), .val (.int (3 : Int32))] [(.double (FP.ddiv x3 (FP.i2d ct))), (.int (3 : Int32)), (.ref ar)])
  obtain ⟨cl31, Ar31, q31, S31, N31n, H31, G31⟩ := id V_ar
  have hin31 : ¬ ((3 : Int32) < 0 ∨ cl31.slots.size ≤ ((3 : Int32)).toNatClampNeg) := inb_of S31 ⟨by decide, by decide⟩
  obtain ⟨T31, h31, X31, e31, W31, st31⟩ := stD X30 hx hZ e30 Ar31 (j := (3 : Int32)) hin31 (g := (mkF m 33 #[.val (.ref a0), .val (.ref ar), .val (.int (3 : Int32))] [(.double (FP.ddiv x3 (FP.i2d ct))), (.int (3 : Int32)), (.ref ar)])) rfl rfl (hb hby d7_33)
  replace V_ar := Arv.set Ar31 q31 S31 N31n H31 G31 rfl W31 3 rfl (Nat.le_of_ble_eq_true rfl)
  replace F_sum_a0 := F_sum_a0.other W31 (Or.inl ne_a0_ar)
  replace F_count_a0 := F_count_a0.other W31 (Or.inl ne_a0_ar)
  replace V_as := V_as.other W31 ne_as_ar
  refine Go.on st31 ?_
  have N31 := Fr.snoc X31 N24 g_ar
  replace ZZ := Nat.le_trans ZZ (Keep.of_wr W31).1
  replace KP := KP.wr W31 (Or.inr sz_ar)
  change Arv Z h31 ar k_ar .double (4 : Int32) [(.double (FP.ddiv x0 (FP.i2d ct))), (.double (FP.ddiv x1 (FP.i2d ct))), (.double (FP.ddiv x2 (FP.i2d ct))), (.double (FP.ddiv x3 (FP.i2d ct)))] (.double (0 : UInt64)) at V_ar
  show Go _ _ _ _ _ _ _ _ (mkF m 34 #[.val (.ref a0), .val (.ref ar), .val (.int (3 : Int32))] [])
  refine Go.on (fun _ k => XS.iinc X31.here hx rfl (hb hby d7_34) rfl (l' := #[.val (.ref a0), .val (.ref ar), .val (.int (4 : Int32))]) rfl k) ?_
  show Go _ _ _ _ _ _ _ _ (mkF m 37 #[.val (.ref a0), .val (.ref ar), .val (.int (4 : Int32))] [])
  refine Go.on (fun _ k => XS.goto X31.here hx rfl (pc0 := 37) (pc' := 10) rfl (hb hby d7_37) (by decide) (by decide) k) ?_
  show Go _ _ _ _ _ _ _ _ (mkF m 10 #[.val (.ref a0), .val (.ref ar), .val (.int (4 : Int32))] [])
  refine Go.on (fun _ k => XS.iloadN X31.here hx rfl (hb hby d7_10) rfl k) ?_
  show Go _ _ _ _ _ _ _ _ (mkF m 11 #[.val (.ref a0), .val (.ref ar), .val (.int (4 : Int32))] [(.int (4 : Int32))])
  refine Go.on (fun _ k => XS.aloadN X31.here hx rfl (hb hby d7_11) rfl rfl k) ?_
  show Go _ _ _ _ _ _ _ _ (mkF m 12 #[.val (.ref a0), .val (.ref ar), .val (.int (4 : Int32))] [(.ref a0), (.int (4 : Int32))])
  obtain ⟨T32, X32, e32, st32⟩ := getF X31 hx hZ hown (host := "") (Or.inl (hw _ (List.mem_of_getElem? (i := 10) rfl))) Via.refl e31 F_sum_a0 (g := (mkF m 12 #[.val (.ref a0), .val (.ref ar), .val (.int (4 : Int32))] [(.ref a0), (.int (4 : Int32))])) rfl rfl (hb hby d7_12)
  refine Go.on st32 ?_
  show Go _ _ _ _ _ _ _ _ (mkF m 15 #[.val (.ref a0), .val (.ref ar), .val (.int (4 : Int32))] [(.ref as), (.int (4 : Int32))])
  obtain ⟨cl33, Ar33, -, S33, N33n, -, -⟩ := id V_as
  refine Go.on (X32.arraylength hx (by rw [e32]; exact Ar33.1) (State.isArrayOf_alike hZ.alike Ar33.2.1) (g := (mkF m 15 #[.val (.ref a0), .val (.ref ar), .val (.int (4 : Int32))] [(.ref as), (.int (4 : Int32))])) rfl rfl (hb hby d7_15)) ?_
  rw [len_of S33 N33n]
  show Go _ _ _ _ _ _ _ _ (mkF m 16 #[.val (.ref a0), .val (.ref ar), .val (.int (4 : Int32))] [(.int (4 : Int32)), (.int (4 : Int32))])
  have hc34 : ¬ ((4 : Int32) < (4 : Int32)) := by decide
  refine Go.on (fun _ k => XS.icmpYes X32.here hx rfl (pc0 := 16) (pc' := 40) rfl (hb hby d7_16) rfl (flt hc34).2.1 (by decide) (by decide) k) ?_
  show Go _ _ _ _ _ _ _ _ (mkF m 40 #[.val (.ref a0), .val (.ref ar), .val (.int (4 : Int32))] [])
  refine Go.on (fun _ k => XS.aloadN X32.here hx rfl (hb hby d7_40) rfl rfl k) ?_
  show Go _ _ _ _ _ _ _ _ (mkF m 41 #[.val (.ref a0), .val (.ref ar), .val (.int (4 : Int32))] [(.ref ar)])
  refine Go.retV X32 hx Bd.returns rfl (Or.inr (Or.inr (Or.inr (Or.inr ⟨rfl, rfl, rfl⟩)))) (hb hby d7_41) ?_ (by rw [hK1]; decide) (by rw [hK2]; decide)
  rw [e32, ← hQQ]
  exact ⟨ar, k_ar, rfl, N31, KP, sz_ar, V_ar⟩
theorem ef_cp_4 (m : MethodId) (a0 : Addr) (a1 : Addr) (i2 : Int32) (i4 : Int32) (i5 : Int32) (i6 : Int32) (i7 : Int32) : entryFrame m #[(.ref a0), (.ref a1), (.int i2), (.int (4 : Int32)), (.int i4), (.int i5), (.int i6), (.int i7)] 11 = mkF m 0 #[.val (.ref a0), .val (.ref a1), .val (.int i2), .val (.int (4 : Int32)), .val (.int i4), .val (.int i5), .val (.int i6), .val (.int i7), .unset, .unset, .unset] [] := by first | (simp [entryFrame, mkF, argsToLocals, Value.category]; done) | rfl
def Q_cp_4 (Z : State) (a0 : Addr) (a1 : Addr) (i2 : Int32) (i4 : Int32) (i5 : Int32) (i6 : Int32) (i7 : Int32) (k_a0 : ClassId) (x0 : UInt64) (x1 : UInt64) (x2 : UInt64) (x3 : UInt64) (k_a1 : ClassId) (y0 : UInt64) (y1 : UInt64) (y2 : UInt64) (y3 : UInt64) (h0 : Heap) (n0 : Nat) (v : Option Value) (h : Heap) (L : List Loc) : Prop := v = some (.int (compV (if i2 = (0 : Int32) then x0 else (if i2 = (1 : Int32) then x1 else (if i2 = (2 : Int32) then x2 else x3))) (if i2 = (0 : Int32) then y0 else (if i2 = (1 : Int32) then y1 else (if i2 = (2 : Int32) then y2 else y3))) i2 (4 : Int32) i4 i5 i6 i7)) ∧ Fr n0 L ∧ h = h0
set_option maxRecDepth 65536 in
set_option maxHeartbeats 40000000 in
theorem cp_4 (l : Launch) (Z : State) (aw : Array Value) (hw : ∀ d ∈ tables_1, d.before aw Z = true) (ws : List Jvm.Cond) (a0 : Addr) (a1 : Addr) (i2 : Int32) (i4 : Int32) (i5 : Int32) (i6 : Int32) (i7 : Int32) (k_a0 : ClassId) (x0 : UInt64) (x1 : UInt64) (x2 : UInt64) (x3 : UInt64) (k_a1 : ClassId) (y0 : UInt64) (y1 : UInt64) (y2 : UInt64) (y3 : UInt64) (h0 : Heap) (n0 : Nat) (Z0 : n0 ≤ h0.size) (V_a0 : Arv Z h0 a0 k_a0 .double (4 : Int32) [(.double x0), (.double x1), (.double x2), (.double x3)] (.double (0 : UInt64))) (V_a1 : Arv Z h0 a1 k_a1 .double (4 : Int32) [(.double y0), (.double y1), (.double y2), (.double y3)] (.double (0 : UInt64))) (hp : (i2 = (0 : Int32) ∨ i2 = (1 : Int32) ∨ i2 = (2 : Int32) ∨ i2 = (3 : Int32))) (hn4 : i4 ≠ 0) :
    MetFree l (⟨"com/example/d2rank/d2rank/rerank/CentroidMeanPinLaw", "comp", "([D[DIIIIII)Z"⟩ : MethodName) (head1 (Jvm.Cond.code (⟨"com/example/d2rank/d2rank/rerank/CentroidMeanPinLaw", "comp", "([D[DIIIIII)Z"⟩ : MethodName) method_7_code 11 (some .boolean) :: ws) ({ frames := 2, cells := 0, slots := 0, locals := 28 } : Room)) (fun a U => a = #[(.ref a0), (.ref a1), (.int i2), (.int (4 : Int32)), (.int i4), (.int i5), (.int i6), (.int i7)] ∧ Z.Warmed39 U.vm ∧ U.heap = h0) (fun _ _ _ _ _ => True) (fun _ U o U' => ∃ v L, o = .returned v ∧ Q_cp_4 Z a0 a1 i2 i4 i5 i6 i7 k_a0 x0 x1 x2 x3 k_a1 y0 y1 y2 y3 h0 n0 v U'.heap L ∧ FrameEnd U o U' L ({ frames := 2, cells := 0, slots := 0, locals := 28 } : Room).cells ({ frames := 2, cells := 0, slots := 0, locals := 28 } : Room).slots) := by
  refine MetFree.of_bodySF (plainFor_of_name pn_0) hisR ?_
  intro p e s m args below meth c s₁ Bd hml0 hP hK
  obtain ⟨rfl, hZ, hh⟩ := hP
  have hx := Bd.exec
  have hby := Bd.bytes
  have hml : c.maxLocals = 11 := hml0
  have hown : s.vm.findClass "com/example/d2rank/d2rank/rerank/CentroidMeanPinLaw" = some m.cls := findClass_of_methodNamed Bd.named
  have hnm := (name_of_methodNamed Bd.named Bd.method).1
  have hlk : meth.locks = false := BodyLoose.notSynchronized Bd
  have X0 : Stand p l e ({ frames := 2, cells := 0, slots := 0, locals := 28 } : Room) s m #[(.ref a0), (.ref a1), (.int i2), (.int (4 : Int32)), (.int i4), (.int i5), (.int i6), (.int i7)] below meth c s₁ [] 0 0 := Stand.of_body Bd
  have e0 : s₁.heap = h0 := by rw [← hh, Bd.state]; rfl
  have N0 := Fr.nil n0
  have ZZ := Z0
  show Go p e below s ({ frames := 2, cells := 0, slots := 0, locals := 28 } : Room).cells ({ frames := 2, cells := 0, slots := 0, locals := 28 } : Room).slots (fun v h L => Q_cp_4 Z a0 a1 i2 i4 i5 i6 i7 k_a0 x0 x1 x2 x3 k_a1 y0 y1 y2 y3 h0 n0 v h L) s₁ (entryFrame m #[(.ref a0), (.ref a1), (.int i2), (.int (4 : Int32)), (.int i4), (.int i5), (.int i6), (.int i7)] 11)
  refine Go.cast (ef_cp_4 m a0 a1 i2 i4 i5 i6 i7) ?_
  refine Go.gen ?_
  intro K1 K2 QQ hK1 hK2 hQQ
  refine Go.on (fun _ k => XS.iloadN X0.here hx rfl (hb hby d8_0) rfl k) ?_
  show Go _ _ _ _ _ _ _ _ (mkF m 1 #[.val (.ref a0), .val (.ref a1), .val (.int i2), .val (.int (4 : Int32)), .val (.int i4), .val (.int i5), .val (.int i6), .val (.int i7), .unset, .unset, .unset] [(.int i2)])
  refine Go.on (fun _ k => XS.iloadN X0.here hx rfl (hb hby d8_1) rfl k) ?_
  show Go _ _ _ _ _ _ _ _ (mkF m 2 #[.val (.ref a0), .val (.ref a1), .val (.int i2), .val (.int (4 : Int32)), .val (.int i4), .val (.int i5), .val (.int i6), .val (.int i7), .unset, .unset, .unset] [(.int (4 : Int32)), (.int i2)])
  have hc1 : i2 < (4 : Int32) := (own_inb4 hp).2
  refine Go.on (fun _ k => XS.icmpYes X0.here hx rfl (pc0 := 2) (pc' := 7) rfl (hb hby d8_2) rfl (tlt hc1).1 (by decide) (by decide) k) ?_
  show Go _ _ _ _ _ _ _ _ (mkF m 7 #[.val (.ref a0), .val (.ref a1), .val (.int i2), .val (.int (4 : Int32)), .val (.int i4), .val (.int i5), .val (.int i6), .val (.int i7), .unset, .unset, .unset] [])
  refine Go.on (fun _ k => XS.iload X0.here hx rfl (hb hby d8_7) rfl k) ?_
  show Go _ _ _ _ _ _ _ _ (mkF m 9 #[.val (.ref a0), .val (.ref a1), .val (.int i2), .val (.int (4 : Int32)), .val (.int i4), .val (.int i5), .val (.int i6), .val (.int i7), .unset, .unset, .unset] [(.int i5)])
  refine Go.on (fun _ k => XS.iloadN X0.here hx rfl (hb hby d8_9) rfl k) ?_
  show Go _ _ _ _ _ _ _ _ (mkF m 10 #[.val (.ref a0), .val (.ref a1), .val (.int i2), .val (.int (4 : Int32)), .val (.int i4), .val (.int i5), .val (.int i6), .val (.int i7), .unset, .unset, .unset] [(.int i2), (.int i5)])
  refine Go.on (fun _ k => XS.iloadN X0.here hx rfl (hb hby d8_10) rfl k) ?_
  show Go _ _ _ _ _ _ _ _ (mkF m 11 #[.val (.ref a0), .val (.ref a1), .val (.int i2), .val (.int (4 : Int32)), .val (.int i4), .val (.int i5), .val (.int i6), .val (.int i7), .unset, .unset, .unset] [(.int (4 : Int32)), (.int i2), (.int i5)])
  obtain ⟨_, _, ⟨T2, L2, k2, n2⟩, -, X2, ⟨Lc2, hQ2, l2, y2, z2⟩, st2⟩ := Jvm.LawKit.callS X0 hx (y := (⟨"com/example/d2rank/d2rank/rerank/CentroidMeanPinLaw", "contrib", "(III)I"⟩ : MethodName)) hown (mvT hZ (hw _ (List.mem_of_getElem? (i := 38) rfl))) (mvT hZ (hw _ (List.mem_of_getElem? (i := 39) rfl))) (mvT hZ (hw _ (List.mem_of_getElem? (i := 14) rfl))) (mvT hZ (hw _ (List.mem_of_getElem? (i := 40) rfl))) (by decide) (backOf (W := 0) (rm9 l Z aw hw [] i5 i2 (4 : Int32)  h0 n0 ZZ (by decide)) hZ (hw _ (List.mem_of_getElem? (i := 40) rfl)) (hw _ (List.mem_of_getElem? (i := 14) rfl)) (by decide) (by decide)) (g := (mkF m 11 #[.val (.ref a0), .val (.ref a1), .val (.int i2), .val (.int (4 : Int32)), .val (.int i4), .val (.int i5), .val (.int i6), .val (.int i7), .unset, .unset, .unset] [(.int (4 : Int32)), (.int i2), (.int i5)])) rfl (by rw [hml]; rfl) (argsL := [(.int i5), (.int i2), (.int (4 : Int32))]) (rest := []) (lenOf pd_2 rfl) rfl (by show 2 * 0 + _ ≤ _; exact Nat.le_of_eq rfl) (hb hby d8_11) (fun _ _ => ⟨rfl, e0, (by decide : 0 + 0 ≤ _), (by decide : 0 + 0 ≤ _)⟩)
  dsimp only [Pt.U, Pt.locs, Pt.cells, Pt.slots] at X2 l2 y2 z2 st2 hQ2
  subst l2 y2 z2
  obtain ⟨rfl, N2q, e2⟩ := hQ2
  have N2 := Fr.app N0 N2q
  refine Go.on st2 ?_
  show Go _ _ _ _ _ _ _ _ (mkF m 14 #[.val (.ref a0), .val (.ref a1), .val (.int i2), .val (.int (4 : Int32)), .val (.int i4), .val (.int i5), .val (.int i6), .val (.int i7), .unset, .unset, .unset] [(.int (contribV i5 i2 (4 : Int32)))])
  refine Go.on (fun _ k => XS.istore X2.here hx rfl (hb hby d8_14) rfl (l' := #[.val (.ref a0), .val (.ref a1), .val (.int i2), .val (.int (4 : Int32)), .val (.int i4), .val (.int i5), .val (.int i6), .val (.int i7), .val (.int (contribV i5 i2 (4 : Int32))), .unset, .unset]) rfl k) ?_
  show Go _ _ _ _ _ _ _ _ (mkF m 16 #[.val (.ref a0), .val (.ref a1), .val (.int i2), .val (.int (4 : Int32)), .val (.int i4), .val (.int i5), .val (.int i6), .val (.int i7), .val (.int (contribV i5 i2 (4 : Int32))), .unset, .unset] [])
  refine Go.on (fun _ k => XS.iload X2.here hx rfl (hb hby d8_16) rfl k) ?_
  show Go _ _ _ _ _ _ _ _ (mkF m 18 #[.val (.ref a0), .val (.ref a1), .val (.int i2), .val (.int (4 : Int32)), .val (.int i4), .val (.int i5), .val (.int i6), .val (.int i7), .val (.int (contribV i5 i2 (4 : Int32))), .unset, .unset] [(.int i4)])
  refine Go.on (fun _ k => XS.iconst X2.here hx rfl (hb hby d8_18) k) ?_
  show Go _ _ _ _ _ _ _ _ (mkF m 19 #[.val (.ref a0), .val (.ref a1), .val (.int i2), .val (.int (4 : Int32)), .val (.int i4), .val (.int i5), .val (.int i6), .val (.int i7), .val (.int (contribV i5 i2 (4 : Int32))), .unset, .unset] [(.int (2 : Int32)), (.int i4)])
  by_cases hc3 : i4 < (2 : Int32)
  · -- pc 19 yes
    refine Go.on (fun _ k => XS.icmpYes X2.here hx rfl (pc0 := 19) (pc' := 34) rfl (hb hby d8_19) rfl (tlt hc3).1 (by decide) (by decide) k) ?_
    show Go _ _ _ _ _ _ _ _ (mkF m 34 #[.val (.ref a0), .val (.ref a1), .val (.int i2), .val (.int (4 : Int32)), .val (.int i4), .val (.int i5), .val (.int i6), .val (.int i7), .val (.int (contribV i5 i2 (4 : Int32))), .unset, .unset] [])
    refine Go.on (fun _ k => XS.iload X2.here hx rfl (hb hby d8_34) rfl k) ?_
    show Go _ _ _ _ _ _ _ _ (mkF m 36 #[.val (.ref a0), .val (.ref a1), .val (.int i2), .val (.int (4 : Int32)), .val (.int i4), .val (.int i5), .val (.int i6), .val (.int i7), .val (.int (contribV i5 i2 (4 : Int32))), .unset, .unset] [(.int i4)])
    refine Go.on (fun _ k => XS.iconst X2.here hx rfl (hb hby d8_36) k) ?_
    show Go _ _ _ _ _ _ _ _ (mkF m 37 #[.val (.ref a0), .val (.ref a1), .val (.int i2), .val (.int (4 : Int32)), .val (.int i4), .val (.int i5), .val (.int i6), .val (.int i7), .val (.int (contribV i5 i2 (4 : Int32))), .unset, .unset] [(.int (3 : Int32)), (.int i4)])
    by_cases hc4 : i4 < (3 : Int32)
    · -- pc 37 yes
      refine Go.on (fun _ k => XS.icmpYes X2.here hx rfl (pc0 := 37) (pc' := 52) rfl (hb hby d8_37) rfl (tlt hc4).1 (by decide) (by decide) k) ?_
      show Go _ _ _ _ _ _ _ _ (mkF m 52 #[.val (.ref a0), .val (.ref a1), .val (.int i2), .val (.int (4 : Int32)), .val (.int i4), .val (.int i5), .val (.int i6), .val (.int i7), .val (.int (contribV i5 i2 (4 : Int32))), .unset, .unset] [])
      refine Go.on (fun _ k => XS.iload X2.here hx rfl (hb hby d8_52) rfl k) ?_
      show Go _ _ _ _ _ _ _ _ (mkF m 54 #[.val (.ref a0), .val (.ref a1), .val (.int i2), .val (.int (4 : Int32)), .val (.int i4), .val (.int i5), .val (.int i6), .val (.int i7), .val (.int (contribV i5 i2 (4 : Int32))), .unset, .unset] [(.int (contribV i5 i2 (4 : Int32)))])
      refine Go.on (fun _ k => XS.i2dS X2.here hx rfl (hb hby d8_54) rfl rfl k) ?_
      show Go _ _ _ _ _ _ _ _ (mkF m 55 #[.val (.ref a0), .val (.ref a1), .val (.int i2), .val (.int (4 : Int32)), .val (.int i4), .val (.int i5), .val (.int i6), .val (.int i7), .val (.int (contribV i5 i2 (4 : Int32))), .unset, .unset] [(.double (FP.i2d (contribV i5 i2 (4 : Int32))))])
      refine Go.on (fun _ k => XS.iload X2.here hx rfl (hb hby d8_55) rfl k) ?_
      show Go _ _ _ _ _ _ _ _ (mkF m 57 #[.val (.ref a0), .val (.ref a1), .val (.int i2), .val (.int (4 : Int32)), .val (.int i4), .val (.int i5), .val (.int i6), .val (.int i7), .val (.int (contribV i5 i2 (4 : Int32))), .unset, .unset] [(.int i4), (.double (FP.i2d (contribV i5 i2 (4 : Int32))))])
      refine Go.on (fun _ k => XS.i2dS X2.here hx rfl (hb hby d8_57) rfl rfl k) ?_
      show Go _ _ _ _ _ _ _ _ (mkF m 58 #[.val (.ref a0), .val (.ref a1), .val (.int i2), .val (.int (4 : Int32)), .val (.int i4), .val (.int i5), .val (.int i6), .val (.int i7), .val (.int (contribV i5 i2 (4 : Int32))), .unset, .unset] [(.double (FP.i2d i4)), (.double (FP.i2d (contribV i5 i2 (4 : Int32))))])
      refine Go.on (fun _ k => XS.ddivS X2.here hx rfl (hb hby d8_58) rfl (own_nnd' (Jvm.FP.Core.i2d_fin _) _ hn4) rfl k) ?_
      show Go _ _ _ _ _ _ _ _ (mkF m 59 #[.val (.ref a0), .val (.ref a1), .val (.int i2), .val (.int (4 : Int32)), .val (.int i4), .val (.int i5), .val (.int i6), .val (.int i7), .val (.int (contribV i5 i2 (4 : Int32))), .unset, .unset] [(.double (FP.ddiv (FP.i2d (contribV i5 i2 (4 : Int32))) (FP.i2d i4)))])
      refine Go.on (fun _ k => XS.dstore X2.here hx rfl (hb hby d8_59) rfl (l' := #[.val (.ref a0), .val (.ref a1), .val (.int i2), .val (.int (4 : Int32)), .val (.int i4), .val (.int i5), .val (.int i6), .val (.int i7), .val (.int (contribV i5 i2 (4 : Int32))), .val (.double (FP.ddiv (FP.i2d (contribV i5 i2 (4 : Int32))) (FP.i2d i4))), .second]) rfl k) ?_
      show Go _ _ _ _ _ _ _ _ (mkF m 61 #[.val (.ref a0), .val (.ref a1), .val (.int i2), .val (.int (4 : Int32)), .val (.int i4), .val (.int i5), .val (.int i6), .val (.int i7), .val (.int (contribV i5 i2 (4 : Int32))), .val (.double (FP.ddiv (FP.i2d (contribV i5 i2 (4 : Int32))) (FP.i2d i4))), .second] [])
      refine Go.on (fun _ k => XS.aloadN X2.here hx rfl (hb hby d8_61) rfl rfl k) ?_
      show Go _ _ _ _ _ _ _ _ (mkF m 62 #[.val (.ref a0), .val (.ref a1), .val (.int i2), .val (.int (4 : Int32)), .val (.int i4), .val (.int i5), .val (.int i6), .val (.int i7), .val (.int (contribV i5 i2 (4 : Int32))), .val (.double (FP.ddiv (FP.i2d (contribV i5 i2 (4 : Int32))) (FP.i2d i4))), .second] [(.ref a0)])
      refine Go.on (fun _ k => XS.iloadN X2.here hx rfl (hb hby d8_62) rfl k) ?_
      show Go _ _ _ _ _ _ _ _ (mkF m 63 #[.val (.ref a0), .val (.ref a1), .val (.int i2), .val (.int (4 : Int32)), .val (.int i4), .val (.int i5), .val (.int i6), .val (.int i7), .val (.int (contribV i5 i2 (4 : Int32))), .val (.double (FP.ddiv (FP.i2d (contribV i5 i2 (4 : Int32))) (FP.i2d i4))), .second] [(.int i2), (.ref a0)])
      obtain ⟨cl5, Ar5, -, S5, -, H5, -⟩ := id V_a0
      have hin5 : ¬ (i2 < 0 ∨ cl5.slots.size ≤ (i2).toNatClampNeg) := inb_of S5 (own_inb4 hp)
      refine Go.on (X2.daload hx (j := i2) (v := (.double (if i2 = (0 : Int32) then x0 else (if i2 = (1 : Int32) then x1 else (if i2 = (2 : Int32) then x2 else x3))))) (by rw [e2]; exact Ar5.1) (State.isArrayOf_alike hZ.alike Ar5.2.1) Ar5.2.2 hin5 (H5.at hin5 (own_get4 hp _ _ _ _ _)) (g := (mkF m 63 #[.val (.ref a0), .val (.ref a1), .val (.int i2), .val (.int (4 : Int32)), .val (.int i4), .val (.int i5), .val (.int i6), .val (.int i7), .val (.int (contribV i5 i2 (4 : Int32))), .val (.double (FP.ddiv (FP.i2d (contribV i5 i2 (4 : Int32))) (FP.i2d i4))), .second] [(.int i2), (.ref a0)])) rfl rfl (hb hby d8_63)) ?_
      show Go _ _ _ _ _ _ _ _ (mkF m 64 #[.val (.ref a0), .val (.ref a1), .val (.int i2), .val (.int (4 : Int32)), .val (.int i4), .val (.int i5), .val (.int i6), .val (.int i7), .val (.int (contribV i5 i2 (4 : Int32))), .val (.double (FP.ddiv (FP.i2d (contribV i5 i2 (4 : Int32))) (FP.i2d i4))), .second] [(.double (if i2 = (0 : Int32) then x0 else (if i2 = (1 : Int32) then x1 else (if i2 = (2 : Int32) then x2 else x3))))])
      refine Go.on (fun _ k => XS.dload X2.here hx rfl (hb hby d8_64) rfl k) ?_
      show Go _ _ _ _ _ _ _ _ (mkF m 66 #[.val (.ref a0), .val (.ref a1), .val (.int i2), .val (.int (4 : Int32)), .val (.int i4), .val (.int i5), .val (.int i6), .val (.int i7), .val (.int (contribV i5 i2 (4 : Int32))), .val (.double (FP.ddiv (FP.i2d (contribV i5 i2 (4 : Int32))) (FP.i2d i4))), .second] [(.double (FP.ddiv (FP.i2d (contribV i5 i2 (4 : Int32))) (FP.i2d i4))), (.double (if i2 = (0 : Int32) then x0 else (if i2 = (1 : Int32) then x1 else (if i2 = (2 : Int32) then x2 else x3))))])
      refine Go.on (fun _ k => XS.dcmpS X2.here hx rfl (hb hby d8_66) rfl rfl k) ?_
      show Go _ _ _ _ _ _ _ _ (mkF m 67 #[.val (.ref a0), .val (.ref a1), .val (.int i2), .val (.int (4 : Int32)), .val (.int i4), .val (.int i5), .val (.int i6), .val (.int i7), .val (.int (contribV i5 i2 (4 : Int32))), .val (.double (FP.ddiv (FP.i2d (contribV i5 i2 (4 : Int32))) (FP.i2d i4))), .second] [(.int (cmpValue (FP.dcmp (if i2 = (0 : Int32) then x0 else (if i2 = (1 : Int32) then x1 else (if i2 = (2 : Int32) then x2 else x3))) (FP.ddiv (FP.i2d (contribV i5 i2 (4 : Int32))) (FP.i2d i4))) .l))])
      by_cases hc6 : (cmpValue (FP.dcmp (if i2 = (0 : Int32) then x0 else (if i2 = (1 : Int32) then x1 else (if i2 = (2 : Int32) then x2 else x3))) (FP.ddiv (FP.i2d (contribV i5 i2 (4 : Int32))) (FP.i2d i4))) .l) = (0 : Int32)
      · -- pc 67 yes
        refine Go.on (fun _ k => XS.ifNo X2.here hx rfl (hb hby d8_67) rfl ((if0 _ _).trans (teq hc6).2) k) ?_
        show Go _ _ _ _ _ _ _ _ (mkF m 70 #[.val (.ref a0), .val (.ref a1), .val (.int i2), .val (.int (4 : Int32)), .val (.int i4), .val (.int i5), .val (.int i6), .val (.int i7), .val (.int (contribV i5 i2 (4 : Int32))), .val (.double (FP.ddiv (FP.i2d (contribV i5 i2 (4 : Int32))) (FP.i2d i4))), .second] [])
        refine Go.on (fun _ k => XS.aloadN X2.here hx rfl (hb hby d8_70) rfl rfl k) ?_
        show Go _ _ _ _ _ _ _ _ (mkF m 71 #[.val (.ref a0), .val (.ref a1), .val (.int i2), .val (.int (4 : Int32)), .val (.int i4), .val (.int i5), .val (.int i6), .val (.int i7), .val (.int (contribV i5 i2 (4 : Int32))), .val (.double (FP.ddiv (FP.i2d (contribV i5 i2 (4 : Int32))) (FP.i2d i4))), .second] [(.ref a1)])
        refine Go.on (fun _ k => XS.iloadN X2.here hx rfl (hb hby d8_71) rfl k) ?_
        show Go _ _ _ _ _ _ _ _ (mkF m 72 #[.val (.ref a0), .val (.ref a1), .val (.int i2), .val (.int (4 : Int32)), .val (.int i4), .val (.int i5), .val (.int i6), .val (.int i7), .val (.int (contribV i5 i2 (4 : Int32))), .val (.double (FP.ddiv (FP.i2d (contribV i5 i2 (4 : Int32))) (FP.i2d i4))), .second] [(.int i2), (.ref a1)])
        obtain ⟨cl7, Ar7, -, S7, -, H7, -⟩ := id V_a1
        have hin7 : ¬ (i2 < 0 ∨ cl7.slots.size ≤ (i2).toNatClampNeg) := inb_of S7 (own_inb4 hp)
        refine Go.on (X2.daload hx (j := i2) (v := (.double (if i2 = (0 : Int32) then y0 else (if i2 = (1 : Int32) then y1 else (if i2 = (2 : Int32) then y2 else y3))))) (by rw [e2]; exact Ar7.1) (State.isArrayOf_alike hZ.alike Ar7.2.1) Ar7.2.2 hin7 (H7.at hin7 (own_get4 hp _ _ _ _ _)) (g := (mkF m 72 #[.val (.ref a0), .val (.ref a1), .val (.int i2), .val (.int (4 : Int32)), .val (.int i4), .val (.int i5), .val (.int i6), .val (.int i7), .val (.int (contribV i5 i2 (4 : Int32))), .val (.double (FP.ddiv (FP.i2d (contribV i5 i2 (4 : Int32))) (FP.i2d i4))), .second] [(.int i2), (.ref a1)])) rfl rfl (hb hby d8_72)) ?_
        show Go _ _ _ _ _ _ _ _ (mkF m 73 #[.val (.ref a0), .val (.ref a1), .val (.int i2), .val (.int (4 : Int32)), .val (.int i4), .val (.int i5), .val (.int i6), .val (.int i7), .val (.int (contribV i5 i2 (4 : Int32))), .val (.double (FP.ddiv (FP.i2d (contribV i5 i2 (4 : Int32))) (FP.i2d i4))), .second] [(.double (if i2 = (0 : Int32) then y0 else (if i2 = (1 : Int32) then y1 else (if i2 = (2 : Int32) then y2 else y3))))])
        refine Go.on (fun _ k => XS.dload X2.here hx rfl (hb hby d8_73) rfl k) ?_
        show Go _ _ _ _ _ _ _ _ (mkF m 75 #[.val (.ref a0), .val (.ref a1), .val (.int i2), .val (.int (4 : Int32)), .val (.int i4), .val (.int i5), .val (.int i6), .val (.int i7), .val (.int (contribV i5 i2 (4 : Int32))), .val (.double (FP.ddiv (FP.i2d (contribV i5 i2 (4 : Int32))) (FP.i2d i4))), .second] [(.double (FP.ddiv (FP.i2d (contribV i5 i2 (4 : Int32))) (FP.i2d i4))), (.double (if i2 = (0 : Int32) then y0 else (if i2 = (1 : Int32) then y1 else (if i2 = (2 : Int32) then y2 else y3))))])
        refine Go.on (fun _ k => XS.dcmpS X2.here hx rfl (hb hby d8_75) rfl rfl k) ?_
        show Go _ _ _ _ _ _ _ _ (mkF m 76 #[.val (.ref a0), .val (.ref a1), .val (.int i2), .val (.int (4 : Int32)), .val (.int i4), .val (.int i5), .val (.int i6), .val (.int i7), .val (.int (contribV i5 i2 (4 : Int32))), .val (.double (FP.ddiv (FP.i2d (contribV i5 i2 (4 : Int32))) (FP.i2d i4))), .second] [(.int (cmpValue (FP.dcmp (if i2 = (0 : Int32) then y0 else (if i2 = (1 : Int32) then y1 else (if i2 = (2 : Int32) then y2 else y3))) (FP.ddiv (FP.i2d (contribV i5 i2 (4 : Int32))) (FP.i2d i4))) .l))])
        suffices hJ9 : ∀ (v8 : Int32), v8 = (if (cmpValue (FP.dcmp (if i2 = (0 : Int32) then y0 else (if i2 = (1 : Int32) then y1 else (if i2 = (2 : Int32) then y2 else y3))) (FP.ddiv (FP.i2d (contribV i5 i2 (4 : Int32))) (FP.i2d i4))) .l) = (0 : Int32) then (1 : Int32) else (0 : Int32)) → Go p e below s K1 K2 QQ T2 (mkF m 84 #[.val (.ref a0), .val (.ref a1), .val (.int i2), .val (.int (4 : Int32)), .val (.int i4), .val (.int i5), .val (.int i6), .val (.int i7), .val (.int (contribV i5 i2 (4 : Int32))), .val (.double (FP.ddiv (FP.i2d (contribV i5 i2 (4 : Int32))) (FP.i2d i4))), .second] [(.int v8)]) by
          by_cases hc10 : (cmpValue (FP.dcmp (if i2 = (0 : Int32) then y0 else (if i2 = (1 : Int32) then y1 else (if i2 = (2 : Int32) then y2 else y3))) (FP.ddiv (FP.i2d (contribV i5 i2 (4 : Int32))) (FP.i2d i4))) .l) = (0 : Int32)
          · -- pc 76 yes
            refine Go.on (fun _ k => XS.ifNo X2.here hx rfl (hb hby d8_76) rfl ((if0 _ _).trans (teq hc10).2) k) ?_
            show Go _ _ _ _ _ _ _ _ (mkF m 79 #[.val (.ref a0), .val (.ref a1), .val (.int i2), .val (.int (4 : Int32)), .val (.int i4), .val (.int i5), .val (.int i6), .val (.int i7), .val (.int (contribV i5 i2 (4 : Int32))), .val (.double (FP.ddiv (FP.i2d (contribV i5 i2 (4 : Int32))) (FP.i2d i4))), .second] [])
            refine Go.on (fun _ k => XS.iconst X2.here hx rfl (hb hby d8_79) k) ?_
            show Go _ _ _ _ _ _ _ _ (mkF m 80 #[.val (.ref a0), .val (.ref a1), .val (.int i2), .val (.int (4 : Int32)), .val (.int i4), .val (.int i5), .val (.int i6), .val (.int i7), .val (.int (contribV i5 i2 (4 : Int32))), .val (.double (FP.ddiv (FP.i2d (contribV i5 i2 (4 : Int32))) (FP.i2d i4))), .second] [(.int (1 : Int32))])
            refine Go.on (fun _ k => XS.goto X2.here hx rfl (pc0 := 80) (pc' := 84) rfl (hb hby d8_80) (by decide) (by decide) k) ?_
            show Go _ _ _ _ _ _ _ _ (mkF m 84 #[.val (.ref a0), .val (.ref a1), .val (.int i2), .val (.int (4 : Int32)), .val (.int i4), .val (.int i5), .val (.int i6), .val (.int i7), .val (.int (contribV i5 i2 (4 : Int32))), .val (.double (FP.ddiv (FP.i2d (contribV i5 i2 (4 : Int32))) (FP.i2d i4))), .second] [(.int (1 : Int32))])
            exact hJ9 _ (by rw [if_pos hc10])
          · -- pc 76 no
            refine Go.on (fun _ k => XS.ifYes X2.here hx rfl (pc0 := 76) (pc' := 83) rfl (hb hby d8_76) rfl ((if0 _ _).trans (feq hc10).2) (by decide) (by decide) k) ?_
            show Go _ _ _ _ _ _ _ _ (mkF m 83 #[.val (.ref a0), .val (.ref a1), .val (.int i2), .val (.int (4 : Int32)), .val (.int i4), .val (.int i5), .val (.int i6), .val (.int i7), .val (.int (contribV i5 i2 (4 : Int32))), .val (.double (FP.ddiv (FP.i2d (contribV i5 i2 (4 : Int32))) (FP.i2d i4))), .second] [])
            refine Go.on (fun _ k => XS.iconst X2.here hx rfl (hb hby d8_83) k) ?_
            show Go _ _ _ _ _ _ _ _ (mkF m 84 #[.val (.ref a0), .val (.ref a1), .val (.int i2), .val (.int (4 : Int32)), .val (.int i4), .val (.int i5), .val (.int i6), .val (.int i7), .val (.int (contribV i5 i2 (4 : Int32))), .val (.double (FP.ddiv (FP.i2d (contribV i5 i2 (4 : Int32))) (FP.i2d i4))), .second] [(.int (0 : Int32))])
            exact hJ9 _ (by rw [if_neg hc10])
        intro v8 hv8
        refine Go.retN X2 hx (t := .boolean) Bd.returns (by simp) (hb hby d8_84) ?_ (by rw [hK1]; decide) (by rw [hK2]; decide)
        rw [e2, ← hQQ]
        refine ⟨?_, N2, rfl⟩
        unfold compV compT; rw [if_pos hc3, if_pos hc4, if_pos hc6]; rw [hv8]; (repeat' split) <;> rfl
      · -- pc 67 no
        refine Go.on (fun _ k => XS.ifYes X2.here hx rfl (pc0 := 67) (pc' := 83) rfl (hb hby d8_67) rfl ((if0 _ _).trans (feq hc6).2) (by decide) (by decide) k) ?_
        show Go _ _ _ _ _ _ _ _ (mkF m 83 #[.val (.ref a0), .val (.ref a1), .val (.int i2), .val (.int (4 : Int32)), .val (.int i4), .val (.int i5), .val (.int i6), .val (.int i7), .val (.int (contribV i5 i2 (4 : Int32))), .val (.double (FP.ddiv (FP.i2d (contribV i5 i2 (4 : Int32))) (FP.i2d i4))), .second] [])
        refine Go.on (fun _ k => XS.iconst X2.here hx rfl (hb hby d8_83) k) ?_
        show Go _ _ _ _ _ _ _ _ (mkF m 84 #[.val (.ref a0), .val (.ref a1), .val (.int i2), .val (.int (4 : Int32)), .val (.int i4), .val (.int i5), .val (.int i6), .val (.int i7), .val (.int (contribV i5 i2 (4 : Int32))), .val (.double (FP.ddiv (FP.i2d (contribV i5 i2 (4 : Int32))) (FP.i2d i4))), .second] [(.int (0 : Int32))])
        refine Go.retN X2 hx (t := .boolean) Bd.returns (by simp) (hb hby d8_84) ?_ (by rw [hK1]; decide) (by rw [hK2]; decide)
        rw [e2, ← hQQ]
        refine ⟨?_, N2, rfl⟩
        unfold compV compT; rw [if_pos hc3, if_pos hc4, if_neg hc6]; rfl
    · -- pc 37 no
      refine Go.on (fun _ k => XS.icmpNo X2.here hx rfl (hb hby d8_37) rfl (flt hc4).1 k) ?_
      show Go _ _ _ _ _ _ _ _ (mkF m 40 #[.val (.ref a0), .val (.ref a1), .val (.int i2), .val (.int (4 : Int32)), .val (.int i4), .val (.int i5), .val (.int i6), .val (.int i7), .val (.int (contribV i5 i2 (4 : Int32))), .unset, .unset] [])
      refine Go.on (fun _ k => XS.iload X2.here hx rfl (hb hby d8_40) rfl k) ?_
      show Go _ _ _ _ _ _ _ _ (mkF m 42 #[.val (.ref a0), .val (.ref a1), .val (.int i2), .val (.int (4 : Int32)), .val (.int i4), .val (.int i5), .val (.int i6), .val (.int i7), .val (.int (contribV i5 i2 (4 : Int32))), .unset, .unset] [(.int (contribV i5 i2 (4 : Int32)))])
      refine Go.on (fun _ k => XS.iload X2.here hx rfl (hb hby d8_42) rfl k) ?_
      show Go _ _ _ _ _ _ _ _ (mkF m 44 #[.val (.ref a0), .val (.ref a1), .val (.int i2), .val (.int (4 : Int32)), .val (.int i4), .val (.int i5), .val (.int i6), .val (.int i7), .val (.int (contribV i5 i2 (4 : Int32))), .unset, .unset] [(.int i7), (.int (contribV i5 i2 (4 : Int32)))])
      refine Go.on (fun _ k => XS.iloadN X2.here hx rfl (hb hby d8_44) rfl k) ?_
      show Go _ _ _ _ _ _ _ _ (mkF m 45 #[.val (.ref a0), .val (.ref a1), .val (.int i2), .val (.int (4 : Int32)), .val (.int i4), .val (.int i5), .val (.int i6), .val (.int i7), .val (.int (contribV i5 i2 (4 : Int32))), .unset, .unset] [(.int i2), (.int i7), (.int (contribV i5 i2 (4 : Int32)))])
      refine Go.on (fun _ k => XS.iloadN X2.here hx rfl (hb hby d8_45) rfl k) ?_
      show Go _ _ _ _ _ _ _ _ (mkF m 46 #[.val (.ref a0), .val (.ref a1), .val (.int i2), .val (.int (4 : Int32)), .val (.int i4), .val (.int i5), .val (.int i6), .val (.int i7), .val (.int (contribV i5 i2 (4 : Int32))), .unset, .unset] [(.int (4 : Int32)), (.int i2), (.int i7), (.int (contribV i5 i2 (4 : Int32)))])
      obtain ⟨_, _, ⟨T11, L11, k11, n11⟩, -, X11, ⟨Lc11, hQ11, l11, y11, z11⟩, st11⟩ := Jvm.LawKit.callS X2 hx (y := (⟨"com/example/d2rank/d2rank/rerank/CentroidMeanPinLaw", "contrib", "(III)I"⟩ : MethodName)) hown (mvT hZ (hw _ (List.mem_of_getElem? (i := 38) rfl))) (mvT hZ (hw _ (List.mem_of_getElem? (i := 39) rfl))) (mvT hZ (hw _ (List.mem_of_getElem? (i := 14) rfl))) (mvT hZ (hw _ (List.mem_of_getElem? (i := 40) rfl))) (by decide) (backOf (W := 1) (rm9 l Z aw hw [] i7 i2 (4 : Int32)  h0 n0 ZZ (by decide)) hZ (hw _ (List.mem_of_getElem? (i := 40) rfl)) (hw _ (List.mem_of_getElem? (i := 14) rfl)) (by decide) (by decide)) (g := (mkF m 46 #[.val (.ref a0), .val (.ref a1), .val (.int i2), .val (.int (4 : Int32)), .val (.int i4), .val (.int i5), .val (.int i6), .val (.int i7), .val (.int (contribV i5 i2 (4 : Int32))), .unset, .unset] [(.int (4 : Int32)), (.int i2), (.int i7), (.int (contribV i5 i2 (4 : Int32)))])) rfl (by rw [hml]; rfl) (argsL := [(.int i7), (.int i2), (.int (4 : Int32))]) (rest := [(.int (contribV i5 i2 (4 : Int32)))]) (lenOf pd_2 rfl) rfl (by show 2 * 0 + _ ≤ _; exact Nat.le_of_eq rfl) (hb hby d8_46) (fun _ _ => ⟨rfl, e2, (by decide : 0 + 0 ≤ _), (by decide : 0 + 0 ≤ _)⟩)
      dsimp only [Pt.U, Pt.locs, Pt.cells, Pt.slots] at X11 l11 y11 z11 st11 hQ11
      subst l11 y11 z11
      obtain ⟨rfl, N11q, e11⟩ := hQ11
      have N11 := Fr.app N2 N11q
      refine Go.on st11 ?_
      show Go _ _ _ _ _ _ _ _ (mkF m 49 #[.val (.ref a0), .val (.ref a1), .val (.int i2), .val (.int (4 : Int32)), .val (.int i4), .val (.int i5), .val (.int i6), .val (.int i7), .val (.int (contribV i5 i2 (4 : Int32))), .unset, .unset] [(.int (contribV i7 i2 (4 : Int32))), (.int (contribV i5 i2 (4 : Int32)))])
      refine Go.on (fun _ k => XS.iadd X11.here hx rfl (hb hby d8_49) rfl k) ?_
      show Go _ _ _ _ _ _ _ _ (mkF m 50 #[.val (.ref a0), .val (.ref a1), .val (.int i2), .val (.int (4 : Int32)), .val (.int i4), .val (.int i5), .val (.int i6), .val (.int i7), .val (.int (contribV i5 i2 (4 : Int32))), .unset, .unset] [(.int ((contribV i5 i2 (4 : Int32)) + (contribV i7 i2 (4 : Int32))))])
      refine Go.on (fun _ k => XS.istore X11.here hx rfl (hb hby d8_50) rfl (l' := #[.val (.ref a0), .val (.ref a1), .val (.int i2), .val (.int (4 : Int32)), .val (.int i4), .val (.int i5), .val (.int i6), .val (.int i7), .val (.int ((contribV i5 i2 (4 : Int32)) + (contribV i7 i2 (4 : Int32)))), .unset, .unset]) rfl k) ?_
      show Go _ _ _ _ _ _ _ _ (mkF m 52 #[.val (.ref a0), .val (.ref a1), .val (.int i2), .val (.int (4 : Int32)), .val (.int i4), .val (.int i5), .val (.int i6), .val (.int i7), .val (.int ((contribV i5 i2 (4 : Int32)) + (contribV i7 i2 (4 : Int32)))), .unset, .unset] [])
      refine Go.on (fun _ k => XS.iload X11.here hx rfl (hb hby d8_52) rfl k) ?_
      show Go _ _ _ _ _ _ _ _ (mkF m 54 #[.val (.ref a0), .val (.ref a1), .val (.int i2), .val (.int (4 : Int32)), .val (.int i4), .val (.int i5), .val (.int i6), .val (.int i7), .val (.int ((contribV i5 i2 (4 : Int32)) + (contribV i7 i2 (4 : Int32)))), .unset, .unset] [(.int ((contribV i5 i2 (4 : Int32)) + (contribV i7 i2 (4 : Int32))))])
      refine Go.on (fun _ k => XS.i2dS X11.here hx rfl (hb hby d8_54) rfl rfl k) ?_
      show Go _ _ _ _ _ _ _ _ (mkF m 55 #[.val (.ref a0), .val (.ref a1), .val (.int i2), .val (.int (4 : Int32)), .val (.int i4), .val (.int i5), .val (.int i6), .val (.int i7), .val (.int ((contribV i5 i2 (4 : Int32)) + (contribV i7 i2 (4 : Int32)))), .unset, .unset] [(.double (FP.i2d ((contribV i5 i2 (4 : Int32)) + (contribV i7 i2 (4 : Int32)))))])
      refine Go.on (fun _ k => XS.iload X11.here hx rfl (hb hby d8_55) rfl k) ?_
      show Go _ _ _ _ _ _ _ _ (mkF m 57 #[.val (.ref a0), .val (.ref a1), .val (.int i2), .val (.int (4 : Int32)), .val (.int i4), .val (.int i5), .val (.int i6), .val (.int i7), .val (.int ((contribV i5 i2 (4 : Int32)) + (contribV i7 i2 (4 : Int32)))), .unset, .unset] [(.int i4), (.double (FP.i2d ((contribV i5 i2 (4 : Int32)) + (contribV i7 i2 (4 : Int32)))))])
      refine Go.on (fun _ k => XS.i2dS X11.here hx rfl (hb hby d8_57) rfl rfl k) ?_
      show Go _ _ _ _ _ _ _ _ (mkF m 58 #[.val (.ref a0), .val (.ref a1), .val (.int i2), .val (.int (4 : Int32)), .val (.int i4), .val (.int i5), .val (.int i6), .val (.int i7), .val (.int ((contribV i5 i2 (4 : Int32)) + (contribV i7 i2 (4 : Int32)))), .unset, .unset] [(.double (FP.i2d i4)), (.double (FP.i2d ((contribV i5 i2 (4 : Int32)) + (contribV i7 i2 (4 : Int32)))))])
      refine Go.on (fun _ k => XS.ddivS X11.here hx rfl (hb hby d8_58) rfl (own_nnd' (Jvm.FP.Core.i2d_fin _) _ hn4) rfl k) ?_
      show Go _ _ _ _ _ _ _ _ (mkF m 59 #[.val (.ref a0), .val (.ref a1), .val (.int i2), .val (.int (4 : Int32)), .val (.int i4), .val (.int i5), .val (.int i6), .val (.int i7), .val (.int ((contribV i5 i2 (4 : Int32)) + (contribV i7 i2 (4 : Int32)))), .unset, .unset] [(.double (FP.ddiv (FP.i2d ((contribV i5 i2 (4 : Int32)) + (contribV i7 i2 (4 : Int32)))) (FP.i2d i4)))])
      refine Go.on (fun _ k => XS.dstore X11.here hx rfl (hb hby d8_59) rfl (l' := #[.val (.ref a0), .val (.ref a1), .val (.int i2), .val (.int (4 : Int32)), .val (.int i4), .val (.int i5), .val (.int i6), .val (.int i7), .val (.int ((contribV i5 i2 (4 : Int32)) + (contribV i7 i2 (4 : Int32)))), .val (.double (FP.ddiv (FP.i2d ((contribV i5 i2 (4 : Int32)) + (contribV i7 i2 (4 : Int32)))) (FP.i2d i4))), .second]) rfl k) ?_
      show Go _ _ _ _ _ _ _ _ (mkF m 61 #[.val (.ref a0), .val (.ref a1), .val (.int i2), .val (.int (4 : Int32)), .val (.int i4), .val (.int i5), .val (.int i6), .val (.int i7), .val (.int ((contribV i5 i2 (4 : Int32)) + (contribV i7 i2 (4 : Int32)))), .val (.double (FP.ddiv (FP.i2d ((contribV i5 i2 (4 : Int32)) + (contribV i7 i2 (4 : Int32)))) (FP.i2d i4))), .second] [])
      refine Go.on (fun _ k => XS.aloadN X11.here hx rfl (hb hby d8_61) rfl rfl k) ?_
      show Go _ _ _ _ _ _ _ _ (mkF m 62 #[.val (.ref a0), .val (.ref a1), .val (.int i2), .val (.int (4 : Int32)), .val (.int i4), .val (.int i5), .val (.int i6), .val (.int i7), .val (.int ((contribV i5 i2 (4 : Int32)) + (contribV i7 i2 (4 : Int32)))), .val (.double (FP.ddiv (FP.i2d ((contribV i5 i2 (4 : Int32)) + (contribV i7 i2 (4 : Int32)))) (FP.i2d i4))), .second] [(.ref a0)])
      refine Go.on (fun _ k => XS.iloadN X11.here hx rfl (hb hby d8_62) rfl k) ?_
      show Go _ _ _ _ _ _ _ _ (mkF m 63 #[.val (.ref a0), .val (.ref a1), .val (.int i2), .val (.int (4 : Int32)), .val (.int i4), .val (.int i5), .val (.int i6), .val (.int i7), .val (.int ((contribV i5 i2 (4 : Int32)) + (contribV i7 i2 (4 : Int32)))), .val (.double (FP.ddiv (FP.i2d ((contribV i5 i2 (4 : Int32)) + (contribV i7 i2 (4 : Int32)))) (FP.i2d i4))), .second] [(.int i2), (.ref a0)])
      obtain ⟨cl12, Ar12, -, S12, -, H12, -⟩ := id V_a0
      have hin12 : ¬ (i2 < 0 ∨ cl12.slots.size ≤ (i2).toNatClampNeg) := inb_of S12 (own_inb4 hp)
      refine Go.on (X11.daload hx (j := i2) (v := (.double (if i2 = (0 : Int32) then x0 else (if i2 = (1 : Int32) then x1 else (if i2 = (2 : Int32) then x2 else x3))))) (by rw [e11]; exact Ar12.1) (State.isArrayOf_alike hZ.alike Ar12.2.1) Ar12.2.2 hin12 (H12.at hin12 (own_get4 hp _ _ _ _ _)) (g := (mkF m 63 #[.val (.ref a0), .val (.ref a1), .val (.int i2), .val (.int (4 : Int32)), .val (.int i4), .val (.int i5), .val (.int i6), .val (.int i7), .val (.int ((contribV i5 i2 (4 : Int32)) + (contribV i7 i2 (4 : Int32)))), .val (.double (FP.ddiv (FP.i2d ((contribV i5 i2 (4 : Int32)) + (contribV i7 i2 (4 : Int32)))) (FP.i2d i4))), .second] [(.int i2), (.ref a0)])) rfl rfl (hb hby d8_63)) ?_
      show Go _ _ _ _ _ _ _ _ (mkF m 64 #[.val (.ref a0), .val (.ref a1), .val (.int i2), .val (.int (4 : Int32)), .val (.int i4), .val (.int i5), .val (.int i6), .val (.int i7), .val (.int ((contribV i5 i2 (4 : Int32)) + (contribV i7 i2 (4 : Int32)))), .val (.double (FP.ddiv (FP.i2d ((contribV i5 i2 (4 : Int32)) + (contribV i7 i2 (4 : Int32)))) (FP.i2d i4))), .second] [(.double (if i2 = (0 : Int32) then x0 else (if i2 = (1 : Int32) then x1 else (if i2 = (2 : Int32) then x2 else x3))))])
      refine Go.on (fun _ k => XS.dload X11.here hx rfl (hb hby d8_64) rfl k) ?_
      show Go _ _ _ _ _ _ _ _ (mkF m 66 #[.val (.ref a0), .val (.ref a1), .val (.int i2), .val (.int (4 : Int32)), .val (.int i4), .val (.int i5), .val (.int i6), .val (.int i7), .val (.int ((contribV i5 i2 (4 : Int32)) + (contribV i7 i2 (4 : Int32)))), .val (.double (FP.ddiv (FP.i2d ((contribV i5 i2 (4 : Int32)) + (contribV i7 i2 (4 : Int32)))) (FP.i2d i4))), .second] [(.double (FP.ddiv (FP.i2d ((contribV i5 i2 (4 : Int32)) + (contribV i7 i2 (4 : Int32)))) (FP.i2d i4))), (.double (if i2 = (0 : Int32) then x0 else (if i2 = (1 : Int32) then x1 else (if i2 = (2 : Int32) then x2 else x3))))])
      refine Go.on (fun _ k => XS.dcmpS X11.here hx rfl (hb hby d8_66) rfl rfl k) ?_
      show Go _ _ _ _ _ _ _ _ (mkF m 67 #[.val (.ref a0), .val (.ref a1), .val (.int i2), .val (.int (4 : Int32)), .val (.int i4), .val (.int i5), .val (.int i6), .val (.int i7), .val (.int ((contribV i5 i2 (4 : Int32)) + (contribV i7 i2 (4 : Int32)))), .val (.double (FP.ddiv (FP.i2d ((contribV i5 i2 (4 : Int32)) + (contribV i7 i2 (4 : Int32)))) (FP.i2d i4))), .second] [(.int (cmpValue (FP.dcmp (if i2 = (0 : Int32) then x0 else (if i2 = (1 : Int32) then x1 else (if i2 = (2 : Int32) then x2 else x3))) (FP.ddiv (FP.i2d ((contribV i5 i2 (4 : Int32)) + (contribV i7 i2 (4 : Int32)))) (FP.i2d i4))) .l))])
      by_cases hc13 : (cmpValue (FP.dcmp (if i2 = (0 : Int32) then x0 else (if i2 = (1 : Int32) then x1 else (if i2 = (2 : Int32) then x2 else x3))) (FP.ddiv (FP.i2d ((contribV i5 i2 (4 : Int32)) + (contribV i7 i2 (4 : Int32)))) (FP.i2d i4))) .l) = (0 : Int32)
      · -- pc 67 yes
        refine Go.on (fun _ k => XS.ifNo X11.here hx rfl (hb hby d8_67) rfl ((if0 _ _).trans (teq hc13).2) k) ?_
        show Go _ _ _ _ _ _ _ _ (mkF m 70 #[.val (.ref a0), .val (.ref a1), .val (.int i2), .val (.int (4 : Int32)), .val (.int i4), .val (.int i5), .val (.int i6), .val (.int i7), .val (.int ((contribV i5 i2 (4 : Int32)) + (contribV i7 i2 (4 : Int32)))), .val (.double (FP.ddiv (FP.i2d ((contribV i5 i2 (4 : Int32)) + (contribV i7 i2 (4 : Int32)))) (FP.i2d i4))), .second] [])
        refine Go.on (fun _ k => XS.aloadN X11.here hx rfl (hb hby d8_70) rfl rfl k) ?_
        show Go _ _ _ _ _ _ _ _ (mkF m 71 #[.val (.ref a0), .val (.ref a1), .val (.int i2), .val (.int (4 : Int32)), .val (.int i4), .val (.int i5), .val (.int i6), .val (.int i7), .val (.int ((contribV i5 i2 (4 : Int32)) + (contribV i7 i2 (4 : Int32)))), .val (.double (FP.ddiv (FP.i2d ((contribV i5 i2 (4 : Int32)) + (contribV i7 i2 (4 : Int32)))) (FP.i2d i4))), .second] [(.ref a1)])
        refine Go.on (fun _ k => XS.iloadN X11.here hx rfl (hb hby d8_71) rfl k) ?_
        show Go _ _ _ _ _ _ _ _ (mkF m 72 #[.val (.ref a0), .val (.ref a1), .val (.int i2), .val (.int (4 : Int32)), .val (.int i4), .val (.int i5), .val (.int i6), .val (.int i7), .val (.int ((contribV i5 i2 (4 : Int32)) + (contribV i7 i2 (4 : Int32)))), .val (.double (FP.ddiv (FP.i2d ((contribV i5 i2 (4 : Int32)) + (contribV i7 i2 (4 : Int32)))) (FP.i2d i4))), .second] [(.int i2), (.ref a1)])
        obtain ⟨cl14, Ar14, -, S14, -, H14, -⟩ := id V_a1
        have hin14 : ¬ (i2 < 0 ∨ cl14.slots.size ≤ (i2).toNatClampNeg) := inb_of S14 (own_inb4 hp)
        refine Go.on (X11.daload hx (j := i2) (v := (.double (if i2 = (0 : Int32) then y0 else (if i2 = (1 : Int32) then y1 else (if i2 = (2 : Int32) then y2 else y3))))) (by rw [e11]; exact Ar14.1) (State.isArrayOf_alike hZ.alike Ar14.2.1) Ar14.2.2 hin14 (H14.at hin14 (own_get4 hp _ _ _ _ _)) (g := (mkF m 72 #[.val (.ref a0), .val (.ref a1), .val (.int i2), .val (.int (4 : Int32)), .val (.int i4), .val (.int i5), .val (.int i6), .val (.int i7), .val (.int ((contribV i5 i2 (4 : Int32)) + (contribV i7 i2 (4 : Int32)))), .val (.double (FP.ddiv (FP.i2d ((contribV i5 i2 (4 : Int32)) + (contribV i7 i2 (4 : Int32)))) (FP.i2d i4))), .second] [(.int i2), (.ref a1)])) rfl rfl (hb hby d8_72)) ?_
        show Go _ _ _ _ _ _ _ _ (mkF m 73 #[.val (.ref a0), .val (.ref a1), .val (.int i2), .val (.int (4 : Int32)), .val (.int i4), .val (.int i5), .val (.int i6), .val (.int i7), .val (.int ((contribV i5 i2 (4 : Int32)) + (contribV i7 i2 (4 : Int32)))), .val (.double (FP.ddiv (FP.i2d ((contribV i5 i2 (4 : Int32)) + (contribV i7 i2 (4 : Int32)))) (FP.i2d i4))), .second] [(.double (if i2 = (0 : Int32) then y0 else (if i2 = (1 : Int32) then y1 else (if i2 = (2 : Int32) then y2 else y3))))])
        refine Go.on (fun _ k => XS.dload X11.here hx rfl (hb hby d8_73) rfl k) ?_
        show Go _ _ _ _ _ _ _ _ (mkF m 75 #[.val (.ref a0), .val (.ref a1), .val (.int i2), .val (.int (4 : Int32)), .val (.int i4), .val (.int i5), .val (.int i6), .val (.int i7), .val (.int ((contribV i5 i2 (4 : Int32)) + (contribV i7 i2 (4 : Int32)))), .val (.double (FP.ddiv (FP.i2d ((contribV i5 i2 (4 : Int32)) + (contribV i7 i2 (4 : Int32)))) (FP.i2d i4))), .second] [(.double (FP.ddiv (FP.i2d ((contribV i5 i2 (4 : Int32)) + (contribV i7 i2 (4 : Int32)))) (FP.i2d i4))), (.double (if i2 = (0 : Int32) then y0 else (if i2 = (1 : Int32) then y1 else (if i2 = (2 : Int32) then y2 else y3))))])
        refine Go.on (fun _ k => XS.dcmpS X11.here hx rfl (hb hby d8_75) rfl rfl k) ?_
        show Go _ _ _ _ _ _ _ _ (mkF m 76 #[.val (.ref a0), .val (.ref a1), .val (.int i2), .val (.int (4 : Int32)), .val (.int i4), .val (.int i5), .val (.int i6), .val (.int i7), .val (.int ((contribV i5 i2 (4 : Int32)) + (contribV i7 i2 (4 : Int32)))), .val (.double (FP.ddiv (FP.i2d ((contribV i5 i2 (4 : Int32)) + (contribV i7 i2 (4 : Int32)))) (FP.i2d i4))), .second] [(.int (cmpValue (FP.dcmp (if i2 = (0 : Int32) then y0 else (if i2 = (1 : Int32) then y1 else (if i2 = (2 : Int32) then y2 else y3))) (FP.ddiv (FP.i2d ((contribV i5 i2 (4 : Int32)) + (contribV i7 i2 (4 : Int32)))) (FP.i2d i4))) .l))])
        suffices hJ16 : ∀ (v15 : Int32), v15 = (if (cmpValue (FP.dcmp (if i2 = (0 : Int32) then y0 else (if i2 = (1 : Int32) then y1 else (if i2 = (2 : Int32) then y2 else y3))) (FP.ddiv (FP.i2d ((contribV i5 i2 (4 : Int32)) + (contribV i7 i2 (4 : Int32)))) (FP.i2d i4))) .l) = (0 : Int32) then (1 : Int32) else (0 : Int32)) → Go p e below s K1 K2 QQ T11 (mkF m 84 #[.val (.ref a0), .val (.ref a1), .val (.int i2), .val (.int (4 : Int32)), .val (.int i4), .val (.int i5), .val (.int i6), .val (.int i7), .val (.int ((contribV i5 i2 (4 : Int32)) + (contribV i7 i2 (4 : Int32)))), .val (.double (FP.ddiv (FP.i2d ((contribV i5 i2 (4 : Int32)) + (contribV i7 i2 (4 : Int32)))) (FP.i2d i4))), .second] [(.int v15)]) by
          by_cases hc17 : (cmpValue (FP.dcmp (if i2 = (0 : Int32) then y0 else (if i2 = (1 : Int32) then y1 else (if i2 = (2 : Int32) then y2 else y3))) (FP.ddiv (FP.i2d ((contribV i5 i2 (4 : Int32)) + (contribV i7 i2 (4 : Int32)))) (FP.i2d i4))) .l) = (0 : Int32)
          · -- pc 76 yes
            refine Go.on (fun _ k => XS.ifNo X11.here hx rfl (hb hby d8_76) rfl ((if0 _ _).trans (teq hc17).2) k) ?_
            show Go _ _ _ _ _ _ _ _ (mkF m 79 #[.val (.ref a0), .val (.ref a1), .val (.int i2), .val (.int (4 : Int32)), .val (.int i4), .val (.int i5), .val (.int i6), .val (.int i7), .val (.int ((contribV i5 i2 (4 : Int32)) + (contribV i7 i2 (4 : Int32)))), .val (.double (FP.ddiv (FP.i2d ((contribV i5 i2 (4 : Int32)) + (contribV i7 i2 (4 : Int32)))) (FP.i2d i4))), .second] [])
            refine Go.on (fun _ k => XS.iconst X11.here hx rfl (hb hby d8_79) k) ?_
            show Go _ _ _ _ _ _ _ _ (mkF m 80 #[.val (.ref a0), .val (.ref a1), .val (.int i2), .val (.int (4 : Int32)), .val (.int i4), .val (.int i5), .val (.int i6), .val (.int i7), .val (.int ((contribV i5 i2 (4 : Int32)) + (contribV i7 i2 (4 : Int32)))), .val (.double (FP.ddiv (FP.i2d ((contribV i5 i2 (4 : Int32)) + (contribV i7 i2 (4 : Int32)))) (FP.i2d i4))), .second] [(.int (1 : Int32))])
            refine Go.on (fun _ k => XS.goto X11.here hx rfl (pc0 := 80) (pc' := 84) rfl (hb hby d8_80) (by decide) (by decide) k) ?_
            show Go _ _ _ _ _ _ _ _ (mkF m 84 #[.val (.ref a0), .val (.ref a1), .val (.int i2), .val (.int (4 : Int32)), .val (.int i4), .val (.int i5), .val (.int i6), .val (.int i7), .val (.int ((contribV i5 i2 (4 : Int32)) + (contribV i7 i2 (4 : Int32)))), .val (.double (FP.ddiv (FP.i2d ((contribV i5 i2 (4 : Int32)) + (contribV i7 i2 (4 : Int32)))) (FP.i2d i4))), .second] [(.int (1 : Int32))])
            exact hJ16 _ (by rw [if_pos hc17])
          · -- pc 76 no
            refine Go.on (fun _ k => XS.ifYes X11.here hx rfl (pc0 := 76) (pc' := 83) rfl (hb hby d8_76) rfl ((if0 _ _).trans (feq hc17).2) (by decide) (by decide) k) ?_
            show Go _ _ _ _ _ _ _ _ (mkF m 83 #[.val (.ref a0), .val (.ref a1), .val (.int i2), .val (.int (4 : Int32)), .val (.int i4), .val (.int i5), .val (.int i6), .val (.int i7), .val (.int ((contribV i5 i2 (4 : Int32)) + (contribV i7 i2 (4 : Int32)))), .val (.double (FP.ddiv (FP.i2d ((contribV i5 i2 (4 : Int32)) + (contribV i7 i2 (4 : Int32)))) (FP.i2d i4))), .second] [])
            refine Go.on (fun _ k => XS.iconst X11.here hx rfl (hb hby d8_83) k) ?_
            show Go _ _ _ _ _ _ _ _ (mkF m 84 #[.val (.ref a0), .val (.ref a1), .val (.int i2), .val (.int (4 : Int32)), .val (.int i4), .val (.int i5), .val (.int i6), .val (.int i7), .val (.int ((contribV i5 i2 (4 : Int32)) + (contribV i7 i2 (4 : Int32)))), .val (.double (FP.ddiv (FP.i2d ((contribV i5 i2 (4 : Int32)) + (contribV i7 i2 (4 : Int32)))) (FP.i2d i4))), .second] [(.int (0 : Int32))])
            exact hJ16 _ (by rw [if_neg hc17])
        intro v15 hv15
        refine Go.retN X11 hx (t := .boolean) Bd.returns (by simp) (hb hby d8_84) ?_ (by rw [hK1]; decide) (by rw [hK2]; decide)
        rw [e11, ← hQQ]
        refine ⟨?_, N11, rfl⟩
        unfold compV compT; rw [if_pos hc3, if_neg hc4, if_pos hc13]; rw [hv15]; (repeat' split) <;> rfl
      · -- pc 67 no
        refine Go.on (fun _ k => XS.ifYes X11.here hx rfl (pc0 := 67) (pc' := 83) rfl (hb hby d8_67) rfl ((if0 _ _).trans (feq hc13).2) (by decide) (by decide) k) ?_
        show Go _ _ _ _ _ _ _ _ (mkF m 83 #[.val (.ref a0), .val (.ref a1), .val (.int i2), .val (.int (4 : Int32)), .val (.int i4), .val (.int i5), .val (.int i6), .val (.int i7), .val (.int ((contribV i5 i2 (4 : Int32)) + (contribV i7 i2 (4 : Int32)))), .val (.double (FP.ddiv (FP.i2d ((contribV i5 i2 (4 : Int32)) + (contribV i7 i2 (4 : Int32)))) (FP.i2d i4))), .second] [])
        refine Go.on (fun _ k => XS.iconst X11.here hx rfl (hb hby d8_83) k) ?_
        show Go _ _ _ _ _ _ _ _ (mkF m 84 #[.val (.ref a0), .val (.ref a1), .val (.int i2), .val (.int (4 : Int32)), .val (.int i4), .val (.int i5), .val (.int i6), .val (.int i7), .val (.int ((contribV i5 i2 (4 : Int32)) + (contribV i7 i2 (4 : Int32)))), .val (.double (FP.ddiv (FP.i2d ((contribV i5 i2 (4 : Int32)) + (contribV i7 i2 (4 : Int32)))) (FP.i2d i4))), .second] [(.int (0 : Int32))])
        refine Go.retN X11 hx (t := .boolean) Bd.returns (by simp) (hb hby d8_84) ?_ (by rw [hK1]; decide) (by rw [hK2]; decide)
        rw [e11, ← hQQ]
        refine ⟨?_, N11, rfl⟩
        unfold compV compT; rw [if_pos hc3, if_neg hc4, if_neg hc13]; rfl
  · -- pc 19 no
    refine Go.on (fun _ k => XS.icmpNo X2.here hx rfl (hb hby d8_19) rfl (flt hc3).1 k) ?_
    show Go _ _ _ _ _ _ _ _ (mkF m 22 #[.val (.ref a0), .val (.ref a1), .val (.int i2), .val (.int (4 : Int32)), .val (.int i4), .val (.int i5), .val (.int i6), .val (.int i7), .val (.int (contribV i5 i2 (4 : Int32))), .unset, .unset] [])
    refine Go.on (fun _ k => XS.iload X2.here hx rfl (hb hby d8_22) rfl k) ?_
    show Go _ _ _ _ _ _ _ _ (mkF m 24 #[.val (.ref a0), .val (.ref a1), .val (.int i2), .val (.int (4 : Int32)), .val (.int i4), .val (.int i5), .val (.int i6), .val (.int i7), .val (.int (contribV i5 i2 (4 : Int32))), .unset, .unset] [(.int (contribV i5 i2 (4 : Int32)))])
    refine Go.on (fun _ k => XS.iload X2.here hx rfl (hb hby d8_24) rfl k) ?_
    show Go _ _ _ _ _ _ _ _ (mkF m 26 #[.val (.ref a0), .val (.ref a1), .val (.int i2), .val (.int (4 : Int32)), .val (.int i4), .val (.int i5), .val (.int i6), .val (.int i7), .val (.int (contribV i5 i2 (4 : Int32))), .unset, .unset] [(.int i6), (.int (contribV i5 i2 (4 : Int32)))])
    refine Go.on (fun _ k => XS.iloadN X2.here hx rfl (hb hby d8_26) rfl k) ?_
    show Go _ _ _ _ _ _ _ _ (mkF m 27 #[.val (.ref a0), .val (.ref a1), .val (.int i2), .val (.int (4 : Int32)), .val (.int i4), .val (.int i5), .val (.int i6), .val (.int i7), .val (.int (contribV i5 i2 (4 : Int32))), .unset, .unset] [(.int i2), (.int i6), (.int (contribV i5 i2 (4 : Int32)))])
    refine Go.on (fun _ k => XS.iloadN X2.here hx rfl (hb hby d8_27) rfl k) ?_
    show Go _ _ _ _ _ _ _ _ (mkF m 28 #[.val (.ref a0), .val (.ref a1), .val (.int i2), .val (.int (4 : Int32)), .val (.int i4), .val (.int i5), .val (.int i6), .val (.int i7), .val (.int (contribV i5 i2 (4 : Int32))), .unset, .unset] [(.int (4 : Int32)), (.int i2), (.int i6), (.int (contribV i5 i2 (4 : Int32)))])
    obtain ⟨_, _, ⟨T18, L18, k18, n18⟩, -, X18, ⟨Lc18, hQ18, l18, y18, z18⟩, st18⟩ := Jvm.LawKit.callS X2 hx (y := (⟨"com/example/d2rank/d2rank/rerank/CentroidMeanPinLaw", "contrib", "(III)I"⟩ : MethodName)) hown (mvT hZ (hw _ (List.mem_of_getElem? (i := 38) rfl))) (mvT hZ (hw _ (List.mem_of_getElem? (i := 39) rfl))) (mvT hZ (hw _ (List.mem_of_getElem? (i := 14) rfl))) (mvT hZ (hw _ (List.mem_of_getElem? (i := 40) rfl))) (by decide) (backOf (W := 1) (rm9 l Z aw hw [] i6 i2 (4 : Int32)  h0 n0 ZZ (by decide)) hZ (hw _ (List.mem_of_getElem? (i := 40) rfl)) (hw _ (List.mem_of_getElem? (i := 14) rfl)) (by decide) (by decide)) (g := (mkF m 28 #[.val (.ref a0), .val (.ref a1), .val (.int i2), .val (.int (4 : Int32)), .val (.int i4), .val (.int i5), .val (.int i6), .val (.int i7), .val (.int (contribV i5 i2 (4 : Int32))), .unset, .unset] [(.int (4 : Int32)), (.int i2), (.int i6), (.int (contribV i5 i2 (4 : Int32)))])) rfl (by rw [hml]; rfl) (argsL := [(.int i6), (.int i2), (.int (4 : Int32))]) (rest := [(.int (contribV i5 i2 (4 : Int32)))]) (lenOf pd_2 rfl) rfl (by show 2 * 0 + _ ≤ _; exact Nat.le_of_eq rfl) (hb hby d8_28) (fun _ _ => ⟨rfl, e2, (by decide : 0 + 0 ≤ _), (by decide : 0 + 0 ≤ _)⟩)
    dsimp only [Pt.U, Pt.locs, Pt.cells, Pt.slots] at X18 l18 y18 z18 st18 hQ18
    subst l18 y18 z18
    obtain ⟨rfl, N18q, e18⟩ := hQ18
    have N18 := Fr.app N2 N18q
    refine Go.on st18 ?_
    show Go _ _ _ _ _ _ _ _ (mkF m 31 #[.val (.ref a0), .val (.ref a1), .val (.int i2), .val (.int (4 : Int32)), .val (.int i4), .val (.int i5), .val (.int i6), .val (.int i7), .val (.int (contribV i5 i2 (4 : Int32))), .unset, .unset] [(.int (contribV i6 i2 (4 : Int32))), (.int (contribV i5 i2 (4 : Int32)))])
    refine Go.on (fun _ k => XS.iadd X18.here hx rfl (hb hby d8_31) rfl k) ?_
    show Go _ _ _ _ _ _ _ _ (mkF m 32 #[.val (.ref a0), .val (.ref a1), .val (.int i2), .val (.int (4 : Int32)), .val (.int i4), .val (.int i5), .val (.int i6), .val (.int i7), .val (.int (contribV i5 i2 (4 : Int32))), .unset, .unset] [(.int ((contribV i5 i2 (4 : Int32)) + (contribV i6 i2 (4 : Int32))))])
    refine Go.on (fun _ k => XS.istore X18.here hx rfl (hb hby d8_32) rfl (l' := #[.val (.ref a0), .val (.ref a1), .val (.int i2), .val (.int (4 : Int32)), .val (.int i4), .val (.int i5), .val (.int i6), .val (.int i7), .val (.int ((contribV i5 i2 (4 : Int32)) + (contribV i6 i2 (4 : Int32)))), .unset, .unset]) rfl k) ?_
    show Go _ _ _ _ _ _ _ _ (mkF m 34 #[.val (.ref a0), .val (.ref a1), .val (.int i2), .val (.int (4 : Int32)), .val (.int i4), .val (.int i5), .val (.int i6), .val (.int i7), .val (.int ((contribV i5 i2 (4 : Int32)) + (contribV i6 i2 (4 : Int32)))), .unset, .unset] [])
    refine Go.on (fun _ k => XS.iload X18.here hx rfl (hb hby d8_34) rfl k) ?_
    show Go _ _ _ _ _ _ _ _ (mkF m 36 #[.val (.ref a0), .val (.ref a1), .val (.int i2), .val (.int (4 : Int32)), .val (.int i4), .val (.int i5), .val (.int i6), .val (.int i7), .val (.int ((contribV i5 i2 (4 : Int32)) + (contribV i6 i2 (4 : Int32)))), .unset, .unset] [(.int i4)])
    refine Go.on (fun _ k => XS.iconst X18.here hx rfl (hb hby d8_36) k) ?_
    show Go _ _ _ _ _ _ _ _ (mkF m 37 #[.val (.ref a0), .val (.ref a1), .val (.int i2), .val (.int (4 : Int32)), .val (.int i4), .val (.int i5), .val (.int i6), .val (.int i7), .val (.int ((contribV i5 i2 (4 : Int32)) + (contribV i6 i2 (4 : Int32)))), .unset, .unset] [(.int (3 : Int32)), (.int i4)])
    by_cases hc19 : i4 < (3 : Int32)
    · -- pc 37 yes
      refine Go.on (fun _ k => XS.icmpYes X18.here hx rfl (pc0 := 37) (pc' := 52) rfl (hb hby d8_37) rfl (tlt hc19).1 (by decide) (by decide) k) ?_
      show Go _ _ _ _ _ _ _ _ (mkF m 52 #[.val (.ref a0), .val (.ref a1), .val (.int i2), .val (.int (4 : Int32)), .val (.int i4), .val (.int i5), .val (.int i6), .val (.int i7), .val (.int ((contribV i5 i2 (4 : Int32)) + (contribV i6 i2 (4 : Int32)))), .unset, .unset] [])
      refine Go.on (fun _ k => XS.iload X18.here hx rfl (hb hby d8_52) rfl k) ?_
      show Go _ _ _ _ _ _ _ _ (mkF m 54 #[.val (.ref a0), .val (.ref a1), .val (.int i2), .val (.int (4 : Int32)), .val (.int i4), .val (.int i5), .val (.int i6), .val (.int i7), .val (.int ((contribV i5 i2 (4 : Int32)) + (contribV i6 i2 (4 : Int32)))), .unset, .unset] [(.int ((contribV i5 i2 (4 : Int32)) + (contribV i6 i2 (4 : Int32))))])
      refine Go.on (fun _ k => XS.i2dS X18.here hx rfl (hb hby d8_54) rfl rfl k) ?_
      show Go _ _ _ _ _ _ _ _ (mkF m 55 #[.val (.ref a0), .val (.ref a1), .val (.int i2), .val (.int (4 : Int32)), .val (.int i4), .val (.int i5), .val (.int i6), .val (.int i7), .val (.int ((contribV i5 i2 (4 : Int32)) + (contribV i6 i2 (4 : Int32)))), .unset, .unset] [(.double (FP.i2d ((contribV i5 i2 (4 : Int32)) + (contribV i6 i2 (4 : Int32)))))])
      refine Go.on (fun _ k => XS.iload X18.here hx rfl (hb hby d8_55) rfl k) ?_
      show Go _ _ _ _ _ _ _ _ (mkF m 57 #[.val (.ref a0), .val (.ref a1), .val (.int i2), .val (.int (4 : Int32)), .val (.int i4), .val (.int i5), .val (.int i6), .val (.int i7), .val (.int ((contribV i5 i2 (4 : Int32)) + (contribV i6 i2 (4 : Int32)))), .unset, .unset] [(.int i4), (.double (FP.i2d ((contribV i5 i2 (4 : Int32)) + (contribV i6 i2 (4 : Int32)))))])
      refine Go.on (fun _ k => XS.i2dS X18.here hx rfl (hb hby d8_57) rfl rfl k) ?_
      show Go _ _ _ _ _ _ _ _ (mkF m 58 #[.val (.ref a0), .val (.ref a1), .val (.int i2), .val (.int (4 : Int32)), .val (.int i4), .val (.int i5), .val (.int i6), .val (.int i7), .val (.int ((contribV i5 i2 (4 : Int32)) + (contribV i6 i2 (4 : Int32)))), .unset, .unset] [(.double (FP.i2d i4)), (.double (FP.i2d ((contribV i5 i2 (4 : Int32)) + (contribV i6 i2 (4 : Int32)))))])
      refine Go.on (fun _ k => XS.ddivS X18.here hx rfl (hb hby d8_58) rfl (own_nnd' (Jvm.FP.Core.i2d_fin _) _ hn4) rfl k) ?_
      show Go _ _ _ _ _ _ _ _ (mkF m 59 #[.val (.ref a0), .val (.ref a1), .val (.int i2), .val (.int (4 : Int32)), .val (.int i4), .val (.int i5), .val (.int i6), .val (.int i7), .val (.int ((contribV i5 i2 (4 : Int32)) + (contribV i6 i2 (4 : Int32)))), .unset, .unset] [(.double (FP.ddiv (FP.i2d ((contribV i5 i2 (4 : Int32)) + (contribV i6 i2 (4 : Int32)))) (FP.i2d i4)))])
      refine Go.on (fun _ k => XS.dstore X18.here hx rfl (hb hby d8_59) rfl (l' := #[.val (.ref a0), .val (.ref a1), .val (.int i2), .val (.int (4 : Int32)), .val (.int i4), .val (.int i5), .val (.int i6), .val (.int i7), .val (.int ((contribV i5 i2 (4 : Int32)) + (contribV i6 i2 (4 : Int32)))), .val (.double (FP.ddiv (FP.i2d ((contribV i5 i2 (4 : Int32)) + (contribV i6 i2 (4 : Int32)))) (FP.i2d i4))), .second]) rfl k) ?_
      show Go _ _ _ _ _ _ _ _ (mkF m 61 #[.val (.ref a0), .val (.ref a1), .val (.int i2), .val (.int (4 : Int32)), .val (.int i4), .val (.int i5), .val (.int i6), .val (.int i7), .val (.int ((contribV i5 i2 (4 : Int32)) + (contribV i6 i2 (4 : Int32)))), .val (.double (FP.ddiv (FP.i2d ((contribV i5 i2 (4 : Int32)) + (contribV i6 i2 (4 : Int32)))) (FP.i2d i4))), .second] [])
      refine Go.on (fun _ k => XS.aloadN X18.here hx rfl (hb hby d8_61) rfl rfl k) ?_
      show Go _ _ _ _ _ _ _ _ (mkF m 62 #[.val (.ref a0), .val (.ref a1), .val (.int i2), .val (.int (4 : Int32)), .val (.int i4), .val (.int i5), .val (.int i6), .val (.int i7), .val (.int ((contribV i5 i2 (4 : Int32)) + (contribV i6 i2 (4 : Int32)))), .val (.double (FP.ddiv (FP.i2d ((contribV i5 i2 (4 : Int32)) + (contribV i6 i2 (4 : Int32)))) (FP.i2d i4))), .second] [(.ref a0)])
      refine Go.on (fun _ k => XS.iloadN X18.here hx rfl (hb hby d8_62) rfl k) ?_
      show Go _ _ _ _ _ _ _ _ (mkF m 63 #[.val (.ref a0), .val (.ref a1), .val (.int i2), .val (.int (4 : Int32)), .val (.int i4), .val (.int i5), .val (.int i6), .val (.int i7), .val (.int ((contribV i5 i2 (4 : Int32)) + (contribV i6 i2 (4 : Int32)))), .val (.double (FP.ddiv (FP.i2d ((contribV i5 i2 (4 : Int32)) + (contribV i6 i2 (4 : Int32)))) (FP.i2d i4))), .second] [(.int i2), (.ref a0)])
      obtain ⟨cl20, Ar20, -, S20, -, H20, -⟩ := id V_a0
      have hin20 : ¬ (i2 < 0 ∨ cl20.slots.size ≤ (i2).toNatClampNeg) := inb_of S20 (own_inb4 hp)
      refine Go.on (X18.daload hx (j := i2) (v := (.double (if i2 = (0 : Int32) then x0 else (if i2 = (1 : Int32) then x1 else (if i2 = (2 : Int32) then x2 else x3))))) (by rw [e18]; exact Ar20.1) (State.isArrayOf_alike hZ.alike Ar20.2.1) Ar20.2.2 hin20 (H20.at hin20 (own_get4 hp _ _ _ _ _)) (g := (mkF m 63 #[.val (.ref a0), .val (.ref a1), .val (.int i2), .val (.int (4 : Int32)), .val (.int i4), .val (.int i5), .val (.int i6), .val (.int i7), .val (.int ((contribV i5 i2 (4 : Int32)) + (contribV i6 i2 (4 : Int32)))), .val (.double (FP.ddiv (FP.i2d ((contribV i5 i2 (4 : Int32)) + (contribV i6 i2 (4 : Int32)))) (FP.i2d i4))), .second] [(.int i2), (.ref a0)])) rfl rfl (hb hby d8_63)) ?_
      show Go _ _ _ _ _ _ _ _ (mkF m 64 #[.val (.ref a0), .val (.ref a1), .val (.int i2), .val (.int (4 : Int32)), .val (.int i4), .val (.int i5), .val (.int i6), .val (.int i7), .val (.int ((contribV i5 i2 (4 : Int32)) + (contribV i6 i2 (4 : Int32)))), .val (.double (FP.ddiv (FP.i2d ((contribV i5 i2 (4 : Int32)) + (contribV i6 i2 (4 : Int32)))) (FP.i2d i4))), .second] [(.double (if i2 = (0 : Int32) then x0 else (if i2 = (1 : Int32) then x1 else (if i2 = (2 : Int32) then x2 else x3))))])
      refine Go.on (fun _ k => XS.dload X18.here hx rfl (hb hby d8_64) rfl k) ?_
      show Go _ _ _ _ _ _ _ _ (mkF m 66 #[.val (.ref a0), .val (.ref a1), .val (.int i2), .val (.int (4 : Int32)), .val (.int i4), .val (.int i5), .val (.int i6), .val (.int i7), .val (.int ((contribV i5 i2 (4 : Int32)) + (contribV i6 i2 (4 : Int32)))), .val (.double (FP.ddiv (FP.i2d ((contribV i5 i2 (4 : Int32)) + (contribV i6 i2 (4 : Int32)))) (FP.i2d i4))), .second] [(.double (FP.ddiv (FP.i2d ((contribV i5 i2 (4 : Int32)) + (contribV i6 i2 (4 : Int32)))) (FP.i2d i4))), (.double (if i2 = (0 : Int32) then x0 else (if i2 = (1 : Int32) then x1 else (if i2 = (2 : Int32) then x2 else x3))))])
      refine Go.on (fun _ k => XS.dcmpS X18.here hx rfl (hb hby d8_66) rfl rfl k) ?_
      show Go _ _ _ _ _ _ _ _ (mkF m 67 #[.val (.ref a0), .val (.ref a1), .val (.int i2), .val (.int (4 : Int32)), .val (.int i4), .val (.int i5), .val (.int i6), .val (.int i7), .val (.int ((contribV i5 i2 (4 : Int32)) + (contribV i6 i2 (4 : Int32)))), .val (.double (FP.ddiv (FP.i2d ((contribV i5 i2 (4 : Int32)) + (contribV i6 i2 (4 : Int32)))) (FP.i2d i4))), .second] [(.int (cmpValue (FP.dcmp (if i2 = (0 : Int32) then x0 else (if i2 = (1 : Int32) then x1 else (if i2 = (2 : Int32) then x2 else x3))) (FP.ddiv (FP.i2d ((contribV i5 i2 (4 : Int32)) + (contribV i6 i2 (4 : Int32)))) (FP.i2d i4))) .l))])
      by_cases hc21 : (cmpValue (FP.dcmp (if i2 = (0 : Int32) then x0 else (if i2 = (1 : Int32) then x1 else (if i2 = (2 : Int32) then x2 else x3))) (FP.ddiv (FP.i2d ((contribV i5 i2 (4 : Int32)) + (contribV i6 i2 (4 : Int32)))) (FP.i2d i4))) .l) = (0 : Int32)
      · -- pc 67 yes
        refine Go.on (fun _ k => XS.ifNo X18.here hx rfl (hb hby d8_67) rfl ((if0 _ _).trans (teq hc21).2) k) ?_
        show Go _ _ _ _ _ _ _ _ (mkF m 70 #[.val (.ref a0), .val (.ref a1), .val (.int i2), .val (.int (4 : Int32)), .val (.int i4), .val (.int i5), .val (.int i6), .val (.int i7), .val (.int ((contribV i5 i2 (4 : Int32)) + (contribV i6 i2 (4 : Int32)))), .val (.double (FP.ddiv (FP.i2d ((contribV i5 i2 (4 : Int32)) + (contribV i6 i2 (4 : Int32)))) (FP.i2d i4))), .second] [])
        refine Go.on (fun _ k => XS.aloadN X18.here hx rfl (hb hby d8_70) rfl rfl k) ?_
        show Go _ _ _ _ _ _ _ _ (mkF m 71 #[.val (.ref a0), .val (.ref a1), .val (.int i2), .val (.int (4 : Int32)), .val (.int i4), .val (.int i5), .val (.int i6), .val (.int i7), .val (.int ((contribV i5 i2 (4 : Int32)) + (contribV i6 i2 (4 : Int32)))), .val (.double (FP.ddiv (FP.i2d ((contribV i5 i2 (4 : Int32)) + (contribV i6 i2 (4 : Int32)))) (FP.i2d i4))), .second] [(.ref a1)])
        refine Go.on (fun _ k => XS.iloadN X18.here hx rfl (hb hby d8_71) rfl k) ?_
        show Go _ _ _ _ _ _ _ _ (mkF m 72 #[.val (.ref a0), .val (.ref a1), .val (.int i2), .val (.int (4 : Int32)), .val (.int i4), .val (.int i5), .val (.int i6), .val (.int i7), .val (.int ((contribV i5 i2 (4 : Int32)) + (contribV i6 i2 (4 : Int32)))), .val (.double (FP.ddiv (FP.i2d ((contribV i5 i2 (4 : Int32)) + (contribV i6 i2 (4 : Int32)))) (FP.i2d i4))), .second] [(.int i2), (.ref a1)])
        obtain ⟨cl22, Ar22, -, S22, -, H22, -⟩ := id V_a1
        have hin22 : ¬ (i2 < 0 ∨ cl22.slots.size ≤ (i2).toNatClampNeg) := inb_of S22 (own_inb4 hp)
        refine Go.on (X18.daload hx (j := i2) (v := (.double (if i2 = (0 : Int32) then y0 else (if i2 = (1 : Int32) then y1 else (if i2 = (2 : Int32) then y2 else y3))))) (by rw [e18]; exact Ar22.1) (State.isArrayOf_alike hZ.alike Ar22.2.1) Ar22.2.2 hin22 (H22.at hin22 (own_get4 hp _ _ _ _ _)) (g := (mkF m 72 #[.val (.ref a0), .val (.ref a1), .val (.int i2), .val (.int (4 : Int32)), .val (.int i4), .val (.int i5), .val (.int i6), .val (.int i7), .val (.int ((contribV i5 i2 (4 : Int32)) + (contribV i6 i2 (4 : Int32)))), .val (.double (FP.ddiv (FP.i2d ((contribV i5 i2 (4 : Int32)) + (contribV i6 i2 (4 : Int32)))) (FP.i2d i4))), .second] [(.int i2), (.ref a1)])) rfl rfl (hb hby d8_72)) ?_
        show Go _ _ _ _ _ _ _ _ (mkF m 73 #[.val (.ref a0), .val (.ref a1), .val (.int i2), .val (.int (4 : Int32)), .val (.int i4), .val (.int i5), .val (.int i6), .val (.int i7), .val (.int ((contribV i5 i2 (4 : Int32)) + (contribV i6 i2 (4 : Int32)))), .val (.double (FP.ddiv (FP.i2d ((contribV i5 i2 (4 : Int32)) + (contribV i6 i2 (4 : Int32)))) (FP.i2d i4))), .second] [(.double (if i2 = (0 : Int32) then y0 else (if i2 = (1 : Int32) then y1 else (if i2 = (2 : Int32) then y2 else y3))))])
        refine Go.on (fun _ k => XS.dload X18.here hx rfl (hb hby d8_73) rfl k) ?_
        show Go _ _ _ _ _ _ _ _ (mkF m 75 #[.val (.ref a0), .val (.ref a1), .val (.int i2), .val (.int (4 : Int32)), .val (.int i4), .val (.int i5), .val (.int i6), .val (.int i7), .val (.int ((contribV i5 i2 (4 : Int32)) + (contribV i6 i2 (4 : Int32)))), .val (.double (FP.ddiv (FP.i2d ((contribV i5 i2 (4 : Int32)) + (contribV i6 i2 (4 : Int32)))) (FP.i2d i4))), .second] [(.double (FP.ddiv (FP.i2d ((contribV i5 i2 (4 : Int32)) + (contribV i6 i2 (4 : Int32)))) (FP.i2d i4))), (.double (if i2 = (0 : Int32) then y0 else (if i2 = (1 : Int32) then y1 else (if i2 = (2 : Int32) then y2 else y3))))])
        refine Go.on (fun _ k => XS.dcmpS X18.here hx rfl (hb hby d8_75) rfl rfl k) ?_
        show Go _ _ _ _ _ _ _ _ (mkF m 76 #[.val (.ref a0), .val (.ref a1), .val (.int i2), .val (.int (4 : Int32)), .val (.int i4), .val (.int i5), .val (.int i6), .val (.int i7), .val (.int ((contribV i5 i2 (4 : Int32)) + (contribV i6 i2 (4 : Int32)))), .val (.double (FP.ddiv (FP.i2d ((contribV i5 i2 (4 : Int32)) + (contribV i6 i2 (4 : Int32)))) (FP.i2d i4))), .second] [(.int (cmpValue (FP.dcmp (if i2 = (0 : Int32) then y0 else (if i2 = (1 : Int32) then y1 else (if i2 = (2 : Int32) then y2 else y3))) (FP.ddiv (FP.i2d ((contribV i5 i2 (4 : Int32)) + (contribV i6 i2 (4 : Int32)))) (FP.i2d i4))) .l))])
        suffices hJ24 : ∀ (v23 : Int32), v23 = (if (cmpValue (FP.dcmp (if i2 = (0 : Int32) then y0 else (if i2 = (1 : Int32) then y1 else (if i2 = (2 : Int32) then y2 else y3))) (FP.ddiv (FP.i2d ((contribV i5 i2 (4 : Int32)) + (contribV i6 i2 (4 : Int32)))) (FP.i2d i4))) .l) = (0 : Int32) then (1 : Int32) else (0 : Int32)) → Go p e below s K1 K2 QQ T18 (mkF m 84 #[.val (.ref a0), .val (.ref a1), .val (.int i2), .val (.int (4 : Int32)), .val (.int i4), .val (.int i5), .val (.int i6), .val (.int i7), .val (.int ((contribV i5 i2 (4 : Int32)) + (contribV i6 i2 (4 : Int32)))), .val (.double (FP.ddiv (FP.i2d ((contribV i5 i2 (4 : Int32)) + (contribV i6 i2 (4 : Int32)))) (FP.i2d i4))), .second] [(.int v23)]) by
          by_cases hc25 : (cmpValue (FP.dcmp (if i2 = (0 : Int32) then y0 else (if i2 = (1 : Int32) then y1 else (if i2 = (2 : Int32) then y2 else y3))) (FP.ddiv (FP.i2d ((contribV i5 i2 (4 : Int32)) + (contribV i6 i2 (4 : Int32)))) (FP.i2d i4))) .l) = (0 : Int32)
          · -- pc 76 yes
            refine Go.on (fun _ k => XS.ifNo X18.here hx rfl (hb hby d8_76) rfl ((if0 _ _).trans (teq hc25).2) k) ?_
            show Go _ _ _ _ _ _ _ _ (mkF m 79 #[.val (.ref a0), .val (.ref a1), .val (.int i2), .val (.int (4 : Int32)), .val (.int i4), .val (.int i5), .val (.int i6), .val (.int i7), .val (.int ((contribV i5 i2 (4 : Int32)) + (contribV i6 i2 (4 : Int32)))), .val (.double (FP.ddiv (FP.i2d ((contribV i5 i2 (4 : Int32)) + (contribV i6 i2 (4 : Int32)))) (FP.i2d i4))), .second] [])
            refine Go.on (fun _ k => XS.iconst X18.here hx rfl (hb hby d8_79) k) ?_
            show Go _ _ _ _ _ _ _ _ (mkF m 80 #[.val (.ref a0), .val (.ref a1), .val (.int i2), .val (.int (4 : Int32)), .val (.int i4), .val (.int i5), .val (.int i6), .val (.int i7), .val (.int ((contribV i5 i2 (4 : Int32)) + (contribV i6 i2 (4 : Int32)))), .val (.double (FP.ddiv (FP.i2d ((contribV i5 i2 (4 : Int32)) + (contribV i6 i2 (4 : Int32)))) (FP.i2d i4))), .second] [(.int (1 : Int32))])
            refine Go.on (fun _ k => XS.goto X18.here hx rfl (pc0 := 80) (pc' := 84) rfl (hb hby d8_80) (by decide) (by decide) k) ?_
            show Go _ _ _ _ _ _ _ _ (mkF m 84 #[.val (.ref a0), .val (.ref a1), .val (.int i2), .val (.int (4 : Int32)), .val (.int i4), .val (.int i5), .val (.int i6), .val (.int i7), .val (.int ((contribV i5 i2 (4 : Int32)) + (contribV i6 i2 (4 : Int32)))), .val (.double (FP.ddiv (FP.i2d ((contribV i5 i2 (4 : Int32)) + (contribV i6 i2 (4 : Int32)))) (FP.i2d i4))), .second] [(.int (1 : Int32))])
            exact hJ24 _ (by rw [if_pos hc25])
          · -- pc 76 no
            refine Go.on (fun _ k => XS.ifYes X18.here hx rfl (pc0 := 76) (pc' := 83) rfl (hb hby d8_76) rfl ((if0 _ _).trans (feq hc25).2) (by decide) (by decide) k) ?_
            show Go _ _ _ _ _ _ _ _ (mkF m 83 #[.val (.ref a0), .val (.ref a1), .val (.int i2), .val (.int (4 : Int32)), .val (.int i4), .val (.int i5), .val (.int i6), .val (.int i7), .val (.int ((contribV i5 i2 (4 : Int32)) + (contribV i6 i2 (4 : Int32)))), .val (.double (FP.ddiv (FP.i2d ((contribV i5 i2 (4 : Int32)) + (contribV i6 i2 (4 : Int32)))) (FP.i2d i4))), .second] [])
            refine Go.on (fun _ k => XS.iconst X18.here hx rfl (hb hby d8_83) k) ?_
            show Go _ _ _ _ _ _ _ _ (mkF m 84 #[.val (.ref a0), .val (.ref a1), .val (.int i2), .val (.int (4 : Int32)), .val (.int i4), .val (.int i5), .val (.int i6), .val (.int i7), .val (.int ((contribV i5 i2 (4 : Int32)) + (contribV i6 i2 (4 : Int32)))), .val (.double (FP.ddiv (FP.i2d ((contribV i5 i2 (4 : Int32)) + (contribV i6 i2 (4 : Int32)))) (FP.i2d i4))), .second] [(.int (0 : Int32))])
            exact hJ24 _ (by rw [if_neg hc25])
        intro v23 hv23
        refine Go.retN X18 hx (t := .boolean) Bd.returns (by simp) (hb hby d8_84) ?_ (by rw [hK1]; decide) (by rw [hK2]; decide)
        rw [e18, ← hQQ]
        refine ⟨?_, N18, rfl⟩
        unfold compV compT; rw [if_neg hc3, if_pos hc19, if_pos hc21]; rw [hv23]; (repeat' split) <;> rfl
      · -- pc 67 no
        refine Go.on (fun _ k => XS.ifYes X18.here hx rfl (pc0 := 67) (pc' := 83) rfl (hb hby d8_67) rfl ((if0 _ _).trans (feq hc21).2) (by decide) (by decide) k) ?_
        show Go _ _ _ _ _ _ _ _ (mkF m 83 #[.val (.ref a0), .val (.ref a1), .val (.int i2), .val (.int (4 : Int32)), .val (.int i4), .val (.int i5), .val (.int i6), .val (.int i7), .val (.int ((contribV i5 i2 (4 : Int32)) + (contribV i6 i2 (4 : Int32)))), .val (.double (FP.ddiv (FP.i2d ((contribV i5 i2 (4 : Int32)) + (contribV i6 i2 (4 : Int32)))) (FP.i2d i4))), .second] [])
        refine Go.on (fun _ k => XS.iconst X18.here hx rfl (hb hby d8_83) k) ?_
        show Go _ _ _ _ _ _ _ _ (mkF m 84 #[.val (.ref a0), .val (.ref a1), .val (.int i2), .val (.int (4 : Int32)), .val (.int i4), .val (.int i5), .val (.int i6), .val (.int i7), .val (.int ((contribV i5 i2 (4 : Int32)) + (contribV i6 i2 (4 : Int32)))), .val (.double (FP.ddiv (FP.i2d ((contribV i5 i2 (4 : Int32)) + (contribV i6 i2 (4 : Int32)))) (FP.i2d i4))), .second] [(.int (0 : Int32))])
        refine Go.retN X18 hx (t := .boolean) Bd.returns (by simp) (hb hby d8_84) ?_ (by rw [hK1]; decide) (by rw [hK2]; decide)
        rw [e18, ← hQQ]
        refine ⟨?_, N18, rfl⟩
        unfold compV compT; rw [if_neg hc3, if_pos hc19, if_neg hc21]; rfl
    · -- pc 37 no
      refine Go.on (fun _ k => XS.icmpNo X18.here hx rfl (hb hby d8_37) rfl (flt hc19).1 k) ?_
      show Go _ _ _ _ _ _ _ _ (mkF m 40 #[.val (.ref a0), .val (.ref a1), .val (.int i2), .val (.int (4 : Int32)), .val (.int i4), .val (.int i5), .val (.int i6), .val (.int i7), .val (.int ((contribV i5 i2 (4 : Int32)) + (contribV i6 i2 (4 : Int32)))), .unset, .unset] [])
      refine Go.on (fun _ k => XS.iload X18.here hx rfl (hb hby d8_40) rfl k) ?_
      show Go _ _ _ _ _ _ _ _ (mkF m 42 #[.val (.ref a0), .val (.ref a1), .val (.int i2), .val (.int (4 : Int32)), .val (.int i4), .val (.int i5), .val (.int i6), .val (.int i7), .val (.int ((contribV i5 i2 (4 : Int32)) + (contribV i6 i2 (4 : Int32)))), .unset, .unset] [(.int ((contribV i5 i2 (4 : Int32)) + (contribV i6 i2 (4 : Int32))))])
      refine Go.on (fun _ k => XS.iload X18.here hx rfl (hb hby d8_42) rfl k) ?_
      show Go _ _ _ _ _ _ _ _ (mkF m 44 #[.val (.ref a0), .val (.ref a1), .val (.int i2), .val (.int (4 : Int32)), .val (.int i4), .val (.int i5), .val (.int i6), .val (.int i7), .val (.int ((contribV i5 i2 (4 : Int32)) + (contribV i6 i2 (4 : Int32)))), .unset, .unset] [(.int i7), (.int ((contribV i5 i2 (4 : Int32)) + (contribV i6 i2 (4 : Int32))))])
      refine Go.on (fun _ k => XS.iloadN X18.here hx rfl (hb hby d8_44) rfl k) ?_
      show Go _ _ _ _ _ _ _ _ (mkF m 45 #[.val (.ref a0), .val (.ref a1), .val (.int i2), .val (.int (4 : Int32)), .val (.int i4), .val (.int i5), .val (.int i6), .val (.int i7), .val (.int ((contribV i5 i2 (4 : Int32)) + (contribV i6 i2 (4 : Int32)))), .unset, .unset] [(.int i2), (.int i7), (.int ((contribV i5 i2 (4 : Int32)) + (contribV i6 i2 (4 : Int32))))])
      refine Go.on (fun _ k => XS.iloadN X18.here hx rfl (hb hby d8_45) rfl k) ?_
      show Go _ _ _ _ _ _ _ _ (mkF m 46 #[.val (.ref a0), .val (.ref a1), .val (.int i2), .val (.int (4 : Int32)), .val (.int i4), .val (.int i5), .val (.int i6), .val (.int i7), .val (.int ((contribV i5 i2 (4 : Int32)) + (contribV i6 i2 (4 : Int32)))), .unset, .unset] [(.int (4 : Int32)), (.int i2), (.int i7), (.int ((contribV i5 i2 (4 : Int32)) + (contribV i6 i2 (4 : Int32))))])
      obtain ⟨_, _, ⟨T26, L26, k26, n26⟩, -, X26, ⟨Lc26, hQ26, l26, y26, z26⟩, st26⟩ := Jvm.LawKit.callS X18 hx (y := (⟨"com/example/d2rank/d2rank/rerank/CentroidMeanPinLaw", "contrib", "(III)I"⟩ : MethodName)) hown (mvT hZ (hw _ (List.mem_of_getElem? (i := 38) rfl))) (mvT hZ (hw _ (List.mem_of_getElem? (i := 39) rfl))) (mvT hZ (hw _ (List.mem_of_getElem? (i := 14) rfl))) (mvT hZ (hw _ (List.mem_of_getElem? (i := 40) rfl))) (by decide) (backOf (W := 1) (rm9 l Z aw hw [] i7 i2 (4 : Int32)  h0 n0 ZZ (by decide)) hZ (hw _ (List.mem_of_getElem? (i := 40) rfl)) (hw _ (List.mem_of_getElem? (i := 14) rfl)) (by decide) (by decide)) (g := (mkF m 46 #[.val (.ref a0), .val (.ref a1), .val (.int i2), .val (.int (4 : Int32)), .val (.int i4), .val (.int i5), .val (.int i6), .val (.int i7), .val (.int ((contribV i5 i2 (4 : Int32)) + (contribV i6 i2 (4 : Int32)))), .unset, .unset] [(.int (4 : Int32)), (.int i2), (.int i7), (.int ((contribV i5 i2 (4 : Int32)) + (contribV i6 i2 (4 : Int32))))])) rfl (by rw [hml]; rfl) (argsL := [(.int i7), (.int i2), (.int (4 : Int32))]) (rest := [(.int ((contribV i5 i2 (4 : Int32)) + (contribV i6 i2 (4 : Int32))))]) (lenOf pd_2 rfl) rfl (by show 2 * 0 + _ ≤ _; exact Nat.le_of_eq rfl) (hb hby d8_46) (fun _ _ => ⟨rfl, e18, (by decide : 0 + 0 ≤ _), (by decide : 0 + 0 ≤ _)⟩)
      dsimp only [Pt.U, Pt.locs, Pt.cells, Pt.slots] at X26 l26 y26 z26 st26 hQ26
      subst l26 y26 z26
      obtain ⟨rfl, N26q, e26⟩ := hQ26
      have N26 := Fr.app N18 N26q
      refine Go.on st26 ?_
      show Go _ _ _ _ _ _ _ _ (mkF m 49 #[.val (.ref a0), .val (.ref a1), .val (.int i2), .val (.int (4 : Int32)), .val (.int i4), .val (.int i5), .val (.int i6), .val (.int i7), .val (.int ((contribV i5 i2 (4 : Int32)) + (contribV i6 i2 (4 : Int32)))), .unset, .unset] [(.int (contribV i7 i2 (4 : Int32))), (.int ((contribV i5 i2 (4 : Int32)) + (contribV i6 i2 (4 : Int32))))])
      refine Go.on (fun _ k => XS.iadd X26.here hx rfl (hb hby d8_49) rfl k) ?_
      show Go _ _ _ _ _ _ _ _ (mkF m 50 #[.val (.ref a0), .val (.ref a1), .val (.int i2), .val (.int (4 : Int32)), .val (.int i4), .val (.int i5), .val (.int i6), .val (.int i7), .val (.int ((contribV i5 i2 (4 : Int32)) + (contribV i6 i2 (4 : Int32)))), .unset, .unset] [(.int (((contribV i5 i2 (4 : Int32)) + (contribV i6 i2 (4 : Int32))) + (contribV i7 i2 (4 : Int32))))])
      refine Go.on (fun _ k => XS.istore X26.here hx rfl (hb hby d8_50) rfl (l' := #[.val (.ref a0), .val (.ref a1), .val (.int i2), .val (.int (4 : Int32)), .val (.int i4), .val (.int i5), .val (.int i6), .val (.int i7), .val (.int (((contribV i5 i2 (4 : Int32)) + (contribV i6 i2 (4 : Int32))) + (contribV i7 i2 (4 : Int32)))), .unset, .unset]) rfl k) ?_
      show Go _ _ _ _ _ _ _ _ (mkF m 52 #[.val (.ref a0), .val (.ref a1), .val (.int i2), .val (.int (4 : Int32)), .val (.int i4), .val (.int i5), .val (.int i6), .val (.int i7), .val (.int (((contribV i5 i2 (4 : Int32)) + (contribV i6 i2 (4 : Int32))) + (contribV i7 i2 (4 : Int32)))), .unset, .unset] [])
      refine Go.on (fun _ k => XS.iload X26.here hx rfl (hb hby d8_52) rfl k) ?_
      show Go _ _ _ _ _ _ _ _ (mkF m 54 #[.val (.ref a0), .val (.ref a1), .val (.int i2), .val (.int (4 : Int32)), .val (.int i4), .val (.int i5), .val (.int i6), .val (.int i7), .val (.int (((contribV i5 i2 (4 : Int32)) + (contribV i6 i2 (4 : Int32))) + (contribV i7 i2 (4 : Int32)))), .unset, .unset] [(.int (((contribV i5 i2 (4 : Int32)) + (contribV i6 i2 (4 : Int32))) + (contribV i7 i2 (4 : Int32))))])
      refine Go.on (fun _ k => XS.i2dS X26.here hx rfl (hb hby d8_54) rfl rfl k) ?_
      show Go _ _ _ _ _ _ _ _ (mkF m 55 #[.val (.ref a0), .val (.ref a1), .val (.int i2), .val (.int (4 : Int32)), .val (.int i4), .val (.int i5), .val (.int i6), .val (.int i7), .val (.int (((contribV i5 i2 (4 : Int32)) + (contribV i6 i2 (4 : Int32))) + (contribV i7 i2 (4 : Int32)))), .unset, .unset] [(.double (FP.i2d (((contribV i5 i2 (4 : Int32)) + (contribV i6 i2 (4 : Int32))) + (contribV i7 i2 (4 : Int32)))))])
      refine Go.on (fun _ k => XS.iload X26.here hx rfl (hb hby d8_55) rfl k) ?_
      show Go _ _ _ _ _ _ _ _ (mkF m 57 #[.val (.ref a0), .val (.ref a1), .val (.int i2), .val (.int (4 : Int32)), .val (.int i4), .val (.int i5), .val (.int i6), .val (.int i7), .val (.int (((contribV i5 i2 (4 : Int32)) + (contribV i6 i2 (4 : Int32))) + (contribV i7 i2 (4 : Int32)))), .unset, .unset] [(.int i4), (.double (FP.i2d (((contribV i5 i2 (4 : Int32)) + (contribV i6 i2 (4 : Int32))) + (contribV i7 i2 (4 : Int32)))))])
      refine Go.on (fun _ k => XS.i2dS X26.here hx rfl (hb hby d8_57) rfl rfl k) ?_
      show Go _ _ _ _ _ _ _ _ (mkF m 58 #[.val (.ref a0), .val (.ref a1), .val (.int i2), .val (.int (4 : Int32)), .val (.int i4), .val (.int i5), .val (.int i6), .val (.int i7), .val (.int (((contribV i5 i2 (4 : Int32)) + (contribV i6 i2 (4 : Int32))) + (contribV i7 i2 (4 : Int32)))), .unset, .unset] [(.double (FP.i2d i4)), (.double (FP.i2d (((contribV i5 i2 (4 : Int32)) + (contribV i6 i2 (4 : Int32))) + (contribV i7 i2 (4 : Int32)))))])
      refine Go.on (fun _ k => XS.ddivS X26.here hx rfl (hb hby d8_58) rfl (own_nnd' (Jvm.FP.Core.i2d_fin _) _ hn4) rfl k) ?_
      show Go _ _ _ _ _ _ _ _ (mkF m 59 #[.val (.ref a0), .val (.ref a1), .val (.int i2), .val (.int (4 : Int32)), .val (.int i4), .val (.int i5), .val (.int i6), .val (.int i7), .val (.int (((contribV i5 i2 (4 : Int32)) + (contribV i6 i2 (4 : Int32))) + (contribV i7 i2 (4 : Int32)))), .unset, .unset] [(.double (FP.ddiv (FP.i2d (((contribV i5 i2 (4 : Int32)) + (contribV i6 i2 (4 : Int32))) + (contribV i7 i2 (4 : Int32)))) (FP.i2d i4)))])
      refine Go.on (fun _ k => XS.dstore X26.here hx rfl (hb hby d8_59) rfl (l' := #[.val (.ref a0), .val (.ref a1), .val (.int i2), .val (.int (4 : Int32)), .val (.int i4), .val (.int i5), .val (.int i6), .val (.int i7), .val (.int (((contribV i5 i2 (4 : Int32)) + (contribV i6 i2 (4 : Int32))) + (contribV i7 i2 (4 : Int32)))), .val (.double (FP.ddiv (FP.i2d (((contribV i5 i2 (4 : Int32)) + (contribV i6 i2 (4 : Int32))) + (contribV i7 i2 (4 : Int32)))) (FP.i2d i4))), .second]) rfl k) ?_
      show Go _ _ _ _ _ _ _ _ (mkF m 61 #[.val (.ref a0), .val (.ref a1), .val (.int i2), .val (.int (4 : Int32)), .val (.int i4), .val (.int i5), .val (.int i6), .val (.int i7), .val (.int (((contribV i5 i2 (4 : Int32)) + (contribV i6 i2 (4 : Int32))) + (contribV i7 i2 (4 : Int32)))), .val (.double (FP.ddiv (FP.i2d (((contribV i5 i2 (4 : Int32)) + (contribV i6 i2 (4 : Int32))) + (contribV i7 i2 (4 : Int32)))) (FP.i2d i4))), .second] [])
      refine Go.on (fun _ k => XS.aloadN X26.here hx rfl (hb hby d8_61) rfl rfl k) ?_
      show Go _ _ _ _ _ _ _ _ (mkF m 62 #[.val (.ref a0), .val (.ref a1), .val (.int i2), .val (.int (4 : Int32)), .val (.int i4), .val (.int i5), .val (.int i6), .val (.int i7), .val (.int (((contribV i5 i2 (4 : Int32)) + (contribV i6 i2 (4 : Int32))) + (contribV i7 i2 (4 : Int32)))), .val (.double (FP.ddiv (FP.i2d (((contribV i5 i2 (4 : Int32)) + (contribV i6 i2 (4 : Int32))) + (contribV i7 i2 (4 : Int32)))) (FP.i2d i4))), .second] [(.ref a0)])
      refine Go.on (fun _ k => XS.iloadN X26.here hx rfl (hb hby d8_62) rfl k) ?_
      show Go _ _ _ _ _ _ _ _ (mkF m 63 #[.val (.ref a0), .val (.ref a1), .val (.int i2), .val (.int (4 : Int32)), .val (.int i4), .val (.int i5), .val (.int i6), .val (.int i7), .val (.int (((contribV i5 i2 (4 : Int32)) + (contribV i6 i2 (4 : Int32))) + (contribV i7 i2 (4 : Int32)))), .val (.double (FP.ddiv (FP.i2d (((contribV i5 i2 (4 : Int32)) + (contribV i6 i2 (4 : Int32))) + (contribV i7 i2 (4 : Int32)))) (FP.i2d i4))), .second] [(.int i2), (.ref a0)])
      obtain ⟨cl27, Ar27, -, S27, -, H27, -⟩ := id V_a0
      have hin27 : ¬ (i2 < 0 ∨ cl27.slots.size ≤ (i2).toNatClampNeg) := inb_of S27 (own_inb4 hp)
      refine Go.on (X26.daload hx (j := i2) (v := (.double (if i2 = (0 : Int32) then x0 else (if i2 = (1 : Int32) then x1 else (if i2 = (2 : Int32) then x2 else x3))))) (by rw [e26]; exact Ar27.1) (State.isArrayOf_alike hZ.alike Ar27.2.1) Ar27.2.2 hin27 (H27.at hin27 (own_get4 hp _ _ _ _ _)) (g := (mkF m 63 #[.val (.ref a0), .val (.ref a1), .val (.int i2), .val (.int (4 : Int32)), .val (.int i4), .val (.int i5), .val (.int i6), .val (.int i7), .val (.int (((contribV i5 i2 (4 : Int32)) + (contribV i6 i2 (4 : Int32))) + (contribV i7 i2 (4 : Int32)))), .val (.double (FP.ddiv (FP.i2d (((contribV i5 i2 (4 : Int32)) + (contribV i6 i2 (4 : Int32))) + (contribV i7 i2 (4 : Int32)))) (FP.i2d i4))), .second] [(.int i2), (.ref a0)])) rfl rfl (hb hby d8_63)) ?_
      show Go _ _ _ _ _ _ _ _ (mkF m 64 #[.val (.ref a0), .val (.ref a1), .val (.int i2), .val (.int (4 : Int32)), .val (.int i4), .val (.int i5), .val (.int i6), .val (.int i7), .val (.int (((contribV i5 i2 (4 : Int32)) + (contribV i6 i2 (4 : Int32))) + (contribV i7 i2 (4 : Int32)))), .val (.double (FP.ddiv (FP.i2d (((contribV i5 i2 (4 : Int32)) + (contribV i6 i2 (4 : Int32))) + (contribV i7 i2 (4 : Int32)))) (FP.i2d i4))), .second] [(.double (if i2 = (0 : Int32) then x0 else (if i2 = (1 : Int32) then x1 else (if i2 = (2 : Int32) then x2 else x3))))])
      refine Go.on (fun _ k => XS.dload X26.here hx rfl (hb hby d8_64) rfl k) ?_
      show Go _ _ _ _ _ _ _ _ (mkF m 66 #[.val (.ref a0), .val (.ref a1), .val (.int i2), .val (.int (4 : Int32)), .val (.int i4), .val (.int i5), .val (.int i6), .val (.int i7), .val (.int (((contribV i5 i2 (4 : Int32)) + (contribV i6 i2 (4 : Int32))) + (contribV i7 i2 (4 : Int32)))), .val (.double (FP.ddiv (FP.i2d (((contribV i5 i2 (4 : Int32)) + (contribV i6 i2 (4 : Int32))) + (contribV i7 i2 (4 : Int32)))) (FP.i2d i4))), .second] [(.double (FP.ddiv (FP.i2d (((contribV i5 i2 (4 : Int32)) + (contribV i6 i2 (4 : Int32))) + (contribV i7 i2 (4 : Int32)))) (FP.i2d i4))), (.double (if i2 = (0 : Int32) then x0 else (if i2 = (1 : Int32) then x1 else (if i2 = (2 : Int32) then x2 else x3))))])
      refine Go.on (fun _ k => XS.dcmpS X26.here hx rfl (hb hby d8_66) rfl rfl k) ?_
      show Go _ _ _ _ _ _ _ _ (mkF m 67 #[.val (.ref a0), .val (.ref a1), .val (.int i2), .val (.int (4 : Int32)), .val (.int i4), .val (.int i5), .val (.int i6), .val (.int i7), .val (.int (((contribV i5 i2 (4 : Int32)) + (contribV i6 i2 (4 : Int32))) + (contribV i7 i2 (4 : Int32)))), .val (.double (FP.ddiv (FP.i2d (((contribV i5 i2 (4 : Int32)) + (contribV i6 i2 (4 : Int32))) + (contribV i7 i2 (4 : Int32)))) (FP.i2d i4))), .second] [(.int (cmpValue (FP.dcmp (if i2 = (0 : Int32) then x0 else (if i2 = (1 : Int32) then x1 else (if i2 = (2 : Int32) then x2 else x3))) (FP.ddiv (FP.i2d (((contribV i5 i2 (4 : Int32)) + (contribV i6 i2 (4 : Int32))) + (contribV i7 i2 (4 : Int32)))) (FP.i2d i4))) .l))])
      by_cases hc28 : (cmpValue (FP.dcmp (if i2 = (0 : Int32) then x0 else (if i2 = (1 : Int32) then x1 else (if i2 = (2 : Int32) then x2 else x3))) (FP.ddiv (FP.i2d (((contribV i5 i2 (4 : Int32)) + (contribV i6 i2 (4 : Int32))) + (contribV i7 i2 (4 : Int32)))) (FP.i2d i4))) .l) = (0 : Int32)
      · -- pc 67 yes
        refine Go.on (fun _ k => XS.ifNo X26.here hx rfl (hb hby d8_67) rfl ((if0 _ _).trans (teq hc28).2) k) ?_
        show Go _ _ _ _ _ _ _ _ (mkF m 70 #[.val (.ref a0), .val (.ref a1), .val (.int i2), .val (.int (4 : Int32)), .val (.int i4), .val (.int i5), .val (.int i6), .val (.int i7), .val (.int (((contribV i5 i2 (4 : Int32)) + (contribV i6 i2 (4 : Int32))) + (contribV i7 i2 (4 : Int32)))), .val (.double (FP.ddiv (FP.i2d (((contribV i5 i2 (4 : Int32)) + (contribV i6 i2 (4 : Int32))) + (contribV i7 i2 (4 : Int32)))) (FP.i2d i4))), .second] [])
        refine Go.on (fun _ k => XS.aloadN X26.here hx rfl (hb hby d8_70) rfl rfl k) ?_
        show Go _ _ _ _ _ _ _ _ (mkF m 71 #[.val (.ref a0), .val (.ref a1), .val (.int i2), .val (.int (4 : Int32)), .val (.int i4), .val (.int i5), .val (.int i6), .val (.int i7), .val (.int (((contribV i5 i2 (4 : Int32)) + (contribV i6 i2 (4 : Int32))) + (contribV i7 i2 (4 : Int32)))), .val (.double (FP.ddiv (FP.i2d (((contribV i5 i2 (4 : Int32)) + (contribV i6 i2 (4 : Int32))) + (contribV i7 i2 (4 : Int32)))) (FP.i2d i4))), .second] [(.ref a1)])
        refine Go.on (fun _ k => XS.iloadN X26.here hx rfl (hb hby d8_71) rfl k) ?_
        show Go _ _ _ _ _ _ _ _ (mkF m 72 #[.val (.ref a0), .val (.ref a1), .val (.int i2), .val (.int (4 : Int32)), .val (.int i4), .val (.int i5), .val (.int i6), .val (.int i7), .val (.int (((contribV i5 i2 (4 : Int32)) + (contribV i6 i2 (4 : Int32))) + (contribV i7 i2 (4 : Int32)))), .val (.double (FP.ddiv (FP.i2d (((contribV i5 i2 (4 : Int32)) + (contribV i6 i2 (4 : Int32))) + (contribV i7 i2 (4 : Int32)))) (FP.i2d i4))), .second] [(.int i2), (.ref a1)])
        obtain ⟨cl29, Ar29, -, S29, -, H29, -⟩ := id V_a1
        have hin29 : ¬ (i2 < 0 ∨ cl29.slots.size ≤ (i2).toNatClampNeg) := inb_of S29 (own_inb4 hp)
        refine Go.on (X26.daload hx (j := i2) (v := (.double (if i2 = (0 : Int32) then y0 else (if i2 = (1 : Int32) then y1 else (if i2 = (2 : Int32) then y2 else y3))))) (by rw [e26]; exact Ar29.1) (State.isArrayOf_alike hZ.alike Ar29.2.1) Ar29.2.2 hin29 (H29.at hin29 (own_get4 hp _ _ _ _ _)) (g := (mkF m 72 #[.val (.ref a0), .val (.ref a1), .val (.int i2), .val (.int (4 : Int32)), .val (.int i4), .val (.int i5), .val (.int i6), .val (.int i7), .val (.int (((contribV i5 i2 (4 : Int32)) + (contribV i6 i2 (4 : Int32))) + (contribV i7 i2 (4 : Int32)))), .val (.double (FP.ddiv (FP.i2d (((contribV i5 i2 (4 : Int32)) + (contribV i6 i2 (4 : Int32))) + (contribV i7 i2 (4 : Int32)))) (FP.i2d i4))), .second] [(.int i2), (.ref a1)])) rfl rfl (hb hby d8_72)) ?_
        show Go _ _ _ _ _ _ _ _ (mkF m 73 #[.val (.ref a0), .val (.ref a1), .val (.int i2), .val (.int (4 : Int32)), .val (.int i4), .val (.int i5), .val (.int i6), .val (.int i7), .val (.int (((contribV i5 i2 (4 : Int32)) + (contribV i6 i2 (4 : Int32))) + (contribV i7 i2 (4 : Int32)))), .val (.double (FP.ddiv (FP.i2d (((contribV i5 i2 (4 : Int32)) + (contribV i6 i2 (4 : Int32))) + (contribV i7 i2 (4 : Int32)))) (FP.i2d i4))), .second] [(.double (if i2 = (0 : Int32) then y0 else (if i2 = (1 : Int32) then y1 else (if i2 = (2 : Int32) then y2 else y3))))])
        refine Go.on (fun _ k => XS.dload X26.here hx rfl (hb hby d8_73) rfl k) ?_
        show Go _ _ _ _ _ _ _ _ (mkF m 75 #[.val (.ref a0), .val (.ref a1), .val (.int i2), .val (.int (4 : Int32)), .val (.int i4), .val (.int i5), .val (.int i6), .val (.int i7), .val (.int (((contribV i5 i2 (4 : Int32)) + (contribV i6 i2 (4 : Int32))) + (contribV i7 i2 (4 : Int32)))), .val (.double (FP.ddiv (FP.i2d (((contribV i5 i2 (4 : Int32)) + (contribV i6 i2 (4 : Int32))) + (contribV i7 i2 (4 : Int32)))) (FP.i2d i4))), .second] [(.double (FP.ddiv (FP.i2d (((contribV i5 i2 (4 : Int32)) + (contribV i6 i2 (4 : Int32))) + (contribV i7 i2 (4 : Int32)))) (FP.i2d i4))), (.double (if i2 = (0 : Int32) then y0 else (if i2 = (1 : Int32) then y1 else (if i2 = (2 : Int32) then y2 else y3))))])
        refine Go.on (fun _ k => XS.dcmpS X26.here hx rfl (hb hby d8_75) rfl rfl k) ?_
        show Go _ _ _ _ _ _ _ _ (mkF m 76 #[.val (.ref a0), .val (.ref a1), .val (.int i2), .val (.int (4 : Int32)), .val (.int i4), .val (.int i5), .val (.int i6), .val (.int i7), .val (.int (((contribV i5 i2 (4 : Int32)) + (contribV i6 i2 (4 : Int32))) + (contribV i7 i2 (4 : Int32)))), .val (.double (FP.ddiv (FP.i2d (((contribV i5 i2 (4 : Int32)) + (contribV i6 i2 (4 : Int32))) + (contribV i7 i2 (4 : Int32)))) (FP.i2d i4))), .second] [(.int (cmpValue (FP.dcmp (if i2 = (0 : Int32) then y0 else (if i2 = (1 : Int32) then y1 else (if i2 = (2 : Int32) then y2 else y3))) (FP.ddiv (FP.i2d (((contribV i5 i2 (4 : Int32)) + (contribV i6 i2 (4 : Int32))) + (contribV i7 i2 (4 : Int32)))) (FP.i2d i4))) .l))])
        suffices hJ31 : ∀ (v30 : Int32), v30 = (if (cmpValue (FP.dcmp (if i2 = (0 : Int32) then y0 else (if i2 = (1 : Int32) then y1 else (if i2 = (2 : Int32) then y2 else y3))) (FP.ddiv (FP.i2d (((contribV i5 i2 (4 : Int32)) + (contribV i6 i2 (4 : Int32))) + (contribV i7 i2 (4 : Int32)))) (FP.i2d i4))) .l) = (0 : Int32) then (1 : Int32) else (0 : Int32)) → Go p e below s K1 K2 QQ T26 (mkF m 84 #[.val (.ref a0), .val (.ref a1), .val (.int i2), .val (.int (4 : Int32)), .val (.int i4), .val (.int i5), .val (.int i6), .val (.int i7), .val (.int (((contribV i5 i2 (4 : Int32)) + (contribV i6 i2 (4 : Int32))) + (contribV i7 i2 (4 : Int32)))), .val (.double (FP.ddiv (FP.i2d (((contribV i5 i2 (4 : Int32)) + (contribV i6 i2 (4 : Int32))) + (contribV i7 i2 (4 : Int32)))) (FP.i2d i4))), .second] [(.int v30)]) by
          by_cases hc32 : (cmpValue (FP.dcmp (if i2 = (0 : Int32) then y0 else (if i2 = (1 : Int32) then y1 else (if i2 = (2 : Int32) then y2 else y3))) (FP.ddiv (FP.i2d (((contribV i5 i2 (4 : Int32)) + (contribV i6 i2 (4 : Int32))) + (contribV i7 i2 (4 : Int32)))) (FP.i2d i4))) .l) = (0 : Int32)
          · -- pc 76 yes
            refine Go.on (fun _ k => XS.ifNo X26.here hx rfl (hb hby d8_76) rfl ((if0 _ _).trans (teq hc32).2) k) ?_
            show Go _ _ _ _ _ _ _ _ (mkF m 79 #[.val (.ref a0), .val (.ref a1), .val (.int i2), .val (.int (4 : Int32)), .val (.int i4), .val (.int i5), .val (.int i6), .val (.int i7), .val (.int (((contribV i5 i2 (4 : Int32)) + (contribV i6 i2 (4 : Int32))) + (contribV i7 i2 (4 : Int32)))), .val (.double (FP.ddiv (FP.i2d (((contribV i5 i2 (4 : Int32)) + (contribV i6 i2 (4 : Int32))) + (contribV i7 i2 (4 : Int32)))) (FP.i2d i4))), .second] [])
            refine Go.on (fun _ k => XS.iconst X26.here hx rfl (hb hby d8_79) k) ?_
            show Go _ _ _ _ _ _ _ _ (mkF m 80 #[.val (.ref a0), .val (.ref a1), .val (.int i2), .val (.int (4 : Int32)), .val (.int i4), .val (.int i5), .val (.int i6), .val (.int i7), .val (.int (((contribV i5 i2 (4 : Int32)) + (contribV i6 i2 (4 : Int32))) + (contribV i7 i2 (4 : Int32)))), .val (.double (FP.ddiv (FP.i2d (((contribV i5 i2 (4 : Int32)) + (contribV i6 i2 (4 : Int32))) + (contribV i7 i2 (4 : Int32)))) (FP.i2d i4))), .second] [(.int (1 : Int32))])
            refine Go.on (fun _ k => XS.goto X26.here hx rfl (pc0 := 80) (pc' := 84) rfl (hb hby d8_80) (by decide) (by decide) k) ?_
            show Go _ _ _ _ _ _ _ _ (mkF m 84 #[.val (.ref a0), .val (.ref a1), .val (.int i2), .val (.int (4 : Int32)), .val (.int i4), .val (.int i5), .val (.int i6), .val (.int i7), .val (.int (((contribV i5 i2 (4 : Int32)) + (contribV i6 i2 (4 : Int32))) + (contribV i7 i2 (4 : Int32)))), .val (.double (FP.ddiv (FP.i2d (((contribV i5 i2 (4 : Int32)) + (contribV i6 i2 (4 : Int32))) + (contribV i7 i2 (4 : Int32)))) (FP.i2d i4))), .second] [(.int (1 : Int32))])
            exact hJ31 _ (by rw [if_pos hc32])
          · -- pc 76 no
            refine Go.on (fun _ k => XS.ifYes X26.here hx rfl (pc0 := 76) (pc' := 83) rfl (hb hby d8_76) rfl ((if0 _ _).trans (feq hc32).2) (by decide) (by decide) k) ?_
            show Go _ _ _ _ _ _ _ _ (mkF m 83 #[.val (.ref a0), .val (.ref a1), .val (.int i2), .val (.int (4 : Int32)), .val (.int i4), .val (.int i5), .val (.int i6), .val (.int i7), .val (.int (((contribV i5 i2 (4 : Int32)) + (contribV i6 i2 (4 : Int32))) + (contribV i7 i2 (4 : Int32)))), .val (.double (FP.ddiv (FP.i2d (((contribV i5 i2 (4 : Int32)) + (contribV i6 i2 (4 : Int32))) + (contribV i7 i2 (4 : Int32)))) (FP.i2d i4))), .second] [])
            refine Go.on (fun _ k => XS.iconst X26.here hx rfl (hb hby d8_83) k) ?_
            show Go _ _ _ _ _ _ _ _ (mkF m 84 #[.val (.ref a0), .val (.ref a1), .val (.int i2), .val (.int (4 : Int32)), .val (.int i4), .val (.int i5), .val (.int i6), .val (.int i7), .val (.int (((contribV i5 i2 (4 : Int32)) + (contribV i6 i2 (4 : Int32))) + (contribV i7 i2 (4 : Int32)))), .val (.double (FP.ddiv (FP.i2d (((contribV i5 i2 (4 : Int32)) + (contribV i6 i2 (4 : Int32))) + (contribV i7 i2 (4 : Int32)))) (FP.i2d i4))), .second] [(.int (0 : Int32))])
            exact hJ31 _ (by rw [if_neg hc32])
        intro v30 hv30
        refine Go.retN X26 hx (t := .boolean) Bd.returns (by simp) (hb hby d8_84) ?_ (by rw [hK1]; decide) (by rw [hK2]; decide)
        rw [e26, ← hQQ]
        refine ⟨?_, N26, rfl⟩
        unfold compV compT; rw [if_neg hc3, if_neg hc19, if_pos hc28]; rw [hv30]; (repeat' split) <;> rfl
      · -- pc 67 no
        refine Go.on (fun _ k => XS.ifYes X26.here hx rfl (pc0 := 67) (pc' := 83) rfl (hb hby d8_67) rfl ((if0 _ _).trans (feq hc28).2) (by decide) (by decide) k) ?_
        show Go _ _ _ _ _ _ _ _ (mkF m 83 #[.val (.ref a0), .val (.ref a1), .val (.int i2), .val (.int (4 : Int32)), .val (.int i4), .val (.int i5), .val (.int i6), .val (.int i7), .val (.int (((contribV i5 i2 (4 : Int32)) + (contribV i6 i2 (4 : Int32))) + (contribV i7 i2 (4 : Int32)))), .val (.double (FP.ddiv (FP.i2d (((contribV i5 i2 (4 : Int32)) + (contribV i6 i2 (4 : Int32))) + (contribV i7 i2 (4 : Int32)))) (FP.i2d i4))), .second] [])
        refine Go.on (fun _ k => XS.iconst X26.here hx rfl (hb hby d8_83) k) ?_
        show Go _ _ _ _ _ _ _ _ (mkF m 84 #[.val (.ref a0), .val (.ref a1), .val (.int i2), .val (.int (4 : Int32)), .val (.int i4), .val (.int i5), .val (.int i6), .val (.int i7), .val (.int (((contribV i5 i2 (4 : Int32)) + (contribV i6 i2 (4 : Int32))) + (contribV i7 i2 (4 : Int32)))), .val (.double (FP.ddiv (FP.i2d (((contribV i5 i2 (4 : Int32)) + (contribV i6 i2 (4 : Int32))) + (contribV i7 i2 (4 : Int32)))) (FP.i2d i4))), .second] [(.int (0 : Int32))])
        refine Go.retN X26 hx (t := .boolean) Bd.returns (by simp) (hb hby d8_84) ?_ (by rw [hK1]; decide) (by rw [hK2]; decide)
        rw [e26, ← hQQ]
        refine ⟨?_, N26, rfl⟩
        unfold compV compT; rw [if_neg hc3, if_neg hc19, if_neg hc28]; rfl
theorem d8_5 : decode method_7_code 5 = .ok (.iconst 1, 1) := by decide +kernel
theorem d8_6 : decode method_7_code 6 = .ok (.ireturn, 1) := by decide +kernel
theorem ef_cp_h (m : MethodId) (a0 : Addr) (a1 : Addr) (i2 : Int32) (i3 : Int32) (i4 : Int32) (i5 : Int32) (i6 : Int32) (i7 : Int32) : entryFrame m #[(.ref a0), (.ref a1), (.int i2), (.int i3), (.int i4), (.int i5), (.int i6), (.int i7)] 11 = mkF m 0 #[.val (.ref a0), .val (.ref a1), .val (.int i2), .val (.int i3), .val (.int i4), .val (.int i5), .val (.int i6), .val (.int i7), .unset, .unset, .unset] [] := by first | (simp [entryFrame, mkF, argsToLocals, Value.category]; done) | rfl
def Q_cp_h (Z : State) (a0 : Addr) (a1 : Addr) (i2 : Int32) (i3 : Int32) (i4 : Int32) (i5 : Int32) (i6 : Int32) (i7 : Int32) (h0 : Heap) (n0 : Nat) (v : Option Value) (h : Heap) (L : List Loc) : Prop := v = some (.int (1 : Int32)) ∧ Fr n0 L ∧ h = h0
set_option maxRecDepth 65536 in
set_option maxHeartbeats 40000000 in
theorem cp_h (l : Launch) (Z : State) (aw : Array Value) (hw : ∀ d ∈ tables_1, d.before aw Z = true) (ws : List Jvm.Cond) (a0 : Addr) (a1 : Addr) (i2 : Int32) (i3 : Int32) (i4 : Int32) (i5 : Int32) (i6 : Int32) (i7 : Int32) (h0 : Heap) (n0 : Nat) (Z0 : n0 ≤ h0.size) (hge : ¬ i2 < i3) :
    MetFree l (⟨"com/example/d2rank/d2rank/rerank/CentroidMeanPinLaw", "comp", "([D[DIIIIII)Z"⟩ : MethodName) (head1 (Jvm.Cond.code (⟨"com/example/d2rank/d2rank/rerank/CentroidMeanPinLaw", "comp", "([D[DIIIIII)Z"⟩ : MethodName) method_7_code 11 (some .boolean) :: ws) ({ frames := 0, cells := 0, slots := 0, locals := 0 } : Room)) (fun a U => a = #[(.ref a0), (.ref a1), (.int i2), (.int i3), (.int i4), (.int i5), (.int i6), (.int i7)] ∧ Z.Warmed39 U.vm ∧ U.heap = h0) (fun _ _ _ _ _ => True) (fun _ U o U' => ∃ v L, o = .returned v ∧ Q_cp_h Z a0 a1 i2 i3 i4 i5 i6 i7 h0 n0 v U'.heap L ∧ FrameEnd U o U' L ({ frames := 0, cells := 0, slots := 0, locals := 0 } : Room).cells ({ frames := 0, cells := 0, slots := 0, locals := 0 } : Room).slots) := by
  refine MetFree.of_bodySF (plainFor_of_name pn_0) hisR ?_
  intro p e s m args below meth c s₁ Bd hml0 hP hK
  obtain ⟨rfl, hZ, hh⟩ := hP
  have hx := Bd.exec
  have hby := Bd.bytes
  have hml : c.maxLocals = 11 := hml0
  have hown : s.vm.findClass "com/example/d2rank/d2rank/rerank/CentroidMeanPinLaw" = some m.cls := findClass_of_methodNamed Bd.named
  have hnm := (name_of_methodNamed Bd.named Bd.method).1
  have hlk : meth.locks = false := BodyLoose.notSynchronized Bd
  have X0 : Stand p l e ({ frames := 0, cells := 0, slots := 0, locals := 0 } : Room) s m #[(.ref a0), (.ref a1), (.int i2), (.int i3), (.int i4), (.int i5), (.int i6), (.int i7)] below meth c s₁ [] 0 0 := Stand.of_body Bd
  have e0 : s₁.heap = h0 := by rw [← hh, Bd.state]; rfl
  have N0 := Fr.nil n0
  have ZZ := Z0
  show Go p e below s ({ frames := 0, cells := 0, slots := 0, locals := 0 } : Room).cells ({ frames := 0, cells := 0, slots := 0, locals := 0 } : Room).slots (fun v h L => Q_cp_h Z a0 a1 i2 i3 i4 i5 i6 i7 h0 n0 v h L) s₁ (entryFrame m #[(.ref a0), (.ref a1), (.int i2), (.int i3), (.int i4), (.int i5), (.int i6), (.int i7)] 11)
  refine Go.cast (ef_cp_h m a0 a1 i2 i3 i4 i5 i6 i7) ?_
  refine Go.gen ?_
  intro K1 K2 QQ hK1 hK2 hQQ
  refine Go.on (fun _ k => XS.iloadN X0.here hx rfl (hb hby d8_0) rfl k) ?_
  show Go _ _ _ _ _ _ _ _ (mkF m 1 #[.val (.ref a0), .val (.ref a1), .val (.int i2), .val (.int i3), .val (.int i4), .val (.int i5), .val (.int i6), .val (.int i7), .unset, .unset, .unset] [(.int i2)])
  refine Go.on (fun _ k => XS.iloadN X0.here hx rfl (hb hby d8_1) rfl k) ?_
  show Go _ _ _ _ _ _ _ _ (mkF m 2 #[.val (.ref a0), .val (.ref a1), .val (.int i2), .val (.int i3), .val (.int i4), .val (.int i5), .val (.int i6), .val (.int i7), .unset, .unset, .unset] [(.int i3), (.int i2)])
  have hc1 : ¬ (i2 < i3) := hge
  refine Go.on (fun _ k => XS.icmpNo X0.here hx rfl (hb hby d8_2) rfl (flt hc1).1 k) ?_
  show Go _ _ _ _ _ _ _ _ (mkF m 5 #[.val (.ref a0), .val (.ref a1), .val (.int i2), .val (.int i3), .val (.int i4), .val (.int i5), .val (.int i6), .val (.int i7), .unset, .unset, .unset] [])
  refine Go.on (fun _ k => XS.iconst X0.here hx rfl (hb hby d8_5) k) ?_
  show Go _ _ _ _ _ _ _ _ (mkF m 6 #[.val (.ref a0), .val (.ref a1), .val (.int i2), .val (.int i3), .val (.int i4), .val (.int i5), .val (.int i6), .val (.int i7), .unset, .unset, .unset] [(.int (1 : Int32))])
  refine Go.retN X0 hx (t := .boolean) Bd.returns (by simp) (hb hby d8_6) ?_ (by rw [hK1]; decide) (by rw [hK2]; decide)
  rw [e0, ← hQQ]
  exact ⟨rfl, N0, rfl⟩
section PureLaw
open Jvm.FP.Core
theorem own_len {i len : Int32} (h : ((1 : Int32) + (i &&& (3 : Int32))) = len) : len = 1 ∨ len = 2 ∨ len = 3 ∨ len = 4 := by
  have e1 : (i &&& 3).toInt = i.toInt % 2 ^ 2 := Jvm.Kit.i32_mask i 3 (k := 2) (by decide) (by decide)
  have l1 : (1 : Int32).toInt = 1 := by decide
  have e2 : len.toInt = 1 + i.toInt % 2 ^ 2 := by rw [← h, Jvm.Kit.i32_add (by rw [e1, l1]; omega) (by rw [e1, l1]; omega), e1, l1]
  have k2 : (2 : Int32).toInt = 2 := by decide
  have k3 : (3 : Int32).toInt = 3 := by decide
  have k4 : (4 : Int32).toInt = 4 := by decide
  simp only [← Int32.toInt_inj, l1, k2, k3, k4]; omega
theorem own_nval {y n : Int32} (h : ((1 : Int32) + ((y &&& (3 : Int32)) % (3 : Int32))) = n) : 1 ≤ n.toInt ∧ n.toInt ≤ 3 := by
  have e1 : (y &&& 3).toInt = y.toInt % 2 ^ 2 := Jvm.Kit.i32_mask y 3 (k := 2) (by decide) (by decide)
  have l3 : (3 : Int32).toInt = 3 := by decide
  have l1 : (1 : Int32).toInt = 1 := by decide
  have e2 : ((y &&& (3 : Int32)) % (3 : Int32)).toInt = y.toInt % 2 ^ 2 % 3 := by
    rw [Int32.toInt_mod, e1, l3, Int.tmod_eq_emod_of_nonneg (by omega)]
  rw [← h, Jvm.Kit.i32_add (by rw [e2, l1]; omega) (by rw [e2, l1]; omega), e2, l1]; omega
theorem own_n0 {y n : Int32} (h : ((1 : Int32) + ((y &&& (3 : Int32)) % (3 : Int32))) = n) : n ≠ 0 := fun q => by
  have := own_nval h; subst q; revert this; decide
theorem own_less3 {n : Int32} (h : n < (2 : Int32)) : n < (3 : Int32) := by
  rw [Int32.lt_iff_toInt_lt] at h ⊢
  have l2 : (2 : Int32).toInt = 2 := by decide
  have l3 : (3 : Int32).toInt = 3 := by decide
  omega
theorem own_sb (x : Int32) : (signV x).toInt.natAbs ≤ 1 := by unfold signV; split <;> decide
theorem own_cb (x j len : Int32) : (contribV x j len).toInt.natAbs ≤ 1 := by
  unfold contribV; split
  · exact own_sb x
  · decide
theorem own_u (x j len : Int32) : DInt (contribV x j len).toInt (if (indexV x len) = j then (FP.i2d (signV x)) else (0 : UInt64)) := by
  unfold contribV; split
  · exact i2d_int _
  · exact own_dz
theorem own_t1 (a j len : Int32) : DInt (contribV a j len).toInt (FP.dadd (0 : UInt64) (if (indexV a len) = j then (FP.i2d (signV a)) else (0 : UInt64))) := by
  have h := own_cb a j len
  have := dadd_int own_dz (own_u a j len) (by omega)
  rwa [Int.zero_add] at this
theorem own_t2 (a b j len : Int32) : DInt ((contribV a j len).toInt + (contribV b j len).toInt) (FP.dadd (FP.dadd (0 : UInt64) (if (indexV a len) = j then (FP.i2d (signV a)) else (0 : UInt64))) (if (indexV b len) = j then (FP.i2d (signV b)) else (0 : UInt64))) := by
  have h := own_cb a j len
  have h2 := own_cb b j len
  exact dadd_int (own_t1 a j len) (own_u b j len) (by omega)
theorem own_t3 (a b c j len : Int32) : DInt ((contribV a j len).toInt + (contribV b j len).toInt + (contribV c j len).toInt) (FP.dadd (FP.dadd (FP.dadd (0 : UInt64) (if (indexV a len) = j then (FP.i2d (signV a)) else (0 : UInt64))) (if (indexV b len) = j then (FP.i2d (signV b)) else (0 : UInt64))) (if (indexV c len) = j then (FP.i2d (signV c)) else (0 : UInt64))) := by
  have h := own_cb a j len
  have h2 := own_cb b j len
  have h3 := own_cb c j len
  exact dadd_int (own_t2 a b j len) (own_u c j len) (by omega)
def own_W (a b c n j len : Int32) : Int := (contribV a j len).toInt + (if n < (2 : Int32) then 0 else (contribV b j len).toInt) + (if n < (3 : Int32) then 0 else (contribV c j len).toInt)
theorem own_W1 {a b c n j len : Int32} {t : UInt64} (h : n < (2 : Int32)) (H : DInt (contribV a j len).toInt t) : DInt (own_W a b c n j len) t := by
  unfold own_W; rw [if_pos h, if_pos (own_less3 h), Int.add_zero, Int.add_zero]; exact H
theorem own_W2 {a b c n j len : Int32} {t : UInt64} (h : ¬ n < (2 : Int32)) (h' : n < (3 : Int32)) (H : DInt ((contribV a j len).toInt + (contribV b j len).toInt) t) : DInt (own_W a b c n j len) t := by
  unfold own_W; rw [if_neg h, if_pos h', Int.add_zero]; exact H
theorem own_W3 {a b c n j len : Int32} {t : UInt64} (h : ¬ n < (2 : Int32)) (h' : ¬ n < (3 : Int32)) (H : DInt ((contribV a j len).toInt + (contribV b j len).toInt + (contribV c j len).toInt) t) : DInt (own_W a b c n j len) t := by
  unfold own_W; rw [if_neg h, if_neg h']; exact H
theorem own_ct1 {y n : Int32} (hn : ((1 : Int32) + ((y &&& (3 : Int32)) % (3 : Int32))) = n) (h : n < (2 : Int32)) : (1 : Int32) = n := by
  have b := own_nval hn
  have l1 : (1 : Int32).toInt = 1 := by decide
  have l2 : (2 : Int32).toInt = 2 := by decide
  rw [Int32.lt_iff_toInt_lt] at h; rw [← Int32.toInt_inj]; omega
theorem own_ct2 {y n : Int32} (hn : ((1 : Int32) + ((y &&& (3 : Int32)) % (3 : Int32))) = n) (h : ¬ n < (2 : Int32)) (h' : n < (3 : Int32)) : (2 : Int32) = n := by
  have b := own_nval hn
  have l2 : (2 : Int32).toInt = 2 := by decide
  have l3 : (3 : Int32).toInt = 3 := by decide
  rw [Int32.lt_iff_toInt_lt] at h h'; rw [← Int32.toInt_inj]; omega
theorem own_ct3 {y n : Int32} (hn : ((1 : Int32) + ((y &&& (3 : Int32)) % (3 : Int32))) = n) (h : ¬ n < (2 : Int32)) (h' : ¬ n < (3 : Int32)) : (3 : Int32) = n := by
  have b := own_nval hn
  have l2 : (2 : Int32).toInt = 2 := by decide
  have l3 : (3 : Int32).toInt = 3 := by decide
  rw [Int32.lt_iff_toInt_lt] at h h'; rw [← Int32.toInt_inj]; omega
theorem own_compT {t : UInt64} {S n : Int32} {W : Int} (hn : 1 ≤ n.toInt) (hT : DInt W t) (hS : S.toInt = W) : compT (FP.ddiv t (FP.i2d n)) (FP.ddiv t (FP.i2d n)) n S = 1 := by
  have e := own_div_eq hT (hS ▸ i2d_int S) n hn
  unfold compT
  rw [e]; decide
theorem own_cmpC {y n ct a b c j len : Int32} {t : UInt64} (hn : ((1 : Int32) + ((y &&& (3 : Int32)) % (3 : Int32))) = n) (hct : ct = n) (hT : DInt (own_W a b c n j len) t) : ¬ (compV (FP.ddiv t (FP.i2d ct)) (FP.ddiv t (FP.i2d ct)) j len n a b c = (0 : Int32)) := by
  have b1 := own_nval hn
  subst hct
  have ca := own_cb a j len
  have cb := own_cb b j len
  have cc := own_cb c j len
  unfold compV
  unfold own_W at hT
  by_cases h2 : ct < (2 : Int32)
  · have h3 := own_less3 h2
    simp only [if_pos h2, if_pos h3, Int.add_zero] at hT ⊢
    rw [own_compT b1.1 hT rfl]; decide
  · by_cases h3 : ct < (3 : Int32)
    · simp only [if_neg h2, if_pos h3, Int.add_zero] at hT ⊢
      rw [own_compT b1.1 hT (Jvm.Kit.i32_add (by omega) (by omega))]; decide
    · simp only [if_neg h2, if_neg h3] at hT ⊢
      have e := Jvm.Kit.i32_add (p := contribV a j len) (q := contribV b j len) (by omega) (by omega)
      rw [own_compT b1.1 hT (by rw [Jvm.Kit.i32_add (by rw [e]; omega) (by rw [e]; omega), e])]; decide
end PureLaw

theorem pd_3 : parseMethodDescriptor "(I)V" = some ⟨[.int], none⟩ := by decide +kernel
theorem pd_4 : parseMethodDescriptor "(II)[D" = some ⟨[.int, .int], some (.array .double)⟩ := by decide +kernel
theorem pd_5 : parseMethodDescriptor "([D)V" = some ⟨[(.array .double)], none⟩ := by decide +kernel
theorem pd_6 : parseMethodDescriptor "()[D" = some ⟨[], some (.array .double)⟩ := by decide +kernel
theorem pd_7 : parseMethodDescriptor "([D[DIIIIII)Z" = some ⟨[(.array .double), (.array .double), .int, .int, .int, .int, .int, .int], some .boolean⟩ := by decide +kernel
theorem ef_rm0 (m : MethodId) (i0 : Int32) (i1 : Int32) (i2 : Int32) (i3 : Int32) : entryFrame m #[(.int i0), (.int i1), (.int i2), (.int i3)] maxLocals = mkF m 0 #[.val (.int i0), .val (.int i1), .val (.int i2), .val (.int i3), .unset, .unset, .unset, .unset, .unset] [] := by first | (simp [entryFrame, mkF, argsToLocals, Value.category, maxLocals]; done) | rfl
def Q_rm0 (Z : State) (i0 : Int32) (i1 : Int32) (i2 : Int32) (i3 : Int32) (h0 : Heap) (n0 : Nat) (v : Option Value) (h : Heap) (L : List Loc) : Prop := v = some (.int 1) ∧ Fr n0 L
set_option maxRecDepth 65536 in
set_option maxHeartbeats 40000000 in
theorem rm0 (l : Launch) (Z : State) (aw : Array Value) (hw : ∀ d ∈ tables_1, d.before aw Z = true) (ws : List Jvm.Cond) (i0 : Int32) (i1 : Int32) (i2 : Int32) (i3 : Int32) (h0 : Heap) (n0 : Nat) (Z0 : n0 ≤ h0.size) :
    MetFree l x (head1 (Jvm.Cond.code x code maxLocals ret :: ws) room_1) (fun a U => a = #[(.int i0), (.int i1), (.int i2), (.int i3)] ∧ Z.Warmed39 U.vm ∧ U.heap = h0) (fun _ _ _ _ _ => True) (fun _ U o U' => ∃ v L, o = .returned v ∧ Q_rm0 Z i0 i1 i2 i3 h0 n0 v U'.heap L ∧ FrameEnd U o U' L 7 26) := by
  refine MetFree.of_bodySF (plainFor_of_name pn_0) hisR ?_
  intro p e s m args below meth c s₁ Bd hml0 hP hK
  obtain ⟨rfl, hZ, hh⟩ := hP
  have hx := Bd.exec
  have hby := Bd.bytes
  have hml : c.maxLocals = 9 := hml0
  have hown : s.vm.findClass "com/example/d2rank/d2rank/rerank/CentroidMeanPinLaw" = some m.cls := findClass_of_methodNamed Bd.named
  have hnm := (name_of_methodNamed Bd.named Bd.method).1
  have hlk : meth.locks = false := BodyLoose.notSynchronized Bd
  have X0 : Stand p l e room_1 s m #[(.int i0), (.int i1), (.int i2), (.int i3)] below meth c s₁ [] 0 0 := Stand.of_body Bd
  have e0 : s₁.heap = h0 := by rw [← hh, Bd.state]; rfl
  have N0 := Fr.nil n0
  have ZZ := Z0
  show Go p e below s 7 26 (fun v h L => Q_rm0 Z i0 i1 i2 i3 h0 n0 v h L) s₁ (entryFrame m #[(.int i0), (.int i1), (.int i2), (.int i3)] maxLocals)
  refine Go.cast (ef_rm0 m i0 i1 i2 i3) ?_
  refine Go.gen ?_
  intro K1 K2 QQ hK1 hK2 hQQ
  refine Go.on (fun _ k => XS.iconst X0.here hx rfl (hb hby at_0) k) ?_
  show Go _ _ _ _ _ _ _ _ (mkF m 1 #[.val (.int i0), .val (.int i1), .val (.int i2), .val (.int i3), .unset, .unset, .unset, .unset, .unset] [(.int (1 : Int32))])
  refine Go.on (fun _ k => XS.iloadN X0.here hx rfl (hb hby at_1) rfl k) ?_
  show Go _ _ _ _ _ _ _ _ (mkF m 2 #[.val (.int i0), .val (.int i1), .val (.int i2), .val (.int i3), .unset, .unset, .unset, .unset, .unset] [(.int i0), (.int (1 : Int32))])
  refine Go.on (fun _ k => XS.iconst X0.here hx rfl (hb hby at_2) k) ?_
  show Go _ _ _ _ _ _ _ _ (mkF m 3 #[.val (.int i0), .val (.int i1), .val (.int i2), .val (.int i3), .unset, .unset, .unset, .unset, .unset] [(.int (3 : Int32)), (.int i0), (.int (1 : Int32))])
  refine Go.on (fun _ k => XS.iand X0.here hx rfl (hb hby at_3) rfl k) ?_
  show Go _ _ _ _ _ _ _ _ (mkF m 4 #[.val (.int i0), .val (.int i1), .val (.int i2), .val (.int i3), .unset, .unset, .unset, .unset, .unset] [(.int (i0 &&& (3 : Int32))), (.int (1 : Int32))])
  refine Go.on (fun _ k => XS.iadd X0.here hx rfl (hb hby at_4) rfl k) ?_
  show Go _ _ _ _ _ _ _ _ (mkF m 5 #[.val (.int i0), .val (.int i1), .val (.int i2), .val (.int i3), .unset, .unset, .unset, .unset, .unset] [(.int ((1 : Int32) + (i0 &&& (3 : Int32))))])
  refine Go.on (fun _ k => XS.istore X0.here hx rfl (hb hby at_5) rfl (l' := #[.val (.int i0), .val (.int i1), .val (.int i2), .val (.int i3), .val (.int ((1 : Int32) + (i0 &&& (3 : Int32)))), .unset, .unset, .unset, .unset]) rfl k) ?_
  show Go _ _ _ _ _ _ _ _ (mkF m 7 #[.val (.int i0), .val (.int i1), .val (.int i2), .val (.int i3), .val (.int ((1 : Int32) + (i0 &&& (3 : Int32)))), .unset, .unset, .unset, .unset] [])
  generalize hlen : ((1 : Int32) + (i0 &&& (3 : Int32))) = len
  show Go _ _ _ _ _ _ _ _ (mkF m 7 #[.val (.int i0), .val (.int i1), .val (.int i2), .val (.int i3), .val (.int len), .unset, .unset, .unset, .unset] [])
  refine Go.on (fun _ k => XS.iconst X0.here hx rfl (hb hby at_7) k) ?_
  show Go _ _ _ _ _ _ _ _ (mkF m 8 #[.val (.int i0), .val (.int i1), .val (.int i2), .val (.int i3), .val (.int len), .unset, .unset, .unset, .unset] [(.int (1 : Int32))])
  refine Go.on (fun _ k => XS.iloadN X0.here hx rfl (hb hby at_8) rfl k) ?_
  show Go _ _ _ _ _ _ _ _ (mkF m 9 #[.val (.int i0), .val (.int i1), .val (.int i2), .val (.int i3), .val (.int len), .unset, .unset, .unset, .unset] [(.int i0), (.int (1 : Int32))])
  refine Go.on (fun _ k => XS.iconst X0.here hx rfl (hb hby at_9) k) ?_
  show Go _ _ _ _ _ _ _ _ (mkF m 10 #[.val (.int i0), .val (.int i1), .val (.int i2), .val (.int i3), .val (.int len), .unset, .unset, .unset, .unset] [(.int (2 : Int32)), (.int i0), (.int (1 : Int32))])
  refine Go.on (fun _ k => XS.iushr X0.here hx rfl (hb hby at_10) rfl k) ?_
  show Go _ _ _ _ _ _ _ _ (mkF m 11 #[.val (.int i0), .val (.int i1), .val (.int i2), .val (.int i3), .val (.int len), .unset, .unset, .unset, .unset] [(.int ((i0.toUInt32 >>> ((2 : Int32) &&& 31).toUInt32).toInt32)), (.int (1 : Int32))])
  refine Go.on (fun _ k => XS.iconst X0.here hx rfl (hb hby at_11) k) ?_
  show Go _ _ _ _ _ _ _ _ (mkF m 12 #[.val (.int i0), .val (.int i1), .val (.int i2), .val (.int i3), .val (.int len), .unset, .unset, .unset, .unset] [(.int (3 : Int32)), (.int ((i0.toUInt32 >>> ((2 : Int32) &&& 31).toUInt32).toInt32)), (.int (1 : Int32))])
  refine Go.on (fun _ k => XS.iand X0.here hx rfl (hb hby at_12) rfl k) ?_
  show Go _ _ _ _ _ _ _ _ (mkF m 13 #[.val (.int i0), .val (.int i1), .val (.int i2), .val (.int i3), .val (.int len), .unset, .unset, .unset, .unset] [(.int (((i0.toUInt32 >>> ((2 : Int32) &&& 31).toUInt32).toInt32) &&& (3 : Int32))), (.int (1 : Int32))])
  refine Go.on (fun _ k => XS.iconst X0.here hx rfl (hb hby at_13) k) ?_
  show Go _ _ _ _ _ _ _ _ (mkF m 14 #[.val (.int i0), .val (.int i1), .val (.int i2), .val (.int i3), .val (.int len), .unset, .unset, .unset, .unset] [(.int (3 : Int32)), (.int (((i0.toUInt32 >>> ((2 : Int32) &&& 31).toUInt32).toInt32) &&& (3 : Int32))), (.int (1 : Int32))])
  refine Go.on (fun _ k => iremM X0 hx rfl (hb hby at_14) rfl (by decide) k) ?_
  show Go _ _ _ _ _ _ _ _ (mkF m 15 #[.val (.int i0), .val (.int i1), .val (.int i2), .val (.int i3), .val (.int len), .unset, .unset, .unset, .unset] [(.int ((((i0.toUInt32 >>> ((2 : Int32) &&& 31).toUInt32).toInt32) &&& (3 : Int32)) % (3 : Int32))), (.int (1 : Int32))])
  refine Go.on (fun _ k => XS.iadd X0.here hx rfl (hb hby at_15) rfl k) ?_
  show Go _ _ _ _ _ _ _ _ (mkF m 16 #[.val (.int i0), .val (.int i1), .val (.int i2), .val (.int i3), .val (.int len), .unset, .unset, .unset, .unset] [(.int ((1 : Int32) + ((((i0.toUInt32 >>> ((2 : Int32) &&& 31).toUInt32).toInt32) &&& (3 : Int32)) % (3 : Int32))))])
  refine Go.on (fun _ k => XS.istore X0.here hx rfl (hb hby at_16) rfl (l' := #[.val (.int i0), .val (.int i1), .val (.int i2), .val (.int i3), .val (.int len), .val (.int ((1 : Int32) + ((((i0.toUInt32 >>> ((2 : Int32) &&& 31).toUInt32).toInt32) &&& (3 : Int32)) % (3 : Int32)))), .unset, .unset, .unset]) rfl k) ?_
  show Go _ _ _ _ _ _ _ _ (mkF m 18 #[.val (.int i0), .val (.int i1), .val (.int i2), .val (.int i3), .val (.int len), .val (.int ((1 : Int32) + ((((i0.toUInt32 >>> ((2 : Int32) &&& 31).toUInt32).toInt32) &&& (3 : Int32)) % (3 : Int32)))), .unset, .unset, .unset] [])
  generalize hn : ((1 : Int32) + ((((i0.toUInt32 >>> ((2 : Int32) &&& 31).toUInt32).toInt32) &&& (3 : Int32)) % (3 : Int32))) = n
  show Go _ _ _ _ _ _ _ _ (mkF m 18 #[.val (.int i0), .val (.int i1), .val (.int i2), .val (.int i3), .val (.int len), .val (.int n), .unset, .unset, .unset] [])
  rcases own_len hlen with hl | hl | hl | hl
  · -- length 1
    subst hl
    show Go _ _ _ _ _ _ _ _ (mkF m 18 #[.val (.int i0), .val (.int i1), .val (.int i2), .val (.int i3), .val (.int (1 : Int32)), .val (.int n), .unset, .unset, .unset] [])
    obtain ⟨T1, h1, X1, e1, E1, A1, D1, -, st1⟩ := newO X0 hx hZ hown (hw _ (List.mem_of_getElem? (i := 0) rfl)) (hw _ (List.mem_of_getElem? (i := 1) rfl)) (hw _ (List.mem_of_getElem? (i := 2) rfl)) e0 (g := (mkF m 18 #[.val (.int i0), .val (.int i1), .val (.int i2), .val (.int i3), .val (.int (1 : Int32)), .val (.int n), .unset, .unset, .unset] [])) rfl (hb hby at_18) (by decide) (by decide)
    obtain ⟨q, g1⟩ : ∃ z, z = h0.size := ⟨_, rfl⟩
    have g_q : n0 ≤ q := Nat.le_trans ZZ (Nat.le_of_eq g1.symm)
    rw [← g1] at A1 D1 st1
    replace ZZ := Nat.le_trans ZZ E1.1
    have E_q := A1
    have F_sum_q : Fld Z h1 q "com/example/d2rank/d2rank/rerank/Centroid" "sum" "[D" .null := D1 (Or.inr (hw _ (List.mem_of_getElem? (i := 11) rfl))) (ty := (.array .double)) (by decide)
    have F_count_q : Fld Z h1 q "com/example/d2rank/d2rank/rerank/Centroid" "count" "I" (.int (0 : Int32)) := D1 (Or.inl (hw _ (List.mem_of_getElem? (i := 29) rfl))) (ty := .int) (by decide)
    refine Go.on st1 ?_
    show Go _ _ _ _ _ _ _ _ (mkF m 21 #[.val (.int i0), .val (.int i1), .val (.int i2), .val (.int i3), .val (.int (1 : Int32)), .val (.int n), .unset, .unset, .unset] [(.ref q)])
    refine Go.on (fun _ k => XS.dup X1.here hx rfl (hb hby at_21) rfl rfl k) ?_
    show Go _ _ _ _ _ _ _ _ (mkF m 22 #[.val (.int i0), .val (.int i1), .val (.int i2), .val (.int i3), .val (.int (1 : Int32)), .val (.int n), .unset, .unset, .unset] [(.ref q), (.ref q)])
    refine Go.on (fun _ k => XS.iload X1.here hx rfl (hb hby at_22) rfl k) ?_
    show Go _ _ _ _ _ _ _ _ (mkF m 24 #[.val (.int i0), .val (.int i1), .val (.int i2), .val (.int i3), .val (.int (1 : Int32)), .val (.int n), .unset, .unset, .unset] [(.int (1 : Int32)), (.ref q), (.ref q)])
    obtain ⟨_, _, ⟨T2, L2, k2, n2⟩, -, X2, ⟨Lc2, hQ2, l2, y2, z2⟩, st2⟩ := X1.specialBack hx (y := (⟨"com/example/d2rank/d2rank/rerank/Centroid", "<init>", "(I)V"⟩ : MethodName)) rfl hown (mvT hZ (hw _ (List.mem_of_getElem? (i := 3) rfl))) (mvT hZ (hw _ (List.mem_of_getElem? (i := 4) rfl))) (mvT hZ (hw _ (List.mem_of_getElem? (i := 5) rfl))) (by decide) (backOf (W := 1) (ci_1 l Z aw hw [] q .null h1 n0 ZZ E_q F_sum_q F_count_q g_q) hZ (hw _ (List.mem_of_getElem? (i := 5) rfl)) (hw _ (List.mem_of_getElem? (i := 2) rfl)) (by decide) (by decide)) (g := (mkF m 24 #[.val (.int i0), .val (.int i1), .val (.int i2), .val (.int i3), .val (.int (1 : Int32)), .val (.int n), .unset, .unset, .unset] [(.int (1 : Int32)), (.ref q), (.ref q)])) rfl (by rw [hml]; rfl) (Steps.refl _) (a := q) (argsL := [(.int (1 : Int32))]) (rest := [(.ref q)]) (lenOf pd_3 rfl) rfl (by show 2 * 0 + _ ≤ _; exact Nat.le_of_eq rfl) (hb hby at_24) (fun _ _ => ⟨rfl, e1, (by decide : 1 + 1 ≤ _), (by decide : 2 + 1 ≤ _)⟩)
    dsimp only [Pt.U, Pt.locs, Pt.cells, Pt.slots] at X2 l2 y2 z2 st2 hQ2
    subst l2 y2 z2
    obtain ⟨h2, e2⟩ : ∃ q, T2.heap = q := ⟨_, rfl⟩
    rw [e2] at hQ2
    obtain ⟨rfl, N2q, ar, k_ar, K2q, szarq, Eq2, F_sumq2, F_countq2, V_ar⟩ := hQ2
    have N2 := Fr.app N0 N2q
    have ZZ2p := ZZ
    have lt_q := E_q.lt
    replace E_q := E_q.keep K2q
    replace ZZ := Nat.le_trans ZZ K2q.1
    have F_sum_q := F_sumq2
    have F_count_q := F_countq2
    have g_ar : n0 ≤ ar := Nat.le_trans ZZ2p szarq
    have ne_q_ar : q ≠ ar := Nat.ne_of_lt (Nat.lt_of_lt_of_le lt_q szarq)
    refine Go.on (fun _ k => st2.trans k) ?_
    show Go _ _ _ _ _ _ _ _ (mkF m 27 #[.val (.int i0), .val (.int i1), .val (.int i2), .val (.int i3), .val (.int (1 : Int32)), .val (.int n), .unset, .unset, .unset] [(.ref q)])
    refine Go.on (fun _ k => XS.astore X2.here hx rfl (hb hby at_27) rfl rfl (l' := #[.val (.int i0), .val (.int i1), .val (.int i2), .val (.int i3), .val (.int (1 : Int32)), .val (.int n), .val (.ref q), .unset, .unset]) rfl k) ?_
    show Go _ _ _ _ _ _ _ _ (mkF m 29 #[.val (.int i0), .val (.int i1), .val (.int i2), .val (.int i3), .val (.int (1 : Int32)), .val (.int n), .val (.ref q), .unset, .unset] [])
    refine Go.on (fun _ k => XS.aload X2.here hx rfl (hb hby at_29) rfl rfl k) ?_
    show Go _ _ _ _ _ _ _ _ (mkF m 31 #[.val (.int i0), .val (.int i1), .val (.int i2), .val (.int i3), .val (.int (1 : Int32)), .val (.int n), .val (.ref q), .unset, .unset] [(.ref q)])
    refine Go.on (fun _ k => XS.iloadN X2.here hx rfl (hb hby at_31) rfl k) ?_
    show Go _ _ _ _ _ _ _ _ (mkF m 32 #[.val (.int i0), .val (.int i1), .val (.int i2), .val (.int i3), .val (.int (1 : Int32)), .val (.int n), .val (.ref q), .unset, .unset] [(.int i1), (.ref q)])
    refine Go.on (fun _ k => XS.iload X2.here hx rfl (hb hby at_32) rfl k) ?_
    show Go _ _ _ _ _ _ _ _ (mkF m 34 #[.val (.int i0), .val (.int i1), .val (.int i2), .val (.int i3), .val (.int (1 : Int32)), .val (.int n), .val (.ref q), .unset, .unset] [(.int (1 : Int32)), (.int i1), (.ref q)])
    obtain ⟨_, _, ⟨T3, L3, k3, n3⟩, -, X3, ⟨Lc3, hQ3, l3, y3, z3⟩, st3⟩ := Jvm.LawKit.callS X2 hx (y := (⟨"com/example/d2rank/d2rank/rerank/CentroidMeanPinLaw", "unit", "(II)[D"⟩ : MethodName)) hown (mvT hZ (hw _ (List.mem_of_getElem? (i := 12) rfl))) (mvT hZ (hw _ (List.mem_of_getElem? (i := 13) rfl))) (mvT hZ (hw _ (List.mem_of_getElem? (i := 14) rfl))) (mvT hZ (hw _ (List.mem_of_getElem? (i := 15) rfl))) (by decide) (backOf (W := 1) (un_1 l Z aw hw [] i1  h2 n0 ZZ ) hZ (hw _ (List.mem_of_getElem? (i := 15) rfl)) (hw _ (List.mem_of_getElem? (i := 14) rfl)) (by decide) (by decide)) (g := (mkF m 34 #[.val (.int i0), .val (.int i1), .val (.int i2), .val (.int i3), .val (.int (1 : Int32)), .val (.int n), .val (.ref q), .unset, .unset] [(.int (1 : Int32)), (.int i1), (.ref q)])) rfl (by rw [hml]; rfl) (argsL := [(.int i1), (.int (1 : Int32))]) (rest := [(.ref q)]) (lenOf pd_4 rfl) rfl (by show 2 * 0 + _ ≤ _; exact Nat.le_of_eq rfl) (hb hby at_34) (fun _ _ => ⟨rfl, e2, (by decide : 2 + 1 ≤ _), (by decide : 3 + 1 ≤ _)⟩)
    dsimp only [Pt.U, Pt.locs, Pt.cells, Pt.slots] at X3 l3 y3 z3 st3 hQ3
    subst l3 y3 z3
    obtain ⟨h3, e3⟩ : ∃ q, T3.heap = q := ⟨_, rfl⟩
    rw [e3] at hQ3
    obtain ⟨u1, k_u1, rfl, N3q, K3q, szq3, V_u1⟩ := hQ3
    have N3 := Fr.app N2 N3q
    have ne_q_u1 : q ≠ u1 := Nat.ne_of_lt (Nat.lt_of_lt_of_le E_q.lt szq3)
    have ne_ar_u1 : ar ≠ u1 := Nat.ne_of_lt (Nat.lt_of_lt_of_le V_ar.lt szq3)
    replace E_q := E_q.keep K3q
    replace F_sum_q := F_sum_q.keep K3q nin0
    replace F_count_q := F_count_q.keep K3q nin0
    replace V_ar := V_ar.keep K3q nin0
    replace ZZ := Nat.le_trans ZZ K3q.1
    refine Go.on st3 ?_
    show Go _ _ _ _ _ _ _ _ (mkF m 37 #[.val (.int i0), .val (.int i1), .val (.int i2), .val (.int i3), .val (.int (1 : Int32)), .val (.int n), .val (.ref q), .unset, .unset] [(.ref u1), (.ref q)])
    obtain ⟨cq4, kq4, q4a, q4b, q4c⟩ := isOf hZ e3 E_q
    obtain ⟨_, _, ⟨T4, L4, k4, n4⟩, -, X4, ⟨Lc4, hQ4, l4, y4, z4⟩, st4⟩ := X3.virtualBack hx (y := (⟨"com/example/d2rank/d2rank/rerank/Centroid", "add", "([D)V"⟩ : MethodName)) (z := (⟨"com/example/d2rank/d2rank/rerank/Centroid", "add", "([D)V"⟩ : MethodName)) hown (mvT hZ (hw _ (List.mem_of_getElem? (i := 23) rfl))) (mvT hZ (hw _ (List.mem_of_getElem? (i := 24) rfl))) (notFace_of_selects (args := #[]) (mvT hZ (hw _ (List.mem_of_getElem? (i := 26) rfl)))) (mvT hZ (hw _ (List.mem_of_getElem? (i := 26) rfl))) (mvT hZ (hw _ (List.mem_of_getElem? (i := 25) rfl))) (by decide) (backOf (W := 0) (ca_1 l Z aw hw [] q u1 ar (0 : Int32) k_ar (0 : UInt64) k_u1 (if (indexV i1 (1 : Int32)) = (0 : Int32) then (FP.i2d (signV i1)) else (0 : UInt64)) h3 n0 ZZ E_q F_sum_q F_count_q V_ar V_u1 g_q g_ar ne_q_ar (Ne.symm ne_ar_u1) (Ne.symm ne_q_u1) (own_dnn (own_t1 i1 (0 : Int32) (1 : Int32)))) hZ (hw _ (List.mem_of_getElem? (i := 27) rfl)) (hw _ (List.mem_of_getElem? (i := 2) rfl)) (by decide) (by decide)) q4a q4c (g := (mkF m 37 #[.val (.int i0), .val (.int i1), .val (.int i2), .val (.int i3), .val (.int (1 : Int32)), .val (.int n), .val (.ref q), .unset, .unset] [(.ref u1), (.ref q)])) rfl (by rw [hml]; rfl) (Steps.refl _) (argsL := [(.ref u1)]) (rest := []) (lenOf pd_5 rfl) rfl (by show 2 * 0 + _ ≤ _; exact Nat.le_of_eq rfl) (hb hby at_37) (fun _ _ => ⟨rfl, e3, (by decide : 3 + 0 ≤ _), (by decide : 4 + 0 ≤ _)⟩)
    dsimp only [Pt.U, Pt.locs, Pt.cells, Pt.slots] at X4 l4 y4 z4 st4 hQ4
    subst l4 y4 z4
    obtain ⟨h4, e4⟩ : ∃ q, T4.heap = q := ⟨_, rfl⟩
    rw [e4] at hQ4
    obtain ⟨rfl, N4q, K4q, Eq4, F_sumq4, F_countq4, V_q4⟩ := hQ4
    have N4 := Fr.app N3 N4q
    have ZZ4p := ZZ
    have lt_q := E_q.lt
    have lt_ar := V_ar.lt
    have lt_u1 := V_u1.lt
    replace E_q := E_q.keep K4q
    replace V_u1 := V_u1.keep K4q (ninS (Ne.symm ne_q_u1) (ninS (Ne.symm ne_ar_u1) nin0))
    replace ZZ := Nat.le_trans ZZ K4q.1
    have F_sum_q := F_sumq4
    have F_count_q : Fld Z h4 q "com/example/d2rank/d2rank/rerank/Centroid" "count" "I" (.int (1 : Int32)) := F_countq4
    have V_ar := V_q4
    refine Go.on (fun _ k => st4.trans k) ?_
    show Go _ _ _ _ _ _ _ _ (mkF m 40 #[.val (.int i0), .val (.int i1), .val (.int i2), .val (.int i3), .val (.int (1 : Int32)), .val (.int n), .val (.ref q), .unset, .unset] [])
    refine Go.on (fun _ k => XS.iload X4.here hx rfl (hb hby at_40) rfl k) ?_
    show Go _ _ _ _ _ _ _ _ (mkF m 42 #[.val (.int i0), .val (.int i1), .val (.int i2), .val (.int i3), .val (.int (1 : Int32)), .val (.int n), .val (.ref q), .unset, .unset] [(.int n)])
    refine Go.on (fun _ k => XS.iconst X4.here hx rfl (hb hby at_42) k) ?_
    show Go _ _ _ _ _ _ _ _ (mkF m 43 #[.val (.int i0), .val (.int i1), .val (.int i2), .val (.int i3), .val (.int (1 : Int32)), .val (.int n), .val (.ref q), .unset, .unset] [(.int (2 : Int32)), (.int n)])
    suffices hJ5 : ∀ (T5 : State) (locs5 : List Loc) (h5 : Heap) (t0 : UInt64) (ct : Int32), Stand p l e room_1 s m #[(.int i0), (.int i1), (.int i2), (.int i3)] below meth c T5 locs5 5 6 → T5.heap = h5 → Fr n0 locs5 → n0 ≤ h5.size → Exa Z h5 q "com/example/d2rank/d2rank/rerank/Centroid" → Fld Z h5 q "com/example/d2rank/d2rank/rerank/Centroid" "sum" "[D" (.ref ar) → Fld Z h5 q "com/example/d2rank/d2rank/rerank/Centroid" "count" "I" (.int ct) → Arv Z h5 ar k_ar .double (1 : Int32) [(.double t0)] (.double (0 : UInt64)) → ct = n → Jvm.FP.Core.DInt (own_W i1 i2 i3 n (0 : Int32) (1 : Int32)) t0 → Go p e below s K1 K2 QQ T5 (mkF m 74 #[.val (.int i0), .val (.int i1), .val (.int i2), .val (.int i3), .val (.int (1 : Int32)), .val (.int n), .val (.ref q), .unset, .unset] []) by
      by_cases hc6 : n < (2 : Int32)
      · -- pc 43
        refine Go.on (fun _ k => XS.icmpYes X4.here hx rfl (pc0 := 43) (pc' := 57) rfl (hb hby at_43) rfl (tlt hc6).1 (by decide) (by decide) k) ?_
        show Go _ _ _ _ _ _ _ _ (mkF m 57 #[.val (.int i0), .val (.int i1), .val (.int i2), .val (.int i3), .val (.int (1 : Int32)), .val (.int n), .val (.ref q), .unset, .unset] [])
        refine Go.on (fun _ k => XS.iload X4.here hx rfl (hb hby at_57) rfl k) ?_
        show Go _ _ _ _ _ _ _ _ (mkF m 59 #[.val (.int i0), .val (.int i1), .val (.int i2), .val (.int i3), .val (.int (1 : Int32)), .val (.int n), .val (.ref q), .unset, .unset] [(.int n)])
        refine Go.on (fun _ k => XS.iconst X4.here hx rfl (hb hby at_59) k) ?_
        show Go _ _ _ _ _ _ _ _ (mkF m 60 #[.val (.int i0), .val (.int i1), .val (.int i2), .val (.int i3), .val (.int (1 : Int32)), .val (.int n), .val (.ref q), .unset, .unset] [(.int (3 : Int32)), (.int n)])
        have hc7 : n < (3 : Int32) := own_less3 hc6
        refine Go.on (fun _ k => XS.icmpYes X4.here hx rfl (pc0 := 60) (pc' := 74) rfl (hb hby at_60) rfl (tlt hc7).1 (by decide) (by decide) k) ?_
        show Go _ _ _ _ _ _ _ _ (mkF m 74 #[.val (.int i0), .val (.int i1), .val (.int i2), .val (.int i3), .val (.int (1 : Int32)), .val (.int n), .val (.ref q), .unset, .unset] [])
        exact hJ5 _ _ _ (FP.dadd (0 : UInt64) (if (indexV i1 (1 : Int32)) = (0 : Int32) then (FP.i2d (signV i1)) else (0 : UInt64))) (1 : Int32) (X4.more (by decide) (by decide)) e4 N4 ZZ E_q F_sum_q F_count_q V_ar (own_ct1 hn hc6) (own_W1 hc6 (own_t1 i1 (0 : Int32) (1 : Int32)))
      · -- pc 43
        refine Go.on (fun _ k => XS.icmpNo X4.here hx rfl (hb hby at_43) rfl (flt hc6).1 k) ?_
        show Go _ _ _ _ _ _ _ _ (mkF m 46 #[.val (.int i0), .val (.int i1), .val (.int i2), .val (.int i3), .val (.int (1 : Int32)), .val (.int n), .val (.ref q), .unset, .unset] [])
        refine Go.on (fun _ k => XS.aload X4.here hx rfl (hb hby at_46) rfl rfl k) ?_
        show Go _ _ _ _ _ _ _ _ (mkF m 48 #[.val (.int i0), .val (.int i1), .val (.int i2), .val (.int i3), .val (.int (1 : Int32)), .val (.int n), .val (.ref q), .unset, .unset] [(.ref q)])
        refine Go.on (fun _ k => XS.iloadN X4.here hx rfl (hb hby at_48) rfl k) ?_
        show Go _ _ _ _ _ _ _ _ (mkF m 49 #[.val (.int i0), .val (.int i1), .val (.int i2), .val (.int i3), .val (.int (1 : Int32)), .val (.int n), .val (.ref q), .unset, .unset] [(.int i2), (.ref q)])
        refine Go.on (fun _ k => XS.iload X4.here hx rfl (hb hby at_49) rfl k) ?_
        show Go _ _ _ _ _ _ _ _ (mkF m 51 #[.val (.int i0), .val (.int i1), .val (.int i2), .val (.int i3), .val (.int (1 : Int32)), .val (.int n), .val (.ref q), .unset, .unset] [(.int (1 : Int32)), (.int i2), (.ref q)])
        obtain ⟨_, _, ⟨T8, L8, k8, n8⟩, -, X8, ⟨Lc8, hQ8, l8, y8, z8⟩, st8⟩ := Jvm.LawKit.callS X4 hx (y := (⟨"com/example/d2rank/d2rank/rerank/CentroidMeanPinLaw", "unit", "(II)[D"⟩ : MethodName)) hown (mvT hZ (hw _ (List.mem_of_getElem? (i := 12) rfl))) (mvT hZ (hw _ (List.mem_of_getElem? (i := 13) rfl))) (mvT hZ (hw _ (List.mem_of_getElem? (i := 14) rfl))) (mvT hZ (hw _ (List.mem_of_getElem? (i := 15) rfl))) (by decide) (backOf (W := 1) (un_1 l Z aw hw [] i2  h4 n0 ZZ ) hZ (hw _ (List.mem_of_getElem? (i := 15) rfl)) (hw _ (List.mem_of_getElem? (i := 14) rfl)) (by decide) (by decide)) (g := (mkF m 51 #[.val (.int i0), .val (.int i1), .val (.int i2), .val (.int i3), .val (.int (1 : Int32)), .val (.int n), .val (.ref q), .unset, .unset] [(.int (1 : Int32)), (.int i2), (.ref q)])) rfl (by rw [hml]; rfl) (argsL := [(.int i2), (.int (1 : Int32))]) (rest := [(.ref q)]) (lenOf pd_4 rfl) rfl (by show 2 * 0 + _ ≤ _; exact Nat.le_of_eq rfl) (hb hby at_51) (fun _ _ => ⟨rfl, e4, (by decide : 3 + 1 ≤ _), (by decide : 4 + 1 ≤ _)⟩)
        dsimp only [Pt.U, Pt.locs, Pt.cells, Pt.slots] at X8 l8 y8 z8 st8 hQ8
        subst l8 y8 z8
        obtain ⟨h8, e8⟩ : ∃ q, T8.heap = q := ⟨_, rfl⟩
        rw [e8] at hQ8
        obtain ⟨u2, k_u2, rfl, N8q, K8q, szq8, V_u2⟩ := hQ8
        have N8 := Fr.app N4 N8q
        have ne_q_u2 : q ≠ u2 := Nat.ne_of_lt (Nat.lt_of_lt_of_le E_q.lt szq8)
        have ne_u1_u2 : u1 ≠ u2 := Nat.ne_of_lt (Nat.lt_of_lt_of_le V_u1.lt szq8)
        have ne_ar_u2 : ar ≠ u2 := Nat.ne_of_lt (Nat.lt_of_lt_of_le V_ar.lt szq8)
        replace E_q := E_q.keep K8q
        replace V_u1 := V_u1.keep K8q nin0
        replace F_sum_q := F_sum_q.keep K8q nin0
        replace F_count_q := F_count_q.keep K8q nin0
        replace V_ar := V_ar.keep K8q nin0
        replace ZZ := Nat.le_trans ZZ K8q.1
        refine Go.on st8 ?_
        show Go _ _ _ _ _ _ _ _ (mkF m 54 #[.val (.int i0), .val (.int i1), .val (.int i2), .val (.int i3), .val (.int (1 : Int32)), .val (.int n), .val (.ref q), .unset, .unset] [(.ref u2), (.ref q)])
        obtain ⟨cq9, kq9, q9a, q9b, q9c⟩ := isOf hZ e8 E_q
        obtain ⟨_, _, ⟨T9, L9, k9, n9⟩, -, X9, ⟨Lc9, hQ9, l9, y9, z9⟩, st9⟩ := X8.virtualBack hx (y := (⟨"com/example/d2rank/d2rank/rerank/Centroid", "add", "([D)V"⟩ : MethodName)) (z := (⟨"com/example/d2rank/d2rank/rerank/Centroid", "add", "([D)V"⟩ : MethodName)) hown (mvT hZ (hw _ (List.mem_of_getElem? (i := 23) rfl))) (mvT hZ (hw _ (List.mem_of_getElem? (i := 24) rfl))) (notFace_of_selects (args := #[]) (mvT hZ (hw _ (List.mem_of_getElem? (i := 26) rfl)))) (mvT hZ (hw _ (List.mem_of_getElem? (i := 26) rfl))) (mvT hZ (hw _ (List.mem_of_getElem? (i := 25) rfl))) (by decide) (backOf (W := 0) (ca_1 l Z aw hw [] q u2 ar (1 : Int32) k_ar (FP.dadd (0 : UInt64) (if (indexV i1 (1 : Int32)) = (0 : Int32) then (FP.i2d (signV i1)) else (0 : UInt64))) k_u2 (if (indexV i2 (1 : Int32)) = (0 : Int32) then (FP.i2d (signV i2)) else (0 : UInt64)) h8 n0 ZZ E_q F_sum_q F_count_q V_ar V_u2 g_q g_ar ne_q_ar (Ne.symm ne_ar_u2) (Ne.symm ne_q_u2) (own_dnn (own_t2 i1 i2 (0 : Int32) (1 : Int32)))) hZ (hw _ (List.mem_of_getElem? (i := 27) rfl)) (hw _ (List.mem_of_getElem? (i := 2) rfl)) (by decide) (by decide)) q9a q9c (g := (mkF m 54 #[.val (.int i0), .val (.int i1), .val (.int i2), .val (.int i3), .val (.int (1 : Int32)), .val (.int n), .val (.ref q), .unset, .unset] [(.ref u2), (.ref q)])) rfl (by rw [hml]; rfl) (Steps.refl _) (argsL := [(.ref u2)]) (rest := []) (lenOf pd_5 rfl) rfl (by show 2 * 0 + _ ≤ _; exact Nat.le_of_eq rfl) (hb hby at_54) (fun _ _ => ⟨rfl, e8, (by decide : 4 + 0 ≤ _), (by decide : 5 + 0 ≤ _)⟩)
        dsimp only [Pt.U, Pt.locs, Pt.cells, Pt.slots] at X9 l9 y9 z9 st9 hQ9
        subst l9 y9 z9
        obtain ⟨h9, e9⟩ : ∃ q, T9.heap = q := ⟨_, rfl⟩
        rw [e9] at hQ9
        obtain ⟨rfl, N9q, K9q, Eq9, F_sumq9, F_countq9, V_q9⟩ := hQ9
        have N9 := Fr.app N8 N9q
        have ZZ9p := ZZ
        have lt_q := E_q.lt
        have lt_u1 := V_u1.lt
        have lt_ar := V_ar.lt
        have lt_u2 := V_u2.lt
        replace E_q := E_q.keep K9q
        replace V_u1 := V_u1.keep K9q (ninS (Ne.symm ne_q_u1) (ninS (Ne.symm ne_ar_u1) nin0))
        replace V_u2 := V_u2.keep K9q (ninS (Ne.symm ne_q_u2) (ninS (Ne.symm ne_ar_u2) nin0))
        replace ZZ := Nat.le_trans ZZ K9q.1
        have F_sum_q := F_sumq9
        have F_count_q : Fld Z h9 q "com/example/d2rank/d2rank/rerank/Centroid" "count" "I" (.int (2 : Int32)) := F_countq9
        have V_ar := V_q9
        refine Go.on (fun _ k => st9.trans k) ?_
        show Go _ _ _ _ _ _ _ _ (mkF m 57 #[.val (.int i0), .val (.int i1), .val (.int i2), .val (.int i3), .val (.int (1 : Int32)), .val (.int n), .val (.ref q), .unset, .unset] [])
        refine Go.on (fun _ k => XS.iload X9.here hx rfl (hb hby at_57) rfl k) ?_
        show Go _ _ _ _ _ _ _ _ (mkF m 59 #[.val (.int i0), .val (.int i1), .val (.int i2), .val (.int i3), .val (.int (1 : Int32)), .val (.int n), .val (.ref q), .unset, .unset] [(.int n)])
        refine Go.on (fun _ k => XS.iconst X9.here hx rfl (hb hby at_59) k) ?_
        show Go _ _ _ _ _ _ _ _ (mkF m 60 #[.val (.int i0), .val (.int i1), .val (.int i2), .val (.int i3), .val (.int (1 : Int32)), .val (.int n), .val (.ref q), .unset, .unset] [(.int (3 : Int32)), (.int n)])
        by_cases hc10 : n < (3 : Int32)
        · -- pc 60
          refine Go.on (fun _ k => XS.icmpYes X9.here hx rfl (pc0 := 60) (pc' := 74) rfl (hb hby at_60) rfl (tlt hc10).1 (by decide) (by decide) k) ?_
          show Go _ _ _ _ _ _ _ _ (mkF m 74 #[.val (.int i0), .val (.int i1), .val (.int i2), .val (.int i3), .val (.int (1 : Int32)), .val (.int n), .val (.ref q), .unset, .unset] [])
          exact hJ5 _ _ _ (FP.dadd (FP.dadd (0 : UInt64) (if (indexV i1 (1 : Int32)) = (0 : Int32) then (FP.i2d (signV i1)) else (0 : UInt64))) (if (indexV i2 (1 : Int32)) = (0 : Int32) then (FP.i2d (signV i2)) else (0 : UInt64))) (2 : Int32) (X9.more (by decide) (by decide)) e9 N9 ZZ E_q F_sum_q F_count_q V_ar (own_ct2 hn hc6 hc10) (own_W2 hc6 hc10 (own_t2 i1 i2 (0 : Int32) (1 : Int32)))
        · -- pc 60
          refine Go.on (fun _ k => XS.icmpNo X9.here hx rfl (hb hby at_60) rfl (flt hc10).1 k) ?_
          show Go _ _ _ _ _ _ _ _ (mkF m 63 #[.val (.int i0), .val (.int i1), .val (.int i2), .val (.int i3), .val (.int (1 : Int32)), .val (.int n), .val (.ref q), .unset, .unset] [])
          refine Go.on (fun _ k => XS.aload X9.here hx rfl (hb hby at_63) rfl rfl k) ?_
          show Go _ _ _ _ _ _ _ _ (mkF m 65 #[.val (.int i0), .val (.int i1), .val (.int i2), .val (.int i3), .val (.int (1 : Int32)), .val (.int n), .val (.ref q), .unset, .unset] [(.ref q)])
          refine Go.on (fun _ k => XS.iloadN X9.here hx rfl (hb hby at_65) rfl k) ?_
          show Go _ _ _ _ _ _ _ _ (mkF m 66 #[.val (.int i0), .val (.int i1), .val (.int i2), .val (.int i3), .val (.int (1 : Int32)), .val (.int n), .val (.ref q), .unset, .unset] [(.int i3), (.ref q)])
          refine Go.on (fun _ k => XS.iload X9.here hx rfl (hb hby at_66) rfl k) ?_
          show Go _ _ _ _ _ _ _ _ (mkF m 68 #[.val (.int i0), .val (.int i1), .val (.int i2), .val (.int i3), .val (.int (1 : Int32)), .val (.int n), .val (.ref q), .unset, .unset] [(.int (1 : Int32)), (.int i3), (.ref q)])
          obtain ⟨_, _, ⟨T11, L11, k11, n11⟩, -, X11, ⟨Lc11, hQ11, l11, y11, z11⟩, st11⟩ := Jvm.LawKit.callS X9 hx (y := (⟨"com/example/d2rank/d2rank/rerank/CentroidMeanPinLaw", "unit", "(II)[D"⟩ : MethodName)) hown (mvT hZ (hw _ (List.mem_of_getElem? (i := 12) rfl))) (mvT hZ (hw _ (List.mem_of_getElem? (i := 13) rfl))) (mvT hZ (hw _ (List.mem_of_getElem? (i := 14) rfl))) (mvT hZ (hw _ (List.mem_of_getElem? (i := 15) rfl))) (by decide) (backOf (W := 1) (un_1 l Z aw hw [] i3  h9 n0 ZZ ) hZ (hw _ (List.mem_of_getElem? (i := 15) rfl)) (hw _ (List.mem_of_getElem? (i := 14) rfl)) (by decide) (by decide)) (g := (mkF m 68 #[.val (.int i0), .val (.int i1), .val (.int i2), .val (.int i3), .val (.int (1 : Int32)), .val (.int n), .val (.ref q), .unset, .unset] [(.int (1 : Int32)), (.int i3), (.ref q)])) rfl (by rw [hml]; rfl) (argsL := [(.int i3), (.int (1 : Int32))]) (rest := [(.ref q)]) (lenOf pd_4 rfl) rfl (by show 2 * 0 + _ ≤ _; exact Nat.le_of_eq rfl) (hb hby at_68) (fun _ _ => ⟨rfl, e9, (by decide : 4 + 1 ≤ _), (by decide : 5 + 1 ≤ _)⟩)
          dsimp only [Pt.U, Pt.locs, Pt.cells, Pt.slots] at X11 l11 y11 z11 st11 hQ11
          subst l11 y11 z11
          obtain ⟨h11, e11⟩ : ∃ q, T11.heap = q := ⟨_, rfl⟩
          rw [e11] at hQ11
          obtain ⟨u3, k_u3, rfl, N11q, K11q, szq11, V_u3⟩ := hQ11
          have N11 := Fr.app N9 N11q
          have ne_q_u3 : q ≠ u3 := Nat.ne_of_lt (Nat.lt_of_lt_of_le E_q.lt szq11)
          have ne_u1_u3 : u1 ≠ u3 := Nat.ne_of_lt (Nat.lt_of_lt_of_le V_u1.lt szq11)
          have ne_u2_u3 : u2 ≠ u3 := Nat.ne_of_lt (Nat.lt_of_lt_of_le V_u2.lt szq11)
          have ne_ar_u3 : ar ≠ u3 := Nat.ne_of_lt (Nat.lt_of_lt_of_le V_ar.lt szq11)
          replace E_q := E_q.keep K11q
          replace V_u1 := V_u1.keep K11q nin0
          replace V_u2 := V_u2.keep K11q nin0
          replace F_sum_q := F_sum_q.keep K11q nin0
          replace F_count_q := F_count_q.keep K11q nin0
          replace V_ar := V_ar.keep K11q nin0
          replace ZZ := Nat.le_trans ZZ K11q.1
          refine Go.on st11 ?_
          show Go _ _ _ _ _ _ _ _ (mkF m 71 #[.val (.int i0), .val (.int i1), .val (.int i2), .val (.int i3), .val (.int (1 : Int32)), .val (.int n), .val (.ref q), .unset, .unset] [(.ref u3), (.ref q)])
          obtain ⟨cq12, kq12, q12a, q12b, q12c⟩ := isOf hZ e11 E_q
          obtain ⟨_, _, ⟨T12, L12, k12, n12⟩, -, X12, ⟨Lc12, hQ12, l12, y12, z12⟩, st12⟩ := X11.virtualBack hx (y := (⟨"com/example/d2rank/d2rank/rerank/Centroid", "add", "([D)V"⟩ : MethodName)) (z := (⟨"com/example/d2rank/d2rank/rerank/Centroid", "add", "([D)V"⟩ : MethodName)) hown (mvT hZ (hw _ (List.mem_of_getElem? (i := 23) rfl))) (mvT hZ (hw _ (List.mem_of_getElem? (i := 24) rfl))) (notFace_of_selects (args := #[]) (mvT hZ (hw _ (List.mem_of_getElem? (i := 26) rfl)))) (mvT hZ (hw _ (List.mem_of_getElem? (i := 26) rfl))) (mvT hZ (hw _ (List.mem_of_getElem? (i := 25) rfl))) (by decide) (backOf (W := 0) (ca_1 l Z aw hw [] q u3 ar (2 : Int32) k_ar (FP.dadd (FP.dadd (0 : UInt64) (if (indexV i1 (1 : Int32)) = (0 : Int32) then (FP.i2d (signV i1)) else (0 : UInt64))) (if (indexV i2 (1 : Int32)) = (0 : Int32) then (FP.i2d (signV i2)) else (0 : UInt64))) k_u3 (if (indexV i3 (1 : Int32)) = (0 : Int32) then (FP.i2d (signV i3)) else (0 : UInt64)) h11 n0 ZZ E_q F_sum_q F_count_q V_ar V_u3 g_q g_ar ne_q_ar (Ne.symm ne_ar_u3) (Ne.symm ne_q_u3) (own_dnn (own_t3 i1 i2 i3 (0 : Int32) (1 : Int32)))) hZ (hw _ (List.mem_of_getElem? (i := 27) rfl)) (hw _ (List.mem_of_getElem? (i := 2) rfl)) (by decide) (by decide)) q12a q12c (g := (mkF m 71 #[.val (.int i0), .val (.int i1), .val (.int i2), .val (.int i3), .val (.int (1 : Int32)), .val (.int n), .val (.ref q), .unset, .unset] [(.ref u3), (.ref q)])) rfl (by rw [hml]; rfl) (Steps.refl _) (argsL := [(.ref u3)]) (rest := []) (lenOf pd_5 rfl) rfl (by show 2 * 0 + _ ≤ _; exact Nat.le_of_eq rfl) (hb hby at_71) (fun _ _ => ⟨rfl, e11, (by decide : 5 + 0 ≤ _), (by decide : 6 + 0 ≤ _)⟩)
          dsimp only [Pt.U, Pt.locs, Pt.cells, Pt.slots] at X12 l12 y12 z12 st12 hQ12
          subst l12 y12 z12
          obtain ⟨h12, e12⟩ : ∃ q, T12.heap = q := ⟨_, rfl⟩
          rw [e12] at hQ12
          obtain ⟨rfl, N12q, K12q, Eq12, F_sumq12, F_countq12, V_q12⟩ := hQ12
          have N12 := Fr.app N11 N12q
          have ZZ12p := ZZ
          have lt_q := E_q.lt
          have lt_u1 := V_u1.lt
          have lt_u2 := V_u2.lt
          have lt_ar := V_ar.lt
          have lt_u3 := V_u3.lt
          replace E_q := E_q.keep K12q
          replace V_u1 := V_u1.keep K12q (ninS (Ne.symm ne_q_u1) (ninS (Ne.symm ne_ar_u1) nin0))
          replace V_u2 := V_u2.keep K12q (ninS (Ne.symm ne_q_u2) (ninS (Ne.symm ne_ar_u2) nin0))
          replace V_u3 := V_u3.keep K12q (ninS (Ne.symm ne_q_u3) (ninS (Ne.symm ne_ar_u3) nin0))
          replace ZZ := Nat.le_trans ZZ K12q.1
          have F_sum_q := F_sumq12
          have F_count_q : Fld Z h12 q "com/example/d2rank/d2rank/rerank/Centroid" "count" "I" (.int (3 : Int32)) := F_countq12
          have V_ar := V_q12
          refine Go.on (fun _ k => st12.trans k) ?_
          show Go _ _ _ _ _ _ _ _ (mkF m 74 #[.val (.int i0), .val (.int i1), .val (.int i2), .val (.int i3), .val (.int (1 : Int32)), .val (.int n), .val (.ref q), .unset, .unset] [])
          exact hJ5 _ _ _ (FP.dadd (FP.dadd (FP.dadd (0 : UInt64) (if (indexV i1 (1 : Int32)) = (0 : Int32) then (FP.i2d (signV i1)) else (0 : UInt64))) (if (indexV i2 (1 : Int32)) = (0 : Int32) then (FP.i2d (signV i2)) else (0 : UInt64))) (if (indexV i3 (1 : Int32)) = (0 : Int32) then (FP.i2d (signV i3)) else (0 : UInt64))) (3 : Int32) (X12.more (by decide) (by decide)) e12 N12 ZZ E_q F_sum_q F_count_q V_ar (own_ct3 hn hc6 hc10) (own_W3 hc6 hc10 (own_t3 i1 i2 i3 (0 : Int32) (1 : Int32)))
    clear E_q F_sum_q F_count_q V_ar ZZ
    intro T5 locs5 h5 t0 ct X5 e5 N5 ZZ E_q F_sum_q F_count_q V_ar hct hT0
    show Go _ _ _ _ _ _ _ _ (mkF m 74 #[.val (.int i0), .val (.int i1), .val (.int i2), .val (.int i3), .val (.int (1 : Int32)), .val (.int n), .val (.ref q), .unset, .unset] [])
    have hctz : ct ≠ 0 := by rw [hct]; exact own_n0 hn
    refine Go.on (fun _ k => XS.aload X5.here hx rfl (hb hby at_74) rfl rfl k) ?_
    show Go _ _ _ _ _ _ _ _ (mkF m 76 #[.val (.int i0), .val (.int i1), .val (.int i2), .val (.int i3), .val (.int (1 : Int32)), .val (.int n), .val (.ref q), .unset, .unset] [(.ref q)])
    obtain ⟨cq13, kq13, q13a, q13b, q13c⟩ := isOf hZ e5 E_q
    obtain ⟨_, _, ⟨T13, L13, k13, n13⟩, -, X13, ⟨Lc13, hQ13, l13, y13, z13⟩, st13⟩ := X5.virtualBack hx (y := (⟨"com/example/d2rank/d2rank/rerank/Centroid", "mean", "()[D"⟩ : MethodName)) (z := (⟨"com/example/d2rank/d2rank/rerank/Centroid", "mean", "()[D"⟩ : MethodName)) hown (mvT hZ (hw _ (List.mem_of_getElem? (i := 30) rfl))) (mvT hZ (hw _ (List.mem_of_getElem? (i := 31) rfl))) (notFace_of_selects (args := #[]) (mvT hZ (hw _ (List.mem_of_getElem? (i := 33) rfl)))) (mvT hZ (hw _ (List.mem_of_getElem? (i := 33) rfl))) (mvT hZ (hw _ (List.mem_of_getElem? (i := 32) rfl))) (by decide) (backOf (W := 0) (cm_1 l Z aw hw [] q ar ct k_ar t0 h5 n0 ZZ F_sum_q F_count_q V_ar (own_nnd' (ZV.of_int hT0).1 _ hctz)) hZ (hw _ (List.mem_of_getElem? (i := 34) rfl)) (hw _ (List.mem_of_getElem? (i := 2) rfl)) (by decide) (by decide)) q13a q13c (g := (mkF m 76 #[.val (.int i0), .val (.int i1), .val (.int i2), .val (.int i3), .val (.int (1 : Int32)), .val (.int n), .val (.ref q), .unset, .unset] [(.ref q)])) rfl (by rw [hml]; rfl) (Steps.refl _) (argsL := []) (rest := []) (lenOf pd_6 rfl) rfl (by show 2 * 0 + _ ≤ _; exact Nat.le_of_eq rfl) (hb hby at_76) (fun _ _ => ⟨rfl, e5, (by decide : 5 + 1 ≤ _), (by decide : 6 + 1 ≤ _)⟩)
    dsimp only [Pt.U, Pt.locs, Pt.cells, Pt.slots] at X13 l13 y13 z13 st13 hQ13
    subst l13 y13 z13
    obtain ⟨h13, e13⟩ : ∃ q, T13.heap = q := ⟨_, rfl⟩
    rw [e13] at hQ13
    obtain ⟨m1, kq13, rfl, N13q, K13q, szq13, V_q13⟩ := hQ13
    have N13 := Fr.app N5 N13q
    have ZZ13p := ZZ
    have ne_q_m1 : q ≠ m1 := Nat.ne_of_lt (Nat.lt_of_lt_of_le E_q.lt szq13)
    have ne_ar_m1 : ar ≠ m1 := Nat.ne_of_lt (Nat.lt_of_lt_of_le V_ar.lt szq13)
    replace E_q := E_q.keep K13q
    replace F_sum_q := F_sum_q.keep K13q nin0
    replace F_count_q := F_count_q.keep K13q nin0
    replace V_ar := V_ar.keep K13q nin0
    replace ZZ := Nat.le_trans ZZ K13q.1
    have g_m1 : n0 ≤ m1 := Nat.le_trans ZZ13p szq13
    have V_m1 := V_q13
    obtain ⟨k_m1, hk_m1⟩ : ∃ z, z = kq13 := ⟨_, rfl⟩
    rw [← hk_m1] at V_m1
    refine Go.on (fun _ k => st13.trans k) ?_
    show Go _ _ _ _ _ _ _ _ (mkF m 79 #[.val (.int i0), .val (.int i1), .val (.int i2), .val (.int i3), .val (.int (1 : Int32)), .val (.int n), .val (.ref q), .unset, .unset] [(.ref m1)])
    refine Go.on (fun _ k => XS.astore X13.here hx rfl (hb hby at_79) rfl rfl (l' := #[.val (.int i0), .val (.int i1), .val (.int i2), .val (.int i3), .val (.int (1 : Int32)), .val (.int n), .val (.ref q), .val (.ref m1), .unset]) rfl k) ?_
    show Go _ _ _ _ _ _ _ _ (mkF m 81 #[.val (.int i0), .val (.int i1), .val (.int i2), .val (.int i3), .val (.int (1 : Int32)), .val (.int n), .val (.ref q), .val (.ref m1), .unset] [])
    refine Go.on (fun _ k => XS.aload X13.here hx rfl (hb hby at_81) rfl rfl k) ?_
    show Go _ _ _ _ _ _ _ _ (mkF m 83 #[.val (.int i0), .val (.int i1), .val (.int i2), .val (.int i3), .val (.int (1 : Int32)), .val (.int n), .val (.ref q), .val (.ref m1), .unset] [(.ref q)])
    obtain ⟨cq14, kq14, q14a, q14b, q14c⟩ := isOf hZ e13 E_q
    obtain ⟨_, _, ⟨T14, L14, k14, n14⟩, -, X14, ⟨Lc14, hQ14, l14, y14, z14⟩, st14⟩ := X13.virtualBack hx (y := (⟨"com/example/d2rank/d2rank/rerank/Centroid", "mean", "()[D"⟩ : MethodName)) (z := (⟨"com/example/d2rank/d2rank/rerank/Centroid", "mean", "()[D"⟩ : MethodName)) hown (mvT hZ (hw _ (List.mem_of_getElem? (i := 30) rfl))) (mvT hZ (hw _ (List.mem_of_getElem? (i := 31) rfl))) (notFace_of_selects (args := #[]) (mvT hZ (hw _ (List.mem_of_getElem? (i := 33) rfl)))) (mvT hZ (hw _ (List.mem_of_getElem? (i := 33) rfl))) (mvT hZ (hw _ (List.mem_of_getElem? (i := 32) rfl))) (by decide) (backOf (W := 0) (cm_1 l Z aw hw [] q ar ct k_ar t0 h13 n0 ZZ F_sum_q F_count_q V_ar (own_nnd' (ZV.of_int hT0).1 _ hctz)) hZ (hw _ (List.mem_of_getElem? (i := 34) rfl)) (hw _ (List.mem_of_getElem? (i := 2) rfl)) (by decide) (by decide)) q14a q14c (g := (mkF m 83 #[.val (.int i0), .val (.int i1), .val (.int i2), .val (.int i3), .val (.int (1 : Int32)), .val (.int n), .val (.ref q), .val (.ref m1), .unset] [(.ref q)])) rfl (by rw [hml]; rfl) (Steps.refl _) (argsL := []) (rest := []) (lenOf pd_6 rfl) rfl (by show 2 * 0 + _ ≤ _; exact Nat.le_of_eq rfl) (hb hby at_83) (fun _ _ => ⟨rfl, e13, (by decide : 6 + 1 ≤ _), (by decide : 7 + 1 ≤ _)⟩)
    dsimp only [Pt.U, Pt.locs, Pt.cells, Pt.slots] at X14 l14 y14 z14 st14 hQ14
    subst l14 y14 z14
    obtain ⟨h14, e14⟩ : ∃ q, T14.heap = q := ⟨_, rfl⟩
    rw [e14] at hQ14
    obtain ⟨m2, kq14, rfl, N14q, K14q, szq14, V_q14⟩ := hQ14
    have N14 := Fr.app N13 N14q
    have ZZ14p := ZZ
    have ne_q_m2 : q ≠ m2 := Nat.ne_of_lt (Nat.lt_of_lt_of_le E_q.lt szq14)
    have ne_ar_m2 : ar ≠ m2 := Nat.ne_of_lt (Nat.lt_of_lt_of_le V_ar.lt szq14)
    have ne_m1_m2 : m1 ≠ m2 := Nat.ne_of_lt (Nat.lt_of_lt_of_le V_m1.lt szq14)
    replace E_q := E_q.keep K14q
    replace F_sum_q := F_sum_q.keep K14q nin0
    replace F_count_q := F_count_q.keep K14q nin0
    replace V_ar := V_ar.keep K14q nin0
    replace V_m1 := V_m1.keep K14q nin0
    replace ZZ := Nat.le_trans ZZ K14q.1
    have g_m2 : n0 ≤ m2 := Nat.le_trans ZZ14p szq14
    have V_m2 := V_q14
    obtain ⟨k_m2, hk_m2⟩ : ∃ z, z = kq14 := ⟨_, rfl⟩
    rw [← hk_m2] at V_m2
    refine Go.on (fun _ k => st14.trans k) ?_
    show Go _ _ _ _ _ _ _ _ (mkF m 86 #[.val (.int i0), .val (.int i1), .val (.int i2), .val (.int i3), .val (.int (1 : Int32)), .val (.int n), .val (.ref q), .val (.ref m1), .unset] [(.ref m2)])
    refine Go.on (fun _ k => XS.astore X14.here hx rfl (hb hby at_86) rfl rfl (l' := #[.val (.int i0), .val (.int i1), .val (.int i2), .val (.int i3), .val (.int (1 : Int32)), .val (.int n), .val (.ref q), .val (.ref m1), .val (.ref m2)]) rfl k) ?_
    show Go _ _ _ _ _ _ _ _ (mkF m 88 #[.val (.int i0), .val (.int i1), .val (.int i2), .val (.int i3), .val (.int (1 : Int32)), .val (.int n), .val (.ref q), .val (.ref m1), .val (.ref m2)] [])
    refine Go.on (fun _ k => XS.aload X14.here hx rfl (hb hby at_88) rfl rfl k) ?_
    show Go _ _ _ _ _ _ _ _ (mkF m 90 #[.val (.int i0), .val (.int i1), .val (.int i2), .val (.int i3), .val (.int (1 : Int32)), .val (.int n), .val (.ref q), .val (.ref m1), .val (.ref m2)] [(.ref m1)])
    refine Go.on (fun _ k => XS.aload X14.here hx rfl (hb hby at_90) rfl rfl k) ?_
    show Go _ _ _ _ _ _ _ _ (mkF m 92 #[.val (.int i0), .val (.int i1), .val (.int i2), .val (.int i3), .val (.int (1 : Int32)), .val (.int n), .val (.ref q), .val (.ref m1), .val (.ref m2)] [(.ref m2), (.ref m1)])
    refine Go.on (fun _ k => Jvm.RoadKit.acmp (g := (mkF m 92 #[.val (.int i0), .val (.int i1), .val (.int i2), .val (.int i3), .val (.int (1 : Int32)), .val (.int n), .val (.ref q), .val (.ref m1), .val (.ref m2)] [(.ref m2), (.ref m1)])) X14 hx rfl rfl rfl (pc0 := 92) (pc' := 97) (same := false) rfl (hb hby at_92) rfl (decide_eq_false fun q => (ne_m1_m2) (Value.ref.inj q)) (by decide) (by decide) k) ?_
    show Go _ _ _ _ _ _ _ _ (mkF m 97 #[.val (.int i0), .val (.int i1), .val (.int i2), .val (.int i3), .val (.int (1 : Int32)), .val (.int n), .val (.ref q), .val (.ref m1), .val (.ref m2)] [])
    refine Go.on (fun _ k => XS.aload X14.here hx rfl (hb hby at_97) rfl rfl k) ?_
    show Go _ _ _ _ _ _ _ _ (mkF m 99 #[.val (.int i0), .val (.int i1), .val (.int i2), .val (.int i3), .val (.int (1 : Int32)), .val (.int n), .val (.ref q), .val (.ref m1), .val (.ref m2)] [(.ref m1)])
    obtain ⟨cl15, Ar15, -, S15, N15n, -, -⟩ := id V_m1
    refine Go.on (X14.arraylength hx (by rw [e14]; exact Ar15.1) (State.isArrayOf_alike hZ.alike Ar15.2.1) (g := (mkF m 99 #[.val (.int i0), .val (.int i1), .val (.int i2), .val (.int i3), .val (.int (1 : Int32)), .val (.int n), .val (.ref q), .val (.ref m1), .val (.ref m2)] [(.ref m1)])) rfl rfl (hb hby at_99)) ?_
    rw [len_of S15 N15n]
    show Go _ _ _ _ _ _ _ _ (mkF m 100 #[.val (.int i0), .val (.int i1), .val (.int i2), .val (.int i3), .val (.int (1 : Int32)), .val (.int n), .val (.ref q), .val (.ref m1), .val (.ref m2)] [(.int (1 : Int32))])
    refine Go.on (fun _ k => XS.iload X14.here hx rfl (hb hby at_100) rfl k) ?_
    show Go _ _ _ _ _ _ _ _ (mkF m 102 #[.val (.int i0), .val (.int i1), .val (.int i2), .val (.int i3), .val (.int (1 : Int32)), .val (.int n), .val (.ref q), .val (.ref m1), .val (.ref m2)] [(.int (1 : Int32)), (.int (1 : Int32))])
    have hc16 : (1 : Int32) = (1 : Int32) := by decide
    refine Go.on (fun _ k => XS.icmpNo X14.here hx rfl (hb hby at_102) rfl (teq hc16).2 k) ?_
    show Go _ _ _ _ _ _ _ _ (mkF m 105 #[.val (.int i0), .val (.int i1), .val (.int i2), .val (.int i3), .val (.int (1 : Int32)), .val (.int n), .val (.ref q), .val (.ref m1), .val (.ref m2)] [])
    refine Go.on (fun _ k => XS.aload X14.here hx rfl (hb hby at_105) rfl rfl k) ?_
    show Go _ _ _ _ _ _ _ _ (mkF m 107 #[.val (.int i0), .val (.int i1), .val (.int i2), .val (.int i3), .val (.int (1 : Int32)), .val (.int n), .val (.ref q), .val (.ref m1), .val (.ref m2)] [(.ref m2)])
    obtain ⟨cl17, Ar17, -, S17, N17n, -, -⟩ := id V_m2
    refine Go.on (X14.arraylength hx (by rw [e14]; exact Ar17.1) (State.isArrayOf_alike hZ.alike Ar17.2.1) (g := (mkF m 107 #[.val (.int i0), .val (.int i1), .val (.int i2), .val (.int i3), .val (.int (1 : Int32)), .val (.int n), .val (.ref q), .val (.ref m1), .val (.ref m2)] [(.ref m2)])) rfl rfl (hb hby at_107)) ?_
    rw [len_of S17 N17n]
    show Go _ _ _ _ _ _ _ _ (mkF m 108 #[.val (.int i0), .val (.int i1), .val (.int i2), .val (.int i3), .val (.int (1 : Int32)), .val (.int n), .val (.ref q), .val (.ref m1), .val (.ref m2)] [(.int (1 : Int32))])
    refine Go.on (fun _ k => XS.iload X14.here hx rfl (hb hby at_108) rfl k) ?_
    show Go _ _ _ _ _ _ _ _ (mkF m 110 #[.val (.int i0), .val (.int i1), .val (.int i2), .val (.int i3), .val (.int (1 : Int32)), .val (.int n), .val (.ref q), .val (.ref m1), .val (.ref m2)] [(.int (1 : Int32)), (.int (1 : Int32))])
    have hc18 : (1 : Int32) = (1 : Int32) := by decide
    refine Go.on (fun _ k => XS.icmpYes X14.here hx rfl (pc0 := 110) (pc' := 115) rfl (hb hby at_110) rfl (teq hc18).1 (by decide) (by decide) k) ?_
    show Go _ _ _ _ _ _ _ _ (mkF m 115 #[.val (.int i0), .val (.int i1), .val (.int i2), .val (.int i3), .val (.int (1 : Int32)), .val (.int n), .val (.ref q), .val (.ref m1), .val (.ref m2)] [])
    refine Go.on (fun _ k => XS.aload X14.here hx rfl (hb hby at_115) rfl rfl k) ?_
    show Go _ _ _ _ _ _ _ _ (mkF m 117 #[.val (.int i0), .val (.int i1), .val (.int i2), .val (.int i3), .val (.int (1 : Int32)), .val (.int n), .val (.ref q), .val (.ref m1), .val (.ref m2)] [(.ref m1)])
    refine Go.on (fun _ k => XS.aload X14.here hx rfl (hb hby at_117) rfl rfl k) ?_
    show Go _ _ _ _ _ _ _ _ (mkF m 119 #[.val (.int i0), .val (.int i1), .val (.int i2), .val (.int i3), .val (.int (1 : Int32)), .val (.int n), .val (.ref q), .val (.ref m1), .val (.ref m2)] [(.ref m2), (.ref m1)])
    refine Go.on (fun _ k => XS.iconst X14.here hx rfl (hb hby at_119) k) ?_
    show Go _ _ _ _ _ _ _ _ (mkF m 120 #[.val (.int i0), .val (.int i1), .val (.int i2), .val (.int i3), .val (.int (1 : Int32)), .val (.int n), .val (.ref q), .val (.ref m1), .val (.ref m2)] [(.int (0 : Int32)), (.ref m2), (.ref m1)])
    refine Go.on (fun _ k => XS.iload X14.here hx rfl (hb hby at_120) rfl k) ?_
    show Go _ _ _ _ _ _ _ _ (mkF m 122 #[.val (.int i0), .val (.int i1), .val (.int i2), .val (.int i3), .val (.int (1 : Int32)), .val (.int n), .val (.ref q), .val (.ref m1), .val (.ref m2)] [(.int (1 : Int32)), (.int (0 : Int32)), (.ref m2), (.ref m1)])
    refine Go.on (fun _ k => XS.iload X14.here hx rfl (hb hby at_122) rfl k) ?_
    show Go _ _ _ _ _ _ _ _ (mkF m 124 #[.val (.int i0), .val (.int i1), .val (.int i2), .val (.int i3), .val (.int (1 : Int32)), .val (.int n), .val (.ref q), .val (.ref m1), .val (.ref m2)] [(.int n), (.int (1 : Int32)), (.int (0 : Int32)), (.ref m2), (.ref m1)])
    refine Go.on (fun _ k => XS.iloadN X14.here hx rfl (hb hby at_124) rfl k) ?_
    show Go _ _ _ _ _ _ _ _ (mkF m 125 #[.val (.int i0), .val (.int i1), .val (.int i2), .val (.int i3), .val (.int (1 : Int32)), .val (.int n), .val (.ref q), .val (.ref m1), .val (.ref m2)] [(.int i1), (.int n), (.int (1 : Int32)), (.int (0 : Int32)), (.ref m2), (.ref m1)])
    refine Go.on (fun _ k => XS.iloadN X14.here hx rfl (hb hby at_125) rfl k) ?_
    show Go _ _ _ _ _ _ _ _ (mkF m 126 #[.val (.int i0), .val (.int i1), .val (.int i2), .val (.int i3), .val (.int (1 : Int32)), .val (.int n), .val (.ref q), .val (.ref m1), .val (.ref m2)] [(.int i2), (.int i1), (.int n), (.int (1 : Int32)), (.int (0 : Int32)), (.ref m2), (.ref m1)])
    refine Go.on (fun _ k => XS.iloadN X14.here hx rfl (hb hby at_126) rfl k) ?_
    show Go _ _ _ _ _ _ _ _ (mkF m 127 #[.val (.int i0), .val (.int i1), .val (.int i2), .val (.int i3), .val (.int (1 : Int32)), .val (.int n), .val (.ref q), .val (.ref m1), .val (.ref m2)] [(.int i3), (.int i2), (.int i1), (.int n), (.int (1 : Int32)), (.int (0 : Int32)), (.ref m2), (.ref m1)])
    obtain ⟨_, _, ⟨T19, L19, k19, n19⟩, -, X19, ⟨Lc19, hQ19, l19, y19, z19⟩, st19⟩ := Jvm.LawKit.callS X14 hx (y := (⟨"com/example/d2rank/d2rank/rerank/CentroidMeanPinLaw", "comp", "([D[DIIIIII)Z"⟩ : MethodName)) hown (mvT hZ (hw _ (List.mem_of_getElem? (i := 35) rfl))) (mvT hZ (hw _ (List.mem_of_getElem? (i := 36) rfl))) (mvT hZ (hw _ (List.mem_of_getElem? (i := 14) rfl))) (mvT hZ (hw _ (List.mem_of_getElem? (i := 37) rfl))) (by decide) (backOf (W := 0) (cp_1 l Z aw hw [] m1 m2 (0 : Int32) n i1 i2 i3 k_m1 (FP.ddiv t0 (FP.i2d ct)) k_m2 (FP.ddiv t0 (FP.i2d ct)) h14 n0 ZZ V_m1 V_m2 (by decide) (own_n0 hn)) hZ (hw _ (List.mem_of_getElem? (i := 37) rfl)) (hw _ (List.mem_of_getElem? (i := 14) rfl)) (by decide) (by decide)) (g := (mkF m 127 #[.val (.int i0), .val (.int i1), .val (.int i2), .val (.int i3), .val (.int (1 : Int32)), .val (.int n), .val (.ref q), .val (.ref m1), .val (.ref m2)] [(.int i3), (.int i2), (.int i1), (.int n), (.int (1 : Int32)), (.int (0 : Int32)), (.ref m2), (.ref m1)])) rfl (by rw [hml]; rfl) (argsL := [(.ref m1), (.ref m2), (.int (0 : Int32)), (.int (1 : Int32)), (.int n), (.int i1), (.int i2), (.int i3)]) (rest := []) (lenOf pd_7 rfl) rfl (by show 2 * 0 + _ ≤ _; exact Nat.le_of_eq rfl) (hb hby at_127) (fun _ _ => ⟨rfl, e14, (by decide : 7 + 0 ≤ _), (by decide : 8 + 0 ≤ _)⟩)
    dsimp only [Pt.U, Pt.locs, Pt.cells, Pt.slots] at X19 l19 y19 z19 st19 hQ19
    subst l19 y19 z19
    obtain ⟨rfl, N19q, e19⟩ := hQ19
    have N19 := Fr.app N14 N19q
    refine Go.on st19 ?_
    show Go _ _ _ _ _ _ _ _ (mkF m 130 #[.val (.int i0), .val (.int i1), .val (.int i2), .val (.int i3), .val (.int (1 : Int32)), .val (.int n), .val (.ref q), .val (.ref m1), .val (.ref m2)] [(.int (compV (FP.ddiv t0 (FP.i2d ct)) (FP.ddiv t0 (FP.i2d ct)) (0 : Int32) (1 : Int32) n i1 i2 i3))])
    have hc20 : ¬ ((compV (FP.ddiv t0 (FP.i2d ct)) (FP.ddiv t0 (FP.i2d ct)) (0 : Int32) (1 : Int32) n i1 i2 i3) = (0 : Int32)) := own_cmpC hn hct hT0
    refine Go.on (fun _ k => XS.ifNo X19.here hx rfl (hb hby at_130) rfl ((if0 _ _).trans (feq hc20).1) k) ?_
    show Go _ _ _ _ _ _ _ _ (mkF m 133 #[.val (.int i0), .val (.int i1), .val (.int i2), .val (.int i3), .val (.int (1 : Int32)), .val (.int n), .val (.ref q), .val (.ref m1), .val (.ref m2)] [])
    refine Go.on (fun _ k => XS.aload X19.here hx rfl (hb hby at_133) rfl rfl k) ?_
    show Go _ _ _ _ _ _ _ _ (mkF m 135 #[.val (.int i0), .val (.int i1), .val (.int i2), .val (.int i3), .val (.int (1 : Int32)), .val (.int n), .val (.ref q), .val (.ref m1), .val (.ref m2)] [(.ref m1)])
    refine Go.on (fun _ k => XS.aload X19.here hx rfl (hb hby at_135) rfl rfl k) ?_
    show Go _ _ _ _ _ _ _ _ (mkF m 137 #[.val (.int i0), .val (.int i1), .val (.int i2), .val (.int i3), .val (.int (1 : Int32)), .val (.int n), .val (.ref q), .val (.ref m1), .val (.ref m2)] [(.ref m2), (.ref m1)])
    refine Go.on (fun _ k => XS.iconst X19.here hx rfl (hb hby at_137) k) ?_
    show Go _ _ _ _ _ _ _ _ (mkF m 138 #[.val (.int i0), .val (.int i1), .val (.int i2), .val (.int i3), .val (.int (1 : Int32)), .val (.int n), .val (.ref q), .val (.ref m1), .val (.ref m2)] [(.int (1 : Int32)), (.ref m2), (.ref m1)])
    refine Go.on (fun _ k => XS.iload X19.here hx rfl (hb hby at_138) rfl k) ?_
    show Go _ _ _ _ _ _ _ _ (mkF m 140 #[.val (.int i0), .val (.int i1), .val (.int i2), .val (.int i3), .val (.int (1 : Int32)), .val (.int n), .val (.ref q), .val (.ref m1), .val (.ref m2)] [(.int (1 : Int32)), (.int (1 : Int32)), (.ref m2), (.ref m1)])
    refine Go.on (fun _ k => XS.iload X19.here hx rfl (hb hby at_140) rfl k) ?_
    show Go _ _ _ _ _ _ _ _ (mkF m 142 #[.val (.int i0), .val (.int i1), .val (.int i2), .val (.int i3), .val (.int (1 : Int32)), .val (.int n), .val (.ref q), .val (.ref m1), .val (.ref m2)] [(.int n), (.int (1 : Int32)), (.int (1 : Int32)), (.ref m2), (.ref m1)])
    refine Go.on (fun _ k => XS.iloadN X19.here hx rfl (hb hby at_142) rfl k) ?_
    show Go _ _ _ _ _ _ _ _ (mkF m 143 #[.val (.int i0), .val (.int i1), .val (.int i2), .val (.int i3), .val (.int (1 : Int32)), .val (.int n), .val (.ref q), .val (.ref m1), .val (.ref m2)] [(.int i1), (.int n), (.int (1 : Int32)), (.int (1 : Int32)), (.ref m2), (.ref m1)])
    refine Go.on (fun _ k => XS.iloadN X19.here hx rfl (hb hby at_143) rfl k) ?_
    show Go _ _ _ _ _ _ _ _ (mkF m 144 #[.val (.int i0), .val (.int i1), .val (.int i2), .val (.int i3), .val (.int (1 : Int32)), .val (.int n), .val (.ref q), .val (.ref m1), .val (.ref m2)] [(.int i2), (.int i1), (.int n), (.int (1 : Int32)), (.int (1 : Int32)), (.ref m2), (.ref m1)])
    refine Go.on (fun _ k => XS.iloadN X19.here hx rfl (hb hby at_144) rfl k) ?_
    show Go _ _ _ _ _ _ _ _ (mkF m 145 #[.val (.int i0), .val (.int i1), .val (.int i2), .val (.int i3), .val (.int (1 : Int32)), .val (.int n), .val (.ref q), .val (.ref m1), .val (.ref m2)] [(.int i3), (.int i2), (.int i1), (.int n), (.int (1 : Int32)), (.int (1 : Int32)), (.ref m2), (.ref m1)])
    obtain ⟨_, _, ⟨T21, L21, k21, n21⟩, -, X21, ⟨Lc21, hQ21, l21, y21, z21⟩, st21⟩ := Jvm.LawKit.callS X19 hx (y := (⟨"com/example/d2rank/d2rank/rerank/CentroidMeanPinLaw", "comp", "([D[DIIIIII)Z"⟩ : MethodName)) hown (mvT hZ (hw _ (List.mem_of_getElem? (i := 35) rfl))) (mvT hZ (hw _ (List.mem_of_getElem? (i := 36) rfl))) (mvT hZ (hw _ (List.mem_of_getElem? (i := 14) rfl))) (mvT hZ (hw _ (List.mem_of_getElem? (i := 37) rfl))) (by decide) (backOf (W := 0) (cp_h l Z aw hw [] m1 m2 (1 : Int32) (1 : Int32) n i1 i2 i3  h14 n0 ZZ (by decide)) hZ (hw _ (List.mem_of_getElem? (i := 37) rfl)) (hw _ (List.mem_of_getElem? (i := 14) rfl)) (by decide) (by decide)) (g := (mkF m 145 #[.val (.int i0), .val (.int i1), .val (.int i2), .val (.int i3), .val (.int (1 : Int32)), .val (.int n), .val (.ref q), .val (.ref m1), .val (.ref m2)] [(.int i3), (.int i2), (.int i1), (.int n), (.int (1 : Int32)), (.int (1 : Int32)), (.ref m2), (.ref m1)])) rfl (by rw [hml]; rfl) (argsL := [(.ref m1), (.ref m2), (.int (1 : Int32)), (.int (1 : Int32)), (.int n), (.int i1), (.int i2), (.int i3)]) (rest := []) (lenOf pd_7 rfl) rfl (by show 2 * 0 + _ ≤ _; exact Nat.le_of_eq rfl) (hb hby at_145) (fun _ _ => ⟨rfl, e19, (by decide : 7 + 0 ≤ _), (by decide : 8 + 0 ≤ _)⟩)
    dsimp only [Pt.U, Pt.locs, Pt.cells, Pt.slots] at X21 l21 y21 z21 st21 hQ21
    subst l21 y21 z21
    obtain ⟨rfl, N21q, e21⟩ := hQ21
    have N21 := Fr.app N19 N21q
    refine Go.on st21 ?_
    show Go _ _ _ _ _ _ _ _ (mkF m 148 #[.val (.int i0), .val (.int i1), .val (.int i2), .val (.int i3), .val (.int (1 : Int32)), .val (.int n), .val (.ref q), .val (.ref m1), .val (.ref m2)] [(.int (1 : Int32))])
    have hc22 : ¬ ((1 : Int32) = (0 : Int32)) := by decide
    refine Go.on (fun _ k => XS.ifNo X21.here hx rfl (hb hby at_148) rfl ((if0 _ _).trans (feq hc22).1) k) ?_
    show Go _ _ _ _ _ _ _ _ (mkF m 151 #[.val (.int i0), .val (.int i1), .val (.int i2), .val (.int i3), .val (.int (1 : Int32)), .val (.int n), .val (.ref q), .val (.ref m1), .val (.ref m2)] [])
    refine Go.on (fun _ k => XS.aload X21.here hx rfl (hb hby at_151) rfl rfl k) ?_
    show Go _ _ _ _ _ _ _ _ (mkF m 153 #[.val (.int i0), .val (.int i1), .val (.int i2), .val (.int i3), .val (.int (1 : Int32)), .val (.int n), .val (.ref q), .val (.ref m1), .val (.ref m2)] [(.ref m1)])
    refine Go.on (fun _ k => XS.aload X21.here hx rfl (hb hby at_153) rfl rfl k) ?_
    show Go _ _ _ _ _ _ _ _ (mkF m 155 #[.val (.int i0), .val (.int i1), .val (.int i2), .val (.int i3), .val (.int (1 : Int32)), .val (.int n), .val (.ref q), .val (.ref m1), .val (.ref m2)] [(.ref m2), (.ref m1)])
    refine Go.on (fun _ k => XS.iconst X21.here hx rfl (hb hby at_155) k) ?_
    show Go _ _ _ _ _ _ _ _ (mkF m 156 #[.val (.int i0), .val (.int i1), .val (.int i2), .val (.int i3), .val (.int (1 : Int32)), .val (.int n), .val (.ref q), .val (.ref m1), .val (.ref m2)] [(.int (2 : Int32)), (.ref m2), (.ref m1)])
    refine Go.on (fun _ k => XS.iload X21.here hx rfl (hb hby at_156) rfl k) ?_
    show Go _ _ _ _ _ _ _ _ (mkF m 158 #[.val (.int i0), .val (.int i1), .val (.int i2), .val (.int i3), .val (.int (1 : Int32)), .val (.int n), .val (.ref q), .val (.ref m1), .val (.ref m2)] [(.int (1 : Int32)), (.int (2 : Int32)), (.ref m2), (.ref m1)])
    refine Go.on (fun _ k => XS.iload X21.here hx rfl (hb hby at_158) rfl k) ?_
    show Go _ _ _ _ _ _ _ _ (mkF m 160 #[.val (.int i0), .val (.int i1), .val (.int i2), .val (.int i3), .val (.int (1 : Int32)), .val (.int n), .val (.ref q), .val (.ref m1), .val (.ref m2)] [(.int n), (.int (1 : Int32)), (.int (2 : Int32)), (.ref m2), (.ref m1)])
    refine Go.on (fun _ k => XS.iloadN X21.here hx rfl (hb hby at_160) rfl k) ?_
    show Go _ _ _ _ _ _ _ _ (mkF m 161 #[.val (.int i0), .val (.int i1), .val (.int i2), .val (.int i3), .val (.int (1 : Int32)), .val (.int n), .val (.ref q), .val (.ref m1), .val (.ref m2)] [(.int i1), (.int n), (.int (1 : Int32)), (.int (2 : Int32)), (.ref m2), (.ref m1)])
    refine Go.on (fun _ k => XS.iloadN X21.here hx rfl (hb hby at_161) rfl k) ?_
    show Go _ _ _ _ _ _ _ _ (mkF m 162 #[.val (.int i0), .val (.int i1), .val (.int i2), .val (.int i3), .val (.int (1 : Int32)), .val (.int n), .val (.ref q), .val (.ref m1), .val (.ref m2)] [(.int i2), (.int i1), (.int n), (.int (1 : Int32)), (.int (2 : Int32)), (.ref m2), (.ref m1)])
    refine Go.on (fun _ k => XS.iloadN X21.here hx rfl (hb hby at_162) rfl k) ?_
    show Go _ _ _ _ _ _ _ _ (mkF m 163 #[.val (.int i0), .val (.int i1), .val (.int i2), .val (.int i3), .val (.int (1 : Int32)), .val (.int n), .val (.ref q), .val (.ref m1), .val (.ref m2)] [(.int i3), (.int i2), (.int i1), (.int n), (.int (1 : Int32)), (.int (2 : Int32)), (.ref m2), (.ref m1)])
    obtain ⟨_, _, ⟨T23, L23, k23, n23⟩, -, X23, ⟨Lc23, hQ23, l23, y23, z23⟩, st23⟩ := Jvm.LawKit.callS X21 hx (y := (⟨"com/example/d2rank/d2rank/rerank/CentroidMeanPinLaw", "comp", "([D[DIIIIII)Z"⟩ : MethodName)) hown (mvT hZ (hw _ (List.mem_of_getElem? (i := 35) rfl))) (mvT hZ (hw _ (List.mem_of_getElem? (i := 36) rfl))) (mvT hZ (hw _ (List.mem_of_getElem? (i := 14) rfl))) (mvT hZ (hw _ (List.mem_of_getElem? (i := 37) rfl))) (by decide) (backOf (W := 0) (cp_h l Z aw hw [] m1 m2 (2 : Int32) (1 : Int32) n i1 i2 i3  h14 n0 ZZ (by decide)) hZ (hw _ (List.mem_of_getElem? (i := 37) rfl)) (hw _ (List.mem_of_getElem? (i := 14) rfl)) (by decide) (by decide)) (g := (mkF m 163 #[.val (.int i0), .val (.int i1), .val (.int i2), .val (.int i3), .val (.int (1 : Int32)), .val (.int n), .val (.ref q), .val (.ref m1), .val (.ref m2)] [(.int i3), (.int i2), (.int i1), (.int n), (.int (1 : Int32)), (.int (2 : Int32)), (.ref m2), (.ref m1)])) rfl (by rw [hml]; rfl) (argsL := [(.ref m1), (.ref m2), (.int (2 : Int32)), (.int (1 : Int32)), (.int n), (.int i1), (.int i2), (.int i3)]) (rest := []) (lenOf pd_7 rfl) rfl (by show 2 * 0 + _ ≤ _; exact Nat.le_of_eq rfl) (hb hby at_163) (fun _ _ => ⟨rfl, e21, (by decide : 7 + 0 ≤ _), (by decide : 8 + 0 ≤ _)⟩)
    dsimp only [Pt.U, Pt.locs, Pt.cells, Pt.slots] at X23 l23 y23 z23 st23 hQ23
    subst l23 y23 z23
    obtain ⟨rfl, N23q, e23⟩ := hQ23
    have N23 := Fr.app N21 N23q
    refine Go.on st23 ?_
    show Go _ _ _ _ _ _ _ _ (mkF m 166 #[.val (.int i0), .val (.int i1), .val (.int i2), .val (.int i3), .val (.int (1 : Int32)), .val (.int n), .val (.ref q), .val (.ref m1), .val (.ref m2)] [(.int (1 : Int32))])
    have hc24 : ¬ ((1 : Int32) = (0 : Int32)) := by decide
    refine Go.on (fun _ k => XS.ifNo X23.here hx rfl (hb hby at_166) rfl ((if0 _ _).trans (feq hc24).1) k) ?_
    show Go _ _ _ _ _ _ _ _ (mkF m 169 #[.val (.int i0), .val (.int i1), .val (.int i2), .val (.int i3), .val (.int (1 : Int32)), .val (.int n), .val (.ref q), .val (.ref m1), .val (.ref m2)] [])
    refine Go.on (fun _ k => XS.aload X23.here hx rfl (hb hby at_169) rfl rfl k) ?_
    show Go _ _ _ _ _ _ _ _ (mkF m 171 #[.val (.int i0), .val (.int i1), .val (.int i2), .val (.int i3), .val (.int (1 : Int32)), .val (.int n), .val (.ref q), .val (.ref m1), .val (.ref m2)] [(.ref m1)])
    refine Go.on (fun _ k => XS.aload X23.here hx rfl (hb hby at_171) rfl rfl k) ?_
    show Go _ _ _ _ _ _ _ _ (mkF m 173 #[.val (.int i0), .val (.int i1), .val (.int i2), .val (.int i3), .val (.int (1 : Int32)), .val (.int n), .val (.ref q), .val (.ref m1), .val (.ref m2)] [(.ref m2), (.ref m1)])
    refine Go.on (fun _ k => XS.iconst X23.here hx rfl (hb hby at_173) k) ?_
    show Go _ _ _ _ _ _ _ _ (mkF m 174 #[.val (.int i0), .val (.int i1), .val (.int i2), .val (.int i3), .val (.int (1 : Int32)), .val (.int n), .val (.ref q), .val (.ref m1), .val (.ref m2)] [(.int (3 : Int32)), (.ref m2), (.ref m1)])
    refine Go.on (fun _ k => XS.iload X23.here hx rfl (hb hby at_174) rfl k) ?_
    show Go _ _ _ _ _ _ _ _ (mkF m 176 #[.val (.int i0), .val (.int i1), .val (.int i2), .val (.int i3), .val (.int (1 : Int32)), .val (.int n), .val (.ref q), .val (.ref m1), .val (.ref m2)] [(.int (1 : Int32)), (.int (3 : Int32)), (.ref m2), (.ref m1)])
    refine Go.on (fun _ k => XS.iload X23.here hx rfl (hb hby at_176) rfl k) ?_
    show Go _ _ _ _ _ _ _ _ (mkF m 178 #[.val (.int i0), .val (.int i1), .val (.int i2), .val (.int i3), .val (.int (1 : Int32)), .val (.int n), .val (.ref q), .val (.ref m1), .val (.ref m2)] [(.int n), (.int (1 : Int32)), (.int (3 : Int32)), (.ref m2), (.ref m1)])
    refine Go.on (fun _ k => XS.iloadN X23.here hx rfl (hb hby at_178) rfl k) ?_
    show Go _ _ _ _ _ _ _ _ (mkF m 179 #[.val (.int i0), .val (.int i1), .val (.int i2), .val (.int i3), .val (.int (1 : Int32)), .val (.int n), .val (.ref q), .val (.ref m1), .val (.ref m2)] [(.int i1), (.int n), (.int (1 : Int32)), (.int (3 : Int32)), (.ref m2), (.ref m1)])
    refine Go.on (fun _ k => XS.iloadN X23.here hx rfl (hb hby at_179) rfl k) ?_
    show Go _ _ _ _ _ _ _ _ (mkF m 180 #[.val (.int i0), .val (.int i1), .val (.int i2), .val (.int i3), .val (.int (1 : Int32)), .val (.int n), .val (.ref q), .val (.ref m1), .val (.ref m2)] [(.int i2), (.int i1), (.int n), (.int (1 : Int32)), (.int (3 : Int32)), (.ref m2), (.ref m1)])
    refine Go.on (fun _ k => XS.iloadN X23.here hx rfl (hb hby at_180) rfl k) ?_
    show Go _ _ _ _ _ _ _ _ (mkF m 181 #[.val (.int i0), .val (.int i1), .val (.int i2), .val (.int i3), .val (.int (1 : Int32)), .val (.int n), .val (.ref q), .val (.ref m1), .val (.ref m2)] [(.int i3), (.int i2), (.int i1), (.int n), (.int (1 : Int32)), (.int (3 : Int32)), (.ref m2), (.ref m1)])
    obtain ⟨_, _, ⟨T25, L25, k25, n25⟩, -, X25, ⟨Lc25, hQ25, l25, y25, z25⟩, st25⟩ := Jvm.LawKit.callS X23 hx (y := (⟨"com/example/d2rank/d2rank/rerank/CentroidMeanPinLaw", "comp", "([D[DIIIIII)Z"⟩ : MethodName)) hown (mvT hZ (hw _ (List.mem_of_getElem? (i := 35) rfl))) (mvT hZ (hw _ (List.mem_of_getElem? (i := 36) rfl))) (mvT hZ (hw _ (List.mem_of_getElem? (i := 14) rfl))) (mvT hZ (hw _ (List.mem_of_getElem? (i := 37) rfl))) (by decide) (backOf (W := 0) (cp_h l Z aw hw [] m1 m2 (3 : Int32) (1 : Int32) n i1 i2 i3  h14 n0 ZZ (by decide)) hZ (hw _ (List.mem_of_getElem? (i := 37) rfl)) (hw _ (List.mem_of_getElem? (i := 14) rfl)) (by decide) (by decide)) (g := (mkF m 181 #[.val (.int i0), .val (.int i1), .val (.int i2), .val (.int i3), .val (.int (1 : Int32)), .val (.int n), .val (.ref q), .val (.ref m1), .val (.ref m2)] [(.int i3), (.int i2), (.int i1), (.int n), (.int (1 : Int32)), (.int (3 : Int32)), (.ref m2), (.ref m1)])) rfl (by rw [hml]; rfl) (argsL := [(.ref m1), (.ref m2), (.int (3 : Int32)), (.int (1 : Int32)), (.int n), (.int i1), (.int i2), (.int i3)]) (rest := []) (lenOf pd_7 rfl) rfl (by show 2 * 0 + _ ≤ _; exact Nat.le_of_eq rfl) (hb hby at_181) (fun _ _ => ⟨rfl, e23, (by decide : 7 + 0 ≤ _), (by decide : 8 + 0 ≤ _)⟩)
    dsimp only [Pt.U, Pt.locs, Pt.cells, Pt.slots] at X25 l25 y25 z25 st25 hQ25
    subst l25 y25 z25
    obtain ⟨rfl, N25q, e25⟩ := hQ25
    have N25 := Fr.app N23 N25q
    refine Go.on st25 ?_
    show Go _ _ _ _ _ _ _ _ (mkF m 184 #[.val (.int i0), .val (.int i1), .val (.int i2), .val (.int i3), .val (.int (1 : Int32)), .val (.int n), .val (.ref q), .val (.ref m1), .val (.ref m2)] [(.int (1 : Int32))])
    have hc26 : ¬ ((1 : Int32) = (0 : Int32)) := by decide
    refine Go.on (fun _ k => XS.ifNo X25.here hx rfl (hb hby at_184) rfl ((if0 _ _).trans (feq hc26).1) k) ?_
    show Go _ _ _ _ _ _ _ _ (mkF m 187 #[.val (.int i0), .val (.int i1), .val (.int i2), .val (.int i3), .val (.int (1 : Int32)), .val (.int n), .val (.ref q), .val (.ref m1), .val (.ref m2)] [])
    refine Go.on (fun _ k => XS.iconst X25.here hx rfl (hb hby at_187) k) ?_
    show Go _ _ _ _ _ _ _ _ (mkF m 188 #[.val (.int i0), .val (.int i1), .val (.int i2), .val (.int i3), .val (.int (1 : Int32)), .val (.int n), .val (.ref q), .val (.ref m1), .val (.ref m2)] [(.int (1 : Int32))])
    refine Go.on (fun _ k => XS.goto X25.here hx rfl (pc0 := 188) (pc' := 192) rfl (hb hby at_188) (by decide) (by decide) k) ?_
    show Go _ _ _ _ _ _ _ _ (mkF m 192 #[.val (.int i0), .val (.int i1), .val (.int i2), .val (.int i3), .val (.int (1 : Int32)), .val (.int n), .val (.ref q), .val (.ref m1), .val (.ref m2)] [(.int (1 : Int32))])
    refine Go.retN X25 hx (t := .boolean) Bd.returns (by simp) (hb hby at_192) ?_ (by rw [hK1]; decide) (by rw [hK2]; decide)
    rw [e25, ← hQQ]
    exact ⟨rfl, N25⟩
  · -- length 2
    subst hl
    show Go _ _ _ _ _ _ _ _ (mkF m 18 #[.val (.int i0), .val (.int i1), .val (.int i2), .val (.int i3), .val (.int (2 : Int32)), .val (.int n), .unset, .unset, .unset] [])
    obtain ⟨T27, h27, X27, e27, E27, A27, D27, -, st27⟩ := newO X0 hx hZ hown (hw _ (List.mem_of_getElem? (i := 0) rfl)) (hw _ (List.mem_of_getElem? (i := 1) rfl)) (hw _ (List.mem_of_getElem? (i := 2) rfl)) e0 (g := (mkF m 18 #[.val (.int i0), .val (.int i1), .val (.int i2), .val (.int i3), .val (.int (2 : Int32)), .val (.int n), .unset, .unset, .unset] [])) rfl (hb hby at_18) (by decide) (by decide)
    obtain ⟨q, g27⟩ : ∃ z, z = h0.size := ⟨_, rfl⟩
    have g_q : n0 ≤ q := Nat.le_trans ZZ (Nat.le_of_eq g27.symm)
    rw [← g27] at A27 D27 st27
    replace ZZ := Nat.le_trans ZZ E27.1
    have E_q := A27
    have F_sum_q : Fld Z h27 q "com/example/d2rank/d2rank/rerank/Centroid" "sum" "[D" .null := D27 (Or.inr (hw _ (List.mem_of_getElem? (i := 11) rfl))) (ty := (.array .double)) (by decide)
    have F_count_q : Fld Z h27 q "com/example/d2rank/d2rank/rerank/Centroid" "count" "I" (.int (0 : Int32)) := D27 (Or.inl (hw _ (List.mem_of_getElem? (i := 29) rfl))) (ty := .int) (by decide)
    refine Go.on st27 ?_
    show Go _ _ _ _ _ _ _ _ (mkF m 21 #[.val (.int i0), .val (.int i1), .val (.int i2), .val (.int i3), .val (.int (2 : Int32)), .val (.int n), .unset, .unset, .unset] [(.ref q)])
    refine Go.on (fun _ k => XS.dup X27.here hx rfl (hb hby at_21) rfl rfl k) ?_
    show Go _ _ _ _ _ _ _ _ (mkF m 22 #[.val (.int i0), .val (.int i1), .val (.int i2), .val (.int i3), .val (.int (2 : Int32)), .val (.int n), .unset, .unset, .unset] [(.ref q), (.ref q)])
    refine Go.on (fun _ k => XS.iload X27.here hx rfl (hb hby at_22) rfl k) ?_
    show Go _ _ _ _ _ _ _ _ (mkF m 24 #[.val (.int i0), .val (.int i1), .val (.int i2), .val (.int i3), .val (.int (2 : Int32)), .val (.int n), .unset, .unset, .unset] [(.int (2 : Int32)), (.ref q), (.ref q)])
    obtain ⟨_, _, ⟨T28, L28, k28, n28⟩, -, X28, ⟨Lc28, hQ28, l28, y28, z28⟩, st28⟩ := X27.specialBack hx (y := (⟨"com/example/d2rank/d2rank/rerank/Centroid", "<init>", "(I)V"⟩ : MethodName)) rfl hown (mvT hZ (hw _ (List.mem_of_getElem? (i := 3) rfl))) (mvT hZ (hw _ (List.mem_of_getElem? (i := 4) rfl))) (mvT hZ (hw _ (List.mem_of_getElem? (i := 5) rfl))) (by decide) (backOf (W := 1) (ci_2 l Z aw hw [] q .null h27 n0 ZZ E_q F_sum_q F_count_q g_q) hZ (hw _ (List.mem_of_getElem? (i := 5) rfl)) (hw _ (List.mem_of_getElem? (i := 2) rfl)) (by decide) (by decide)) (g := (mkF m 24 #[.val (.int i0), .val (.int i1), .val (.int i2), .val (.int i3), .val (.int (2 : Int32)), .val (.int n), .unset, .unset, .unset] [(.int (2 : Int32)), (.ref q), (.ref q)])) rfl (by rw [hml]; rfl) (Steps.refl _) (a := q) (argsL := [(.int (2 : Int32))]) (rest := [(.ref q)]) (lenOf pd_3 rfl) rfl (by show 2 * 0 + _ ≤ _; exact Nat.le_of_eq rfl) (hb hby at_24) (fun _ _ => ⟨rfl, e27, (by decide : 1 + 1 ≤ _), (by decide : 2 + 2 ≤ _)⟩)
    dsimp only [Pt.U, Pt.locs, Pt.cells, Pt.slots] at X28 l28 y28 z28 st28 hQ28
    subst l28 y28 z28
    obtain ⟨h28, e28⟩ : ∃ q, T28.heap = q := ⟨_, rfl⟩
    rw [e28] at hQ28
    obtain ⟨rfl, N28q, ar, k_ar, K28q, szarq, Eq28, F_sumq28, F_countq28, V_ar⟩ := hQ28
    have N28 := Fr.app N0 N28q
    have ZZ28p := ZZ
    have lt_q := E_q.lt
    replace E_q := E_q.keep K28q
    replace ZZ := Nat.le_trans ZZ K28q.1
    have F_sum_q := F_sumq28
    have F_count_q := F_countq28
    have g_ar : n0 ≤ ar := Nat.le_trans ZZ28p szarq
    have ne_q_ar : q ≠ ar := Nat.ne_of_lt (Nat.lt_of_lt_of_le lt_q szarq)
    refine Go.on (fun _ k => st28.trans k) ?_
    show Go _ _ _ _ _ _ _ _ (mkF m 27 #[.val (.int i0), .val (.int i1), .val (.int i2), .val (.int i3), .val (.int (2 : Int32)), .val (.int n), .unset, .unset, .unset] [(.ref q)])
    refine Go.on (fun _ k => XS.astore X28.here hx rfl (hb hby at_27) rfl rfl (l' := #[.val (.int i0), .val (.int i1), .val (.int i2), .val (.int i3), .val (.int (2 : Int32)), .val (.int n), .val (.ref q), .unset, .unset]) rfl k) ?_
    show Go _ _ _ _ _ _ _ _ (mkF m 29 #[.val (.int i0), .val (.int i1), .val (.int i2), .val (.int i3), .val (.int (2 : Int32)), .val (.int n), .val (.ref q), .unset, .unset] [])
    refine Go.on (fun _ k => XS.aload X28.here hx rfl (hb hby at_29) rfl rfl k) ?_
    show Go _ _ _ _ _ _ _ _ (mkF m 31 #[.val (.int i0), .val (.int i1), .val (.int i2), .val (.int i3), .val (.int (2 : Int32)), .val (.int n), .val (.ref q), .unset, .unset] [(.ref q)])
    refine Go.on (fun _ k => XS.iloadN X28.here hx rfl (hb hby at_31) rfl k) ?_
    show Go _ _ _ _ _ _ _ _ (mkF m 32 #[.val (.int i0), .val (.int i1), .val (.int i2), .val (.int i3), .val (.int (2 : Int32)), .val (.int n), .val (.ref q), .unset, .unset] [(.int i1), (.ref q)])
    refine Go.on (fun _ k => XS.iload X28.here hx rfl (hb hby at_32) rfl k) ?_
    show Go _ _ _ _ _ _ _ _ (mkF m 34 #[.val (.int i0), .val (.int i1), .val (.int i2), .val (.int i3), .val (.int (2 : Int32)), .val (.int n), .val (.ref q), .unset, .unset] [(.int (2 : Int32)), (.int i1), (.ref q)])
    obtain ⟨_, _, ⟨T29, L29, k29, n29⟩, -, X29, ⟨Lc29, hQ29, l29, y29, z29⟩, st29⟩ := Jvm.LawKit.callS X28 hx (y := (⟨"com/example/d2rank/d2rank/rerank/CentroidMeanPinLaw", "unit", "(II)[D"⟩ : MethodName)) hown (mvT hZ (hw _ (List.mem_of_getElem? (i := 12) rfl))) (mvT hZ (hw _ (List.mem_of_getElem? (i := 13) rfl))) (mvT hZ (hw _ (List.mem_of_getElem? (i := 14) rfl))) (mvT hZ (hw _ (List.mem_of_getElem? (i := 15) rfl))) (by decide) (backOf (W := 1) (un_2 l Z aw hw [] i1  h28 n0 ZZ ) hZ (hw _ (List.mem_of_getElem? (i := 15) rfl)) (hw _ (List.mem_of_getElem? (i := 14) rfl)) (by decide) (by decide)) (g := (mkF m 34 #[.val (.int i0), .val (.int i1), .val (.int i2), .val (.int i3), .val (.int (2 : Int32)), .val (.int n), .val (.ref q), .unset, .unset] [(.int (2 : Int32)), (.int i1), (.ref q)])) rfl (by rw [hml]; rfl) (argsL := [(.int i1), (.int (2 : Int32))]) (rest := [(.ref q)]) (lenOf pd_4 rfl) rfl (by show 2 * 0 + _ ≤ _; exact Nat.le_of_eq rfl) (hb hby at_34) (fun _ _ => ⟨rfl, e28, (by decide : 2 + 1 ≤ _), (by decide : 4 + 2 ≤ _)⟩)
    dsimp only [Pt.U, Pt.locs, Pt.cells, Pt.slots] at X29 l29 y29 z29 st29 hQ29
    subst l29 y29 z29
    obtain ⟨h29, e29⟩ : ∃ q, T29.heap = q := ⟨_, rfl⟩
    rw [e29] at hQ29
    obtain ⟨u1, k_u1, rfl, N29q, K29q, szq29, V_u1⟩ := hQ29
    have N29 := Fr.app N28 N29q
    have ne_q_u1 : q ≠ u1 := Nat.ne_of_lt (Nat.lt_of_lt_of_le E_q.lt szq29)
    have ne_ar_u1 : ar ≠ u1 := Nat.ne_of_lt (Nat.lt_of_lt_of_le V_ar.lt szq29)
    replace E_q := E_q.keep K29q
    replace F_sum_q := F_sum_q.keep K29q nin0
    replace F_count_q := F_count_q.keep K29q nin0
    replace V_ar := V_ar.keep K29q nin0
    replace ZZ := Nat.le_trans ZZ K29q.1
    refine Go.on st29 ?_
    show Go _ _ _ _ _ _ _ _ (mkF m 37 #[.val (.int i0), .val (.int i1), .val (.int i2), .val (.int i3), .val (.int (2 : Int32)), .val (.int n), .val (.ref q), .unset, .unset] [(.ref u1), (.ref q)])
    obtain ⟨cq30, kq30, q30a, q30b, q30c⟩ := isOf hZ e29 E_q
    obtain ⟨_, _, ⟨T30, L30, k30, n30⟩, -, X30, ⟨Lc30, hQ30, l30, y30, z30⟩, st30⟩ := X29.virtualBack hx (y := (⟨"com/example/d2rank/d2rank/rerank/Centroid", "add", "([D)V"⟩ : MethodName)) (z := (⟨"com/example/d2rank/d2rank/rerank/Centroid", "add", "([D)V"⟩ : MethodName)) hown (mvT hZ (hw _ (List.mem_of_getElem? (i := 23) rfl))) (mvT hZ (hw _ (List.mem_of_getElem? (i := 24) rfl))) (notFace_of_selects (args := #[]) (mvT hZ (hw _ (List.mem_of_getElem? (i := 26) rfl)))) (mvT hZ (hw _ (List.mem_of_getElem? (i := 26) rfl))) (mvT hZ (hw _ (List.mem_of_getElem? (i := 25) rfl))) (by decide) (backOf (W := 0) (ca_2 l Z aw hw [] q u1 ar (0 : Int32) k_ar (0 : UInt64) (0 : UInt64) k_u1 (if (indexV i1 (2 : Int32)) = (0 : Int32) then (FP.i2d (signV i1)) else (0 : UInt64)) (if (indexV i1 (2 : Int32)) = (1 : Int32) then (FP.i2d (signV i1)) else (0 : UInt64)) h29 n0 ZZ E_q F_sum_q F_count_q V_ar V_u1 g_q g_ar ne_q_ar (Ne.symm ne_ar_u1) (Ne.symm ne_q_u1) (own_dnn (own_t1 i1 (0 : Int32) (2 : Int32))) (own_dnn (own_t1 i1 (1 : Int32) (2 : Int32)))) hZ (hw _ (List.mem_of_getElem? (i := 27) rfl)) (hw _ (List.mem_of_getElem? (i := 2) rfl)) (by decide) (by decide)) q30a q30c (g := (mkF m 37 #[.val (.int i0), .val (.int i1), .val (.int i2), .val (.int i3), .val (.int (2 : Int32)), .val (.int n), .val (.ref q), .unset, .unset] [(.ref u1), (.ref q)])) rfl (by rw [hml]; rfl) (Steps.refl _) (argsL := [(.ref u1)]) (rest := []) (lenOf pd_5 rfl) rfl (by show 2 * 0 + _ ≤ _; exact Nat.le_of_eq rfl) (hb hby at_37) (fun _ _ => ⟨rfl, e29, (by decide : 3 + 0 ≤ _), (by decide : 6 + 0 ≤ _)⟩)
    dsimp only [Pt.U, Pt.locs, Pt.cells, Pt.slots] at X30 l30 y30 z30 st30 hQ30
    subst l30 y30 z30
    obtain ⟨h30, e30⟩ : ∃ q, T30.heap = q := ⟨_, rfl⟩
    rw [e30] at hQ30
    obtain ⟨rfl, N30q, K30q, Eq30, F_sumq30, F_countq30, V_q30⟩ := hQ30
    have N30 := Fr.app N29 N30q
    have ZZ30p := ZZ
    have lt_q := E_q.lt
    have lt_ar := V_ar.lt
    have lt_u1 := V_u1.lt
    replace E_q := E_q.keep K30q
    replace V_u1 := V_u1.keep K30q (ninS (Ne.symm ne_q_u1) (ninS (Ne.symm ne_ar_u1) nin0))
    replace ZZ := Nat.le_trans ZZ K30q.1
    have F_sum_q := F_sumq30
    have F_count_q : Fld Z h30 q "com/example/d2rank/d2rank/rerank/Centroid" "count" "I" (.int (1 : Int32)) := F_countq30
    have V_ar := V_q30
    refine Go.on (fun _ k => st30.trans k) ?_
    show Go _ _ _ _ _ _ _ _ (mkF m 40 #[.val (.int i0), .val (.int i1), .val (.int i2), .val (.int i3), .val (.int (2 : Int32)), .val (.int n), .val (.ref q), .unset, .unset] [])
    refine Go.on (fun _ k => XS.iload X30.here hx rfl (hb hby at_40) rfl k) ?_
    show Go _ _ _ _ _ _ _ _ (mkF m 42 #[.val (.int i0), .val (.int i1), .val (.int i2), .val (.int i3), .val (.int (2 : Int32)), .val (.int n), .val (.ref q), .unset, .unset] [(.int n)])
    refine Go.on (fun _ k => XS.iconst X30.here hx rfl (hb hby at_42) k) ?_
    show Go _ _ _ _ _ _ _ _ (mkF m 43 #[.val (.int i0), .val (.int i1), .val (.int i2), .val (.int i3), .val (.int (2 : Int32)), .val (.int n), .val (.ref q), .unset, .unset] [(.int (2 : Int32)), (.int n)])
    suffices hJ31 : ∀ (T31 : State) (locs31 : List Loc) (h31 : Heap) (t0 : UInt64) (t1 : UInt64) (ct : Int32), Stand p l e room_1 s m #[(.int i0), (.int i1), (.int i2), (.int i3)] below meth c T31 locs31 5 10 → T31.heap = h31 → Fr n0 locs31 → n0 ≤ h31.size → Exa Z h31 q "com/example/d2rank/d2rank/rerank/Centroid" → Fld Z h31 q "com/example/d2rank/d2rank/rerank/Centroid" "sum" "[D" (.ref ar) → Fld Z h31 q "com/example/d2rank/d2rank/rerank/Centroid" "count" "I" (.int ct) → Arv Z h31 ar k_ar .double (2 : Int32) [(.double t0), (.double t1)] (.double (0 : UInt64)) → ct = n → Jvm.FP.Core.DInt (own_W i1 i2 i3 n (0 : Int32) (2 : Int32)) t0 → Jvm.FP.Core.DInt (own_W i1 i2 i3 n (1 : Int32) (2 : Int32)) t1 → Go p e below s K1 K2 QQ T31 (mkF m 74 #[.val (.int i0), .val (.int i1), .val (.int i2), .val (.int i3), .val (.int (2 : Int32)), .val (.int n), .val (.ref q), .unset, .unset] []) by
      by_cases hc32 : n < (2 : Int32)
      · -- pc 43
        refine Go.on (fun _ k => XS.icmpYes X30.here hx rfl (pc0 := 43) (pc' := 57) rfl (hb hby at_43) rfl (tlt hc32).1 (by decide) (by decide) k) ?_
        show Go _ _ _ _ _ _ _ _ (mkF m 57 #[.val (.int i0), .val (.int i1), .val (.int i2), .val (.int i3), .val (.int (2 : Int32)), .val (.int n), .val (.ref q), .unset, .unset] [])
        refine Go.on (fun _ k => XS.iload X30.here hx rfl (hb hby at_57) rfl k) ?_
        show Go _ _ _ _ _ _ _ _ (mkF m 59 #[.val (.int i0), .val (.int i1), .val (.int i2), .val (.int i3), .val (.int (2 : Int32)), .val (.int n), .val (.ref q), .unset, .unset] [(.int n)])
        refine Go.on (fun _ k => XS.iconst X30.here hx rfl (hb hby at_59) k) ?_
        show Go _ _ _ _ _ _ _ _ (mkF m 60 #[.val (.int i0), .val (.int i1), .val (.int i2), .val (.int i3), .val (.int (2 : Int32)), .val (.int n), .val (.ref q), .unset, .unset] [(.int (3 : Int32)), (.int n)])
        have hc33 : n < (3 : Int32) := own_less3 hc32
        refine Go.on (fun _ k => XS.icmpYes X30.here hx rfl (pc0 := 60) (pc' := 74) rfl (hb hby at_60) rfl (tlt hc33).1 (by decide) (by decide) k) ?_
        show Go _ _ _ _ _ _ _ _ (mkF m 74 #[.val (.int i0), .val (.int i1), .val (.int i2), .val (.int i3), .val (.int (2 : Int32)), .val (.int n), .val (.ref q), .unset, .unset] [])
        exact hJ31 _ _ _ (FP.dadd (0 : UInt64) (if (indexV i1 (2 : Int32)) = (0 : Int32) then (FP.i2d (signV i1)) else (0 : UInt64))) (FP.dadd (0 : UInt64) (if (indexV i1 (2 : Int32)) = (1 : Int32) then (FP.i2d (signV i1)) else (0 : UInt64))) (1 : Int32) (X30.more (by decide) (by decide)) e30 N30 ZZ E_q F_sum_q F_count_q V_ar (own_ct1 hn hc32) (own_W1 hc32 (own_t1 i1 (0 : Int32) (2 : Int32))) (own_W1 hc32 (own_t1 i1 (1 : Int32) (2 : Int32)))
      · -- pc 43
        refine Go.on (fun _ k => XS.icmpNo X30.here hx rfl (hb hby at_43) rfl (flt hc32).1 k) ?_
        show Go _ _ _ _ _ _ _ _ (mkF m 46 #[.val (.int i0), .val (.int i1), .val (.int i2), .val (.int i3), .val (.int (2 : Int32)), .val (.int n), .val (.ref q), .unset, .unset] [])
        refine Go.on (fun _ k => XS.aload X30.here hx rfl (hb hby at_46) rfl rfl k) ?_
        show Go _ _ _ _ _ _ _ _ (mkF m 48 #[.val (.int i0), .val (.int i1), .val (.int i2), .val (.int i3), .val (.int (2 : Int32)), .val (.int n), .val (.ref q), .unset, .unset] [(.ref q)])
        refine Go.on (fun _ k => XS.iloadN X30.here hx rfl (hb hby at_48) rfl k) ?_
        show Go _ _ _ _ _ _ _ _ (mkF m 49 #[.val (.int i0), .val (.int i1), .val (.int i2), .val (.int i3), .val (.int (2 : Int32)), .val (.int n), .val (.ref q), .unset, .unset] [(.int i2), (.ref q)])
        refine Go.on (fun _ k => XS.iload X30.here hx rfl (hb hby at_49) rfl k) ?_
        show Go _ _ _ _ _ _ _ _ (mkF m 51 #[.val (.int i0), .val (.int i1), .val (.int i2), .val (.int i3), .val (.int (2 : Int32)), .val (.int n), .val (.ref q), .unset, .unset] [(.int (2 : Int32)), (.int i2), (.ref q)])
        obtain ⟨_, _, ⟨T34, L34, k34, n34⟩, -, X34, ⟨Lc34, hQ34, l34, y34, z34⟩, st34⟩ := Jvm.LawKit.callS X30 hx (y := (⟨"com/example/d2rank/d2rank/rerank/CentroidMeanPinLaw", "unit", "(II)[D"⟩ : MethodName)) hown (mvT hZ (hw _ (List.mem_of_getElem? (i := 12) rfl))) (mvT hZ (hw _ (List.mem_of_getElem? (i := 13) rfl))) (mvT hZ (hw _ (List.mem_of_getElem? (i := 14) rfl))) (mvT hZ (hw _ (List.mem_of_getElem? (i := 15) rfl))) (by decide) (backOf (W := 1) (un_2 l Z aw hw [] i2  h30 n0 ZZ ) hZ (hw _ (List.mem_of_getElem? (i := 15) rfl)) (hw _ (List.mem_of_getElem? (i := 14) rfl)) (by decide) (by decide)) (g := (mkF m 51 #[.val (.int i0), .val (.int i1), .val (.int i2), .val (.int i3), .val (.int (2 : Int32)), .val (.int n), .val (.ref q), .unset, .unset] [(.int (2 : Int32)), (.int i2), (.ref q)])) rfl (by rw [hml]; rfl) (argsL := [(.int i2), (.int (2 : Int32))]) (rest := [(.ref q)]) (lenOf pd_4 rfl) rfl (by show 2 * 0 + _ ≤ _; exact Nat.le_of_eq rfl) (hb hby at_51) (fun _ _ => ⟨rfl, e30, (by decide : 3 + 1 ≤ _), (by decide : 6 + 2 ≤ _)⟩)
        dsimp only [Pt.U, Pt.locs, Pt.cells, Pt.slots] at X34 l34 y34 z34 st34 hQ34
        subst l34 y34 z34
        obtain ⟨h34, e34⟩ : ∃ q, T34.heap = q := ⟨_, rfl⟩
        rw [e34] at hQ34
        obtain ⟨u2, k_u2, rfl, N34q, K34q, szq34, V_u2⟩ := hQ34
        have N34 := Fr.app N30 N34q
        have ne_q_u2 : q ≠ u2 := Nat.ne_of_lt (Nat.lt_of_lt_of_le E_q.lt szq34)
        have ne_u1_u2 : u1 ≠ u2 := Nat.ne_of_lt (Nat.lt_of_lt_of_le V_u1.lt szq34)
        have ne_ar_u2 : ar ≠ u2 := Nat.ne_of_lt (Nat.lt_of_lt_of_le V_ar.lt szq34)
        replace E_q := E_q.keep K34q
        replace V_u1 := V_u1.keep K34q nin0
        replace F_sum_q := F_sum_q.keep K34q nin0
        replace F_count_q := F_count_q.keep K34q nin0
        replace V_ar := V_ar.keep K34q nin0
        replace ZZ := Nat.le_trans ZZ K34q.1
        refine Go.on st34 ?_
        show Go _ _ _ _ _ _ _ _ (mkF m 54 #[.val (.int i0), .val (.int i1), .val (.int i2), .val (.int i3), .val (.int (2 : Int32)), .val (.int n), .val (.ref q), .unset, .unset] [(.ref u2), (.ref q)])
        obtain ⟨cq35, kq35, q35a, q35b, q35c⟩ := isOf hZ e34 E_q
        obtain ⟨_, _, ⟨T35, L35, k35, n35⟩, -, X35, ⟨Lc35, hQ35, l35, y35, z35⟩, st35⟩ := X34.virtualBack hx (y := (⟨"com/example/d2rank/d2rank/rerank/Centroid", "add", "([D)V"⟩ : MethodName)) (z := (⟨"com/example/d2rank/d2rank/rerank/Centroid", "add", "([D)V"⟩ : MethodName)) hown (mvT hZ (hw _ (List.mem_of_getElem? (i := 23) rfl))) (mvT hZ (hw _ (List.mem_of_getElem? (i := 24) rfl))) (notFace_of_selects (args := #[]) (mvT hZ (hw _ (List.mem_of_getElem? (i := 26) rfl)))) (mvT hZ (hw _ (List.mem_of_getElem? (i := 26) rfl))) (mvT hZ (hw _ (List.mem_of_getElem? (i := 25) rfl))) (by decide) (backOf (W := 0) (ca_2 l Z aw hw [] q u2 ar (1 : Int32) k_ar (FP.dadd (0 : UInt64) (if (indexV i1 (2 : Int32)) = (0 : Int32) then (FP.i2d (signV i1)) else (0 : UInt64))) (FP.dadd (0 : UInt64) (if (indexV i1 (2 : Int32)) = (1 : Int32) then (FP.i2d (signV i1)) else (0 : UInt64))) k_u2 (if (indexV i2 (2 : Int32)) = (0 : Int32) then (FP.i2d (signV i2)) else (0 : UInt64)) (if (indexV i2 (2 : Int32)) = (1 : Int32) then (FP.i2d (signV i2)) else (0 : UInt64)) h34 n0 ZZ E_q F_sum_q F_count_q V_ar V_u2 g_q g_ar ne_q_ar (Ne.symm ne_ar_u2) (Ne.symm ne_q_u2) (own_dnn (own_t2 i1 i2 (0 : Int32) (2 : Int32))) (own_dnn (own_t2 i1 i2 (1 : Int32) (2 : Int32)))) hZ (hw _ (List.mem_of_getElem? (i := 27) rfl)) (hw _ (List.mem_of_getElem? (i := 2) rfl)) (by decide) (by decide)) q35a q35c (g := (mkF m 54 #[.val (.int i0), .val (.int i1), .val (.int i2), .val (.int i3), .val (.int (2 : Int32)), .val (.int n), .val (.ref q), .unset, .unset] [(.ref u2), (.ref q)])) rfl (by rw [hml]; rfl) (Steps.refl _) (argsL := [(.ref u2)]) (rest := []) (lenOf pd_5 rfl) rfl (by show 2 * 0 + _ ≤ _; exact Nat.le_of_eq rfl) (hb hby at_54) (fun _ _ => ⟨rfl, e34, (by decide : 4 + 0 ≤ _), (by decide : 8 + 0 ≤ _)⟩)
        dsimp only [Pt.U, Pt.locs, Pt.cells, Pt.slots] at X35 l35 y35 z35 st35 hQ35
        subst l35 y35 z35
        obtain ⟨h35, e35⟩ : ∃ q, T35.heap = q := ⟨_, rfl⟩
        rw [e35] at hQ35
        obtain ⟨rfl, N35q, K35q, Eq35, F_sumq35, F_countq35, V_q35⟩ := hQ35
        have N35 := Fr.app N34 N35q
        have ZZ35p := ZZ
        have lt_q := E_q.lt
        have lt_u1 := V_u1.lt
        have lt_ar := V_ar.lt
        have lt_u2 := V_u2.lt
        replace E_q := E_q.keep K35q
        replace V_u1 := V_u1.keep K35q (ninS (Ne.symm ne_q_u1) (ninS (Ne.symm ne_ar_u1) nin0))
        replace V_u2 := V_u2.keep K35q (ninS (Ne.symm ne_q_u2) (ninS (Ne.symm ne_ar_u2) nin0))
        replace ZZ := Nat.le_trans ZZ K35q.1
        have F_sum_q := F_sumq35
        have F_count_q : Fld Z h35 q "com/example/d2rank/d2rank/rerank/Centroid" "count" "I" (.int (2 : Int32)) := F_countq35
        have V_ar := V_q35
        refine Go.on (fun _ k => st35.trans k) ?_
        show Go _ _ _ _ _ _ _ _ (mkF m 57 #[.val (.int i0), .val (.int i1), .val (.int i2), .val (.int i3), .val (.int (2 : Int32)), .val (.int n), .val (.ref q), .unset, .unset] [])
        refine Go.on (fun _ k => XS.iload X35.here hx rfl (hb hby at_57) rfl k) ?_
        show Go _ _ _ _ _ _ _ _ (mkF m 59 #[.val (.int i0), .val (.int i1), .val (.int i2), .val (.int i3), .val (.int (2 : Int32)), .val (.int n), .val (.ref q), .unset, .unset] [(.int n)])
        refine Go.on (fun _ k => XS.iconst X35.here hx rfl (hb hby at_59) k) ?_
        show Go _ _ _ _ _ _ _ _ (mkF m 60 #[.val (.int i0), .val (.int i1), .val (.int i2), .val (.int i3), .val (.int (2 : Int32)), .val (.int n), .val (.ref q), .unset, .unset] [(.int (3 : Int32)), (.int n)])
        by_cases hc36 : n < (3 : Int32)
        · -- pc 60
          refine Go.on (fun _ k => XS.icmpYes X35.here hx rfl (pc0 := 60) (pc' := 74) rfl (hb hby at_60) rfl (tlt hc36).1 (by decide) (by decide) k) ?_
          show Go _ _ _ _ _ _ _ _ (mkF m 74 #[.val (.int i0), .val (.int i1), .val (.int i2), .val (.int i3), .val (.int (2 : Int32)), .val (.int n), .val (.ref q), .unset, .unset] [])
          exact hJ31 _ _ _ (FP.dadd (FP.dadd (0 : UInt64) (if (indexV i1 (2 : Int32)) = (0 : Int32) then (FP.i2d (signV i1)) else (0 : UInt64))) (if (indexV i2 (2 : Int32)) = (0 : Int32) then (FP.i2d (signV i2)) else (0 : UInt64))) (FP.dadd (FP.dadd (0 : UInt64) (if (indexV i1 (2 : Int32)) = (1 : Int32) then (FP.i2d (signV i1)) else (0 : UInt64))) (if (indexV i2 (2 : Int32)) = (1 : Int32) then (FP.i2d (signV i2)) else (0 : UInt64))) (2 : Int32) (X35.more (by decide) (by decide)) e35 N35 ZZ E_q F_sum_q F_count_q V_ar (own_ct2 hn hc32 hc36) (own_W2 hc32 hc36 (own_t2 i1 i2 (0 : Int32) (2 : Int32))) (own_W2 hc32 hc36 (own_t2 i1 i2 (1 : Int32) (2 : Int32)))
        · -- pc 60
          refine Go.on (fun _ k => XS.icmpNo X35.here hx rfl (hb hby at_60) rfl (flt hc36).1 k) ?_
          show Go _ _ _ _ _ _ _ _ (mkF m 63 #[.val (.int i0), .val (.int i1), .val (.int i2), .val (.int i3), .val (.int (2 : Int32)), .val (.int n), .val (.ref q), .unset, .unset] [])
          refine Go.on (fun _ k => XS.aload X35.here hx rfl (hb hby at_63) rfl rfl k) ?_
          show Go _ _ _ _ _ _ _ _ (mkF m 65 #[.val (.int i0), .val (.int i1), .val (.int i2), .val (.int i3), .val (.int (2 : Int32)), .val (.int n), .val (.ref q), .unset, .unset] [(.ref q)])
          refine Go.on (fun _ k => XS.iloadN X35.here hx rfl (hb hby at_65) rfl k) ?_
          show Go _ _ _ _ _ _ _ _ (mkF m 66 #[.val (.int i0), .val (.int i1), .val (.int i2), .val (.int i3), .val (.int (2 : Int32)), .val (.int n), .val (.ref q), .unset, .unset] [(.int i3), (.ref q)])
          refine Go.on (fun _ k => XS.iload X35.here hx rfl (hb hby at_66) rfl k) ?_
          show Go _ _ _ _ _ _ _ _ (mkF m 68 #[.val (.int i0), .val (.int i1), .val (.int i2), .val (.int i3), .val (.int (2 : Int32)), .val (.int n), .val (.ref q), .unset, .unset] [(.int (2 : Int32)), (.int i3), (.ref q)])
          obtain ⟨_, _, ⟨T37, L37, k37, n37⟩, -, X37, ⟨Lc37, hQ37, l37, y37, z37⟩, st37⟩ := Jvm.LawKit.callS X35 hx (y := (⟨"com/example/d2rank/d2rank/rerank/CentroidMeanPinLaw", "unit", "(II)[D"⟩ : MethodName)) hown (mvT hZ (hw _ (List.mem_of_getElem? (i := 12) rfl))) (mvT hZ (hw _ (List.mem_of_getElem? (i := 13) rfl))) (mvT hZ (hw _ (List.mem_of_getElem? (i := 14) rfl))) (mvT hZ (hw _ (List.mem_of_getElem? (i := 15) rfl))) (by decide) (backOf (W := 1) (un_2 l Z aw hw [] i3  h35 n0 ZZ ) hZ (hw _ (List.mem_of_getElem? (i := 15) rfl)) (hw _ (List.mem_of_getElem? (i := 14) rfl)) (by decide) (by decide)) (g := (mkF m 68 #[.val (.int i0), .val (.int i1), .val (.int i2), .val (.int i3), .val (.int (2 : Int32)), .val (.int n), .val (.ref q), .unset, .unset] [(.int (2 : Int32)), (.int i3), (.ref q)])) rfl (by rw [hml]; rfl) (argsL := [(.int i3), (.int (2 : Int32))]) (rest := [(.ref q)]) (lenOf pd_4 rfl) rfl (by show 2 * 0 + _ ≤ _; exact Nat.le_of_eq rfl) (hb hby at_68) (fun _ _ => ⟨rfl, e35, (by decide : 4 + 1 ≤ _), (by decide : 8 + 2 ≤ _)⟩)
          dsimp only [Pt.U, Pt.locs, Pt.cells, Pt.slots] at X37 l37 y37 z37 st37 hQ37
          subst l37 y37 z37
          obtain ⟨h37, e37⟩ : ∃ q, T37.heap = q := ⟨_, rfl⟩
          rw [e37] at hQ37
          obtain ⟨u3, k_u3, rfl, N37q, K37q, szq37, V_u3⟩ := hQ37
          have N37 := Fr.app N35 N37q
          have ne_q_u3 : q ≠ u3 := Nat.ne_of_lt (Nat.lt_of_lt_of_le E_q.lt szq37)
          have ne_u1_u3 : u1 ≠ u3 := Nat.ne_of_lt (Nat.lt_of_lt_of_le V_u1.lt szq37)
          have ne_u2_u3 : u2 ≠ u3 := Nat.ne_of_lt (Nat.lt_of_lt_of_le V_u2.lt szq37)
          have ne_ar_u3 : ar ≠ u3 := Nat.ne_of_lt (Nat.lt_of_lt_of_le V_ar.lt szq37)
          replace E_q := E_q.keep K37q
          replace V_u1 := V_u1.keep K37q nin0
          replace V_u2 := V_u2.keep K37q nin0
          replace F_sum_q := F_sum_q.keep K37q nin0
          replace F_count_q := F_count_q.keep K37q nin0
          replace V_ar := V_ar.keep K37q nin0
          replace ZZ := Nat.le_trans ZZ K37q.1
          refine Go.on st37 ?_
          show Go _ _ _ _ _ _ _ _ (mkF m 71 #[.val (.int i0), .val (.int i1), .val (.int i2), .val (.int i3), .val (.int (2 : Int32)), .val (.int n), .val (.ref q), .unset, .unset] [(.ref u3), (.ref q)])
          obtain ⟨cq38, kq38, q38a, q38b, q38c⟩ := isOf hZ e37 E_q
          obtain ⟨_, _, ⟨T38, L38, k38, n38⟩, -, X38, ⟨Lc38, hQ38, l38, y38, z38⟩, st38⟩ := X37.virtualBack hx (y := (⟨"com/example/d2rank/d2rank/rerank/Centroid", "add", "([D)V"⟩ : MethodName)) (z := (⟨"com/example/d2rank/d2rank/rerank/Centroid", "add", "([D)V"⟩ : MethodName)) hown (mvT hZ (hw _ (List.mem_of_getElem? (i := 23) rfl))) (mvT hZ (hw _ (List.mem_of_getElem? (i := 24) rfl))) (notFace_of_selects (args := #[]) (mvT hZ (hw _ (List.mem_of_getElem? (i := 26) rfl)))) (mvT hZ (hw _ (List.mem_of_getElem? (i := 26) rfl))) (mvT hZ (hw _ (List.mem_of_getElem? (i := 25) rfl))) (by decide) (backOf (W := 0) (ca_2 l Z aw hw [] q u3 ar (2 : Int32) k_ar (FP.dadd (FP.dadd (0 : UInt64) (if (indexV i1 (2 : Int32)) = (0 : Int32) then (FP.i2d (signV i1)) else (0 : UInt64))) (if (indexV i2 (2 : Int32)) = (0 : Int32) then (FP.i2d (signV i2)) else (0 : UInt64))) (FP.dadd (FP.dadd (0 : UInt64) (if (indexV i1 (2 : Int32)) = (1 : Int32) then (FP.i2d (signV i1)) else (0 : UInt64))) (if (indexV i2 (2 : Int32)) = (1 : Int32) then (FP.i2d (signV i2)) else (0 : UInt64))) k_u3 (if (indexV i3 (2 : Int32)) = (0 : Int32) then (FP.i2d (signV i3)) else (0 : UInt64)) (if (indexV i3 (2 : Int32)) = (1 : Int32) then (FP.i2d (signV i3)) else (0 : UInt64)) h37 n0 ZZ E_q F_sum_q F_count_q V_ar V_u3 g_q g_ar ne_q_ar (Ne.symm ne_ar_u3) (Ne.symm ne_q_u3) (own_dnn (own_t3 i1 i2 i3 (0 : Int32) (2 : Int32))) (own_dnn (own_t3 i1 i2 i3 (1 : Int32) (2 : Int32)))) hZ (hw _ (List.mem_of_getElem? (i := 27) rfl)) (hw _ (List.mem_of_getElem? (i := 2) rfl)) (by decide) (by decide)) q38a q38c (g := (mkF m 71 #[.val (.int i0), .val (.int i1), .val (.int i2), .val (.int i3), .val (.int (2 : Int32)), .val (.int n), .val (.ref q), .unset, .unset] [(.ref u3), (.ref q)])) rfl (by rw [hml]; rfl) (Steps.refl _) (argsL := [(.ref u3)]) (rest := []) (lenOf pd_5 rfl) rfl (by show 2 * 0 + _ ≤ _; exact Nat.le_of_eq rfl) (hb hby at_71) (fun _ _ => ⟨rfl, e37, (by decide : 5 + 0 ≤ _), (by decide : 10 + 0 ≤ _)⟩)
          dsimp only [Pt.U, Pt.locs, Pt.cells, Pt.slots] at X38 l38 y38 z38 st38 hQ38
          subst l38 y38 z38
          obtain ⟨h38, e38⟩ : ∃ q, T38.heap = q := ⟨_, rfl⟩
          rw [e38] at hQ38
          obtain ⟨rfl, N38q, K38q, Eq38, F_sumq38, F_countq38, V_q38⟩ := hQ38
          have N38 := Fr.app N37 N38q
          have ZZ38p := ZZ
          have lt_q := E_q.lt
          have lt_u1 := V_u1.lt
          have lt_u2 := V_u2.lt
          have lt_ar := V_ar.lt
          have lt_u3 := V_u3.lt
          replace E_q := E_q.keep K38q
          replace V_u1 := V_u1.keep K38q (ninS (Ne.symm ne_q_u1) (ninS (Ne.symm ne_ar_u1) nin0))
          replace V_u2 := V_u2.keep K38q (ninS (Ne.symm ne_q_u2) (ninS (Ne.symm ne_ar_u2) nin0))
          replace V_u3 := V_u3.keep K38q (ninS (Ne.symm ne_q_u3) (ninS (Ne.symm ne_ar_u3) nin0))
          replace ZZ := Nat.le_trans ZZ K38q.1
          have F_sum_q := F_sumq38
          have F_count_q : Fld Z h38 q "com/example/d2rank/d2rank/rerank/Centroid" "count" "I" (.int (3 : Int32)) := F_countq38
          have V_ar := V_q38
          refine Go.on (fun _ k => st38.trans k) ?_
          show Go _ _ _ _ _ _ _ _ (mkF m 74 #[.val (.int i0), .val (.int i1), .val (.int i2), .val (.int i3), .val (.int (2 : Int32)), .val (.int n), .val (.ref q), .unset, .unset] [])
          exact hJ31 _ _ _ (FP.dadd (FP.dadd (FP.dadd (0 : UInt64) (if (indexV i1 (2 : Int32)) = (0 : Int32) then (FP.i2d (signV i1)) else (0 : UInt64))) (if (indexV i2 (2 : Int32)) = (0 : Int32) then (FP.i2d (signV i2)) else (0 : UInt64))) (if (indexV i3 (2 : Int32)) = (0 : Int32) then (FP.i2d (signV i3)) else (0 : UInt64))) (FP.dadd (FP.dadd (FP.dadd (0 : UInt64) (if (indexV i1 (2 : Int32)) = (1 : Int32) then (FP.i2d (signV i1)) else (0 : UInt64))) (if (indexV i2 (2 : Int32)) = (1 : Int32) then (FP.i2d (signV i2)) else (0 : UInt64))) (if (indexV i3 (2 : Int32)) = (1 : Int32) then (FP.i2d (signV i3)) else (0 : UInt64))) (3 : Int32) (X38.more (by decide) (by decide)) e38 N38 ZZ E_q F_sum_q F_count_q V_ar (own_ct3 hn hc32 hc36) (own_W3 hc32 hc36 (own_t3 i1 i2 i3 (0 : Int32) (2 : Int32))) (own_W3 hc32 hc36 (own_t3 i1 i2 i3 (1 : Int32) (2 : Int32)))
    clear E_q F_sum_q F_count_q V_ar ZZ
    intro T31 locs31 h31 t0 t1 ct X31 e31 N31 ZZ E_q F_sum_q F_count_q V_ar hct hT0 hT1
    show Go _ _ _ _ _ _ _ _ (mkF m 74 #[.val (.int i0), .val (.int i1), .val (.int i2), .val (.int i3), .val (.int (2 : Int32)), .val (.int n), .val (.ref q), .unset, .unset] [])
    have hctz : ct ≠ 0 := by rw [hct]; exact own_n0 hn
    refine Go.on (fun _ k => XS.aload X31.here hx rfl (hb hby at_74) rfl rfl k) ?_
    show Go _ _ _ _ _ _ _ _ (mkF m 76 #[.val (.int i0), .val (.int i1), .val (.int i2), .val (.int i3), .val (.int (2 : Int32)), .val (.int n), .val (.ref q), .unset, .unset] [(.ref q)])
    obtain ⟨cq39, kq39, q39a, q39b, q39c⟩ := isOf hZ e31 E_q
    obtain ⟨_, _, ⟨T39, L39, k39, n39⟩, -, X39, ⟨Lc39, hQ39, l39, y39, z39⟩, st39⟩ := X31.virtualBack hx (y := (⟨"com/example/d2rank/d2rank/rerank/Centroid", "mean", "()[D"⟩ : MethodName)) (z := (⟨"com/example/d2rank/d2rank/rerank/Centroid", "mean", "()[D"⟩ : MethodName)) hown (mvT hZ (hw _ (List.mem_of_getElem? (i := 30) rfl))) (mvT hZ (hw _ (List.mem_of_getElem? (i := 31) rfl))) (notFace_of_selects (args := #[]) (mvT hZ (hw _ (List.mem_of_getElem? (i := 33) rfl)))) (mvT hZ (hw _ (List.mem_of_getElem? (i := 33) rfl))) (mvT hZ (hw _ (List.mem_of_getElem? (i := 32) rfl))) (by decide) (backOf (W := 0) (cm_2 l Z aw hw [] q ar ct k_ar t0 t1 h31 n0 ZZ F_sum_q F_count_q V_ar (own_nnd' (ZV.of_int hT0).1 _ hctz) (own_nnd' (ZV.of_int hT1).1 _ hctz)) hZ (hw _ (List.mem_of_getElem? (i := 34) rfl)) (hw _ (List.mem_of_getElem? (i := 2) rfl)) (by decide) (by decide)) q39a q39c (g := (mkF m 76 #[.val (.int i0), .val (.int i1), .val (.int i2), .val (.int i3), .val (.int (2 : Int32)), .val (.int n), .val (.ref q), .unset, .unset] [(.ref q)])) rfl (by rw [hml]; rfl) (Steps.refl _) (argsL := []) (rest := []) (lenOf pd_6 rfl) rfl (by show 2 * 0 + _ ≤ _; exact Nat.le_of_eq rfl) (hb hby at_76) (fun _ _ => ⟨rfl, e31, (by decide : 5 + 1 ≤ _), (by decide : 10 + 2 ≤ _)⟩)
    dsimp only [Pt.U, Pt.locs, Pt.cells, Pt.slots] at X39 l39 y39 z39 st39 hQ39
    subst l39 y39 z39
    obtain ⟨h39, e39⟩ : ∃ q, T39.heap = q := ⟨_, rfl⟩
    rw [e39] at hQ39
    obtain ⟨m1, kq39, rfl, N39q, K39q, szq39, V_q39⟩ := hQ39
    have N39 := Fr.app N31 N39q
    have ZZ39p := ZZ
    have ne_q_m1 : q ≠ m1 := Nat.ne_of_lt (Nat.lt_of_lt_of_le E_q.lt szq39)
    have ne_ar_m1 : ar ≠ m1 := Nat.ne_of_lt (Nat.lt_of_lt_of_le V_ar.lt szq39)
    replace E_q := E_q.keep K39q
    replace F_sum_q := F_sum_q.keep K39q nin0
    replace F_count_q := F_count_q.keep K39q nin0
    replace V_ar := V_ar.keep K39q nin0
    replace ZZ := Nat.le_trans ZZ K39q.1
    have g_m1 : n0 ≤ m1 := Nat.le_trans ZZ39p szq39
    have V_m1 := V_q39
    obtain ⟨k_m1, hk_m1⟩ : ∃ z, z = kq39 := ⟨_, rfl⟩
    rw [← hk_m1] at V_m1
    refine Go.on (fun _ k => st39.trans k) ?_
    show Go _ _ _ _ _ _ _ _ (mkF m 79 #[.val (.int i0), .val (.int i1), .val (.int i2), .val (.int i3), .val (.int (2 : Int32)), .val (.int n), .val (.ref q), .unset, .unset] [(.ref m1)])
    refine Go.on (fun _ k => XS.astore X39.here hx rfl (hb hby at_79) rfl rfl (l' := #[.val (.int i0), .val (.int i1), .val (.int i2), .val (.int i3), .val (.int (2 : Int32)), .val (.int n), .val (.ref q), .val (.ref m1), .unset]) rfl k) ?_
    show Go _ _ _ _ _ _ _ _ (mkF m 81 #[.val (.int i0), .val (.int i1), .val (.int i2), .val (.int i3), .val (.int (2 : Int32)), .val (.int n), .val (.ref q), .val (.ref m1), .unset] [])
    refine Go.on (fun _ k => XS.aload X39.here hx rfl (hb hby at_81) rfl rfl k) ?_
    show Go _ _ _ _ _ _ _ _ (mkF m 83 #[.val (.int i0), .val (.int i1), .val (.int i2), .val (.int i3), .val (.int (2 : Int32)), .val (.int n), .val (.ref q), .val (.ref m1), .unset] [(.ref q)])
    obtain ⟨cq40, kq40, q40a, q40b, q40c⟩ := isOf hZ e39 E_q
    obtain ⟨_, _, ⟨T40, L40, k40, n40⟩, -, X40, ⟨Lc40, hQ40, l40, y40, z40⟩, st40⟩ := X39.virtualBack hx (y := (⟨"com/example/d2rank/d2rank/rerank/Centroid", "mean", "()[D"⟩ : MethodName)) (z := (⟨"com/example/d2rank/d2rank/rerank/Centroid", "mean", "()[D"⟩ : MethodName)) hown (mvT hZ (hw _ (List.mem_of_getElem? (i := 30) rfl))) (mvT hZ (hw _ (List.mem_of_getElem? (i := 31) rfl))) (notFace_of_selects (args := #[]) (mvT hZ (hw _ (List.mem_of_getElem? (i := 33) rfl)))) (mvT hZ (hw _ (List.mem_of_getElem? (i := 33) rfl))) (mvT hZ (hw _ (List.mem_of_getElem? (i := 32) rfl))) (by decide) (backOf (W := 0) (cm_2 l Z aw hw [] q ar ct k_ar t0 t1 h39 n0 ZZ F_sum_q F_count_q V_ar (own_nnd' (ZV.of_int hT0).1 _ hctz) (own_nnd' (ZV.of_int hT1).1 _ hctz)) hZ (hw _ (List.mem_of_getElem? (i := 34) rfl)) (hw _ (List.mem_of_getElem? (i := 2) rfl)) (by decide) (by decide)) q40a q40c (g := (mkF m 83 #[.val (.int i0), .val (.int i1), .val (.int i2), .val (.int i3), .val (.int (2 : Int32)), .val (.int n), .val (.ref q), .val (.ref m1), .unset] [(.ref q)])) rfl (by rw [hml]; rfl) (Steps.refl _) (argsL := []) (rest := []) (lenOf pd_6 rfl) rfl (by show 2 * 0 + _ ≤ _; exact Nat.le_of_eq rfl) (hb hby at_83) (fun _ _ => ⟨rfl, e39, (by decide : 6 + 1 ≤ _), (by decide : 12 + 2 ≤ _)⟩)
    dsimp only [Pt.U, Pt.locs, Pt.cells, Pt.slots] at X40 l40 y40 z40 st40 hQ40
    subst l40 y40 z40
    obtain ⟨h40, e40⟩ : ∃ q, T40.heap = q := ⟨_, rfl⟩
    rw [e40] at hQ40
    obtain ⟨m2, kq40, rfl, N40q, K40q, szq40, V_q40⟩ := hQ40
    have N40 := Fr.app N39 N40q
    have ZZ40p := ZZ
    have ne_q_m2 : q ≠ m2 := Nat.ne_of_lt (Nat.lt_of_lt_of_le E_q.lt szq40)
    have ne_ar_m2 : ar ≠ m2 := Nat.ne_of_lt (Nat.lt_of_lt_of_le V_ar.lt szq40)
    have ne_m1_m2 : m1 ≠ m2 := Nat.ne_of_lt (Nat.lt_of_lt_of_le V_m1.lt szq40)
    replace E_q := E_q.keep K40q
    replace F_sum_q := F_sum_q.keep K40q nin0
    replace F_count_q := F_count_q.keep K40q nin0
    replace V_ar := V_ar.keep K40q nin0
    replace V_m1 := V_m1.keep K40q nin0
    replace ZZ := Nat.le_trans ZZ K40q.1
    have g_m2 : n0 ≤ m2 := Nat.le_trans ZZ40p szq40
    have V_m2 := V_q40
    obtain ⟨k_m2, hk_m2⟩ : ∃ z, z = kq40 := ⟨_, rfl⟩
    rw [← hk_m2] at V_m2
    refine Go.on (fun _ k => st40.trans k) ?_
    show Go _ _ _ _ _ _ _ _ (mkF m 86 #[.val (.int i0), .val (.int i1), .val (.int i2), .val (.int i3), .val (.int (2 : Int32)), .val (.int n), .val (.ref q), .val (.ref m1), .unset] [(.ref m2)])
    refine Go.on (fun _ k => XS.astore X40.here hx rfl (hb hby at_86) rfl rfl (l' := #[.val (.int i0), .val (.int i1), .val (.int i2), .val (.int i3), .val (.int (2 : Int32)), .val (.int n), .val (.ref q), .val (.ref m1), .val (.ref m2)]) rfl k) ?_
    show Go _ _ _ _ _ _ _ _ (mkF m 88 #[.val (.int i0), .val (.int i1), .val (.int i2), .val (.int i3), .val (.int (2 : Int32)), .val (.int n), .val (.ref q), .val (.ref m1), .val (.ref m2)] [])
    refine Go.on (fun _ k => XS.aload X40.here hx rfl (hb hby at_88) rfl rfl k) ?_
    show Go _ _ _ _ _ _ _ _ (mkF m 90 #[.val (.int i0), .val (.int i1), .val (.int i2), .val (.int i3), .val (.int (2 : Int32)), .val (.int n), .val (.ref q), .val (.ref m1), .val (.ref m2)] [(.ref m1)])
    refine Go.on (fun _ k => XS.aload X40.here hx rfl (hb hby at_90) rfl rfl k) ?_
    show Go _ _ _ _ _ _ _ _ (mkF m 92 #[.val (.int i0), .val (.int i1), .val (.int i2), .val (.int i3), .val (.int (2 : Int32)), .val (.int n), .val (.ref q), .val (.ref m1), .val (.ref m2)] [(.ref m2), (.ref m1)])
    refine Go.on (fun _ k => Jvm.RoadKit.acmp (g := (mkF m 92 #[.val (.int i0), .val (.int i1), .val (.int i2), .val (.int i3), .val (.int (2 : Int32)), .val (.int n), .val (.ref q), .val (.ref m1), .val (.ref m2)] [(.ref m2), (.ref m1)])) X40 hx rfl rfl rfl (pc0 := 92) (pc' := 97) (same := false) rfl (hb hby at_92) rfl (decide_eq_false fun q => (ne_m1_m2) (Value.ref.inj q)) (by decide) (by decide) k) ?_
    show Go _ _ _ _ _ _ _ _ (mkF m 97 #[.val (.int i0), .val (.int i1), .val (.int i2), .val (.int i3), .val (.int (2 : Int32)), .val (.int n), .val (.ref q), .val (.ref m1), .val (.ref m2)] [])
    refine Go.on (fun _ k => XS.aload X40.here hx rfl (hb hby at_97) rfl rfl k) ?_
    show Go _ _ _ _ _ _ _ _ (mkF m 99 #[.val (.int i0), .val (.int i1), .val (.int i2), .val (.int i3), .val (.int (2 : Int32)), .val (.int n), .val (.ref q), .val (.ref m1), .val (.ref m2)] [(.ref m1)])
    obtain ⟨cl41, Ar41, -, S41, N41n, -, -⟩ := id V_m1
    refine Go.on (X40.arraylength hx (by rw [e40]; exact Ar41.1) (State.isArrayOf_alike hZ.alike Ar41.2.1) (g := (mkF m 99 #[.val (.int i0), .val (.int i1), .val (.int i2), .val (.int i3), .val (.int (2 : Int32)), .val (.int n), .val (.ref q), .val (.ref m1), .val (.ref m2)] [(.ref m1)])) rfl rfl (hb hby at_99)) ?_
    rw [len_of S41 N41n]
    show Go _ _ _ _ _ _ _ _ (mkF m 100 #[.val (.int i0), .val (.int i1), .val (.int i2), .val (.int i3), .val (.int (2 : Int32)), .val (.int n), .val (.ref q), .val (.ref m1), .val (.ref m2)] [(.int (2 : Int32))])
    refine Go.on (fun _ k => XS.iload X40.here hx rfl (hb hby at_100) rfl k) ?_
    show Go _ _ _ _ _ _ _ _ (mkF m 102 #[.val (.int i0), .val (.int i1), .val (.int i2), .val (.int i3), .val (.int (2 : Int32)), .val (.int n), .val (.ref q), .val (.ref m1), .val (.ref m2)] [(.int (2 : Int32)), (.int (2 : Int32))])
    have hc42 : (2 : Int32) = (2 : Int32) := by decide
    refine Go.on (fun _ k => XS.icmpNo X40.here hx rfl (hb hby at_102) rfl (teq hc42).2 k) ?_
    show Go _ _ _ _ _ _ _ _ (mkF m 105 #[.val (.int i0), .val (.int i1), .val (.int i2), .val (.int i3), .val (.int (2 : Int32)), .val (.int n), .val (.ref q), .val (.ref m1), .val (.ref m2)] [])
    refine Go.on (fun _ k => XS.aload X40.here hx rfl (hb hby at_105) rfl rfl k) ?_
    show Go _ _ _ _ _ _ _ _ (mkF m 107 #[.val (.int i0), .val (.int i1), .val (.int i2), .val (.int i3), .val (.int (2 : Int32)), .val (.int n), .val (.ref q), .val (.ref m1), .val (.ref m2)] [(.ref m2)])
    obtain ⟨cl43, Ar43, -, S43, N43n, -, -⟩ := id V_m2
    refine Go.on (X40.arraylength hx (by rw [e40]; exact Ar43.1) (State.isArrayOf_alike hZ.alike Ar43.2.1) (g := (mkF m 107 #[.val (.int i0), .val (.int i1), .val (.int i2), .val (.int i3), .val (.int (2 : Int32)), .val (.int n), .val (.ref q), .val (.ref m1), .val (.ref m2)] [(.ref m2)])) rfl rfl (hb hby at_107)) ?_
    rw [len_of S43 N43n]
    show Go _ _ _ _ _ _ _ _ (mkF m 108 #[.val (.int i0), .val (.int i1), .val (.int i2), .val (.int i3), .val (.int (2 : Int32)), .val (.int n), .val (.ref q), .val (.ref m1), .val (.ref m2)] [(.int (2 : Int32))])
    refine Go.on (fun _ k => XS.iload X40.here hx rfl (hb hby at_108) rfl k) ?_
    show Go _ _ _ _ _ _ _ _ (mkF m 110 #[.val (.int i0), .val (.int i1), .val (.int i2), .val (.int i3), .val (.int (2 : Int32)), .val (.int n), .val (.ref q), .val (.ref m1), .val (.ref m2)] [(.int (2 : Int32)), (.int (2 : Int32))])
    have hc44 : (2 : Int32) = (2 : Int32) := by decide
    refine Go.on (fun _ k => XS.icmpYes X40.here hx rfl (pc0 := 110) (pc' := 115) rfl (hb hby at_110) rfl (teq hc44).1 (by decide) (by decide) k) ?_
    show Go _ _ _ _ _ _ _ _ (mkF m 115 #[.val (.int i0), .val (.int i1), .val (.int i2), .val (.int i3), .val (.int (2 : Int32)), .val (.int n), .val (.ref q), .val (.ref m1), .val (.ref m2)] [])
    refine Go.on (fun _ k => XS.aload X40.here hx rfl (hb hby at_115) rfl rfl k) ?_
    show Go _ _ _ _ _ _ _ _ (mkF m 117 #[.val (.int i0), .val (.int i1), .val (.int i2), .val (.int i3), .val (.int (2 : Int32)), .val (.int n), .val (.ref q), .val (.ref m1), .val (.ref m2)] [(.ref m1)])
    refine Go.on (fun _ k => XS.aload X40.here hx rfl (hb hby at_117) rfl rfl k) ?_
    show Go _ _ _ _ _ _ _ _ (mkF m 119 #[.val (.int i0), .val (.int i1), .val (.int i2), .val (.int i3), .val (.int (2 : Int32)), .val (.int n), .val (.ref q), .val (.ref m1), .val (.ref m2)] [(.ref m2), (.ref m1)])
    refine Go.on (fun _ k => XS.iconst X40.here hx rfl (hb hby at_119) k) ?_
    show Go _ _ _ _ _ _ _ _ (mkF m 120 #[.val (.int i0), .val (.int i1), .val (.int i2), .val (.int i3), .val (.int (2 : Int32)), .val (.int n), .val (.ref q), .val (.ref m1), .val (.ref m2)] [(.int (0 : Int32)), (.ref m2), (.ref m1)])
    refine Go.on (fun _ k => XS.iload X40.here hx rfl (hb hby at_120) rfl k) ?_
    show Go _ _ _ _ _ _ _ _ (mkF m 122 #[.val (.int i0), .val (.int i1), .val (.int i2), .val (.int i3), .val (.int (2 : Int32)), .val (.int n), .val (.ref q), .val (.ref m1), .val (.ref m2)] [(.int (2 : Int32)), (.int (0 : Int32)), (.ref m2), (.ref m1)])
    refine Go.on (fun _ k => XS.iload X40.here hx rfl (hb hby at_122) rfl k) ?_
    show Go _ _ _ _ _ _ _ _ (mkF m 124 #[.val (.int i0), .val (.int i1), .val (.int i2), .val (.int i3), .val (.int (2 : Int32)), .val (.int n), .val (.ref q), .val (.ref m1), .val (.ref m2)] [(.int n), (.int (2 : Int32)), (.int (0 : Int32)), (.ref m2), (.ref m1)])
    refine Go.on (fun _ k => XS.iloadN X40.here hx rfl (hb hby at_124) rfl k) ?_
    show Go _ _ _ _ _ _ _ _ (mkF m 125 #[.val (.int i0), .val (.int i1), .val (.int i2), .val (.int i3), .val (.int (2 : Int32)), .val (.int n), .val (.ref q), .val (.ref m1), .val (.ref m2)] [(.int i1), (.int n), (.int (2 : Int32)), (.int (0 : Int32)), (.ref m2), (.ref m1)])
    refine Go.on (fun _ k => XS.iloadN X40.here hx rfl (hb hby at_125) rfl k) ?_
    show Go _ _ _ _ _ _ _ _ (mkF m 126 #[.val (.int i0), .val (.int i1), .val (.int i2), .val (.int i3), .val (.int (2 : Int32)), .val (.int n), .val (.ref q), .val (.ref m1), .val (.ref m2)] [(.int i2), (.int i1), (.int n), (.int (2 : Int32)), (.int (0 : Int32)), (.ref m2), (.ref m1)])
    refine Go.on (fun _ k => XS.iloadN X40.here hx rfl (hb hby at_126) rfl k) ?_
    show Go _ _ _ _ _ _ _ _ (mkF m 127 #[.val (.int i0), .val (.int i1), .val (.int i2), .val (.int i3), .val (.int (2 : Int32)), .val (.int n), .val (.ref q), .val (.ref m1), .val (.ref m2)] [(.int i3), (.int i2), (.int i1), (.int n), (.int (2 : Int32)), (.int (0 : Int32)), (.ref m2), (.ref m1)])
    obtain ⟨_, _, ⟨T45, L45, k45, n45⟩, -, X45, ⟨Lc45, hQ45, l45, y45, z45⟩, st45⟩ := Jvm.LawKit.callS X40 hx (y := (⟨"com/example/d2rank/d2rank/rerank/CentroidMeanPinLaw", "comp", "([D[DIIIIII)Z"⟩ : MethodName)) hown (mvT hZ (hw _ (List.mem_of_getElem? (i := 35) rfl))) (mvT hZ (hw _ (List.mem_of_getElem? (i := 36) rfl))) (mvT hZ (hw _ (List.mem_of_getElem? (i := 14) rfl))) (mvT hZ (hw _ (List.mem_of_getElem? (i := 37) rfl))) (by decide) (backOf (W := 0) (cp_2 l Z aw hw [] m1 m2 (0 : Int32) n i1 i2 i3 k_m1 (FP.ddiv t0 (FP.i2d ct)) (FP.ddiv t1 (FP.i2d ct)) k_m2 (FP.ddiv t0 (FP.i2d ct)) (FP.ddiv t1 (FP.i2d ct)) h40 n0 ZZ V_m1 V_m2 (by decide) (own_n0 hn)) hZ (hw _ (List.mem_of_getElem? (i := 37) rfl)) (hw _ (List.mem_of_getElem? (i := 14) rfl)) (by decide) (by decide)) (g := (mkF m 127 #[.val (.int i0), .val (.int i1), .val (.int i2), .val (.int i3), .val (.int (2 : Int32)), .val (.int n), .val (.ref q), .val (.ref m1), .val (.ref m2)] [(.int i3), (.int i2), (.int i1), (.int n), (.int (2 : Int32)), (.int (0 : Int32)), (.ref m2), (.ref m1)])) rfl (by rw [hml]; rfl) (argsL := [(.ref m1), (.ref m2), (.int (0 : Int32)), (.int (2 : Int32)), (.int n), (.int i1), (.int i2), (.int i3)]) (rest := []) (lenOf pd_7 rfl) rfl (by show 2 * 0 + _ ≤ _; exact Nat.le_of_eq rfl) (hb hby at_127) (fun _ _ => ⟨rfl, e40, (by decide : 7 + 0 ≤ _), (by decide : 14 + 0 ≤ _)⟩)
    dsimp only [Pt.U, Pt.locs, Pt.cells, Pt.slots] at X45 l45 y45 z45 st45 hQ45
    subst l45 y45 z45
    obtain ⟨rfl, N45q, e45⟩ := hQ45
    have N45 := Fr.app N40 N45q
    refine Go.on st45 ?_
    show Go _ _ _ _ _ _ _ _ (mkF m 130 #[.val (.int i0), .val (.int i1), .val (.int i2), .val (.int i3), .val (.int (2 : Int32)), .val (.int n), .val (.ref q), .val (.ref m1), .val (.ref m2)] [(.int (compV (if (0 : Int32) = (0 : Int32) then (FP.ddiv t0 (FP.i2d ct)) else (FP.ddiv t1 (FP.i2d ct))) (if (0 : Int32) = (0 : Int32) then (FP.ddiv t0 (FP.i2d ct)) else (FP.ddiv t1 (FP.i2d ct))) (0 : Int32) (2 : Int32) n i1 i2 i3))])
    have hc46 : ¬ ((compV (if (0 : Int32) = (0 : Int32) then (FP.ddiv t0 (FP.i2d ct)) else (FP.ddiv t1 (FP.i2d ct))) (if (0 : Int32) = (0 : Int32) then (FP.ddiv t0 (FP.i2d ct)) else (FP.ddiv t1 (FP.i2d ct))) (0 : Int32) (2 : Int32) n i1 i2 i3) = (0 : Int32)) := own_cmpC hn hct hT0
    refine Go.on (fun _ k => XS.ifNo X45.here hx rfl (hb hby at_130) rfl ((if0 _ _).trans (feq hc46).1) k) ?_
    show Go _ _ _ _ _ _ _ _ (mkF m 133 #[.val (.int i0), .val (.int i1), .val (.int i2), .val (.int i3), .val (.int (2 : Int32)), .val (.int n), .val (.ref q), .val (.ref m1), .val (.ref m2)] [])
    refine Go.on (fun _ k => XS.aload X45.here hx rfl (hb hby at_133) rfl rfl k) ?_
    show Go _ _ _ _ _ _ _ _ (mkF m 135 #[.val (.int i0), .val (.int i1), .val (.int i2), .val (.int i3), .val (.int (2 : Int32)), .val (.int n), .val (.ref q), .val (.ref m1), .val (.ref m2)] [(.ref m1)])
    refine Go.on (fun _ k => XS.aload X45.here hx rfl (hb hby at_135) rfl rfl k) ?_
    show Go _ _ _ _ _ _ _ _ (mkF m 137 #[.val (.int i0), .val (.int i1), .val (.int i2), .val (.int i3), .val (.int (2 : Int32)), .val (.int n), .val (.ref q), .val (.ref m1), .val (.ref m2)] [(.ref m2), (.ref m1)])
    refine Go.on (fun _ k => XS.iconst X45.here hx rfl (hb hby at_137) k) ?_
    show Go _ _ _ _ _ _ _ _ (mkF m 138 #[.val (.int i0), .val (.int i1), .val (.int i2), .val (.int i3), .val (.int (2 : Int32)), .val (.int n), .val (.ref q), .val (.ref m1), .val (.ref m2)] [(.int (1 : Int32)), (.ref m2), (.ref m1)])
    refine Go.on (fun _ k => XS.iload X45.here hx rfl (hb hby at_138) rfl k) ?_
    show Go _ _ _ _ _ _ _ _ (mkF m 140 #[.val (.int i0), .val (.int i1), .val (.int i2), .val (.int i3), .val (.int (2 : Int32)), .val (.int n), .val (.ref q), .val (.ref m1), .val (.ref m2)] [(.int (2 : Int32)), (.int (1 : Int32)), (.ref m2), (.ref m1)])
    refine Go.on (fun _ k => XS.iload X45.here hx rfl (hb hby at_140) rfl k) ?_
    show Go _ _ _ _ _ _ _ _ (mkF m 142 #[.val (.int i0), .val (.int i1), .val (.int i2), .val (.int i3), .val (.int (2 : Int32)), .val (.int n), .val (.ref q), .val (.ref m1), .val (.ref m2)] [(.int n), (.int (2 : Int32)), (.int (1 : Int32)), (.ref m2), (.ref m1)])
    refine Go.on (fun _ k => XS.iloadN X45.here hx rfl (hb hby at_142) rfl k) ?_
    show Go _ _ _ _ _ _ _ _ (mkF m 143 #[.val (.int i0), .val (.int i1), .val (.int i2), .val (.int i3), .val (.int (2 : Int32)), .val (.int n), .val (.ref q), .val (.ref m1), .val (.ref m2)] [(.int i1), (.int n), (.int (2 : Int32)), (.int (1 : Int32)), (.ref m2), (.ref m1)])
    refine Go.on (fun _ k => XS.iloadN X45.here hx rfl (hb hby at_143) rfl k) ?_
    show Go _ _ _ _ _ _ _ _ (mkF m 144 #[.val (.int i0), .val (.int i1), .val (.int i2), .val (.int i3), .val (.int (2 : Int32)), .val (.int n), .val (.ref q), .val (.ref m1), .val (.ref m2)] [(.int i2), (.int i1), (.int n), (.int (2 : Int32)), (.int (1 : Int32)), (.ref m2), (.ref m1)])
    refine Go.on (fun _ k => XS.iloadN X45.here hx rfl (hb hby at_144) rfl k) ?_
    show Go _ _ _ _ _ _ _ _ (mkF m 145 #[.val (.int i0), .val (.int i1), .val (.int i2), .val (.int i3), .val (.int (2 : Int32)), .val (.int n), .val (.ref q), .val (.ref m1), .val (.ref m2)] [(.int i3), (.int i2), (.int i1), (.int n), (.int (2 : Int32)), (.int (1 : Int32)), (.ref m2), (.ref m1)])
    obtain ⟨_, _, ⟨T47, L47, k47, n47⟩, -, X47, ⟨Lc47, hQ47, l47, y47, z47⟩, st47⟩ := Jvm.LawKit.callS X45 hx (y := (⟨"com/example/d2rank/d2rank/rerank/CentroidMeanPinLaw", "comp", "([D[DIIIIII)Z"⟩ : MethodName)) hown (mvT hZ (hw _ (List.mem_of_getElem? (i := 35) rfl))) (mvT hZ (hw _ (List.mem_of_getElem? (i := 36) rfl))) (mvT hZ (hw _ (List.mem_of_getElem? (i := 14) rfl))) (mvT hZ (hw _ (List.mem_of_getElem? (i := 37) rfl))) (by decide) (backOf (W := 0) (cp_2 l Z aw hw [] m1 m2 (1 : Int32) n i1 i2 i3 k_m1 (FP.ddiv t0 (FP.i2d ct)) (FP.ddiv t1 (FP.i2d ct)) k_m2 (FP.ddiv t0 (FP.i2d ct)) (FP.ddiv t1 (FP.i2d ct)) h40 n0 ZZ V_m1 V_m2 (by decide) (own_n0 hn)) hZ (hw _ (List.mem_of_getElem? (i := 37) rfl)) (hw _ (List.mem_of_getElem? (i := 14) rfl)) (by decide) (by decide)) (g := (mkF m 145 #[.val (.int i0), .val (.int i1), .val (.int i2), .val (.int i3), .val (.int (2 : Int32)), .val (.int n), .val (.ref q), .val (.ref m1), .val (.ref m2)] [(.int i3), (.int i2), (.int i1), (.int n), (.int (2 : Int32)), (.int (1 : Int32)), (.ref m2), (.ref m1)])) rfl (by rw [hml]; rfl) (argsL := [(.ref m1), (.ref m2), (.int (1 : Int32)), (.int (2 : Int32)), (.int n), (.int i1), (.int i2), (.int i3)]) (rest := []) (lenOf pd_7 rfl) rfl (by show 2 * 0 + _ ≤ _; exact Nat.le_of_eq rfl) (hb hby at_145) (fun _ _ => ⟨rfl, e45, (by decide : 7 + 0 ≤ _), (by decide : 14 + 0 ≤ _)⟩)
    dsimp only [Pt.U, Pt.locs, Pt.cells, Pt.slots] at X47 l47 y47 z47 st47 hQ47
    subst l47 y47 z47
    obtain ⟨rfl, N47q, e47⟩ := hQ47
    have N47 := Fr.app N45 N47q
    refine Go.on st47 ?_
    show Go _ _ _ _ _ _ _ _ (mkF m 148 #[.val (.int i0), .val (.int i1), .val (.int i2), .val (.int i3), .val (.int (2 : Int32)), .val (.int n), .val (.ref q), .val (.ref m1), .val (.ref m2)] [(.int (compV (if (1 : Int32) = (0 : Int32) then (FP.ddiv t0 (FP.i2d ct)) else (FP.ddiv t1 (FP.i2d ct))) (if (1 : Int32) = (0 : Int32) then (FP.ddiv t0 (FP.i2d ct)) else (FP.ddiv t1 (FP.i2d ct))) (1 : Int32) (2 : Int32) n i1 i2 i3))])
    have hc48 : ¬ ((compV (if (1 : Int32) = (0 : Int32) then (FP.ddiv t0 (FP.i2d ct)) else (FP.ddiv t1 (FP.i2d ct))) (if (1 : Int32) = (0 : Int32) then (FP.ddiv t0 (FP.i2d ct)) else (FP.ddiv t1 (FP.i2d ct))) (1 : Int32) (2 : Int32) n i1 i2 i3) = (0 : Int32)) := own_cmpC hn hct hT1
    refine Go.on (fun _ k => XS.ifNo X47.here hx rfl (hb hby at_148) rfl ((if0 _ _).trans (feq hc48).1) k) ?_
    show Go _ _ _ _ _ _ _ _ (mkF m 151 #[.val (.int i0), .val (.int i1), .val (.int i2), .val (.int i3), .val (.int (2 : Int32)), .val (.int n), .val (.ref q), .val (.ref m1), .val (.ref m2)] [])
    refine Go.on (fun _ k => XS.aload X47.here hx rfl (hb hby at_151) rfl rfl k) ?_
    show Go _ _ _ _ _ _ _ _ (mkF m 153 #[.val (.int i0), .val (.int i1), .val (.int i2), .val (.int i3), .val (.int (2 : Int32)), .val (.int n), .val (.ref q), .val (.ref m1), .val (.ref m2)] [(.ref m1)])
    refine Go.on (fun _ k => XS.aload X47.here hx rfl (hb hby at_153) rfl rfl k) ?_
    show Go _ _ _ _ _ _ _ _ (mkF m 155 #[.val (.int i0), .val (.int i1), .val (.int i2), .val (.int i3), .val (.int (2 : Int32)), .val (.int n), .val (.ref q), .val (.ref m1), .val (.ref m2)] [(.ref m2), (.ref m1)])
    refine Go.on (fun _ k => XS.iconst X47.here hx rfl (hb hby at_155) k) ?_
    show Go _ _ _ _ _ _ _ _ (mkF m 156 #[.val (.int i0), .val (.int i1), .val (.int i2), .val (.int i3), .val (.int (2 : Int32)), .val (.int n), .val (.ref q), .val (.ref m1), .val (.ref m2)] [(.int (2 : Int32)), (.ref m2), (.ref m1)])
    refine Go.on (fun _ k => XS.iload X47.here hx rfl (hb hby at_156) rfl k) ?_
    show Go _ _ _ _ _ _ _ _ (mkF m 158 #[.val (.int i0), .val (.int i1), .val (.int i2), .val (.int i3), .val (.int (2 : Int32)), .val (.int n), .val (.ref q), .val (.ref m1), .val (.ref m2)] [(.int (2 : Int32)), (.int (2 : Int32)), (.ref m2), (.ref m1)])
    refine Go.on (fun _ k => XS.iload X47.here hx rfl (hb hby at_158) rfl k) ?_
    show Go _ _ _ _ _ _ _ _ (mkF m 160 #[.val (.int i0), .val (.int i1), .val (.int i2), .val (.int i3), .val (.int (2 : Int32)), .val (.int n), .val (.ref q), .val (.ref m1), .val (.ref m2)] [(.int n), (.int (2 : Int32)), (.int (2 : Int32)), (.ref m2), (.ref m1)])
    refine Go.on (fun _ k => XS.iloadN X47.here hx rfl (hb hby at_160) rfl k) ?_
    show Go _ _ _ _ _ _ _ _ (mkF m 161 #[.val (.int i0), .val (.int i1), .val (.int i2), .val (.int i3), .val (.int (2 : Int32)), .val (.int n), .val (.ref q), .val (.ref m1), .val (.ref m2)] [(.int i1), (.int n), (.int (2 : Int32)), (.int (2 : Int32)), (.ref m2), (.ref m1)])
    refine Go.on (fun _ k => XS.iloadN X47.here hx rfl (hb hby at_161) rfl k) ?_
    show Go _ _ _ _ _ _ _ _ (mkF m 162 #[.val (.int i0), .val (.int i1), .val (.int i2), .val (.int i3), .val (.int (2 : Int32)), .val (.int n), .val (.ref q), .val (.ref m1), .val (.ref m2)] [(.int i2), (.int i1), (.int n), (.int (2 : Int32)), (.int (2 : Int32)), (.ref m2), (.ref m1)])
    refine Go.on (fun _ k => XS.iloadN X47.here hx rfl (hb hby at_162) rfl k) ?_
    show Go _ _ _ _ _ _ _ _ (mkF m 163 #[.val (.int i0), .val (.int i1), .val (.int i2), .val (.int i3), .val (.int (2 : Int32)), .val (.int n), .val (.ref q), .val (.ref m1), .val (.ref m2)] [(.int i3), (.int i2), (.int i1), (.int n), (.int (2 : Int32)), (.int (2 : Int32)), (.ref m2), (.ref m1)])
    obtain ⟨_, _, ⟨T49, L49, k49, n49⟩, -, X49, ⟨Lc49, hQ49, l49, y49, z49⟩, st49⟩ := Jvm.LawKit.callS X47 hx (y := (⟨"com/example/d2rank/d2rank/rerank/CentroidMeanPinLaw", "comp", "([D[DIIIIII)Z"⟩ : MethodName)) hown (mvT hZ (hw _ (List.mem_of_getElem? (i := 35) rfl))) (mvT hZ (hw _ (List.mem_of_getElem? (i := 36) rfl))) (mvT hZ (hw _ (List.mem_of_getElem? (i := 14) rfl))) (mvT hZ (hw _ (List.mem_of_getElem? (i := 37) rfl))) (by decide) (backOf (W := 0) (cp_h l Z aw hw [] m1 m2 (2 : Int32) (2 : Int32) n i1 i2 i3  h40 n0 ZZ (by decide)) hZ (hw _ (List.mem_of_getElem? (i := 37) rfl)) (hw _ (List.mem_of_getElem? (i := 14) rfl)) (by decide) (by decide)) (g := (mkF m 163 #[.val (.int i0), .val (.int i1), .val (.int i2), .val (.int i3), .val (.int (2 : Int32)), .val (.int n), .val (.ref q), .val (.ref m1), .val (.ref m2)] [(.int i3), (.int i2), (.int i1), (.int n), (.int (2 : Int32)), (.int (2 : Int32)), (.ref m2), (.ref m1)])) rfl (by rw [hml]; rfl) (argsL := [(.ref m1), (.ref m2), (.int (2 : Int32)), (.int (2 : Int32)), (.int n), (.int i1), (.int i2), (.int i3)]) (rest := []) (lenOf pd_7 rfl) rfl (by show 2 * 0 + _ ≤ _; exact Nat.le_of_eq rfl) (hb hby at_163) (fun _ _ => ⟨rfl, e47, (by decide : 7 + 0 ≤ _), (by decide : 14 + 0 ≤ _)⟩)
    dsimp only [Pt.U, Pt.locs, Pt.cells, Pt.slots] at X49 l49 y49 z49 st49 hQ49
    subst l49 y49 z49
    obtain ⟨rfl, N49q, e49⟩ := hQ49
    have N49 := Fr.app N47 N49q
    refine Go.on st49 ?_
    show Go _ _ _ _ _ _ _ _ (mkF m 166 #[.val (.int i0), .val (.int i1), .val (.int i2), .val (.int i3), .val (.int (2 : Int32)), .val (.int n), .val (.ref q), .val (.ref m1), .val (.ref m2)] [(.int (1 : Int32))])
    have hc50 : ¬ ((1 : Int32) = (0 : Int32)) := by decide
    refine Go.on (fun _ k => XS.ifNo X49.here hx rfl (hb hby at_166) rfl ((if0 _ _).trans (feq hc50).1) k) ?_
    show Go _ _ _ _ _ _ _ _ (mkF m 169 #[.val (.int i0), .val (.int i1), .val (.int i2), .val (.int i3), .val (.int (2 : Int32)), .val (.int n), .val (.ref q), .val (.ref m1), .val (.ref m2)] [])
    refine Go.on (fun _ k => XS.aload X49.here hx rfl (hb hby at_169) rfl rfl k) ?_
    show Go _ _ _ _ _ _ _ _ (mkF m 171 #[.val (.int i0), .val (.int i1), .val (.int i2), .val (.int i3), .val (.int (2 : Int32)), .val (.int n), .val (.ref q), .val (.ref m1), .val (.ref m2)] [(.ref m1)])
    refine Go.on (fun _ k => XS.aload X49.here hx rfl (hb hby at_171) rfl rfl k) ?_
    show Go _ _ _ _ _ _ _ _ (mkF m 173 #[.val (.int i0), .val (.int i1), .val (.int i2), .val (.int i3), .val (.int (2 : Int32)), .val (.int n), .val (.ref q), .val (.ref m1), .val (.ref m2)] [(.ref m2), (.ref m1)])
    refine Go.on (fun _ k => XS.iconst X49.here hx rfl (hb hby at_173) k) ?_
    show Go _ _ _ _ _ _ _ _ (mkF m 174 #[.val (.int i0), .val (.int i1), .val (.int i2), .val (.int i3), .val (.int (2 : Int32)), .val (.int n), .val (.ref q), .val (.ref m1), .val (.ref m2)] [(.int (3 : Int32)), (.ref m2), (.ref m1)])
    refine Go.on (fun _ k => XS.iload X49.here hx rfl (hb hby at_174) rfl k) ?_
    show Go _ _ _ _ _ _ _ _ (mkF m 176 #[.val (.int i0), .val (.int i1), .val (.int i2), .val (.int i3), .val (.int (2 : Int32)), .val (.int n), .val (.ref q), .val (.ref m1), .val (.ref m2)] [(.int (2 : Int32)), (.int (3 : Int32)), (.ref m2), (.ref m1)])
    refine Go.on (fun _ k => XS.iload X49.here hx rfl (hb hby at_176) rfl k) ?_
    show Go _ _ _ _ _ _ _ _ (mkF m 178 #[.val (.int i0), .val (.int i1), .val (.int i2), .val (.int i3), .val (.int (2 : Int32)), .val (.int n), .val (.ref q), .val (.ref m1), .val (.ref m2)] [(.int n), (.int (2 : Int32)), (.int (3 : Int32)), (.ref m2), (.ref m1)])
    refine Go.on (fun _ k => XS.iloadN X49.here hx rfl (hb hby at_178) rfl k) ?_
    show Go _ _ _ _ _ _ _ _ (mkF m 179 #[.val (.int i0), .val (.int i1), .val (.int i2), .val (.int i3), .val (.int (2 : Int32)), .val (.int n), .val (.ref q), .val (.ref m1), .val (.ref m2)] [(.int i1), (.int n), (.int (2 : Int32)), (.int (3 : Int32)), (.ref m2), (.ref m1)])
    refine Go.on (fun _ k => XS.iloadN X49.here hx rfl (hb hby at_179) rfl k) ?_
    show Go _ _ _ _ _ _ _ _ (mkF m 180 #[.val (.int i0), .val (.int i1), .val (.int i2), .val (.int i3), .val (.int (2 : Int32)), .val (.int n), .val (.ref q), .val (.ref m1), .val (.ref m2)] [(.int i2), (.int i1), (.int n), (.int (2 : Int32)), (.int (3 : Int32)), (.ref m2), (.ref m1)])
    refine Go.on (fun _ k => XS.iloadN X49.here hx rfl (hb hby at_180) rfl k) ?_
    show Go _ _ _ _ _ _ _ _ (mkF m 181 #[.val (.int i0), .val (.int i1), .val (.int i2), .val (.int i3), .val (.int (2 : Int32)), .val (.int n), .val (.ref q), .val (.ref m1), .val (.ref m2)] [(.int i3), (.int i2), (.int i1), (.int n), (.int (2 : Int32)), (.int (3 : Int32)), (.ref m2), (.ref m1)])
    obtain ⟨_, _, ⟨T51, L51, k51, n51⟩, -, X51, ⟨Lc51, hQ51, l51, y51, z51⟩, st51⟩ := Jvm.LawKit.callS X49 hx (y := (⟨"com/example/d2rank/d2rank/rerank/CentroidMeanPinLaw", "comp", "([D[DIIIIII)Z"⟩ : MethodName)) hown (mvT hZ (hw _ (List.mem_of_getElem? (i := 35) rfl))) (mvT hZ (hw _ (List.mem_of_getElem? (i := 36) rfl))) (mvT hZ (hw _ (List.mem_of_getElem? (i := 14) rfl))) (mvT hZ (hw _ (List.mem_of_getElem? (i := 37) rfl))) (by decide) (backOf (W := 0) (cp_h l Z aw hw [] m1 m2 (3 : Int32) (2 : Int32) n i1 i2 i3  h40 n0 ZZ (by decide)) hZ (hw _ (List.mem_of_getElem? (i := 37) rfl)) (hw _ (List.mem_of_getElem? (i := 14) rfl)) (by decide) (by decide)) (g := (mkF m 181 #[.val (.int i0), .val (.int i1), .val (.int i2), .val (.int i3), .val (.int (2 : Int32)), .val (.int n), .val (.ref q), .val (.ref m1), .val (.ref m2)] [(.int i3), (.int i2), (.int i1), (.int n), (.int (2 : Int32)), (.int (3 : Int32)), (.ref m2), (.ref m1)])) rfl (by rw [hml]; rfl) (argsL := [(.ref m1), (.ref m2), (.int (3 : Int32)), (.int (2 : Int32)), (.int n), (.int i1), (.int i2), (.int i3)]) (rest := []) (lenOf pd_7 rfl) rfl (by show 2 * 0 + _ ≤ _; exact Nat.le_of_eq rfl) (hb hby at_181) (fun _ _ => ⟨rfl, e49, (by decide : 7 + 0 ≤ _), (by decide : 14 + 0 ≤ _)⟩)
    dsimp only [Pt.U, Pt.locs, Pt.cells, Pt.slots] at X51 l51 y51 z51 st51 hQ51
    subst l51 y51 z51
    obtain ⟨rfl, N51q, e51⟩ := hQ51
    have N51 := Fr.app N49 N51q
    refine Go.on st51 ?_
    show Go _ _ _ _ _ _ _ _ (mkF m 184 #[.val (.int i0), .val (.int i1), .val (.int i2), .val (.int i3), .val (.int (2 : Int32)), .val (.int n), .val (.ref q), .val (.ref m1), .val (.ref m2)] [(.int (1 : Int32))])
    have hc52 : ¬ ((1 : Int32) = (0 : Int32)) := by decide
    refine Go.on (fun _ k => XS.ifNo X51.here hx rfl (hb hby at_184) rfl ((if0 _ _).trans (feq hc52).1) k) ?_
    show Go _ _ _ _ _ _ _ _ (mkF m 187 #[.val (.int i0), .val (.int i1), .val (.int i2), .val (.int i3), .val (.int (2 : Int32)), .val (.int n), .val (.ref q), .val (.ref m1), .val (.ref m2)] [])
    refine Go.on (fun _ k => XS.iconst X51.here hx rfl (hb hby at_187) k) ?_
    show Go _ _ _ _ _ _ _ _ (mkF m 188 #[.val (.int i0), .val (.int i1), .val (.int i2), .val (.int i3), .val (.int (2 : Int32)), .val (.int n), .val (.ref q), .val (.ref m1), .val (.ref m2)] [(.int (1 : Int32))])
    refine Go.on (fun _ k => XS.goto X51.here hx rfl (pc0 := 188) (pc' := 192) rfl (hb hby at_188) (by decide) (by decide) k) ?_
    show Go _ _ _ _ _ _ _ _ (mkF m 192 #[.val (.int i0), .val (.int i1), .val (.int i2), .val (.int i3), .val (.int (2 : Int32)), .val (.int n), .val (.ref q), .val (.ref m1), .val (.ref m2)] [(.int (1 : Int32))])
    refine Go.retN X51 hx (t := .boolean) Bd.returns (by simp) (hb hby at_192) ?_ (by rw [hK1]; decide) (by rw [hK2]; decide)
    rw [e51, ← hQQ]
    exact ⟨rfl, N51⟩
  · -- length 3
    subst hl
    show Go _ _ _ _ _ _ _ _ (mkF m 18 #[.val (.int i0), .val (.int i1), .val (.int i2), .val (.int i3), .val (.int (3 : Int32)), .val (.int n), .unset, .unset, .unset] [])
    obtain ⟨T53, h53, X53, e53, E53, A53, D53, -, st53⟩ := newO X0 hx hZ hown (hw _ (List.mem_of_getElem? (i := 0) rfl)) (hw _ (List.mem_of_getElem? (i := 1) rfl)) (hw _ (List.mem_of_getElem? (i := 2) rfl)) e0 (g := (mkF m 18 #[.val (.int i0), .val (.int i1), .val (.int i2), .val (.int i3), .val (.int (3 : Int32)), .val (.int n), .unset, .unset, .unset] [])) rfl (hb hby at_18) (by decide) (by decide)
    obtain ⟨q, g53⟩ : ∃ z, z = h0.size := ⟨_, rfl⟩
    have g_q : n0 ≤ q := Nat.le_trans ZZ (Nat.le_of_eq g53.symm)
    rw [← g53] at A53 D53 st53
    replace ZZ := Nat.le_trans ZZ E53.1
    have E_q := A53
    have F_sum_q : Fld Z h53 q "com/example/d2rank/d2rank/rerank/Centroid" "sum" "[D" .null := D53 (Or.inr (hw _ (List.mem_of_getElem? (i := 11) rfl))) (ty := (.array .double)) (by decide)
    have F_count_q : Fld Z h53 q "com/example/d2rank/d2rank/rerank/Centroid" "count" "I" (.int (0 : Int32)) := D53 (Or.inl (hw _ (List.mem_of_getElem? (i := 29) rfl))) (ty := .int) (by decide)
    refine Go.on st53 ?_
    show Go _ _ _ _ _ _ _ _ (mkF m 21 #[.val (.int i0), .val (.int i1), .val (.int i2), .val (.int i3), .val (.int (3 : Int32)), .val (.int n), .unset, .unset, .unset] [(.ref q)])
    refine Go.on (fun _ k => XS.dup X53.here hx rfl (hb hby at_21) rfl rfl k) ?_
    show Go _ _ _ _ _ _ _ _ (mkF m 22 #[.val (.int i0), .val (.int i1), .val (.int i2), .val (.int i3), .val (.int (3 : Int32)), .val (.int n), .unset, .unset, .unset] [(.ref q), (.ref q)])
    refine Go.on (fun _ k => XS.iload X53.here hx rfl (hb hby at_22) rfl k) ?_
    show Go _ _ _ _ _ _ _ _ (mkF m 24 #[.val (.int i0), .val (.int i1), .val (.int i2), .val (.int i3), .val (.int (3 : Int32)), .val (.int n), .unset, .unset, .unset] [(.int (3 : Int32)), (.ref q), (.ref q)])
    obtain ⟨_, _, ⟨T54, L54, k54, n54⟩, -, X54, ⟨Lc54, hQ54, l54, y54, z54⟩, st54⟩ := X53.specialBack hx (y := (⟨"com/example/d2rank/d2rank/rerank/Centroid", "<init>", "(I)V"⟩ : MethodName)) rfl hown (mvT hZ (hw _ (List.mem_of_getElem? (i := 3) rfl))) (mvT hZ (hw _ (List.mem_of_getElem? (i := 4) rfl))) (mvT hZ (hw _ (List.mem_of_getElem? (i := 5) rfl))) (by decide) (backOf (W := 1) (ci_3 l Z aw hw [] q .null h53 n0 ZZ E_q F_sum_q F_count_q g_q) hZ (hw _ (List.mem_of_getElem? (i := 5) rfl)) (hw _ (List.mem_of_getElem? (i := 2) rfl)) (by decide) (by decide)) (g := (mkF m 24 #[.val (.int i0), .val (.int i1), .val (.int i2), .val (.int i3), .val (.int (3 : Int32)), .val (.int n), .unset, .unset, .unset] [(.int (3 : Int32)), (.ref q), (.ref q)])) rfl (by rw [hml]; rfl) (Steps.refl _) (a := q) (argsL := [(.int (3 : Int32))]) (rest := [(.ref q)]) (lenOf pd_3 rfl) rfl (by show 2 * 0 + _ ≤ _; exact Nat.le_of_eq rfl) (hb hby at_24) (fun _ _ => ⟨rfl, e53, (by decide : 1 + 1 ≤ _), (by decide : 2 + 3 ≤ _)⟩)
    dsimp only [Pt.U, Pt.locs, Pt.cells, Pt.slots] at X54 l54 y54 z54 st54 hQ54
    subst l54 y54 z54
    obtain ⟨h54, e54⟩ : ∃ q, T54.heap = q := ⟨_, rfl⟩
    rw [e54] at hQ54
    obtain ⟨rfl, N54q, ar, k_ar, K54q, szarq, Eq54, F_sumq54, F_countq54, V_ar⟩ := hQ54
    have N54 := Fr.app N0 N54q
    have ZZ54p := ZZ
    have lt_q := E_q.lt
    replace E_q := E_q.keep K54q
    replace ZZ := Nat.le_trans ZZ K54q.1
    have F_sum_q := F_sumq54
    have F_count_q := F_countq54
    have g_ar : n0 ≤ ar := Nat.le_trans ZZ54p szarq
    have ne_q_ar : q ≠ ar := Nat.ne_of_lt (Nat.lt_of_lt_of_le lt_q szarq)
    refine Go.on (fun _ k => st54.trans k) ?_
    show Go _ _ _ _ _ _ _ _ (mkF m 27 #[.val (.int i0), .val (.int i1), .val (.int i2), .val (.int i3), .val (.int (3 : Int32)), .val (.int n), .unset, .unset, .unset] [(.ref q)])
    refine Go.on (fun _ k => XS.astore X54.here hx rfl (hb hby at_27) rfl rfl (l' := #[.val (.int i0), .val (.int i1), .val (.int i2), .val (.int i3), .val (.int (3 : Int32)), .val (.int n), .val (.ref q), .unset, .unset]) rfl k) ?_
    show Go _ _ _ _ _ _ _ _ (mkF m 29 #[.val (.int i0), .val (.int i1), .val (.int i2), .val (.int i3), .val (.int (3 : Int32)), .val (.int n), .val (.ref q), .unset, .unset] [])
    refine Go.on (fun _ k => XS.aload X54.here hx rfl (hb hby at_29) rfl rfl k) ?_
    show Go _ _ _ _ _ _ _ _ (mkF m 31 #[.val (.int i0), .val (.int i1), .val (.int i2), .val (.int i3), .val (.int (3 : Int32)), .val (.int n), .val (.ref q), .unset, .unset] [(.ref q)])
    refine Go.on (fun _ k => XS.iloadN X54.here hx rfl (hb hby at_31) rfl k) ?_
    show Go _ _ _ _ _ _ _ _ (mkF m 32 #[.val (.int i0), .val (.int i1), .val (.int i2), .val (.int i3), .val (.int (3 : Int32)), .val (.int n), .val (.ref q), .unset, .unset] [(.int i1), (.ref q)])
    refine Go.on (fun _ k => XS.iload X54.here hx rfl (hb hby at_32) rfl k) ?_
    show Go _ _ _ _ _ _ _ _ (mkF m 34 #[.val (.int i0), .val (.int i1), .val (.int i2), .val (.int i3), .val (.int (3 : Int32)), .val (.int n), .val (.ref q), .unset, .unset] [(.int (3 : Int32)), (.int i1), (.ref q)])
    obtain ⟨_, _, ⟨T55, L55, k55, n55⟩, -, X55, ⟨Lc55, hQ55, l55, y55, z55⟩, st55⟩ := Jvm.LawKit.callS X54 hx (y := (⟨"com/example/d2rank/d2rank/rerank/CentroidMeanPinLaw", "unit", "(II)[D"⟩ : MethodName)) hown (mvT hZ (hw _ (List.mem_of_getElem? (i := 12) rfl))) (mvT hZ (hw _ (List.mem_of_getElem? (i := 13) rfl))) (mvT hZ (hw _ (List.mem_of_getElem? (i := 14) rfl))) (mvT hZ (hw _ (List.mem_of_getElem? (i := 15) rfl))) (by decide) (backOf (W := 1) (un_3 l Z aw hw [] i1  h54 n0 ZZ ) hZ (hw _ (List.mem_of_getElem? (i := 15) rfl)) (hw _ (List.mem_of_getElem? (i := 14) rfl)) (by decide) (by decide)) (g := (mkF m 34 #[.val (.int i0), .val (.int i1), .val (.int i2), .val (.int i3), .val (.int (3 : Int32)), .val (.int n), .val (.ref q), .unset, .unset] [(.int (3 : Int32)), (.int i1), (.ref q)])) rfl (by rw [hml]; rfl) (argsL := [(.int i1), (.int (3 : Int32))]) (rest := [(.ref q)]) (lenOf pd_4 rfl) rfl (by show 2 * 0 + _ ≤ _; exact Nat.le_of_eq rfl) (hb hby at_34) (fun _ _ => ⟨rfl, e54, (by decide : 2 + 1 ≤ _), (by decide : 5 + 3 ≤ _)⟩)
    dsimp only [Pt.U, Pt.locs, Pt.cells, Pt.slots] at X55 l55 y55 z55 st55 hQ55
    subst l55 y55 z55
    obtain ⟨h55, e55⟩ : ∃ q, T55.heap = q := ⟨_, rfl⟩
    rw [e55] at hQ55
    obtain ⟨u1, k_u1, rfl, N55q, K55q, szq55, V_u1⟩ := hQ55
    have N55 := Fr.app N54 N55q
    have ne_q_u1 : q ≠ u1 := Nat.ne_of_lt (Nat.lt_of_lt_of_le E_q.lt szq55)
    have ne_ar_u1 : ar ≠ u1 := Nat.ne_of_lt (Nat.lt_of_lt_of_le V_ar.lt szq55)
    replace E_q := E_q.keep K55q
    replace F_sum_q := F_sum_q.keep K55q nin0
    replace F_count_q := F_count_q.keep K55q nin0
    replace V_ar := V_ar.keep K55q nin0
    replace ZZ := Nat.le_trans ZZ K55q.1
    refine Go.on st55 ?_
    show Go _ _ _ _ _ _ _ _ (mkF m 37 #[.val (.int i0), .val (.int i1), .val (.int i2), .val (.int i3), .val (.int (3 : Int32)), .val (.int n), .val (.ref q), .unset, .unset] [(.ref u1), (.ref q)])
    obtain ⟨cq56, kq56, q56a, q56b, q56c⟩ := isOf hZ e55 E_q
    obtain ⟨_, _, ⟨T56, L56, k56, n56⟩, -, X56, ⟨Lc56, hQ56, l56, y56, z56⟩, st56⟩ := X55.virtualBack hx (y := (⟨"com/example/d2rank/d2rank/rerank/Centroid", "add", "([D)V"⟩ : MethodName)) (z := (⟨"com/example/d2rank/d2rank/rerank/Centroid", "add", "([D)V"⟩ : MethodName)) hown (mvT hZ (hw _ (List.mem_of_getElem? (i := 23) rfl))) (mvT hZ (hw _ (List.mem_of_getElem? (i := 24) rfl))) (notFace_of_selects (args := #[]) (mvT hZ (hw _ (List.mem_of_getElem? (i := 26) rfl)))) (mvT hZ (hw _ (List.mem_of_getElem? (i := 26) rfl))) (mvT hZ (hw _ (List.mem_of_getElem? (i := 25) rfl))) (by decide) (backOf (W := 0) (ca_3 l Z aw hw [] q u1 ar (0 : Int32) k_ar (0 : UInt64) (0 : UInt64) (0 : UInt64) k_u1 (if (indexV i1 (3 : Int32)) = (0 : Int32) then (FP.i2d (signV i1)) else (0 : UInt64)) (if (indexV i1 (3 : Int32)) = (1 : Int32) then (FP.i2d (signV i1)) else (0 : UInt64)) (if (indexV i1 (3 : Int32)) = (2 : Int32) then (FP.i2d (signV i1)) else (0 : UInt64)) h55 n0 ZZ E_q F_sum_q F_count_q V_ar V_u1 g_q g_ar ne_q_ar (Ne.symm ne_ar_u1) (Ne.symm ne_q_u1) (own_dnn (own_t1 i1 (0 : Int32) (3 : Int32))) (own_dnn (own_t1 i1 (1 : Int32) (3 : Int32))) (own_dnn (own_t1 i1 (2 : Int32) (3 : Int32)))) hZ (hw _ (List.mem_of_getElem? (i := 27) rfl)) (hw _ (List.mem_of_getElem? (i := 2) rfl)) (by decide) (by decide)) q56a q56c (g := (mkF m 37 #[.val (.int i0), .val (.int i1), .val (.int i2), .val (.int i3), .val (.int (3 : Int32)), .val (.int n), .val (.ref q), .unset, .unset] [(.ref u1), (.ref q)])) rfl (by rw [hml]; rfl) (Steps.refl _) (argsL := [(.ref u1)]) (rest := []) (lenOf pd_5 rfl) rfl (by show 2 * 0 + _ ≤ _; exact Nat.le_of_eq rfl) (hb hby at_37) (fun _ _ => ⟨rfl, e55, (by decide : 3 + 0 ≤ _), (by decide : 8 + 0 ≤ _)⟩)
    dsimp only [Pt.U, Pt.locs, Pt.cells, Pt.slots] at X56 l56 y56 z56 st56 hQ56
    subst l56 y56 z56
    obtain ⟨h56, e56⟩ : ∃ q, T56.heap = q := ⟨_, rfl⟩
    rw [e56] at hQ56
    obtain ⟨rfl, N56q, K56q, Eq56, F_sumq56, F_countq56, V_q56⟩ := hQ56
    have N56 := Fr.app N55 N56q
    have ZZ56p := ZZ
    have lt_q := E_q.lt
    have lt_ar := V_ar.lt
    have lt_u1 := V_u1.lt
    replace E_q := E_q.keep K56q
    replace V_u1 := V_u1.keep K56q (ninS (Ne.symm ne_q_u1) (ninS (Ne.symm ne_ar_u1) nin0))
    replace ZZ := Nat.le_trans ZZ K56q.1
    have F_sum_q := F_sumq56
    have F_count_q : Fld Z h56 q "com/example/d2rank/d2rank/rerank/Centroid" "count" "I" (.int (1 : Int32)) := F_countq56
    have V_ar := V_q56
    refine Go.on (fun _ k => st56.trans k) ?_
    show Go _ _ _ _ _ _ _ _ (mkF m 40 #[.val (.int i0), .val (.int i1), .val (.int i2), .val (.int i3), .val (.int (3 : Int32)), .val (.int n), .val (.ref q), .unset, .unset] [])
    refine Go.on (fun _ k => XS.iload X56.here hx rfl (hb hby at_40) rfl k) ?_
    show Go _ _ _ _ _ _ _ _ (mkF m 42 #[.val (.int i0), .val (.int i1), .val (.int i2), .val (.int i3), .val (.int (3 : Int32)), .val (.int n), .val (.ref q), .unset, .unset] [(.int n)])
    refine Go.on (fun _ k => XS.iconst X56.here hx rfl (hb hby at_42) k) ?_
    show Go _ _ _ _ _ _ _ _ (mkF m 43 #[.val (.int i0), .val (.int i1), .val (.int i2), .val (.int i3), .val (.int (3 : Int32)), .val (.int n), .val (.ref q), .unset, .unset] [(.int (2 : Int32)), (.int n)])
    suffices hJ57 : ∀ (T57 : State) (locs57 : List Loc) (h57 : Heap) (t0 : UInt64) (t1 : UInt64) (t2 : UInt64) (ct : Int32), Stand p l e room_1 s m #[(.int i0), (.int i1), (.int i2), (.int i3)] below meth c T57 locs57 5 14 → T57.heap = h57 → Fr n0 locs57 → n0 ≤ h57.size → Exa Z h57 q "com/example/d2rank/d2rank/rerank/Centroid" → Fld Z h57 q "com/example/d2rank/d2rank/rerank/Centroid" "sum" "[D" (.ref ar) → Fld Z h57 q "com/example/d2rank/d2rank/rerank/Centroid" "count" "I" (.int ct) → Arv Z h57 ar k_ar .double (3 : Int32) [(.double t0), (.double t1), (.double t2)] (.double (0 : UInt64)) → ct = n → Jvm.FP.Core.DInt (own_W i1 i2 i3 n (0 : Int32) (3 : Int32)) t0 → Jvm.FP.Core.DInt (own_W i1 i2 i3 n (1 : Int32) (3 : Int32)) t1 → Jvm.FP.Core.DInt (own_W i1 i2 i3 n (2 : Int32) (3 : Int32)) t2 → Go p e below s K1 K2 QQ T57 (mkF m 74 #[.val (.int i0), .val (.int i1), .val (.int i2), .val (.int i3), .val (.int (3 : Int32)), .val (.int n), .val (.ref q), .unset, .unset] []) by
      by_cases hc58 : n < (2 : Int32)
      · -- pc 43
        refine Go.on (fun _ k => XS.icmpYes X56.here hx rfl (pc0 := 43) (pc' := 57) rfl (hb hby at_43) rfl (tlt hc58).1 (by decide) (by decide) k) ?_
        show Go _ _ _ _ _ _ _ _ (mkF m 57 #[.val (.int i0), .val (.int i1), .val (.int i2), .val (.int i3), .val (.int (3 : Int32)), .val (.int n), .val (.ref q), .unset, .unset] [])
        refine Go.on (fun _ k => XS.iload X56.here hx rfl (hb hby at_57) rfl k) ?_
        show Go _ _ _ _ _ _ _ _ (mkF m 59 #[.val (.int i0), .val (.int i1), .val (.int i2), .val (.int i3), .val (.int (3 : Int32)), .val (.int n), .val (.ref q), .unset, .unset] [(.int n)])
        refine Go.on (fun _ k => XS.iconst X56.here hx rfl (hb hby at_59) k) ?_
        show Go _ _ _ _ _ _ _ _ (mkF m 60 #[.val (.int i0), .val (.int i1), .val (.int i2), .val (.int i3), .val (.int (3 : Int32)), .val (.int n), .val (.ref q), .unset, .unset] [(.int (3 : Int32)), (.int n)])
        have hc59 : n < (3 : Int32) := own_less3 hc58
        refine Go.on (fun _ k => XS.icmpYes X56.here hx rfl (pc0 := 60) (pc' := 74) rfl (hb hby at_60) rfl (tlt hc59).1 (by decide) (by decide) k) ?_
        show Go _ _ _ _ _ _ _ _ (mkF m 74 #[.val (.int i0), .val (.int i1), .val (.int i2), .val (.int i3), .val (.int (3 : Int32)), .val (.int n), .val (.ref q), .unset, .unset] [])
        exact hJ57 _ _ _ (FP.dadd (0 : UInt64) (if (indexV i1 (3 : Int32)) = (0 : Int32) then (FP.i2d (signV i1)) else (0 : UInt64))) (FP.dadd (0 : UInt64) (if (indexV i1 (3 : Int32)) = (1 : Int32) then (FP.i2d (signV i1)) else (0 : UInt64))) (FP.dadd (0 : UInt64) (if (indexV i1 (3 : Int32)) = (2 : Int32) then (FP.i2d (signV i1)) else (0 : UInt64))) (1 : Int32) (X56.more (by decide) (by decide)) e56 N56 ZZ E_q F_sum_q F_count_q V_ar (own_ct1 hn hc58) (own_W1 hc58 (own_t1 i1 (0 : Int32) (3 : Int32))) (own_W1 hc58 (own_t1 i1 (1 : Int32) (3 : Int32))) (own_W1 hc58 (own_t1 i1 (2 : Int32) (3 : Int32)))
      · -- pc 43
        refine Go.on (fun _ k => XS.icmpNo X56.here hx rfl (hb hby at_43) rfl (flt hc58).1 k) ?_
        show Go _ _ _ _ _ _ _ _ (mkF m 46 #[.val (.int i0), .val (.int i1), .val (.int i2), .val (.int i3), .val (.int (3 : Int32)), .val (.int n), .val (.ref q), .unset, .unset] [])
        refine Go.on (fun _ k => XS.aload X56.here hx rfl (hb hby at_46) rfl rfl k) ?_
        show Go _ _ _ _ _ _ _ _ (mkF m 48 #[.val (.int i0), .val (.int i1), .val (.int i2), .val (.int i3), .val (.int (3 : Int32)), .val (.int n), .val (.ref q), .unset, .unset] [(.ref q)])
        refine Go.on (fun _ k => XS.iloadN X56.here hx rfl (hb hby at_48) rfl k) ?_
        show Go _ _ _ _ _ _ _ _ (mkF m 49 #[.val (.int i0), .val (.int i1), .val (.int i2), .val (.int i3), .val (.int (3 : Int32)), .val (.int n), .val (.ref q), .unset, .unset] [(.int i2), (.ref q)])
        refine Go.on (fun _ k => XS.iload X56.here hx rfl (hb hby at_49) rfl k) ?_
        show Go _ _ _ _ _ _ _ _ (mkF m 51 #[.val (.int i0), .val (.int i1), .val (.int i2), .val (.int i3), .val (.int (3 : Int32)), .val (.int n), .val (.ref q), .unset, .unset] [(.int (3 : Int32)), (.int i2), (.ref q)])
        obtain ⟨_, _, ⟨T60, L60, k60, n60⟩, -, X60, ⟨Lc60, hQ60, l60, y60, z60⟩, st60⟩ := Jvm.LawKit.callS X56 hx (y := (⟨"com/example/d2rank/d2rank/rerank/CentroidMeanPinLaw", "unit", "(II)[D"⟩ : MethodName)) hown (mvT hZ (hw _ (List.mem_of_getElem? (i := 12) rfl))) (mvT hZ (hw _ (List.mem_of_getElem? (i := 13) rfl))) (mvT hZ (hw _ (List.mem_of_getElem? (i := 14) rfl))) (mvT hZ (hw _ (List.mem_of_getElem? (i := 15) rfl))) (by decide) (backOf (W := 1) (un_3 l Z aw hw [] i2  h56 n0 ZZ ) hZ (hw _ (List.mem_of_getElem? (i := 15) rfl)) (hw _ (List.mem_of_getElem? (i := 14) rfl)) (by decide) (by decide)) (g := (mkF m 51 #[.val (.int i0), .val (.int i1), .val (.int i2), .val (.int i3), .val (.int (3 : Int32)), .val (.int n), .val (.ref q), .unset, .unset] [(.int (3 : Int32)), (.int i2), (.ref q)])) rfl (by rw [hml]; rfl) (argsL := [(.int i2), (.int (3 : Int32))]) (rest := [(.ref q)]) (lenOf pd_4 rfl) rfl (by show 2 * 0 + _ ≤ _; exact Nat.le_of_eq rfl) (hb hby at_51) (fun _ _ => ⟨rfl, e56, (by decide : 3 + 1 ≤ _), (by decide : 8 + 3 ≤ _)⟩)
        dsimp only [Pt.U, Pt.locs, Pt.cells, Pt.slots] at X60 l60 y60 z60 st60 hQ60
        subst l60 y60 z60
        obtain ⟨h60, e60⟩ : ∃ q, T60.heap = q := ⟨_, rfl⟩
        rw [e60] at hQ60
        obtain ⟨u2, k_u2, rfl, N60q, K60q, szq60, V_u2⟩ := hQ60
        have N60 := Fr.app N56 N60q
        have ne_q_u2 : q ≠ u2 := Nat.ne_of_lt (Nat.lt_of_lt_of_le E_q.lt szq60)
        have ne_u1_u2 : u1 ≠ u2 := Nat.ne_of_lt (Nat.lt_of_lt_of_le V_u1.lt szq60)
        have ne_ar_u2 : ar ≠ u2 := Nat.ne_of_lt (Nat.lt_of_lt_of_le V_ar.lt szq60)
        replace E_q := E_q.keep K60q
        replace V_u1 := V_u1.keep K60q nin0
        replace F_sum_q := F_sum_q.keep K60q nin0
        replace F_count_q := F_count_q.keep K60q nin0
        replace V_ar := V_ar.keep K60q nin0
        replace ZZ := Nat.le_trans ZZ K60q.1
        refine Go.on st60 ?_
        show Go _ _ _ _ _ _ _ _ (mkF m 54 #[.val (.int i0), .val (.int i1), .val (.int i2), .val (.int i3), .val (.int (3 : Int32)), .val (.int n), .val (.ref q), .unset, .unset] [(.ref u2), (.ref q)])
        obtain ⟨cq61, kq61, q61a, q61b, q61c⟩ := isOf hZ e60 E_q
        obtain ⟨_, _, ⟨T61, L61, k61, n61⟩, -, X61, ⟨Lc61, hQ61, l61, y61, z61⟩, st61⟩ := X60.virtualBack hx (y := (⟨"com/example/d2rank/d2rank/rerank/Centroid", "add", "([D)V"⟩ : MethodName)) (z := (⟨"com/example/d2rank/d2rank/rerank/Centroid", "add", "([D)V"⟩ : MethodName)) hown (mvT hZ (hw _ (List.mem_of_getElem? (i := 23) rfl))) (mvT hZ (hw _ (List.mem_of_getElem? (i := 24) rfl))) (notFace_of_selects (args := #[]) (mvT hZ (hw _ (List.mem_of_getElem? (i := 26) rfl)))) (mvT hZ (hw _ (List.mem_of_getElem? (i := 26) rfl))) (mvT hZ (hw _ (List.mem_of_getElem? (i := 25) rfl))) (by decide) (backOf (W := 0) (ca_3 l Z aw hw [] q u2 ar (1 : Int32) k_ar (FP.dadd (0 : UInt64) (if (indexV i1 (3 : Int32)) = (0 : Int32) then (FP.i2d (signV i1)) else (0 : UInt64))) (FP.dadd (0 : UInt64) (if (indexV i1 (3 : Int32)) = (1 : Int32) then (FP.i2d (signV i1)) else (0 : UInt64))) (FP.dadd (0 : UInt64) (if (indexV i1 (3 : Int32)) = (2 : Int32) then (FP.i2d (signV i1)) else (0 : UInt64))) k_u2 (if (indexV i2 (3 : Int32)) = (0 : Int32) then (FP.i2d (signV i2)) else (0 : UInt64)) (if (indexV i2 (3 : Int32)) = (1 : Int32) then (FP.i2d (signV i2)) else (0 : UInt64)) (if (indexV i2 (3 : Int32)) = (2 : Int32) then (FP.i2d (signV i2)) else (0 : UInt64)) h60 n0 ZZ E_q F_sum_q F_count_q V_ar V_u2 g_q g_ar ne_q_ar (Ne.symm ne_ar_u2) (Ne.symm ne_q_u2) (own_dnn (own_t2 i1 i2 (0 : Int32) (3 : Int32))) (own_dnn (own_t2 i1 i2 (1 : Int32) (3 : Int32))) (own_dnn (own_t2 i1 i2 (2 : Int32) (3 : Int32)))) hZ (hw _ (List.mem_of_getElem? (i := 27) rfl)) (hw _ (List.mem_of_getElem? (i := 2) rfl)) (by decide) (by decide)) q61a q61c (g := (mkF m 54 #[.val (.int i0), .val (.int i1), .val (.int i2), .val (.int i3), .val (.int (3 : Int32)), .val (.int n), .val (.ref q), .unset, .unset] [(.ref u2), (.ref q)])) rfl (by rw [hml]; rfl) (Steps.refl _) (argsL := [(.ref u2)]) (rest := []) (lenOf pd_5 rfl) rfl (by show 2 * 0 + _ ≤ _; exact Nat.le_of_eq rfl) (hb hby at_54) (fun _ _ => ⟨rfl, e60, (by decide : 4 + 0 ≤ _), (by decide : 11 + 0 ≤ _)⟩)
        dsimp only [Pt.U, Pt.locs, Pt.cells, Pt.slots] at X61 l61 y61 z61 st61 hQ61
        subst l61 y61 z61
        obtain ⟨h61, e61⟩ : ∃ q, T61.heap = q := ⟨_, rfl⟩
        rw [e61] at hQ61
        obtain ⟨rfl, N61q, K61q, Eq61, F_sumq61, F_countq61, V_q61⟩ := hQ61
        have N61 := Fr.app N60 N61q
        have ZZ61p := ZZ
        have lt_q := E_q.lt
        have lt_u1 := V_u1.lt
        have lt_ar := V_ar.lt
        have lt_u2 := V_u2.lt
        replace E_q := E_q.keep K61q
        replace V_u1 := V_u1.keep K61q (ninS (Ne.symm ne_q_u1) (ninS (Ne.symm ne_ar_u1) nin0))
        replace V_u2 := V_u2.keep K61q (ninS (Ne.symm ne_q_u2) (ninS (Ne.symm ne_ar_u2) nin0))
        replace ZZ := Nat.le_trans ZZ K61q.1
        have F_sum_q := F_sumq61
        have F_count_q : Fld Z h61 q "com/example/d2rank/d2rank/rerank/Centroid" "count" "I" (.int (2 : Int32)) := F_countq61
        have V_ar := V_q61
        refine Go.on (fun _ k => st61.trans k) ?_
        show Go _ _ _ _ _ _ _ _ (mkF m 57 #[.val (.int i0), .val (.int i1), .val (.int i2), .val (.int i3), .val (.int (3 : Int32)), .val (.int n), .val (.ref q), .unset, .unset] [])
        refine Go.on (fun _ k => XS.iload X61.here hx rfl (hb hby at_57) rfl k) ?_
        show Go _ _ _ _ _ _ _ _ (mkF m 59 #[.val (.int i0), .val (.int i1), .val (.int i2), .val (.int i3), .val (.int (3 : Int32)), .val (.int n), .val (.ref q), .unset, .unset] [(.int n)])
        refine Go.on (fun _ k => XS.iconst X61.here hx rfl (hb hby at_59) k) ?_
        show Go _ _ _ _ _ _ _ _ (mkF m 60 #[.val (.int i0), .val (.int i1), .val (.int i2), .val (.int i3), .val (.int (3 : Int32)), .val (.int n), .val (.ref q), .unset, .unset] [(.int (3 : Int32)), (.int n)])
        by_cases hc62 : n < (3 : Int32)
        · -- pc 60
          refine Go.on (fun _ k => XS.icmpYes X61.here hx rfl (pc0 := 60) (pc' := 74) rfl (hb hby at_60) rfl (tlt hc62).1 (by decide) (by decide) k) ?_
          show Go _ _ _ _ _ _ _ _ (mkF m 74 #[.val (.int i0), .val (.int i1), .val (.int i2), .val (.int i3), .val (.int (3 : Int32)), .val (.int n), .val (.ref q), .unset, .unset] [])
          exact hJ57 _ _ _ (FP.dadd (FP.dadd (0 : UInt64) (if (indexV i1 (3 : Int32)) = (0 : Int32) then (FP.i2d (signV i1)) else (0 : UInt64))) (if (indexV i2 (3 : Int32)) = (0 : Int32) then (FP.i2d (signV i2)) else (0 : UInt64))) (FP.dadd (FP.dadd (0 : UInt64) (if (indexV i1 (3 : Int32)) = (1 : Int32) then (FP.i2d (signV i1)) else (0 : UInt64))) (if (indexV i2 (3 : Int32)) = (1 : Int32) then (FP.i2d (signV i2)) else (0 : UInt64))) (FP.dadd (FP.dadd (0 : UInt64) (if (indexV i1 (3 : Int32)) = (2 : Int32) then (FP.i2d (signV i1)) else (0 : UInt64))) (if (indexV i2 (3 : Int32)) = (2 : Int32) then (FP.i2d (signV i2)) else (0 : UInt64))) (2 : Int32) (X61.more (by decide) (by decide)) e61 N61 ZZ E_q F_sum_q F_count_q V_ar (own_ct2 hn hc58 hc62) (own_W2 hc58 hc62 (own_t2 i1 i2 (0 : Int32) (3 : Int32))) (own_W2 hc58 hc62 (own_t2 i1 i2 (1 : Int32) (3 : Int32))) (own_W2 hc58 hc62 (own_t2 i1 i2 (2 : Int32) (3 : Int32)))
        · -- pc 60
          refine Go.on (fun _ k => XS.icmpNo X61.here hx rfl (hb hby at_60) rfl (flt hc62).1 k) ?_
          show Go _ _ _ _ _ _ _ _ (mkF m 63 #[.val (.int i0), .val (.int i1), .val (.int i2), .val (.int i3), .val (.int (3 : Int32)), .val (.int n), .val (.ref q), .unset, .unset] [])
          refine Go.on (fun _ k => XS.aload X61.here hx rfl (hb hby at_63) rfl rfl k) ?_
          show Go _ _ _ _ _ _ _ _ (mkF m 65 #[.val (.int i0), .val (.int i1), .val (.int i2), .val (.int i3), .val (.int (3 : Int32)), .val (.int n), .val (.ref q), .unset, .unset] [(.ref q)])
          refine Go.on (fun _ k => XS.iloadN X61.here hx rfl (hb hby at_65) rfl k) ?_
          show Go _ _ _ _ _ _ _ _ (mkF m 66 #[.val (.int i0), .val (.int i1), .val (.int i2), .val (.int i3), .val (.int (3 : Int32)), .val (.int n), .val (.ref q), .unset, .unset] [(.int i3), (.ref q)])
          refine Go.on (fun _ k => XS.iload X61.here hx rfl (hb hby at_66) rfl k) ?_
          show Go _ _ _ _ _ _ _ _ (mkF m 68 #[.val (.int i0), .val (.int i1), .val (.int i2), .val (.int i3), .val (.int (3 : Int32)), .val (.int n), .val (.ref q), .unset, .unset] [(.int (3 : Int32)), (.int i3), (.ref q)])
          obtain ⟨_, _, ⟨T63, L63, k63, n63⟩, -, X63, ⟨Lc63, hQ63, l63, y63, z63⟩, st63⟩ := Jvm.LawKit.callS X61 hx (y := (⟨"com/example/d2rank/d2rank/rerank/CentroidMeanPinLaw", "unit", "(II)[D"⟩ : MethodName)) hown (mvT hZ (hw _ (List.mem_of_getElem? (i := 12) rfl))) (mvT hZ (hw _ (List.mem_of_getElem? (i := 13) rfl))) (mvT hZ (hw _ (List.mem_of_getElem? (i := 14) rfl))) (mvT hZ (hw _ (List.mem_of_getElem? (i := 15) rfl))) (by decide) (backOf (W := 1) (un_3 l Z aw hw [] i3  h61 n0 ZZ ) hZ (hw _ (List.mem_of_getElem? (i := 15) rfl)) (hw _ (List.mem_of_getElem? (i := 14) rfl)) (by decide) (by decide)) (g := (mkF m 68 #[.val (.int i0), .val (.int i1), .val (.int i2), .val (.int i3), .val (.int (3 : Int32)), .val (.int n), .val (.ref q), .unset, .unset] [(.int (3 : Int32)), (.int i3), (.ref q)])) rfl (by rw [hml]; rfl) (argsL := [(.int i3), (.int (3 : Int32))]) (rest := [(.ref q)]) (lenOf pd_4 rfl) rfl (by show 2 * 0 + _ ≤ _; exact Nat.le_of_eq rfl) (hb hby at_68) (fun _ _ => ⟨rfl, e61, (by decide : 4 + 1 ≤ _), (by decide : 11 + 3 ≤ _)⟩)
          dsimp only [Pt.U, Pt.locs, Pt.cells, Pt.slots] at X63 l63 y63 z63 st63 hQ63
          subst l63 y63 z63
          obtain ⟨h63, e63⟩ : ∃ q, T63.heap = q := ⟨_, rfl⟩
          rw [e63] at hQ63
          obtain ⟨u3, k_u3, rfl, N63q, K63q, szq63, V_u3⟩ := hQ63
          have N63 := Fr.app N61 N63q
          have ne_q_u3 : q ≠ u3 := Nat.ne_of_lt (Nat.lt_of_lt_of_le E_q.lt szq63)
          have ne_u1_u3 : u1 ≠ u3 := Nat.ne_of_lt (Nat.lt_of_lt_of_le V_u1.lt szq63)
          have ne_u2_u3 : u2 ≠ u3 := Nat.ne_of_lt (Nat.lt_of_lt_of_le V_u2.lt szq63)
          have ne_ar_u3 : ar ≠ u3 := Nat.ne_of_lt (Nat.lt_of_lt_of_le V_ar.lt szq63)
          replace E_q := E_q.keep K63q
          replace V_u1 := V_u1.keep K63q nin0
          replace V_u2 := V_u2.keep K63q nin0
          replace F_sum_q := F_sum_q.keep K63q nin0
          replace F_count_q := F_count_q.keep K63q nin0
          replace V_ar := V_ar.keep K63q nin0
          replace ZZ := Nat.le_trans ZZ K63q.1
          refine Go.on st63 ?_
          show Go _ _ _ _ _ _ _ _ (mkF m 71 #[.val (.int i0), .val (.int i1), .val (.int i2), .val (.int i3), .val (.int (3 : Int32)), .val (.int n), .val (.ref q), .unset, .unset] [(.ref u3), (.ref q)])
          obtain ⟨cq64, kq64, q64a, q64b, q64c⟩ := isOf hZ e63 E_q
          obtain ⟨_, _, ⟨T64, L64, k64, n64⟩, -, X64, ⟨Lc64, hQ64, l64, y64, z64⟩, st64⟩ := X63.virtualBack hx (y := (⟨"com/example/d2rank/d2rank/rerank/Centroid", "add", "([D)V"⟩ : MethodName)) (z := (⟨"com/example/d2rank/d2rank/rerank/Centroid", "add", "([D)V"⟩ : MethodName)) hown (mvT hZ (hw _ (List.mem_of_getElem? (i := 23) rfl))) (mvT hZ (hw _ (List.mem_of_getElem? (i := 24) rfl))) (notFace_of_selects (args := #[]) (mvT hZ (hw _ (List.mem_of_getElem? (i := 26) rfl)))) (mvT hZ (hw _ (List.mem_of_getElem? (i := 26) rfl))) (mvT hZ (hw _ (List.mem_of_getElem? (i := 25) rfl))) (by decide) (backOf (W := 0) (ca_3 l Z aw hw [] q u3 ar (2 : Int32) k_ar (FP.dadd (FP.dadd (0 : UInt64) (if (indexV i1 (3 : Int32)) = (0 : Int32) then (FP.i2d (signV i1)) else (0 : UInt64))) (if (indexV i2 (3 : Int32)) = (0 : Int32) then (FP.i2d (signV i2)) else (0 : UInt64))) (FP.dadd (FP.dadd (0 : UInt64) (if (indexV i1 (3 : Int32)) = (1 : Int32) then (FP.i2d (signV i1)) else (0 : UInt64))) (if (indexV i2 (3 : Int32)) = (1 : Int32) then (FP.i2d (signV i2)) else (0 : UInt64))) (FP.dadd (FP.dadd (0 : UInt64) (if (indexV i1 (3 : Int32)) = (2 : Int32) then (FP.i2d (signV i1)) else (0 : UInt64))) (if (indexV i2 (3 : Int32)) = (2 : Int32) then (FP.i2d (signV i2)) else (0 : UInt64))) k_u3 (if (indexV i3 (3 : Int32)) = (0 : Int32) then (FP.i2d (signV i3)) else (0 : UInt64)) (if (indexV i3 (3 : Int32)) = (1 : Int32) then (FP.i2d (signV i3)) else (0 : UInt64)) (if (indexV i3 (3 : Int32)) = (2 : Int32) then (FP.i2d (signV i3)) else (0 : UInt64)) h63 n0 ZZ E_q F_sum_q F_count_q V_ar V_u3 g_q g_ar ne_q_ar (Ne.symm ne_ar_u3) (Ne.symm ne_q_u3) (own_dnn (own_t3 i1 i2 i3 (0 : Int32) (3 : Int32))) (own_dnn (own_t3 i1 i2 i3 (1 : Int32) (3 : Int32))) (own_dnn (own_t3 i1 i2 i3 (2 : Int32) (3 : Int32)))) hZ (hw _ (List.mem_of_getElem? (i := 27) rfl)) (hw _ (List.mem_of_getElem? (i := 2) rfl)) (by decide) (by decide)) q64a q64c (g := (mkF m 71 #[.val (.int i0), .val (.int i1), .val (.int i2), .val (.int i3), .val (.int (3 : Int32)), .val (.int n), .val (.ref q), .unset, .unset] [(.ref u3), (.ref q)])) rfl (by rw [hml]; rfl) (Steps.refl _) (argsL := [(.ref u3)]) (rest := []) (lenOf pd_5 rfl) rfl (by show 2 * 0 + _ ≤ _; exact Nat.le_of_eq rfl) (hb hby at_71) (fun _ _ => ⟨rfl, e63, (by decide : 5 + 0 ≤ _), (by decide : 14 + 0 ≤ _)⟩)
          dsimp only [Pt.U, Pt.locs, Pt.cells, Pt.slots] at X64 l64 y64 z64 st64 hQ64
          subst l64 y64 z64
          obtain ⟨h64, e64⟩ : ∃ q, T64.heap = q := ⟨_, rfl⟩
          rw [e64] at hQ64
          obtain ⟨rfl, N64q, K64q, Eq64, F_sumq64, F_countq64, V_q64⟩ := hQ64
          have N64 := Fr.app N63 N64q
          have ZZ64p := ZZ
          have lt_q := E_q.lt
          have lt_u1 := V_u1.lt
          have lt_u2 := V_u2.lt
          have lt_ar := V_ar.lt
          have lt_u3 := V_u3.lt
          replace E_q := E_q.keep K64q
          replace V_u1 := V_u1.keep K64q (ninS (Ne.symm ne_q_u1) (ninS (Ne.symm ne_ar_u1) nin0))
          replace V_u2 := V_u2.keep K64q (ninS (Ne.symm ne_q_u2) (ninS (Ne.symm ne_ar_u2) nin0))
          replace V_u3 := V_u3.keep K64q (ninS (Ne.symm ne_q_u3) (ninS (Ne.symm ne_ar_u3) nin0))
          replace ZZ := Nat.le_trans ZZ K64q.1
          have F_sum_q := F_sumq64
          have F_count_q : Fld Z h64 q "com/example/d2rank/d2rank/rerank/Centroid" "count" "I" (.int (3 : Int32)) := F_countq64
          have V_ar := V_q64
          refine Go.on (fun _ k => st64.trans k) ?_
          show Go _ _ _ _ _ _ _ _ (mkF m 74 #[.val (.int i0), .val (.int i1), .val (.int i2), .val (.int i3), .val (.int (3 : Int32)), .val (.int n), .val (.ref q), .unset, .unset] [])
          exact hJ57 _ _ _ (FP.dadd (FP.dadd (FP.dadd (0 : UInt64) (if (indexV i1 (3 : Int32)) = (0 : Int32) then (FP.i2d (signV i1)) else (0 : UInt64))) (if (indexV i2 (3 : Int32)) = (0 : Int32) then (FP.i2d (signV i2)) else (0 : UInt64))) (if (indexV i3 (3 : Int32)) = (0 : Int32) then (FP.i2d (signV i3)) else (0 : UInt64))) (FP.dadd (FP.dadd (FP.dadd (0 : UInt64) (if (indexV i1 (3 : Int32)) = (1 : Int32) then (FP.i2d (signV i1)) else (0 : UInt64))) (if (indexV i2 (3 : Int32)) = (1 : Int32) then (FP.i2d (signV i2)) else (0 : UInt64))) (if (indexV i3 (3 : Int32)) = (1 : Int32) then (FP.i2d (signV i3)) else (0 : UInt64))) (FP.dadd (FP.dadd (FP.dadd (0 : UInt64) (if (indexV i1 (3 : Int32)) = (2 : Int32) then (FP.i2d (signV i1)) else (0 : UInt64))) (if (indexV i2 (3 : Int32)) = (2 : Int32) then (FP.i2d (signV i2)) else (0 : UInt64))) (if (indexV i3 (3 : Int32)) = (2 : Int32) then (FP.i2d (signV i3)) else (0 : UInt64))) (3 : Int32) (X64.more (by decide) (by decide)) e64 N64 ZZ E_q F_sum_q F_count_q V_ar (own_ct3 hn hc58 hc62) (own_W3 hc58 hc62 (own_t3 i1 i2 i3 (0 : Int32) (3 : Int32))) (own_W3 hc58 hc62 (own_t3 i1 i2 i3 (1 : Int32) (3 : Int32))) (own_W3 hc58 hc62 (own_t3 i1 i2 i3 (2 : Int32) (3 : Int32)))
    clear E_q F_sum_q F_count_q V_ar ZZ
    intro T57 locs57 h57 t0 t1 t2 ct X57 e57 N57 ZZ E_q F_sum_q F_count_q V_ar hct hT0 hT1 hT2
    show Go _ _ _ _ _ _ _ _ (mkF m 74 #[.val (.int i0), .val (.int i1), .val (.int i2), .val (.int i3), .val (.int (3 : Int32)), .val (.int n), .val (.ref q), .unset, .unset] [])
    have hctz : ct ≠ 0 := by rw [hct]; exact own_n0 hn
    refine Go.on (fun _ k => XS.aload X57.here hx rfl (hb hby at_74) rfl rfl k) ?_
    show Go _ _ _ _ _ _ _ _ (mkF m 76 #[.val (.int i0), .val (.int i1), .val (.int i2), .val (.int i3), .val (.int (3 : Int32)), .val (.int n), .val (.ref q), .unset, .unset] [(.ref q)])
    obtain ⟨cq65, kq65, q65a, q65b, q65c⟩ := isOf hZ e57 E_q
    obtain ⟨_, _, ⟨T65, L65, k65, n65⟩, -, X65, ⟨Lc65, hQ65, l65, y65, z65⟩, st65⟩ := X57.virtualBack hx (y := (⟨"com/example/d2rank/d2rank/rerank/Centroid", "mean", "()[D"⟩ : MethodName)) (z := (⟨"com/example/d2rank/d2rank/rerank/Centroid", "mean", "()[D"⟩ : MethodName)) hown (mvT hZ (hw _ (List.mem_of_getElem? (i := 30) rfl))) (mvT hZ (hw _ (List.mem_of_getElem? (i := 31) rfl))) (notFace_of_selects (args := #[]) (mvT hZ (hw _ (List.mem_of_getElem? (i := 33) rfl)))) (mvT hZ (hw _ (List.mem_of_getElem? (i := 33) rfl))) (mvT hZ (hw _ (List.mem_of_getElem? (i := 32) rfl))) (by decide) (backOf (W := 0) (cm_3 l Z aw hw [] q ar ct k_ar t0 t1 t2 h57 n0 ZZ F_sum_q F_count_q V_ar (own_nnd' (ZV.of_int hT0).1 _ hctz) (own_nnd' (ZV.of_int hT1).1 _ hctz) (own_nnd' (ZV.of_int hT2).1 _ hctz)) hZ (hw _ (List.mem_of_getElem? (i := 34) rfl)) (hw _ (List.mem_of_getElem? (i := 2) rfl)) (by decide) (by decide)) q65a q65c (g := (mkF m 76 #[.val (.int i0), .val (.int i1), .val (.int i2), .val (.int i3), .val (.int (3 : Int32)), .val (.int n), .val (.ref q), .unset, .unset] [(.ref q)])) rfl (by rw [hml]; rfl) (Steps.refl _) (argsL := []) (rest := []) (lenOf pd_6 rfl) rfl (by show 2 * 0 + _ ≤ _; exact Nat.le_of_eq rfl) (hb hby at_76) (fun _ _ => ⟨rfl, e57, (by decide : 5 + 1 ≤ _), (by decide : 14 + 3 ≤ _)⟩)
    dsimp only [Pt.U, Pt.locs, Pt.cells, Pt.slots] at X65 l65 y65 z65 st65 hQ65
    subst l65 y65 z65
    obtain ⟨h65, e65⟩ : ∃ q, T65.heap = q := ⟨_, rfl⟩
    rw [e65] at hQ65
    obtain ⟨m1, kq65, rfl, N65q, K65q, szq65, V_q65⟩ := hQ65
    have N65 := Fr.app N57 N65q
    have ZZ65p := ZZ
    have ne_q_m1 : q ≠ m1 := Nat.ne_of_lt (Nat.lt_of_lt_of_le E_q.lt szq65)
    have ne_ar_m1 : ar ≠ m1 := Nat.ne_of_lt (Nat.lt_of_lt_of_le V_ar.lt szq65)
    replace E_q := E_q.keep K65q
    replace F_sum_q := F_sum_q.keep K65q nin0
    replace F_count_q := F_count_q.keep K65q nin0
    replace V_ar := V_ar.keep K65q nin0
    replace ZZ := Nat.le_trans ZZ K65q.1
    have g_m1 : n0 ≤ m1 := Nat.le_trans ZZ65p szq65
    have V_m1 := V_q65
    obtain ⟨k_m1, hk_m1⟩ : ∃ z, z = kq65 := ⟨_, rfl⟩
    rw [← hk_m1] at V_m1
    refine Go.on (fun _ k => st65.trans k) ?_
    show Go _ _ _ _ _ _ _ _ (mkF m 79 #[.val (.int i0), .val (.int i1), .val (.int i2), .val (.int i3), .val (.int (3 : Int32)), .val (.int n), .val (.ref q), .unset, .unset] [(.ref m1)])
    refine Go.on (fun _ k => XS.astore X65.here hx rfl (hb hby at_79) rfl rfl (l' := #[.val (.int i0), .val (.int i1), .val (.int i2), .val (.int i3), .val (.int (3 : Int32)), .val (.int n), .val (.ref q), .val (.ref m1), .unset]) rfl k) ?_
    show Go _ _ _ _ _ _ _ _ (mkF m 81 #[.val (.int i0), .val (.int i1), .val (.int i2), .val (.int i3), .val (.int (3 : Int32)), .val (.int n), .val (.ref q), .val (.ref m1), .unset] [])
    refine Go.on (fun _ k => XS.aload X65.here hx rfl (hb hby at_81) rfl rfl k) ?_
    show Go _ _ _ _ _ _ _ _ (mkF m 83 #[.val (.int i0), .val (.int i1), .val (.int i2), .val (.int i3), .val (.int (3 : Int32)), .val (.int n), .val (.ref q), .val (.ref m1), .unset] [(.ref q)])
    obtain ⟨cq66, kq66, q66a, q66b, q66c⟩ := isOf hZ e65 E_q
    obtain ⟨_, _, ⟨T66, L66, k66, n66⟩, -, X66, ⟨Lc66, hQ66, l66, y66, z66⟩, st66⟩ := X65.virtualBack hx (y := (⟨"com/example/d2rank/d2rank/rerank/Centroid", "mean", "()[D"⟩ : MethodName)) (z := (⟨"com/example/d2rank/d2rank/rerank/Centroid", "mean", "()[D"⟩ : MethodName)) hown (mvT hZ (hw _ (List.mem_of_getElem? (i := 30) rfl))) (mvT hZ (hw _ (List.mem_of_getElem? (i := 31) rfl))) (notFace_of_selects (args := #[]) (mvT hZ (hw _ (List.mem_of_getElem? (i := 33) rfl)))) (mvT hZ (hw _ (List.mem_of_getElem? (i := 33) rfl))) (mvT hZ (hw _ (List.mem_of_getElem? (i := 32) rfl))) (by decide) (backOf (W := 0) (cm_3 l Z aw hw [] q ar ct k_ar t0 t1 t2 h65 n0 ZZ F_sum_q F_count_q V_ar (own_nnd' (ZV.of_int hT0).1 _ hctz) (own_nnd' (ZV.of_int hT1).1 _ hctz) (own_nnd' (ZV.of_int hT2).1 _ hctz)) hZ (hw _ (List.mem_of_getElem? (i := 34) rfl)) (hw _ (List.mem_of_getElem? (i := 2) rfl)) (by decide) (by decide)) q66a q66c (g := (mkF m 83 #[.val (.int i0), .val (.int i1), .val (.int i2), .val (.int i3), .val (.int (3 : Int32)), .val (.int n), .val (.ref q), .val (.ref m1), .unset] [(.ref q)])) rfl (by rw [hml]; rfl) (Steps.refl _) (argsL := []) (rest := []) (lenOf pd_6 rfl) rfl (by show 2 * 0 + _ ≤ _; exact Nat.le_of_eq rfl) (hb hby at_83) (fun _ _ => ⟨rfl, e65, (by decide : 6 + 1 ≤ _), (by decide : 17 + 3 ≤ _)⟩)
    dsimp only [Pt.U, Pt.locs, Pt.cells, Pt.slots] at X66 l66 y66 z66 st66 hQ66
    subst l66 y66 z66
    obtain ⟨h66, e66⟩ : ∃ q, T66.heap = q := ⟨_, rfl⟩
    rw [e66] at hQ66
    obtain ⟨m2, kq66, rfl, N66q, K66q, szq66, V_q66⟩ := hQ66
    have N66 := Fr.app N65 N66q
    have ZZ66p := ZZ
    have ne_q_m2 : q ≠ m2 := Nat.ne_of_lt (Nat.lt_of_lt_of_le E_q.lt szq66)
    have ne_ar_m2 : ar ≠ m2 := Nat.ne_of_lt (Nat.lt_of_lt_of_le V_ar.lt szq66)
    have ne_m1_m2 : m1 ≠ m2 := Nat.ne_of_lt (Nat.lt_of_lt_of_le V_m1.lt szq66)
    replace E_q := E_q.keep K66q
    replace F_sum_q := F_sum_q.keep K66q nin0
    replace F_count_q := F_count_q.keep K66q nin0
    replace V_ar := V_ar.keep K66q nin0
    replace V_m1 := V_m1.keep K66q nin0
    replace ZZ := Nat.le_trans ZZ K66q.1
    have g_m2 : n0 ≤ m2 := Nat.le_trans ZZ66p szq66
    have V_m2 := V_q66
    obtain ⟨k_m2, hk_m2⟩ : ∃ z, z = kq66 := ⟨_, rfl⟩
    rw [← hk_m2] at V_m2
    refine Go.on (fun _ k => st66.trans k) ?_
    show Go _ _ _ _ _ _ _ _ (mkF m 86 #[.val (.int i0), .val (.int i1), .val (.int i2), .val (.int i3), .val (.int (3 : Int32)), .val (.int n), .val (.ref q), .val (.ref m1), .unset] [(.ref m2)])
    refine Go.on (fun _ k => XS.astore X66.here hx rfl (hb hby at_86) rfl rfl (l' := #[.val (.int i0), .val (.int i1), .val (.int i2), .val (.int i3), .val (.int (3 : Int32)), .val (.int n), .val (.ref q), .val (.ref m1), .val (.ref m2)]) rfl k) ?_
    show Go _ _ _ _ _ _ _ _ (mkF m 88 #[.val (.int i0), .val (.int i1), .val (.int i2), .val (.int i3), .val (.int (3 : Int32)), .val (.int n), .val (.ref q), .val (.ref m1), .val (.ref m2)] [])
    refine Go.on (fun _ k => XS.aload X66.here hx rfl (hb hby at_88) rfl rfl k) ?_
    show Go _ _ _ _ _ _ _ _ (mkF m 90 #[.val (.int i0), .val (.int i1), .val (.int i2), .val (.int i3), .val (.int (3 : Int32)), .val (.int n), .val (.ref q), .val (.ref m1), .val (.ref m2)] [(.ref m1)])
    refine Go.on (fun _ k => XS.aload X66.here hx rfl (hb hby at_90) rfl rfl k) ?_
    show Go _ _ _ _ _ _ _ _ (mkF m 92 #[.val (.int i0), .val (.int i1), .val (.int i2), .val (.int i3), .val (.int (3 : Int32)), .val (.int n), .val (.ref q), .val (.ref m1), .val (.ref m2)] [(.ref m2), (.ref m1)])
    refine Go.on (fun _ k => Jvm.RoadKit.acmp (g := (mkF m 92 #[.val (.int i0), .val (.int i1), .val (.int i2), .val (.int i3), .val (.int (3 : Int32)), .val (.int n), .val (.ref q), .val (.ref m1), .val (.ref m2)] [(.ref m2), (.ref m1)])) X66 hx rfl rfl rfl (pc0 := 92) (pc' := 97) (same := false) rfl (hb hby at_92) rfl (decide_eq_false fun q => (ne_m1_m2) (Value.ref.inj q)) (by decide) (by decide) k) ?_
    show Go _ _ _ _ _ _ _ _ (mkF m 97 #[.val (.int i0), .val (.int i1), .val (.int i2), .val (.int i3), .val (.int (3 : Int32)), .val (.int n), .val (.ref q), .val (.ref m1), .val (.ref m2)] [])
    refine Go.on (fun _ k => XS.aload X66.here hx rfl (hb hby at_97) rfl rfl k) ?_
    show Go _ _ _ _ _ _ _ _ (mkF m 99 #[.val (.int i0), .val (.int i1), .val (.int i2), .val (.int i3), .val (.int (3 : Int32)), .val (.int n), .val (.ref q), .val (.ref m1), .val (.ref m2)] [(.ref m1)])
    obtain ⟨cl67, Ar67, -, S67, N67n, -, -⟩ := id V_m1
    refine Go.on (X66.arraylength hx (by rw [e66]; exact Ar67.1) (State.isArrayOf_alike hZ.alike Ar67.2.1) (g := (mkF m 99 #[.val (.int i0), .val (.int i1), .val (.int i2), .val (.int i3), .val (.int (3 : Int32)), .val (.int n), .val (.ref q), .val (.ref m1), .val (.ref m2)] [(.ref m1)])) rfl rfl (hb hby at_99)) ?_
    rw [len_of S67 N67n]
    show Go _ _ _ _ _ _ _ _ (mkF m 100 #[.val (.int i0), .val (.int i1), .val (.int i2), .val (.int i3), .val (.int (3 : Int32)), .val (.int n), .val (.ref q), .val (.ref m1), .val (.ref m2)] [(.int (3 : Int32))])
    refine Go.on (fun _ k => XS.iload X66.here hx rfl (hb hby at_100) rfl k) ?_
    show Go _ _ _ _ _ _ _ _ (mkF m 102 #[.val (.int i0), .val (.int i1), .val (.int i2), .val (.int i3), .val (.int (3 : Int32)), .val (.int n), .val (.ref q), .val (.ref m1), .val (.ref m2)] [(.int (3 : Int32)), (.int (3 : Int32))])
    have hc68 : (3 : Int32) = (3 : Int32) := by decide
    refine Go.on (fun _ k => XS.icmpNo X66.here hx rfl (hb hby at_102) rfl (teq hc68).2 k) ?_
    show Go _ _ _ _ _ _ _ _ (mkF m 105 #[.val (.int i0), .val (.int i1), .val (.int i2), .val (.int i3), .val (.int (3 : Int32)), .val (.int n), .val (.ref q), .val (.ref m1), .val (.ref m2)] [])
    refine Go.on (fun _ k => XS.aload X66.here hx rfl (hb hby at_105) rfl rfl k) ?_
    show Go _ _ _ _ _ _ _ _ (mkF m 107 #[.val (.int i0), .val (.int i1), .val (.int i2), .val (.int i3), .val (.int (3 : Int32)), .val (.int n), .val (.ref q), .val (.ref m1), .val (.ref m2)] [(.ref m2)])
    obtain ⟨cl69, Ar69, -, S69, N69n, -, -⟩ := id V_m2
    refine Go.on (X66.arraylength hx (by rw [e66]; exact Ar69.1) (State.isArrayOf_alike hZ.alike Ar69.2.1) (g := (mkF m 107 #[.val (.int i0), .val (.int i1), .val (.int i2), .val (.int i3), .val (.int (3 : Int32)), .val (.int n), .val (.ref q), .val (.ref m1), .val (.ref m2)] [(.ref m2)])) rfl rfl (hb hby at_107)) ?_
    rw [len_of S69 N69n]
    show Go _ _ _ _ _ _ _ _ (mkF m 108 #[.val (.int i0), .val (.int i1), .val (.int i2), .val (.int i3), .val (.int (3 : Int32)), .val (.int n), .val (.ref q), .val (.ref m1), .val (.ref m2)] [(.int (3 : Int32))])
    refine Go.on (fun _ k => XS.iload X66.here hx rfl (hb hby at_108) rfl k) ?_
    show Go _ _ _ _ _ _ _ _ (mkF m 110 #[.val (.int i0), .val (.int i1), .val (.int i2), .val (.int i3), .val (.int (3 : Int32)), .val (.int n), .val (.ref q), .val (.ref m1), .val (.ref m2)] [(.int (3 : Int32)), (.int (3 : Int32))])
    have hc70 : (3 : Int32) = (3 : Int32) := by decide
    refine Go.on (fun _ k => XS.icmpYes X66.here hx rfl (pc0 := 110) (pc' := 115) rfl (hb hby at_110) rfl (teq hc70).1 (by decide) (by decide) k) ?_
    show Go _ _ _ _ _ _ _ _ (mkF m 115 #[.val (.int i0), .val (.int i1), .val (.int i2), .val (.int i3), .val (.int (3 : Int32)), .val (.int n), .val (.ref q), .val (.ref m1), .val (.ref m2)] [])
    refine Go.on (fun _ k => XS.aload X66.here hx rfl (hb hby at_115) rfl rfl k) ?_
    show Go _ _ _ _ _ _ _ _ (mkF m 117 #[.val (.int i0), .val (.int i1), .val (.int i2), .val (.int i3), .val (.int (3 : Int32)), .val (.int n), .val (.ref q), .val (.ref m1), .val (.ref m2)] [(.ref m1)])
    refine Go.on (fun _ k => XS.aload X66.here hx rfl (hb hby at_117) rfl rfl k) ?_
    show Go _ _ _ _ _ _ _ _ (mkF m 119 #[.val (.int i0), .val (.int i1), .val (.int i2), .val (.int i3), .val (.int (3 : Int32)), .val (.int n), .val (.ref q), .val (.ref m1), .val (.ref m2)] [(.ref m2), (.ref m1)])
    refine Go.on (fun _ k => XS.iconst X66.here hx rfl (hb hby at_119) k) ?_
    show Go _ _ _ _ _ _ _ _ (mkF m 120 #[.val (.int i0), .val (.int i1), .val (.int i2), .val (.int i3), .val (.int (3 : Int32)), .val (.int n), .val (.ref q), .val (.ref m1), .val (.ref m2)] [(.int (0 : Int32)), (.ref m2), (.ref m1)])
    refine Go.on (fun _ k => XS.iload X66.here hx rfl (hb hby at_120) rfl k) ?_
    show Go _ _ _ _ _ _ _ _ (mkF m 122 #[.val (.int i0), .val (.int i1), .val (.int i2), .val (.int i3), .val (.int (3 : Int32)), .val (.int n), .val (.ref q), .val (.ref m1), .val (.ref m2)] [(.int (3 : Int32)), (.int (0 : Int32)), (.ref m2), (.ref m1)])
    refine Go.on (fun _ k => XS.iload X66.here hx rfl (hb hby at_122) rfl k) ?_
    show Go _ _ _ _ _ _ _ _ (mkF m 124 #[.val (.int i0), .val (.int i1), .val (.int i2), .val (.int i3), .val (.int (3 : Int32)), .val (.int n), .val (.ref q), .val (.ref m1), .val (.ref m2)] [(.int n), (.int (3 : Int32)), (.int (0 : Int32)), (.ref m2), (.ref m1)])
    refine Go.on (fun _ k => XS.iloadN X66.here hx rfl (hb hby at_124) rfl k) ?_
    show Go _ _ _ _ _ _ _ _ (mkF m 125 #[.val (.int i0), .val (.int i1), .val (.int i2), .val (.int i3), .val (.int (3 : Int32)), .val (.int n), .val (.ref q), .val (.ref m1), .val (.ref m2)] [(.int i1), (.int n), (.int (3 : Int32)), (.int (0 : Int32)), (.ref m2), (.ref m1)])
    refine Go.on (fun _ k => XS.iloadN X66.here hx rfl (hb hby at_125) rfl k) ?_
    show Go _ _ _ _ _ _ _ _ (mkF m 126 #[.val (.int i0), .val (.int i1), .val (.int i2), .val (.int i3), .val (.int (3 : Int32)), .val (.int n), .val (.ref q), .val (.ref m1), .val (.ref m2)] [(.int i2), (.int i1), (.int n), (.int (3 : Int32)), (.int (0 : Int32)), (.ref m2), (.ref m1)])
    refine Go.on (fun _ k => XS.iloadN X66.here hx rfl (hb hby at_126) rfl k) ?_
    show Go _ _ _ _ _ _ _ _ (mkF m 127 #[.val (.int i0), .val (.int i1), .val (.int i2), .val (.int i3), .val (.int (3 : Int32)), .val (.int n), .val (.ref q), .val (.ref m1), .val (.ref m2)] [(.int i3), (.int i2), (.int i1), (.int n), (.int (3 : Int32)), (.int (0 : Int32)), (.ref m2), (.ref m1)])
    obtain ⟨_, _, ⟨T71, L71, k71, n71⟩, -, X71, ⟨Lc71, hQ71, l71, y71, z71⟩, st71⟩ := Jvm.LawKit.callS X66 hx (y := (⟨"com/example/d2rank/d2rank/rerank/CentroidMeanPinLaw", "comp", "([D[DIIIIII)Z"⟩ : MethodName)) hown (mvT hZ (hw _ (List.mem_of_getElem? (i := 35) rfl))) (mvT hZ (hw _ (List.mem_of_getElem? (i := 36) rfl))) (mvT hZ (hw _ (List.mem_of_getElem? (i := 14) rfl))) (mvT hZ (hw _ (List.mem_of_getElem? (i := 37) rfl))) (by decide) (backOf (W := 0) (cp_3 l Z aw hw [] m1 m2 (0 : Int32) n i1 i2 i3 k_m1 (FP.ddiv t0 (FP.i2d ct)) (FP.ddiv t1 (FP.i2d ct)) (FP.ddiv t2 (FP.i2d ct)) k_m2 (FP.ddiv t0 (FP.i2d ct)) (FP.ddiv t1 (FP.i2d ct)) (FP.ddiv t2 (FP.i2d ct)) h66 n0 ZZ V_m1 V_m2 (by decide) (own_n0 hn)) hZ (hw _ (List.mem_of_getElem? (i := 37) rfl)) (hw _ (List.mem_of_getElem? (i := 14) rfl)) (by decide) (by decide)) (g := (mkF m 127 #[.val (.int i0), .val (.int i1), .val (.int i2), .val (.int i3), .val (.int (3 : Int32)), .val (.int n), .val (.ref q), .val (.ref m1), .val (.ref m2)] [(.int i3), (.int i2), (.int i1), (.int n), (.int (3 : Int32)), (.int (0 : Int32)), (.ref m2), (.ref m1)])) rfl (by rw [hml]; rfl) (argsL := [(.ref m1), (.ref m2), (.int (0 : Int32)), (.int (3 : Int32)), (.int n), (.int i1), (.int i2), (.int i3)]) (rest := []) (lenOf pd_7 rfl) rfl (by show 2 * 0 + _ ≤ _; exact Nat.le_of_eq rfl) (hb hby at_127) (fun _ _ => ⟨rfl, e66, (by decide : 7 + 0 ≤ _), (by decide : 20 + 0 ≤ _)⟩)
    dsimp only [Pt.U, Pt.locs, Pt.cells, Pt.slots] at X71 l71 y71 z71 st71 hQ71
    subst l71 y71 z71
    obtain ⟨rfl, N71q, e71⟩ := hQ71
    have N71 := Fr.app N66 N71q
    refine Go.on st71 ?_
    show Go _ _ _ _ _ _ _ _ (mkF m 130 #[.val (.int i0), .val (.int i1), .val (.int i2), .val (.int i3), .val (.int (3 : Int32)), .val (.int n), .val (.ref q), .val (.ref m1), .val (.ref m2)] [(.int (compV (if (0 : Int32) = (0 : Int32) then (FP.ddiv t0 (FP.i2d ct)) else (if (0 : Int32) = (1 : Int32) then (FP.ddiv t1 (FP.i2d ct)) else (FP.ddiv t2 (FP.i2d ct)))) (if (0 : Int32) = (0 : Int32) then (FP.ddiv t0 (FP.i2d ct)) else (if (0 : Int32) = (1 : Int32) then (FP.ddiv t1 (FP.i2d ct)) else (FP.ddiv t2 (FP.i2d ct)))) (0 : Int32) (3 : Int32) n i1 i2 i3))])
    have hc72 : ¬ ((compV (if (0 : Int32) = (0 : Int32) then (FP.ddiv t0 (FP.i2d ct)) else (if (0 : Int32) = (1 : Int32) then (FP.ddiv t1 (FP.i2d ct)) else (FP.ddiv t2 (FP.i2d ct)))) (if (0 : Int32) = (0 : Int32) then (FP.ddiv t0 (FP.i2d ct)) else (if (0 : Int32) = (1 : Int32) then (FP.ddiv t1 (FP.i2d ct)) else (FP.ddiv t2 (FP.i2d ct)))) (0 : Int32) (3 : Int32) n i1 i2 i3) = (0 : Int32)) := own_cmpC hn hct hT0
    refine Go.on (fun _ k => XS.ifNo X71.here hx rfl (hb hby at_130) rfl ((if0 _ _).trans (feq hc72).1) k) ?_
    show Go _ _ _ _ _ _ _ _ (mkF m 133 #[.val (.int i0), .val (.int i1), .val (.int i2), .val (.int i3), .val (.int (3 : Int32)), .val (.int n), .val (.ref q), .val (.ref m1), .val (.ref m2)] [])
    refine Go.on (fun _ k => XS.aload X71.here hx rfl (hb hby at_133) rfl rfl k) ?_
    show Go _ _ _ _ _ _ _ _ (mkF m 135 #[.val (.int i0), .val (.int i1), .val (.int i2), .val (.int i3), .val (.int (3 : Int32)), .val (.int n), .val (.ref q), .val (.ref m1), .val (.ref m2)] [(.ref m1)])
    refine Go.on (fun _ k => XS.aload X71.here hx rfl (hb hby at_135) rfl rfl k) ?_
    show Go _ _ _ _ _ _ _ _ (mkF m 137 #[.val (.int i0), .val (.int i1), .val (.int i2), .val (.int i3), .val (.int (3 : Int32)), .val (.int n), .val (.ref q), .val (.ref m1), .val (.ref m2)] [(.ref m2), (.ref m1)])
    refine Go.on (fun _ k => XS.iconst X71.here hx rfl (hb hby at_137) k) ?_
    show Go _ _ _ _ _ _ _ _ (mkF m 138 #[.val (.int i0), .val (.int i1), .val (.int i2), .val (.int i3), .val (.int (3 : Int32)), .val (.int n), .val (.ref q), .val (.ref m1), .val (.ref m2)] [(.int (1 : Int32)), (.ref m2), (.ref m1)])
    refine Go.on (fun _ k => XS.iload X71.here hx rfl (hb hby at_138) rfl k) ?_
    show Go _ _ _ _ _ _ _ _ (mkF m 140 #[.val (.int i0), .val (.int i1), .val (.int i2), .val (.int i3), .val (.int (3 : Int32)), .val (.int n), .val (.ref q), .val (.ref m1), .val (.ref m2)] [(.int (3 : Int32)), (.int (1 : Int32)), (.ref m2), (.ref m1)])
    refine Go.on (fun _ k => XS.iload X71.here hx rfl (hb hby at_140) rfl k) ?_
    show Go _ _ _ _ _ _ _ _ (mkF m 142 #[.val (.int i0), .val (.int i1), .val (.int i2), .val (.int i3), .val (.int (3 : Int32)), .val (.int n), .val (.ref q), .val (.ref m1), .val (.ref m2)] [(.int n), (.int (3 : Int32)), (.int (1 : Int32)), (.ref m2), (.ref m1)])
    refine Go.on (fun _ k => XS.iloadN X71.here hx rfl (hb hby at_142) rfl k) ?_
    show Go _ _ _ _ _ _ _ _ (mkF m 143 #[.val (.int i0), .val (.int i1), .val (.int i2), .val (.int i3), .val (.int (3 : Int32)), .val (.int n), .val (.ref q), .val (.ref m1), .val (.ref m2)] [(.int i1), (.int n), (.int (3 : Int32)), (.int (1 : Int32)), (.ref m2), (.ref m1)])
    refine Go.on (fun _ k => XS.iloadN X71.here hx rfl (hb hby at_143) rfl k) ?_
    show Go _ _ _ _ _ _ _ _ (mkF m 144 #[.val (.int i0), .val (.int i1), .val (.int i2), .val (.int i3), .val (.int (3 : Int32)), .val (.int n), .val (.ref q), .val (.ref m1), .val (.ref m2)] [(.int i2), (.int i1), (.int n), (.int (3 : Int32)), (.int (1 : Int32)), (.ref m2), (.ref m1)])
    refine Go.on (fun _ k => XS.iloadN X71.here hx rfl (hb hby at_144) rfl k) ?_
    show Go _ _ _ _ _ _ _ _ (mkF m 145 #[.val (.int i0), .val (.int i1), .val (.int i2), .val (.int i3), .val (.int (3 : Int32)), .val (.int n), .val (.ref q), .val (.ref m1), .val (.ref m2)] [(.int i3), (.int i2), (.int i1), (.int n), (.int (3 : Int32)), (.int (1 : Int32)), (.ref m2), (.ref m1)])
    obtain ⟨_, _, ⟨T73, L73, k73, n73⟩, -, X73, ⟨Lc73, hQ73, l73, y73, z73⟩, st73⟩ := Jvm.LawKit.callS X71 hx (y := (⟨"com/example/d2rank/d2rank/rerank/CentroidMeanPinLaw", "comp", "([D[DIIIIII)Z"⟩ : MethodName)) hown (mvT hZ (hw _ (List.mem_of_getElem? (i := 35) rfl))) (mvT hZ (hw _ (List.mem_of_getElem? (i := 36) rfl))) (mvT hZ (hw _ (List.mem_of_getElem? (i := 14) rfl))) (mvT hZ (hw _ (List.mem_of_getElem? (i := 37) rfl))) (by decide) (backOf (W := 0) (cp_3 l Z aw hw [] m1 m2 (1 : Int32) n i1 i2 i3 k_m1 (FP.ddiv t0 (FP.i2d ct)) (FP.ddiv t1 (FP.i2d ct)) (FP.ddiv t2 (FP.i2d ct)) k_m2 (FP.ddiv t0 (FP.i2d ct)) (FP.ddiv t1 (FP.i2d ct)) (FP.ddiv t2 (FP.i2d ct)) h66 n0 ZZ V_m1 V_m2 (by decide) (own_n0 hn)) hZ (hw _ (List.mem_of_getElem? (i := 37) rfl)) (hw _ (List.mem_of_getElem? (i := 14) rfl)) (by decide) (by decide)) (g := (mkF m 145 #[.val (.int i0), .val (.int i1), .val (.int i2), .val (.int i3), .val (.int (3 : Int32)), .val (.int n), .val (.ref q), .val (.ref m1), .val (.ref m2)] [(.int i3), (.int i2), (.int i1), (.int n), (.int (3 : Int32)), (.int (1 : Int32)), (.ref m2), (.ref m1)])) rfl (by rw [hml]; rfl) (argsL := [(.ref m1), (.ref m2), (.int (1 : Int32)), (.int (3 : Int32)), (.int n), (.int i1), (.int i2), (.int i3)]) (rest := []) (lenOf pd_7 rfl) rfl (by show 2 * 0 + _ ≤ _; exact Nat.le_of_eq rfl) (hb hby at_145) (fun _ _ => ⟨rfl, e71, (by decide : 7 + 0 ≤ _), (by decide : 20 + 0 ≤ _)⟩)
    dsimp only [Pt.U, Pt.locs, Pt.cells, Pt.slots] at X73 l73 y73 z73 st73 hQ73
    subst l73 y73 z73
    obtain ⟨rfl, N73q, e73⟩ := hQ73
    have N73 := Fr.app N71 N73q
    refine Go.on st73 ?_
    show Go _ _ _ _ _ _ _ _ (mkF m 148 #[.val (.int i0), .val (.int i1), .val (.int i2), .val (.int i3), .val (.int (3 : Int32)), .val (.int n), .val (.ref q), .val (.ref m1), .val (.ref m2)] [(.int (compV (if (1 : Int32) = (0 : Int32) then (FP.ddiv t0 (FP.i2d ct)) else (if (1 : Int32) = (1 : Int32) then (FP.ddiv t1 (FP.i2d ct)) else (FP.ddiv t2 (FP.i2d ct)))) (if (1 : Int32) = (0 : Int32) then (FP.ddiv t0 (FP.i2d ct)) else (if (1 : Int32) = (1 : Int32) then (FP.ddiv t1 (FP.i2d ct)) else (FP.ddiv t2 (FP.i2d ct)))) (1 : Int32) (3 : Int32) n i1 i2 i3))])
    have hc74 : ¬ ((compV (if (1 : Int32) = (0 : Int32) then (FP.ddiv t0 (FP.i2d ct)) else (if (1 : Int32) = (1 : Int32) then (FP.ddiv t1 (FP.i2d ct)) else (FP.ddiv t2 (FP.i2d ct)))) (if (1 : Int32) = (0 : Int32) then (FP.ddiv t0 (FP.i2d ct)) else (if (1 : Int32) = (1 : Int32) then (FP.ddiv t1 (FP.i2d ct)) else (FP.ddiv t2 (FP.i2d ct)))) (1 : Int32) (3 : Int32) n i1 i2 i3) = (0 : Int32)) := own_cmpC hn hct hT1
    refine Go.on (fun _ k => XS.ifNo X73.here hx rfl (hb hby at_148) rfl ((if0 _ _).trans (feq hc74).1) k) ?_
    show Go _ _ _ _ _ _ _ _ (mkF m 151 #[.val (.int i0), .val (.int i1), .val (.int i2), .val (.int i3), .val (.int (3 : Int32)), .val (.int n), .val (.ref q), .val (.ref m1), .val (.ref m2)] [])
    refine Go.on (fun _ k => XS.aload X73.here hx rfl (hb hby at_151) rfl rfl k) ?_
    show Go _ _ _ _ _ _ _ _ (mkF m 153 #[.val (.int i0), .val (.int i1), .val (.int i2), .val (.int i3), .val (.int (3 : Int32)), .val (.int n), .val (.ref q), .val (.ref m1), .val (.ref m2)] [(.ref m1)])
    refine Go.on (fun _ k => XS.aload X73.here hx rfl (hb hby at_153) rfl rfl k) ?_
    show Go _ _ _ _ _ _ _ _ (mkF m 155 #[.val (.int i0), .val (.int i1), .val (.int i2), .val (.int i3), .val (.int (3 : Int32)), .val (.int n), .val (.ref q), .val (.ref m1), .val (.ref m2)] [(.ref m2), (.ref m1)])
    refine Go.on (fun _ k => XS.iconst X73.here hx rfl (hb hby at_155) k) ?_
    show Go _ _ _ _ _ _ _ _ (mkF m 156 #[.val (.int i0), .val (.int i1), .val (.int i2), .val (.int i3), .val (.int (3 : Int32)), .val (.int n), .val (.ref q), .val (.ref m1), .val (.ref m2)] [(.int (2 : Int32)), (.ref m2), (.ref m1)])
    refine Go.on (fun _ k => XS.iload X73.here hx rfl (hb hby at_156) rfl k) ?_
    show Go _ _ _ _ _ _ _ _ (mkF m 158 #[.val (.int i0), .val (.int i1), .val (.int i2), .val (.int i3), .val (.int (3 : Int32)), .val (.int n), .val (.ref q), .val (.ref m1), .val (.ref m2)] [(.int (3 : Int32)), (.int (2 : Int32)), (.ref m2), (.ref m1)])
    refine Go.on (fun _ k => XS.iload X73.here hx rfl (hb hby at_158) rfl k) ?_
    show Go _ _ _ _ _ _ _ _ (mkF m 160 #[.val (.int i0), .val (.int i1), .val (.int i2), .val (.int i3), .val (.int (3 : Int32)), .val (.int n), .val (.ref q), .val (.ref m1), .val (.ref m2)] [(.int n), (.int (3 : Int32)), (.int (2 : Int32)), (.ref m2), (.ref m1)])
    refine Go.on (fun _ k => XS.iloadN X73.here hx rfl (hb hby at_160) rfl k) ?_
    show Go _ _ _ _ _ _ _ _ (mkF m 161 #[.val (.int i0), .val (.int i1), .val (.int i2), .val (.int i3), .val (.int (3 : Int32)), .val (.int n), .val (.ref q), .val (.ref m1), .val (.ref m2)] [(.int i1), (.int n), (.int (3 : Int32)), (.int (2 : Int32)), (.ref m2), (.ref m1)])
    refine Go.on (fun _ k => XS.iloadN X73.here hx rfl (hb hby at_161) rfl k) ?_
    show Go _ _ _ _ _ _ _ _ (mkF m 162 #[.val (.int i0), .val (.int i1), .val (.int i2), .val (.int i3), .val (.int (3 : Int32)), .val (.int n), .val (.ref q), .val (.ref m1), .val (.ref m2)] [(.int i2), (.int i1), (.int n), (.int (3 : Int32)), (.int (2 : Int32)), (.ref m2), (.ref m1)])
    refine Go.on (fun _ k => XS.iloadN X73.here hx rfl (hb hby at_162) rfl k) ?_
    show Go _ _ _ _ _ _ _ _ (mkF m 163 #[.val (.int i0), .val (.int i1), .val (.int i2), .val (.int i3), .val (.int (3 : Int32)), .val (.int n), .val (.ref q), .val (.ref m1), .val (.ref m2)] [(.int i3), (.int i2), (.int i1), (.int n), (.int (3 : Int32)), (.int (2 : Int32)), (.ref m2), (.ref m1)])
    obtain ⟨_, _, ⟨T75, L75, k75, n75⟩, -, X75, ⟨Lc75, hQ75, l75, y75, z75⟩, st75⟩ := Jvm.LawKit.callS X73 hx (y := (⟨"com/example/d2rank/d2rank/rerank/CentroidMeanPinLaw", "comp", "([D[DIIIIII)Z"⟩ : MethodName)) hown (mvT hZ (hw _ (List.mem_of_getElem? (i := 35) rfl))) (mvT hZ (hw _ (List.mem_of_getElem? (i := 36) rfl))) (mvT hZ (hw _ (List.mem_of_getElem? (i := 14) rfl))) (mvT hZ (hw _ (List.mem_of_getElem? (i := 37) rfl))) (by decide) (backOf (W := 0) (cp_3 l Z aw hw [] m1 m2 (2 : Int32) n i1 i2 i3 k_m1 (FP.ddiv t0 (FP.i2d ct)) (FP.ddiv t1 (FP.i2d ct)) (FP.ddiv t2 (FP.i2d ct)) k_m2 (FP.ddiv t0 (FP.i2d ct)) (FP.ddiv t1 (FP.i2d ct)) (FP.ddiv t2 (FP.i2d ct)) h66 n0 ZZ V_m1 V_m2 (by decide) (own_n0 hn)) hZ (hw _ (List.mem_of_getElem? (i := 37) rfl)) (hw _ (List.mem_of_getElem? (i := 14) rfl)) (by decide) (by decide)) (g := (mkF m 163 #[.val (.int i0), .val (.int i1), .val (.int i2), .val (.int i3), .val (.int (3 : Int32)), .val (.int n), .val (.ref q), .val (.ref m1), .val (.ref m2)] [(.int i3), (.int i2), (.int i1), (.int n), (.int (3 : Int32)), (.int (2 : Int32)), (.ref m2), (.ref m1)])) rfl (by rw [hml]; rfl) (argsL := [(.ref m1), (.ref m2), (.int (2 : Int32)), (.int (3 : Int32)), (.int n), (.int i1), (.int i2), (.int i3)]) (rest := []) (lenOf pd_7 rfl) rfl (by show 2 * 0 + _ ≤ _; exact Nat.le_of_eq rfl) (hb hby at_163) (fun _ _ => ⟨rfl, e73, (by decide : 7 + 0 ≤ _), (by decide : 20 + 0 ≤ _)⟩)
    dsimp only [Pt.U, Pt.locs, Pt.cells, Pt.slots] at X75 l75 y75 z75 st75 hQ75
    subst l75 y75 z75
    obtain ⟨rfl, N75q, e75⟩ := hQ75
    have N75 := Fr.app N73 N75q
    refine Go.on st75 ?_
    show Go _ _ _ _ _ _ _ _ (mkF m 166 #[.val (.int i0), .val (.int i1), .val (.int i2), .val (.int i3), .val (.int (3 : Int32)), .val (.int n), .val (.ref q), .val (.ref m1), .val (.ref m2)] [(.int (compV (if (2 : Int32) = (0 : Int32) then (FP.ddiv t0 (FP.i2d ct)) else (if (2 : Int32) = (1 : Int32) then (FP.ddiv t1 (FP.i2d ct)) else (FP.ddiv t2 (FP.i2d ct)))) (if (2 : Int32) = (0 : Int32) then (FP.ddiv t0 (FP.i2d ct)) else (if (2 : Int32) = (1 : Int32) then (FP.ddiv t1 (FP.i2d ct)) else (FP.ddiv t2 (FP.i2d ct)))) (2 : Int32) (3 : Int32) n i1 i2 i3))])
    have hc76 : ¬ ((compV (if (2 : Int32) = (0 : Int32) then (FP.ddiv t0 (FP.i2d ct)) else (if (2 : Int32) = (1 : Int32) then (FP.ddiv t1 (FP.i2d ct)) else (FP.ddiv t2 (FP.i2d ct)))) (if (2 : Int32) = (0 : Int32) then (FP.ddiv t0 (FP.i2d ct)) else (if (2 : Int32) = (1 : Int32) then (FP.ddiv t1 (FP.i2d ct)) else (FP.ddiv t2 (FP.i2d ct)))) (2 : Int32) (3 : Int32) n i1 i2 i3) = (0 : Int32)) := own_cmpC hn hct hT2
    refine Go.on (fun _ k => XS.ifNo X75.here hx rfl (hb hby at_166) rfl ((if0 _ _).trans (feq hc76).1) k) ?_
    show Go _ _ _ _ _ _ _ _ (mkF m 169 #[.val (.int i0), .val (.int i1), .val (.int i2), .val (.int i3), .val (.int (3 : Int32)), .val (.int n), .val (.ref q), .val (.ref m1), .val (.ref m2)] [])
    refine Go.on (fun _ k => XS.aload X75.here hx rfl (hb hby at_169) rfl rfl k) ?_
    show Go _ _ _ _ _ _ _ _ (mkF m 171 #[.val (.int i0), .val (.int i1), .val (.int i2), .val (.int i3), .val (.int (3 : Int32)), .val (.int n), .val (.ref q), .val (.ref m1), .val (.ref m2)] [(.ref m1)])
    refine Go.on (fun _ k => XS.aload X75.here hx rfl (hb hby at_171) rfl rfl k) ?_
    show Go _ _ _ _ _ _ _ _ (mkF m 173 #[.val (.int i0), .val (.int i1), .val (.int i2), .val (.int i3), .val (.int (3 : Int32)), .val (.int n), .val (.ref q), .val (.ref m1), .val (.ref m2)] [(.ref m2), (.ref m1)])
    refine Go.on (fun _ k => XS.iconst X75.here hx rfl (hb hby at_173) k) ?_
    show Go _ _ _ _ _ _ _ _ (mkF m 174 #[.val (.int i0), .val (.int i1), .val (.int i2), .val (.int i3), .val (.int (3 : Int32)), .val (.int n), .val (.ref q), .val (.ref m1), .val (.ref m2)] [(.int (3 : Int32)), (.ref m2), (.ref m1)])
    refine Go.on (fun _ k => XS.iload X75.here hx rfl (hb hby at_174) rfl k) ?_
    show Go _ _ _ _ _ _ _ _ (mkF m 176 #[.val (.int i0), .val (.int i1), .val (.int i2), .val (.int i3), .val (.int (3 : Int32)), .val (.int n), .val (.ref q), .val (.ref m1), .val (.ref m2)] [(.int (3 : Int32)), (.int (3 : Int32)), (.ref m2), (.ref m1)])
    refine Go.on (fun _ k => XS.iload X75.here hx rfl (hb hby at_176) rfl k) ?_
    show Go _ _ _ _ _ _ _ _ (mkF m 178 #[.val (.int i0), .val (.int i1), .val (.int i2), .val (.int i3), .val (.int (3 : Int32)), .val (.int n), .val (.ref q), .val (.ref m1), .val (.ref m2)] [(.int n), (.int (3 : Int32)), (.int (3 : Int32)), (.ref m2), (.ref m1)])
    refine Go.on (fun _ k => XS.iloadN X75.here hx rfl (hb hby at_178) rfl k) ?_
    show Go _ _ _ _ _ _ _ _ (mkF m 179 #[.val (.int i0), .val (.int i1), .val (.int i2), .val (.int i3), .val (.int (3 : Int32)), .val (.int n), .val (.ref q), .val (.ref m1), .val (.ref m2)] [(.int i1), (.int n), (.int (3 : Int32)), (.int (3 : Int32)), (.ref m2), (.ref m1)])
    refine Go.on (fun _ k => XS.iloadN X75.here hx rfl (hb hby at_179) rfl k) ?_
    show Go _ _ _ _ _ _ _ _ (mkF m 180 #[.val (.int i0), .val (.int i1), .val (.int i2), .val (.int i3), .val (.int (3 : Int32)), .val (.int n), .val (.ref q), .val (.ref m1), .val (.ref m2)] [(.int i2), (.int i1), (.int n), (.int (3 : Int32)), (.int (3 : Int32)), (.ref m2), (.ref m1)])
    refine Go.on (fun _ k => XS.iloadN X75.here hx rfl (hb hby at_180) rfl k) ?_
    show Go _ _ _ _ _ _ _ _ (mkF m 181 #[.val (.int i0), .val (.int i1), .val (.int i2), .val (.int i3), .val (.int (3 : Int32)), .val (.int n), .val (.ref q), .val (.ref m1), .val (.ref m2)] [(.int i3), (.int i2), (.int i1), (.int n), (.int (3 : Int32)), (.int (3 : Int32)), (.ref m2), (.ref m1)])
    obtain ⟨_, _, ⟨T77, L77, k77, n77⟩, -, X77, ⟨Lc77, hQ77, l77, y77, z77⟩, st77⟩ := Jvm.LawKit.callS X75 hx (y := (⟨"com/example/d2rank/d2rank/rerank/CentroidMeanPinLaw", "comp", "([D[DIIIIII)Z"⟩ : MethodName)) hown (mvT hZ (hw _ (List.mem_of_getElem? (i := 35) rfl))) (mvT hZ (hw _ (List.mem_of_getElem? (i := 36) rfl))) (mvT hZ (hw _ (List.mem_of_getElem? (i := 14) rfl))) (mvT hZ (hw _ (List.mem_of_getElem? (i := 37) rfl))) (by decide) (backOf (W := 0) (cp_h l Z aw hw [] m1 m2 (3 : Int32) (3 : Int32) n i1 i2 i3  h66 n0 ZZ (by decide)) hZ (hw _ (List.mem_of_getElem? (i := 37) rfl)) (hw _ (List.mem_of_getElem? (i := 14) rfl)) (by decide) (by decide)) (g := (mkF m 181 #[.val (.int i0), .val (.int i1), .val (.int i2), .val (.int i3), .val (.int (3 : Int32)), .val (.int n), .val (.ref q), .val (.ref m1), .val (.ref m2)] [(.int i3), (.int i2), (.int i1), (.int n), (.int (3 : Int32)), (.int (3 : Int32)), (.ref m2), (.ref m1)])) rfl (by rw [hml]; rfl) (argsL := [(.ref m1), (.ref m2), (.int (3 : Int32)), (.int (3 : Int32)), (.int n), (.int i1), (.int i2), (.int i3)]) (rest := []) (lenOf pd_7 rfl) rfl (by show 2 * 0 + _ ≤ _; exact Nat.le_of_eq rfl) (hb hby at_181) (fun _ _ => ⟨rfl, e75, (by decide : 7 + 0 ≤ _), (by decide : 20 + 0 ≤ _)⟩)
    dsimp only [Pt.U, Pt.locs, Pt.cells, Pt.slots] at X77 l77 y77 z77 st77 hQ77
    subst l77 y77 z77
    obtain ⟨rfl, N77q, e77⟩ := hQ77
    have N77 := Fr.app N75 N77q
    refine Go.on st77 ?_
    show Go _ _ _ _ _ _ _ _ (mkF m 184 #[.val (.int i0), .val (.int i1), .val (.int i2), .val (.int i3), .val (.int (3 : Int32)), .val (.int n), .val (.ref q), .val (.ref m1), .val (.ref m2)] [(.int (1 : Int32))])
    have hc78 : ¬ ((1 : Int32) = (0 : Int32)) := by decide
    refine Go.on (fun _ k => XS.ifNo X77.here hx rfl (hb hby at_184) rfl ((if0 _ _).trans (feq hc78).1) k) ?_
    show Go _ _ _ _ _ _ _ _ (mkF m 187 #[.val (.int i0), .val (.int i1), .val (.int i2), .val (.int i3), .val (.int (3 : Int32)), .val (.int n), .val (.ref q), .val (.ref m1), .val (.ref m2)] [])
    refine Go.on (fun _ k => XS.iconst X77.here hx rfl (hb hby at_187) k) ?_
    show Go _ _ _ _ _ _ _ _ (mkF m 188 #[.val (.int i0), .val (.int i1), .val (.int i2), .val (.int i3), .val (.int (3 : Int32)), .val (.int n), .val (.ref q), .val (.ref m1), .val (.ref m2)] [(.int (1 : Int32))])
    refine Go.on (fun _ k => XS.goto X77.here hx rfl (pc0 := 188) (pc' := 192) rfl (hb hby at_188) (by decide) (by decide) k) ?_
    show Go _ _ _ _ _ _ _ _ (mkF m 192 #[.val (.int i0), .val (.int i1), .val (.int i2), .val (.int i3), .val (.int (3 : Int32)), .val (.int n), .val (.ref q), .val (.ref m1), .val (.ref m2)] [(.int (1 : Int32))])
    refine Go.retN X77 hx (t := .boolean) Bd.returns (by simp) (hb hby at_192) ?_ (by rw [hK1]; decide) (by rw [hK2]; decide)
    rw [e77, ← hQQ]
    exact ⟨rfl, N77⟩
  · -- length 4
    subst hl
    show Go _ _ _ _ _ _ _ _ (mkF m 18 #[.val (.int i0), .val (.int i1), .val (.int i2), .val (.int i3), .val (.int (4 : Int32)), .val (.int n), .unset, .unset, .unset] [])
    obtain ⟨T79, h79, X79, e79, E79, A79, D79, -, st79⟩ := newO X0 hx hZ hown (hw _ (List.mem_of_getElem? (i := 0) rfl)) (hw _ (List.mem_of_getElem? (i := 1) rfl)) (hw _ (List.mem_of_getElem? (i := 2) rfl)) e0 (g := (mkF m 18 #[.val (.int i0), .val (.int i1), .val (.int i2), .val (.int i3), .val (.int (4 : Int32)), .val (.int n), .unset, .unset, .unset] [])) rfl (hb hby at_18) (by decide) (by decide)
    obtain ⟨q, g79⟩ : ∃ z, z = h0.size := ⟨_, rfl⟩
    have g_q : n0 ≤ q := Nat.le_trans ZZ (Nat.le_of_eq g79.symm)
    rw [← g79] at A79 D79 st79
    replace ZZ := Nat.le_trans ZZ E79.1
    have E_q := A79
    have F_sum_q : Fld Z h79 q "com/example/d2rank/d2rank/rerank/Centroid" "sum" "[D" .null := D79 (Or.inr (hw _ (List.mem_of_getElem? (i := 11) rfl))) (ty := (.array .double)) (by decide)
    have F_count_q : Fld Z h79 q "com/example/d2rank/d2rank/rerank/Centroid" "count" "I" (.int (0 : Int32)) := D79 (Or.inl (hw _ (List.mem_of_getElem? (i := 29) rfl))) (ty := .int) (by decide)
    refine Go.on st79 ?_
    show Go _ _ _ _ _ _ _ _ (mkF m 21 #[.val (.int i0), .val (.int i1), .val (.int i2), .val (.int i3), .val (.int (4 : Int32)), .val (.int n), .unset, .unset, .unset] [(.ref q)])
    refine Go.on (fun _ k => XS.dup X79.here hx rfl (hb hby at_21) rfl rfl k) ?_
    show Go _ _ _ _ _ _ _ _ (mkF m 22 #[.val (.int i0), .val (.int i1), .val (.int i2), .val (.int i3), .val (.int (4 : Int32)), .val (.int n), .unset, .unset, .unset] [(.ref q), (.ref q)])
    refine Go.on (fun _ k => XS.iload X79.here hx rfl (hb hby at_22) rfl k) ?_
    show Go _ _ _ _ _ _ _ _ (mkF m 24 #[.val (.int i0), .val (.int i1), .val (.int i2), .val (.int i3), .val (.int (4 : Int32)), .val (.int n), .unset, .unset, .unset] [(.int (4 : Int32)), (.ref q), (.ref q)])
    obtain ⟨_, _, ⟨T80, L80, k80, n80⟩, -, X80, ⟨Lc80, hQ80, l80, y80, z80⟩, st80⟩ := X79.specialBack hx (y := (⟨"com/example/d2rank/d2rank/rerank/Centroid", "<init>", "(I)V"⟩ : MethodName)) rfl hown (mvT hZ (hw _ (List.mem_of_getElem? (i := 3) rfl))) (mvT hZ (hw _ (List.mem_of_getElem? (i := 4) rfl))) (mvT hZ (hw _ (List.mem_of_getElem? (i := 5) rfl))) (by decide) (backOf (W := 1) (ci_4 l Z aw hw [] q .null h79 n0 ZZ E_q F_sum_q F_count_q g_q) hZ (hw _ (List.mem_of_getElem? (i := 5) rfl)) (hw _ (List.mem_of_getElem? (i := 2) rfl)) (by decide) (by decide)) (g := (mkF m 24 #[.val (.int i0), .val (.int i1), .val (.int i2), .val (.int i3), .val (.int (4 : Int32)), .val (.int n), .unset, .unset, .unset] [(.int (4 : Int32)), (.ref q), (.ref q)])) rfl (by rw [hml]; rfl) (Steps.refl _) (a := q) (argsL := [(.int (4 : Int32))]) (rest := [(.ref q)]) (lenOf pd_3 rfl) rfl (by show 2 * 0 + _ ≤ _; exact Nat.le_of_eq rfl) (hb hby at_24) (fun _ _ => ⟨rfl, e79, (by decide : 1 + 1 ≤ _), (by decide : 2 + 4 ≤ _)⟩)
    dsimp only [Pt.U, Pt.locs, Pt.cells, Pt.slots] at X80 l80 y80 z80 st80 hQ80
    subst l80 y80 z80
    obtain ⟨h80, e80⟩ : ∃ q, T80.heap = q := ⟨_, rfl⟩
    rw [e80] at hQ80
    obtain ⟨rfl, N80q, ar, k_ar, K80q, szarq, Eq80, F_sumq80, F_countq80, V_ar⟩ := hQ80
    have N80 := Fr.app N0 N80q
    have ZZ80p := ZZ
    have lt_q := E_q.lt
    replace E_q := E_q.keep K80q
    replace ZZ := Nat.le_trans ZZ K80q.1
    have F_sum_q := F_sumq80
    have F_count_q := F_countq80
    have g_ar : n0 ≤ ar := Nat.le_trans ZZ80p szarq
    have ne_q_ar : q ≠ ar := Nat.ne_of_lt (Nat.lt_of_lt_of_le lt_q szarq)
    refine Go.on (fun _ k => st80.trans k) ?_
    show Go _ _ _ _ _ _ _ _ (mkF m 27 #[.val (.int i0), .val (.int i1), .val (.int i2), .val (.int i3), .val (.int (4 : Int32)), .val (.int n), .unset, .unset, .unset] [(.ref q)])
    refine Go.on (fun _ k => XS.astore X80.here hx rfl (hb hby at_27) rfl rfl (l' := #[.val (.int i0), .val (.int i1), .val (.int i2), .val (.int i3), .val (.int (4 : Int32)), .val (.int n), .val (.ref q), .unset, .unset]) rfl k) ?_
    show Go _ _ _ _ _ _ _ _ (mkF m 29 #[.val (.int i0), .val (.int i1), .val (.int i2), .val (.int i3), .val (.int (4 : Int32)), .val (.int n), .val (.ref q), .unset, .unset] [])
    refine Go.on (fun _ k => XS.aload X80.here hx rfl (hb hby at_29) rfl rfl k) ?_
    show Go _ _ _ _ _ _ _ _ (mkF m 31 #[.val (.int i0), .val (.int i1), .val (.int i2), .val (.int i3), .val (.int (4 : Int32)), .val (.int n), .val (.ref q), .unset, .unset] [(.ref q)])
    refine Go.on (fun _ k => XS.iloadN X80.here hx rfl (hb hby at_31) rfl k) ?_
    show Go _ _ _ _ _ _ _ _ (mkF m 32 #[.val (.int i0), .val (.int i1), .val (.int i2), .val (.int i3), .val (.int (4 : Int32)), .val (.int n), .val (.ref q), .unset, .unset] [(.int i1), (.ref q)])
    refine Go.on (fun _ k => XS.iload X80.here hx rfl (hb hby at_32) rfl k) ?_
    show Go _ _ _ _ _ _ _ _ (mkF m 34 #[.val (.int i0), .val (.int i1), .val (.int i2), .val (.int i3), .val (.int (4 : Int32)), .val (.int n), .val (.ref q), .unset, .unset] [(.int (4 : Int32)), (.int i1), (.ref q)])
    obtain ⟨_, _, ⟨T81, L81, k81, n81⟩, -, X81, ⟨Lc81, hQ81, l81, y81, z81⟩, st81⟩ := Jvm.LawKit.callS X80 hx (y := (⟨"com/example/d2rank/d2rank/rerank/CentroidMeanPinLaw", "unit", "(II)[D"⟩ : MethodName)) hown (mvT hZ (hw _ (List.mem_of_getElem? (i := 12) rfl))) (mvT hZ (hw _ (List.mem_of_getElem? (i := 13) rfl))) (mvT hZ (hw _ (List.mem_of_getElem? (i := 14) rfl))) (mvT hZ (hw _ (List.mem_of_getElem? (i := 15) rfl))) (by decide) (backOf (W := 1) (un_4 l Z aw hw [] i1  h80 n0 ZZ ) hZ (hw _ (List.mem_of_getElem? (i := 15) rfl)) (hw _ (List.mem_of_getElem? (i := 14) rfl)) (by decide) (by decide)) (g := (mkF m 34 #[.val (.int i0), .val (.int i1), .val (.int i2), .val (.int i3), .val (.int (4 : Int32)), .val (.int n), .val (.ref q), .unset, .unset] [(.int (4 : Int32)), (.int i1), (.ref q)])) rfl (by rw [hml]; rfl) (argsL := [(.int i1), (.int (4 : Int32))]) (rest := [(.ref q)]) (lenOf pd_4 rfl) rfl (by show 2 * 0 + _ ≤ _; exact Nat.le_of_eq rfl) (hb hby at_34) (fun _ _ => ⟨rfl, e80, (by decide : 2 + 1 ≤ _), (by decide : 6 + 4 ≤ _)⟩)
    dsimp only [Pt.U, Pt.locs, Pt.cells, Pt.slots] at X81 l81 y81 z81 st81 hQ81
    subst l81 y81 z81
    obtain ⟨h81, e81⟩ : ∃ q, T81.heap = q := ⟨_, rfl⟩
    rw [e81] at hQ81
    obtain ⟨u1, k_u1, rfl, N81q, K81q, szq81, V_u1⟩ := hQ81
    have N81 := Fr.app N80 N81q
    have ne_q_u1 : q ≠ u1 := Nat.ne_of_lt (Nat.lt_of_lt_of_le E_q.lt szq81)
    have ne_ar_u1 : ar ≠ u1 := Nat.ne_of_lt (Nat.lt_of_lt_of_le V_ar.lt szq81)
    replace E_q := E_q.keep K81q
    replace F_sum_q := F_sum_q.keep K81q nin0
    replace F_count_q := F_count_q.keep K81q nin0
    replace V_ar := V_ar.keep K81q nin0
    replace ZZ := Nat.le_trans ZZ K81q.1
    refine Go.on st81 ?_
    show Go _ _ _ _ _ _ _ _ (mkF m 37 #[.val (.int i0), .val (.int i1), .val (.int i2), .val (.int i3), .val (.int (4 : Int32)), .val (.int n), .val (.ref q), .unset, .unset] [(.ref u1), (.ref q)])
    obtain ⟨cq82, kq82, q82a, q82b, q82c⟩ := isOf hZ e81 E_q
    obtain ⟨_, _, ⟨T82, L82, k82, n82⟩, -, X82, ⟨Lc82, hQ82, l82, y82, z82⟩, st82⟩ := X81.virtualBack hx (y := (⟨"com/example/d2rank/d2rank/rerank/Centroid", "add", "([D)V"⟩ : MethodName)) (z := (⟨"com/example/d2rank/d2rank/rerank/Centroid", "add", "([D)V"⟩ : MethodName)) hown (mvT hZ (hw _ (List.mem_of_getElem? (i := 23) rfl))) (mvT hZ (hw _ (List.mem_of_getElem? (i := 24) rfl))) (notFace_of_selects (args := #[]) (mvT hZ (hw _ (List.mem_of_getElem? (i := 26) rfl)))) (mvT hZ (hw _ (List.mem_of_getElem? (i := 26) rfl))) (mvT hZ (hw _ (List.mem_of_getElem? (i := 25) rfl))) (by decide) (backOf (W := 0) (ca_4 l Z aw hw [] q u1 ar (0 : Int32) k_ar (0 : UInt64) (0 : UInt64) (0 : UInt64) (0 : UInt64) k_u1 (if (indexV i1 (4 : Int32)) = (0 : Int32) then (FP.i2d (signV i1)) else (0 : UInt64)) (if (indexV i1 (4 : Int32)) = (1 : Int32) then (FP.i2d (signV i1)) else (0 : UInt64)) (if (indexV i1 (4 : Int32)) = (2 : Int32) then (FP.i2d (signV i1)) else (0 : UInt64)) (if (indexV i1 (4 : Int32)) = (3 : Int32) then (FP.i2d (signV i1)) else (0 : UInt64)) h81 n0 ZZ E_q F_sum_q F_count_q V_ar V_u1 g_q g_ar ne_q_ar (Ne.symm ne_ar_u1) (Ne.symm ne_q_u1) (own_dnn (own_t1 i1 (0 : Int32) (4 : Int32))) (own_dnn (own_t1 i1 (1 : Int32) (4 : Int32))) (own_dnn (own_t1 i1 (2 : Int32) (4 : Int32))) (own_dnn (own_t1 i1 (3 : Int32) (4 : Int32)))) hZ (hw _ (List.mem_of_getElem? (i := 27) rfl)) (hw _ (List.mem_of_getElem? (i := 2) rfl)) (by decide) (by decide)) q82a q82c (g := (mkF m 37 #[.val (.int i0), .val (.int i1), .val (.int i2), .val (.int i3), .val (.int (4 : Int32)), .val (.int n), .val (.ref q), .unset, .unset] [(.ref u1), (.ref q)])) rfl (by rw [hml]; rfl) (Steps.refl _) (argsL := [(.ref u1)]) (rest := []) (lenOf pd_5 rfl) rfl (by show 2 * 0 + _ ≤ _; exact Nat.le_of_eq rfl) (hb hby at_37) (fun _ _ => ⟨rfl, e81, (by decide : 3 + 0 ≤ _), (by decide : 10 + 0 ≤ _)⟩)
    dsimp only [Pt.U, Pt.locs, Pt.cells, Pt.slots] at X82 l82 y82 z82 st82 hQ82
    subst l82 y82 z82
    obtain ⟨h82, e82⟩ : ∃ q, T82.heap = q := ⟨_, rfl⟩
    rw [e82] at hQ82
    obtain ⟨rfl, N82q, K82q, Eq82, F_sumq82, F_countq82, V_q82⟩ := hQ82
    have N82 := Fr.app N81 N82q
    have ZZ82p := ZZ
    have lt_q := E_q.lt
    have lt_ar := V_ar.lt
    have lt_u1 := V_u1.lt
    replace E_q := E_q.keep K82q
    replace V_u1 := V_u1.keep K82q (ninS (Ne.symm ne_q_u1) (ninS (Ne.symm ne_ar_u1) nin0))
    replace ZZ := Nat.le_trans ZZ K82q.1
    have F_sum_q := F_sumq82
    have F_count_q : Fld Z h82 q "com/example/d2rank/d2rank/rerank/Centroid" "count" "I" (.int (1 : Int32)) := F_countq82
    have V_ar := V_q82
    refine Go.on (fun _ k => st82.trans k) ?_
    show Go _ _ _ _ _ _ _ _ (mkF m 40 #[.val (.int i0), .val (.int i1), .val (.int i2), .val (.int i3), .val (.int (4 : Int32)), .val (.int n), .val (.ref q), .unset, .unset] [])
    refine Go.on (fun _ k => XS.iload X82.here hx rfl (hb hby at_40) rfl k) ?_
    show Go _ _ _ _ _ _ _ _ (mkF m 42 #[.val (.int i0), .val (.int i1), .val (.int i2), .val (.int i3), .val (.int (4 : Int32)), .val (.int n), .val (.ref q), .unset, .unset] [(.int n)])
    refine Go.on (fun _ k => XS.iconst X82.here hx rfl (hb hby at_42) k) ?_
    show Go _ _ _ _ _ _ _ _ (mkF m 43 #[.val (.int i0), .val (.int i1), .val (.int i2), .val (.int i3), .val (.int (4 : Int32)), .val (.int n), .val (.ref q), .unset, .unset] [(.int (2 : Int32)), (.int n)])
    suffices hJ83 : ∀ (T83 : State) (locs83 : List Loc) (h83 : Heap) (t0 : UInt64) (t1 : UInt64) (t2 : UInt64) (t3 : UInt64) (ct : Int32), Stand p l e room_1 s m #[(.int i0), (.int i1), (.int i2), (.int i3)] below meth c T83 locs83 5 18 → T83.heap = h83 → Fr n0 locs83 → n0 ≤ h83.size → Exa Z h83 q "com/example/d2rank/d2rank/rerank/Centroid" → Fld Z h83 q "com/example/d2rank/d2rank/rerank/Centroid" "sum" "[D" (.ref ar) → Fld Z h83 q "com/example/d2rank/d2rank/rerank/Centroid" "count" "I" (.int ct) → Arv Z h83 ar k_ar .double (4 : Int32) [(.double t0), (.double t1), (.double t2), (.double t3)] (.double (0 : UInt64)) → ct = n → Jvm.FP.Core.DInt (own_W i1 i2 i3 n (0 : Int32) (4 : Int32)) t0 → Jvm.FP.Core.DInt (own_W i1 i2 i3 n (1 : Int32) (4 : Int32)) t1 → Jvm.FP.Core.DInt (own_W i1 i2 i3 n (2 : Int32) (4 : Int32)) t2 → Jvm.FP.Core.DInt (own_W i1 i2 i3 n (3 : Int32) (4 : Int32)) t3 → Go p e below s K1 K2 QQ T83 (mkF m 74 #[.val (.int i0), .val (.int i1), .val (.int i2), .val (.int i3), .val (.int (4 : Int32)), .val (.int n), .val (.ref q), .unset, .unset] []) by
      by_cases hc84 : n < (2 : Int32)
      · -- pc 43
        refine Go.on (fun _ k => XS.icmpYes X82.here hx rfl (pc0 := 43) (pc' := 57) rfl (hb hby at_43) rfl (tlt hc84).1 (by decide) (by decide) k) ?_
        show Go _ _ _ _ _ _ _ _ (mkF m 57 #[.val (.int i0), .val (.int i1), .val (.int i2), .val (.int i3), .val (.int (4 : Int32)), .val (.int n), .val (.ref q), .unset, .unset] [])
        refine Go.on (fun _ k => XS.iload X82.here hx rfl (hb hby at_57) rfl k) ?_
        show Go _ _ _ _ _ _ _ _ (mkF m 59 #[.val (.int i0), .val (.int i1), .val (.int i2), .val (.int i3), .val (.int (4 : Int32)), .val (.int n), .val (.ref q), .unset, .unset] [(.int n)])
        refine Go.on (fun _ k => XS.iconst X82.here hx rfl (hb hby at_59) k) ?_
        show Go _ _ _ _ _ _ _ _ (mkF m 60 #[.val (.int i0), .val (.int i1), .val (.int i2), .val (.int i3), .val (.int (4 : Int32)), .val (.int n), .val (.ref q), .unset, .unset] [(.int (3 : Int32)), (.int n)])
        have hc85 : n < (3 : Int32) := own_less3 hc84
        refine Go.on (fun _ k => XS.icmpYes X82.here hx rfl (pc0 := 60) (pc' := 74) rfl (hb hby at_60) rfl (tlt hc85).1 (by decide) (by decide) k) ?_
        show Go _ _ _ _ _ _ _ _ (mkF m 74 #[.val (.int i0), .val (.int i1), .val (.int i2), .val (.int i3), .val (.int (4 : Int32)), .val (.int n), .val (.ref q), .unset, .unset] [])
        exact hJ83 _ _ _ (FP.dadd (0 : UInt64) (if (indexV i1 (4 : Int32)) = (0 : Int32) then (FP.i2d (signV i1)) else (0 : UInt64))) (FP.dadd (0 : UInt64) (if (indexV i1 (4 : Int32)) = (1 : Int32) then (FP.i2d (signV i1)) else (0 : UInt64))) (FP.dadd (0 : UInt64) (if (indexV i1 (4 : Int32)) = (2 : Int32) then (FP.i2d (signV i1)) else (0 : UInt64))) (FP.dadd (0 : UInt64) (if (indexV i1 (4 : Int32)) = (3 : Int32) then (FP.i2d (signV i1)) else (0 : UInt64))) (1 : Int32) (X82.more (by decide) (by decide)) e82 N82 ZZ E_q F_sum_q F_count_q V_ar (own_ct1 hn hc84) (own_W1 hc84 (own_t1 i1 (0 : Int32) (4 : Int32))) (own_W1 hc84 (own_t1 i1 (1 : Int32) (4 : Int32))) (own_W1 hc84 (own_t1 i1 (2 : Int32) (4 : Int32))) (own_W1 hc84 (own_t1 i1 (3 : Int32) (4 : Int32)))
      · -- pc 43
        refine Go.on (fun _ k => XS.icmpNo X82.here hx rfl (hb hby at_43) rfl (flt hc84).1 k) ?_
        show Go _ _ _ _ _ _ _ _ (mkF m 46 #[.val (.int i0), .val (.int i1), .val (.int i2), .val (.int i3), .val (.int (4 : Int32)), .val (.int n), .val (.ref q), .unset, .unset] [])
        refine Go.on (fun _ k => XS.aload X82.here hx rfl (hb hby at_46) rfl rfl k) ?_
        show Go _ _ _ _ _ _ _ _ (mkF m 48 #[.val (.int i0), .val (.int i1), .val (.int i2), .val (.int i3), .val (.int (4 : Int32)), .val (.int n), .val (.ref q), .unset, .unset] [(.ref q)])
        refine Go.on (fun _ k => XS.iloadN X82.here hx rfl (hb hby at_48) rfl k) ?_
        show Go _ _ _ _ _ _ _ _ (mkF m 49 #[.val (.int i0), .val (.int i1), .val (.int i2), .val (.int i3), .val (.int (4 : Int32)), .val (.int n), .val (.ref q), .unset, .unset] [(.int i2), (.ref q)])
        refine Go.on (fun _ k => XS.iload X82.here hx rfl (hb hby at_49) rfl k) ?_
        show Go _ _ _ _ _ _ _ _ (mkF m 51 #[.val (.int i0), .val (.int i1), .val (.int i2), .val (.int i3), .val (.int (4 : Int32)), .val (.int n), .val (.ref q), .unset, .unset] [(.int (4 : Int32)), (.int i2), (.ref q)])
        obtain ⟨_, _, ⟨T86, L86, k86, n86⟩, -, X86, ⟨Lc86, hQ86, l86, y86, z86⟩, st86⟩ := Jvm.LawKit.callS X82 hx (y := (⟨"com/example/d2rank/d2rank/rerank/CentroidMeanPinLaw", "unit", "(II)[D"⟩ : MethodName)) hown (mvT hZ (hw _ (List.mem_of_getElem? (i := 12) rfl))) (mvT hZ (hw _ (List.mem_of_getElem? (i := 13) rfl))) (mvT hZ (hw _ (List.mem_of_getElem? (i := 14) rfl))) (mvT hZ (hw _ (List.mem_of_getElem? (i := 15) rfl))) (by decide) (backOf (W := 1) (un_4 l Z aw hw [] i2  h82 n0 ZZ ) hZ (hw _ (List.mem_of_getElem? (i := 15) rfl)) (hw _ (List.mem_of_getElem? (i := 14) rfl)) (by decide) (by decide)) (g := (mkF m 51 #[.val (.int i0), .val (.int i1), .val (.int i2), .val (.int i3), .val (.int (4 : Int32)), .val (.int n), .val (.ref q), .unset, .unset] [(.int (4 : Int32)), (.int i2), (.ref q)])) rfl (by rw [hml]; rfl) (argsL := [(.int i2), (.int (4 : Int32))]) (rest := [(.ref q)]) (lenOf pd_4 rfl) rfl (by show 2 * 0 + _ ≤ _; exact Nat.le_of_eq rfl) (hb hby at_51) (fun _ _ => ⟨rfl, e82, (by decide : 3 + 1 ≤ _), (by decide : 10 + 4 ≤ _)⟩)
        dsimp only [Pt.U, Pt.locs, Pt.cells, Pt.slots] at X86 l86 y86 z86 st86 hQ86
        subst l86 y86 z86
        obtain ⟨h86, e86⟩ : ∃ q, T86.heap = q := ⟨_, rfl⟩
        rw [e86] at hQ86
        obtain ⟨u2, k_u2, rfl, N86q, K86q, szq86, V_u2⟩ := hQ86
        have N86 := Fr.app N82 N86q
        have ne_q_u2 : q ≠ u2 := Nat.ne_of_lt (Nat.lt_of_lt_of_le E_q.lt szq86)
        have ne_u1_u2 : u1 ≠ u2 := Nat.ne_of_lt (Nat.lt_of_lt_of_le V_u1.lt szq86)
        have ne_ar_u2 : ar ≠ u2 := Nat.ne_of_lt (Nat.lt_of_lt_of_le V_ar.lt szq86)
        replace E_q := E_q.keep K86q
        replace V_u1 := V_u1.keep K86q nin0
        replace F_sum_q := F_sum_q.keep K86q nin0
        replace F_count_q := F_count_q.keep K86q nin0
        replace V_ar := V_ar.keep K86q nin0
        replace ZZ := Nat.le_trans ZZ K86q.1
        refine Go.on st86 ?_
        show Go _ _ _ _ _ _ _ _ (mkF m 54 #[.val (.int i0), .val (.int i1), .val (.int i2), .val (.int i3), .val (.int (4 : Int32)), .val (.int n), .val (.ref q), .unset, .unset] [(.ref u2), (.ref q)])
        obtain ⟨cq87, kq87, q87a, q87b, q87c⟩ := isOf hZ e86 E_q
        obtain ⟨_, _, ⟨T87, L87, k87, n87⟩, -, X87, ⟨Lc87, hQ87, l87, y87, z87⟩, st87⟩ := X86.virtualBack hx (y := (⟨"com/example/d2rank/d2rank/rerank/Centroid", "add", "([D)V"⟩ : MethodName)) (z := (⟨"com/example/d2rank/d2rank/rerank/Centroid", "add", "([D)V"⟩ : MethodName)) hown (mvT hZ (hw _ (List.mem_of_getElem? (i := 23) rfl))) (mvT hZ (hw _ (List.mem_of_getElem? (i := 24) rfl))) (notFace_of_selects (args := #[]) (mvT hZ (hw _ (List.mem_of_getElem? (i := 26) rfl)))) (mvT hZ (hw _ (List.mem_of_getElem? (i := 26) rfl))) (mvT hZ (hw _ (List.mem_of_getElem? (i := 25) rfl))) (by decide) (backOf (W := 0) (ca_4 l Z aw hw [] q u2 ar (1 : Int32) k_ar (FP.dadd (0 : UInt64) (if (indexV i1 (4 : Int32)) = (0 : Int32) then (FP.i2d (signV i1)) else (0 : UInt64))) (FP.dadd (0 : UInt64) (if (indexV i1 (4 : Int32)) = (1 : Int32) then (FP.i2d (signV i1)) else (0 : UInt64))) (FP.dadd (0 : UInt64) (if (indexV i1 (4 : Int32)) = (2 : Int32) then (FP.i2d (signV i1)) else (0 : UInt64))) (FP.dadd (0 : UInt64) (if (indexV i1 (4 : Int32)) = (3 : Int32) then (FP.i2d (signV i1)) else (0 : UInt64))) k_u2 (if (indexV i2 (4 : Int32)) = (0 : Int32) then (FP.i2d (signV i2)) else (0 : UInt64)) (if (indexV i2 (4 : Int32)) = (1 : Int32) then (FP.i2d (signV i2)) else (0 : UInt64)) (if (indexV i2 (4 : Int32)) = (2 : Int32) then (FP.i2d (signV i2)) else (0 : UInt64)) (if (indexV i2 (4 : Int32)) = (3 : Int32) then (FP.i2d (signV i2)) else (0 : UInt64)) h86 n0 ZZ E_q F_sum_q F_count_q V_ar V_u2 g_q g_ar ne_q_ar (Ne.symm ne_ar_u2) (Ne.symm ne_q_u2) (own_dnn (own_t2 i1 i2 (0 : Int32) (4 : Int32))) (own_dnn (own_t2 i1 i2 (1 : Int32) (4 : Int32))) (own_dnn (own_t2 i1 i2 (2 : Int32) (4 : Int32))) (own_dnn (own_t2 i1 i2 (3 : Int32) (4 : Int32)))) hZ (hw _ (List.mem_of_getElem? (i := 27) rfl)) (hw _ (List.mem_of_getElem? (i := 2) rfl)) (by decide) (by decide)) q87a q87c (g := (mkF m 54 #[.val (.int i0), .val (.int i1), .val (.int i2), .val (.int i3), .val (.int (4 : Int32)), .val (.int n), .val (.ref q), .unset, .unset] [(.ref u2), (.ref q)])) rfl (by rw [hml]; rfl) (Steps.refl _) (argsL := [(.ref u2)]) (rest := []) (lenOf pd_5 rfl) rfl (by show 2 * 0 + _ ≤ _; exact Nat.le_of_eq rfl) (hb hby at_54) (fun _ _ => ⟨rfl, e86, (by decide : 4 + 0 ≤ _), (by decide : 14 + 0 ≤ _)⟩)
        dsimp only [Pt.U, Pt.locs, Pt.cells, Pt.slots] at X87 l87 y87 z87 st87 hQ87
        subst l87 y87 z87
        obtain ⟨h87, e87⟩ : ∃ q, T87.heap = q := ⟨_, rfl⟩
        rw [e87] at hQ87
        obtain ⟨rfl, N87q, K87q, Eq87, F_sumq87, F_countq87, V_q87⟩ := hQ87
        have N87 := Fr.app N86 N87q
        have ZZ87p := ZZ
        have lt_q := E_q.lt
        have lt_u1 := V_u1.lt
        have lt_ar := V_ar.lt
        have lt_u2 := V_u2.lt
        replace E_q := E_q.keep K87q
        replace V_u1 := V_u1.keep K87q (ninS (Ne.symm ne_q_u1) (ninS (Ne.symm ne_ar_u1) nin0))
        replace V_u2 := V_u2.keep K87q (ninS (Ne.symm ne_q_u2) (ninS (Ne.symm ne_ar_u2) nin0))
        replace ZZ := Nat.le_trans ZZ K87q.1
        have F_sum_q := F_sumq87
        have F_count_q : Fld Z h87 q "com/example/d2rank/d2rank/rerank/Centroid" "count" "I" (.int (2 : Int32)) := F_countq87
        have V_ar := V_q87
        refine Go.on (fun _ k => st87.trans k) ?_
        show Go _ _ _ _ _ _ _ _ (mkF m 57 #[.val (.int i0), .val (.int i1), .val (.int i2), .val (.int i3), .val (.int (4 : Int32)), .val (.int n), .val (.ref q), .unset, .unset] [])
        refine Go.on (fun _ k => XS.iload X87.here hx rfl (hb hby at_57) rfl k) ?_
        show Go _ _ _ _ _ _ _ _ (mkF m 59 #[.val (.int i0), .val (.int i1), .val (.int i2), .val (.int i3), .val (.int (4 : Int32)), .val (.int n), .val (.ref q), .unset, .unset] [(.int n)])
        refine Go.on (fun _ k => XS.iconst X87.here hx rfl (hb hby at_59) k) ?_
        show Go _ _ _ _ _ _ _ _ (mkF m 60 #[.val (.int i0), .val (.int i1), .val (.int i2), .val (.int i3), .val (.int (4 : Int32)), .val (.int n), .val (.ref q), .unset, .unset] [(.int (3 : Int32)), (.int n)])
        by_cases hc88 : n < (3 : Int32)
        · -- pc 60
          refine Go.on (fun _ k => XS.icmpYes X87.here hx rfl (pc0 := 60) (pc' := 74) rfl (hb hby at_60) rfl (tlt hc88).1 (by decide) (by decide) k) ?_
          show Go _ _ _ _ _ _ _ _ (mkF m 74 #[.val (.int i0), .val (.int i1), .val (.int i2), .val (.int i3), .val (.int (4 : Int32)), .val (.int n), .val (.ref q), .unset, .unset] [])
          exact hJ83 _ _ _ (FP.dadd (FP.dadd (0 : UInt64) (if (indexV i1 (4 : Int32)) = (0 : Int32) then (FP.i2d (signV i1)) else (0 : UInt64))) (if (indexV i2 (4 : Int32)) = (0 : Int32) then (FP.i2d (signV i2)) else (0 : UInt64))) (FP.dadd (FP.dadd (0 : UInt64) (if (indexV i1 (4 : Int32)) = (1 : Int32) then (FP.i2d (signV i1)) else (0 : UInt64))) (if (indexV i2 (4 : Int32)) = (1 : Int32) then (FP.i2d (signV i2)) else (0 : UInt64))) (FP.dadd (FP.dadd (0 : UInt64) (if (indexV i1 (4 : Int32)) = (2 : Int32) then (FP.i2d (signV i1)) else (0 : UInt64))) (if (indexV i2 (4 : Int32)) = (2 : Int32) then (FP.i2d (signV i2)) else (0 : UInt64))) (FP.dadd (FP.dadd (0 : UInt64) (if (indexV i1 (4 : Int32)) = (3 : Int32) then (FP.i2d (signV i1)) else (0 : UInt64))) (if (indexV i2 (4 : Int32)) = (3 : Int32) then (FP.i2d (signV i2)) else (0 : UInt64))) (2 : Int32) (X87.more (by decide) (by decide)) e87 N87 ZZ E_q F_sum_q F_count_q V_ar (own_ct2 hn hc84 hc88) (own_W2 hc84 hc88 (own_t2 i1 i2 (0 : Int32) (4 : Int32))) (own_W2 hc84 hc88 (own_t2 i1 i2 (1 : Int32) (4 : Int32))) (own_W2 hc84 hc88 (own_t2 i1 i2 (2 : Int32) (4 : Int32))) (own_W2 hc84 hc88 (own_t2 i1 i2 (3 : Int32) (4 : Int32)))
        · -- pc 60
          refine Go.on (fun _ k => XS.icmpNo X87.here hx rfl (hb hby at_60) rfl (flt hc88).1 k) ?_
          show Go _ _ _ _ _ _ _ _ (mkF m 63 #[.val (.int i0), .val (.int i1), .val (.int i2), .val (.int i3), .val (.int (4 : Int32)), .val (.int n), .val (.ref q), .unset, .unset] [])
          refine Go.on (fun _ k => XS.aload X87.here hx rfl (hb hby at_63) rfl rfl k) ?_
          show Go _ _ _ _ _ _ _ _ (mkF m 65 #[.val (.int i0), .val (.int i1), .val (.int i2), .val (.int i3), .val (.int (4 : Int32)), .val (.int n), .val (.ref q), .unset, .unset] [(.ref q)])
          refine Go.on (fun _ k => XS.iloadN X87.here hx rfl (hb hby at_65) rfl k) ?_
          show Go _ _ _ _ _ _ _ _ (mkF m 66 #[.val (.int i0), .val (.int i1), .val (.int i2), .val (.int i3), .val (.int (4 : Int32)), .val (.int n), .val (.ref q), .unset, .unset] [(.int i3), (.ref q)])
          refine Go.on (fun _ k => XS.iload X87.here hx rfl (hb hby at_66) rfl k) ?_
          show Go _ _ _ _ _ _ _ _ (mkF m 68 #[.val (.int i0), .val (.int i1), .val (.int i2), .val (.int i3), .val (.int (4 : Int32)), .val (.int n), .val (.ref q), .unset, .unset] [(.int (4 : Int32)), (.int i3), (.ref q)])
          obtain ⟨_, _, ⟨T89, L89, k89, n89⟩, -, X89, ⟨Lc89, hQ89, l89, y89, z89⟩, st89⟩ := Jvm.LawKit.callS X87 hx (y := (⟨"com/example/d2rank/d2rank/rerank/CentroidMeanPinLaw", "unit", "(II)[D"⟩ : MethodName)) hown (mvT hZ (hw _ (List.mem_of_getElem? (i := 12) rfl))) (mvT hZ (hw _ (List.mem_of_getElem? (i := 13) rfl))) (mvT hZ (hw _ (List.mem_of_getElem? (i := 14) rfl))) (mvT hZ (hw _ (List.mem_of_getElem? (i := 15) rfl))) (by decide) (backOf (W := 1) (un_4 l Z aw hw [] i3  h87 n0 ZZ ) hZ (hw _ (List.mem_of_getElem? (i := 15) rfl)) (hw _ (List.mem_of_getElem? (i := 14) rfl)) (by decide) (by decide)) (g := (mkF m 68 #[.val (.int i0), .val (.int i1), .val (.int i2), .val (.int i3), .val (.int (4 : Int32)), .val (.int n), .val (.ref q), .unset, .unset] [(.int (4 : Int32)), (.int i3), (.ref q)])) rfl (by rw [hml]; rfl) (argsL := [(.int i3), (.int (4 : Int32))]) (rest := [(.ref q)]) (lenOf pd_4 rfl) rfl (by show 2 * 0 + _ ≤ _; exact Nat.le_of_eq rfl) (hb hby at_68) (fun _ _ => ⟨rfl, e87, (by decide : 4 + 1 ≤ _), (by decide : 14 + 4 ≤ _)⟩)
          dsimp only [Pt.U, Pt.locs, Pt.cells, Pt.slots] at X89 l89 y89 z89 st89 hQ89
          subst l89 y89 z89
          obtain ⟨h89, e89⟩ : ∃ q, T89.heap = q := ⟨_, rfl⟩
          rw [e89] at hQ89
          obtain ⟨u3, k_u3, rfl, N89q, K89q, szq89, V_u3⟩ := hQ89
          have N89 := Fr.app N87 N89q
          have ne_q_u3 : q ≠ u3 := Nat.ne_of_lt (Nat.lt_of_lt_of_le E_q.lt szq89)
          have ne_u1_u3 : u1 ≠ u3 := Nat.ne_of_lt (Nat.lt_of_lt_of_le V_u1.lt szq89)
          have ne_u2_u3 : u2 ≠ u3 := Nat.ne_of_lt (Nat.lt_of_lt_of_le V_u2.lt szq89)
          have ne_ar_u3 : ar ≠ u3 := Nat.ne_of_lt (Nat.lt_of_lt_of_le V_ar.lt szq89)
          replace E_q := E_q.keep K89q
          replace V_u1 := V_u1.keep K89q nin0
          replace V_u2 := V_u2.keep K89q nin0
          replace F_sum_q := F_sum_q.keep K89q nin0
          replace F_count_q := F_count_q.keep K89q nin0
          replace V_ar := V_ar.keep K89q nin0
          replace ZZ := Nat.le_trans ZZ K89q.1
          refine Go.on st89 ?_
          show Go _ _ _ _ _ _ _ _ (mkF m 71 #[.val (.int i0), .val (.int i1), .val (.int i2), .val (.int i3), .val (.int (4 : Int32)), .val (.int n), .val (.ref q), .unset, .unset] [(.ref u3), (.ref q)])
          obtain ⟨cq90, kq90, q90a, q90b, q90c⟩ := isOf hZ e89 E_q
          obtain ⟨_, _, ⟨T90, L90, k90, n90⟩, -, X90, ⟨Lc90, hQ90, l90, y90, z90⟩, st90⟩ := X89.virtualBack hx (y := (⟨"com/example/d2rank/d2rank/rerank/Centroid", "add", "([D)V"⟩ : MethodName)) (z := (⟨"com/example/d2rank/d2rank/rerank/Centroid", "add", "([D)V"⟩ : MethodName)) hown (mvT hZ (hw _ (List.mem_of_getElem? (i := 23) rfl))) (mvT hZ (hw _ (List.mem_of_getElem? (i := 24) rfl))) (notFace_of_selects (args := #[]) (mvT hZ (hw _ (List.mem_of_getElem? (i := 26) rfl)))) (mvT hZ (hw _ (List.mem_of_getElem? (i := 26) rfl))) (mvT hZ (hw _ (List.mem_of_getElem? (i := 25) rfl))) (by decide) (backOf (W := 0) (ca_4 l Z aw hw [] q u3 ar (2 : Int32) k_ar (FP.dadd (FP.dadd (0 : UInt64) (if (indexV i1 (4 : Int32)) = (0 : Int32) then (FP.i2d (signV i1)) else (0 : UInt64))) (if (indexV i2 (4 : Int32)) = (0 : Int32) then (FP.i2d (signV i2)) else (0 : UInt64))) (FP.dadd (FP.dadd (0 : UInt64) (if (indexV i1 (4 : Int32)) = (1 : Int32) then (FP.i2d (signV i1)) else (0 : UInt64))) (if (indexV i2 (4 : Int32)) = (1 : Int32) then (FP.i2d (signV i2)) else (0 : UInt64))) (FP.dadd (FP.dadd (0 : UInt64) (if (indexV i1 (4 : Int32)) = (2 : Int32) then (FP.i2d (signV i1)) else (0 : UInt64))) (if (indexV i2 (4 : Int32)) = (2 : Int32) then (FP.i2d (signV i2)) else (0 : UInt64))) (FP.dadd (FP.dadd (0 : UInt64) (if (indexV i1 (4 : Int32)) = (3 : Int32) then (FP.i2d (signV i1)) else (0 : UInt64))) (if (indexV i2 (4 : Int32)) = (3 : Int32) then (FP.i2d (signV i2)) else (0 : UInt64))) k_u3 (if (indexV i3 (4 : Int32)) = (0 : Int32) then (FP.i2d (signV i3)) else (0 : UInt64)) (if (indexV i3 (4 : Int32)) = (1 : Int32) then (FP.i2d (signV i3)) else (0 : UInt64)) (if (indexV i3 (4 : Int32)) = (2 : Int32) then (FP.i2d (signV i3)) else (0 : UInt64)) (if (indexV i3 (4 : Int32)) = (3 : Int32) then (FP.i2d (signV i3)) else (0 : UInt64)) h89 n0 ZZ E_q F_sum_q F_count_q V_ar V_u3 g_q g_ar ne_q_ar (Ne.symm ne_ar_u3) (Ne.symm ne_q_u3) (own_dnn (own_t3 i1 i2 i3 (0 : Int32) (4 : Int32))) (own_dnn (own_t3 i1 i2 i3 (1 : Int32) (4 : Int32))) (own_dnn (own_t3 i1 i2 i3 (2 : Int32) (4 : Int32))) (own_dnn (own_t3 i1 i2 i3 (3 : Int32) (4 : Int32)))) hZ (hw _ (List.mem_of_getElem? (i := 27) rfl)) (hw _ (List.mem_of_getElem? (i := 2) rfl)) (by decide) (by decide)) q90a q90c (g := (mkF m 71 #[.val (.int i0), .val (.int i1), .val (.int i2), .val (.int i3), .val (.int (4 : Int32)), .val (.int n), .val (.ref q), .unset, .unset] [(.ref u3), (.ref q)])) rfl (by rw [hml]; rfl) (Steps.refl _) (argsL := [(.ref u3)]) (rest := []) (lenOf pd_5 rfl) rfl (by show 2 * 0 + _ ≤ _; exact Nat.le_of_eq rfl) (hb hby at_71) (fun _ _ => ⟨rfl, e89, (by decide : 5 + 0 ≤ _), (by decide : 18 + 0 ≤ _)⟩)
          dsimp only [Pt.U, Pt.locs, Pt.cells, Pt.slots] at X90 l90 y90 z90 st90 hQ90
          subst l90 y90 z90
          obtain ⟨h90, e90⟩ : ∃ q, T90.heap = q := ⟨_, rfl⟩
          rw [e90] at hQ90
          obtain ⟨rfl, N90q, K90q, Eq90, F_sumq90, F_countq90, V_q90⟩ := hQ90
          have N90 := Fr.app N89 N90q
          have ZZ90p := ZZ
          have lt_q := E_q.lt
          have lt_u1 := V_u1.lt
          have lt_u2 := V_u2.lt
          have lt_ar := V_ar.lt
          have lt_u3 := V_u3.lt
          replace E_q := E_q.keep K90q
          replace V_u1 := V_u1.keep K90q (ninS (Ne.symm ne_q_u1) (ninS (Ne.symm ne_ar_u1) nin0))
          replace V_u2 := V_u2.keep K90q (ninS (Ne.symm ne_q_u2) (ninS (Ne.symm ne_ar_u2) nin0))
          replace V_u3 := V_u3.keep K90q (ninS (Ne.symm ne_q_u3) (ninS (Ne.symm ne_ar_u3) nin0))
          replace ZZ := Nat.le_trans ZZ K90q.1
          have F_sum_q := F_sumq90
          have F_count_q : Fld Z h90 q "com/example/d2rank/d2rank/rerank/Centroid" "count" "I" (.int (3 : Int32)) := F_countq90
          have V_ar := V_q90
          refine Go.on (fun _ k => st90.trans k) ?_
          show Go _ _ _ _ _ _ _ _ (mkF m 74 #[.val (.int i0), .val (.int i1), .val (.int i2), .val (.int i3), .val (.int (4 : Int32)), .val (.int n), .val (.ref q), .unset, .unset] [])
          exact hJ83 _ _ _ (FP.dadd (FP.dadd (FP.dadd (0 : UInt64) (if (indexV i1 (4 : Int32)) = (0 : Int32) then (FP.i2d (signV i1)) else (0 : UInt64))) (if (indexV i2 (4 : Int32)) = (0 : Int32) then (FP.i2d (signV i2)) else (0 : UInt64))) (if (indexV i3 (4 : Int32)) = (0 : Int32) then (FP.i2d (signV i3)) else (0 : UInt64))) (FP.dadd (FP.dadd (FP.dadd (0 : UInt64) (if (indexV i1 (4 : Int32)) = (1 : Int32) then (FP.i2d (signV i1)) else (0 : UInt64))) (if (indexV i2 (4 : Int32)) = (1 : Int32) then (FP.i2d (signV i2)) else (0 : UInt64))) (if (indexV i3 (4 : Int32)) = (1 : Int32) then (FP.i2d (signV i3)) else (0 : UInt64))) (FP.dadd (FP.dadd (FP.dadd (0 : UInt64) (if (indexV i1 (4 : Int32)) = (2 : Int32) then (FP.i2d (signV i1)) else (0 : UInt64))) (if (indexV i2 (4 : Int32)) = (2 : Int32) then (FP.i2d (signV i2)) else (0 : UInt64))) (if (indexV i3 (4 : Int32)) = (2 : Int32) then (FP.i2d (signV i3)) else (0 : UInt64))) (FP.dadd (FP.dadd (FP.dadd (0 : UInt64) (if (indexV i1 (4 : Int32)) = (3 : Int32) then (FP.i2d (signV i1)) else (0 : UInt64))) (if (indexV i2 (4 : Int32)) = (3 : Int32) then (FP.i2d (signV i2)) else (0 : UInt64))) (if (indexV i3 (4 : Int32)) = (3 : Int32) then (FP.i2d (signV i3)) else (0 : UInt64))) (3 : Int32) (X90.more (by decide) (by decide)) e90 N90 ZZ E_q F_sum_q F_count_q V_ar (own_ct3 hn hc84 hc88) (own_W3 hc84 hc88 (own_t3 i1 i2 i3 (0 : Int32) (4 : Int32))) (own_W3 hc84 hc88 (own_t3 i1 i2 i3 (1 : Int32) (4 : Int32))) (own_W3 hc84 hc88 (own_t3 i1 i2 i3 (2 : Int32) (4 : Int32))) (own_W3 hc84 hc88 (own_t3 i1 i2 i3 (3 : Int32) (4 : Int32)))
    clear E_q F_sum_q F_count_q V_ar ZZ
    intro T83 locs83 h83 t0 t1 t2 t3 ct X83 e83 N83 ZZ E_q F_sum_q F_count_q V_ar hct hT0 hT1 hT2 hT3
    show Go _ _ _ _ _ _ _ _ (mkF m 74 #[.val (.int i0), .val (.int i1), .val (.int i2), .val (.int i3), .val (.int (4 : Int32)), .val (.int n), .val (.ref q), .unset, .unset] [])
    have hctz : ct ≠ 0 := by rw [hct]; exact own_n0 hn
    refine Go.on (fun _ k => XS.aload X83.here hx rfl (hb hby at_74) rfl rfl k) ?_
    show Go _ _ _ _ _ _ _ _ (mkF m 76 #[.val (.int i0), .val (.int i1), .val (.int i2), .val (.int i3), .val (.int (4 : Int32)), .val (.int n), .val (.ref q), .unset, .unset] [(.ref q)])
    obtain ⟨cq91, kq91, q91a, q91b, q91c⟩ := isOf hZ e83 E_q
    obtain ⟨_, _, ⟨T91, L91, k91, n91⟩, -, X91, ⟨Lc91, hQ91, l91, y91, z91⟩, st91⟩ := X83.virtualBack hx (y := (⟨"com/example/d2rank/d2rank/rerank/Centroid", "mean", "()[D"⟩ : MethodName)) (z := (⟨"com/example/d2rank/d2rank/rerank/Centroid", "mean", "()[D"⟩ : MethodName)) hown (mvT hZ (hw _ (List.mem_of_getElem? (i := 30) rfl))) (mvT hZ (hw _ (List.mem_of_getElem? (i := 31) rfl))) (notFace_of_selects (args := #[]) (mvT hZ (hw _ (List.mem_of_getElem? (i := 33) rfl)))) (mvT hZ (hw _ (List.mem_of_getElem? (i := 33) rfl))) (mvT hZ (hw _ (List.mem_of_getElem? (i := 32) rfl))) (by decide) (backOf (W := 0) (cm_4 l Z aw hw [] q ar ct k_ar t0 t1 t2 t3 h83 n0 ZZ F_sum_q F_count_q V_ar (own_nnd' (ZV.of_int hT0).1 _ hctz) (own_nnd' (ZV.of_int hT1).1 _ hctz) (own_nnd' (ZV.of_int hT2).1 _ hctz) (own_nnd' (ZV.of_int hT3).1 _ hctz)) hZ (hw _ (List.mem_of_getElem? (i := 34) rfl)) (hw _ (List.mem_of_getElem? (i := 2) rfl)) (by decide) (by decide)) q91a q91c (g := (mkF m 76 #[.val (.int i0), .val (.int i1), .val (.int i2), .val (.int i3), .val (.int (4 : Int32)), .val (.int n), .val (.ref q), .unset, .unset] [(.ref q)])) rfl (by rw [hml]; rfl) (Steps.refl _) (argsL := []) (rest := []) (lenOf pd_6 rfl) rfl (by show 2 * 0 + _ ≤ _; exact Nat.le_of_eq rfl) (hb hby at_76) (fun _ _ => ⟨rfl, e83, (by decide : 5 + 1 ≤ _), (by decide : 18 + 4 ≤ _)⟩)
    dsimp only [Pt.U, Pt.locs, Pt.cells, Pt.slots] at X91 l91 y91 z91 st91 hQ91
    subst l91 y91 z91
    obtain ⟨h91, e91⟩ : ∃ q, T91.heap = q := ⟨_, rfl⟩
    rw [e91] at hQ91
    obtain ⟨m1, kq91, rfl, N91q, K91q, szq91, V_q91⟩ := hQ91
    have N91 := Fr.app N83 N91q
    have ZZ91p := ZZ
    have ne_q_m1 : q ≠ m1 := Nat.ne_of_lt (Nat.lt_of_lt_of_le E_q.lt szq91)
    have ne_ar_m1 : ar ≠ m1 := Nat.ne_of_lt (Nat.lt_of_lt_of_le V_ar.lt szq91)
    replace E_q := E_q.keep K91q
    replace F_sum_q := F_sum_q.keep K91q nin0
    replace F_count_q := F_count_q.keep K91q nin0
    replace V_ar := V_ar.keep K91q nin0
    replace ZZ := Nat.le_trans ZZ K91q.1
    have g_m1 : n0 ≤ m1 := Nat.le_trans ZZ91p szq91
    have V_m1 := V_q91
    obtain ⟨k_m1, hk_m1⟩ : ∃ z, z = kq91 := ⟨_, rfl⟩
    rw [← hk_m1] at V_m1
    refine Go.on (fun _ k => st91.trans k) ?_
    show Go _ _ _ _ _ _ _ _ (mkF m 79 #[.val (.int i0), .val (.int i1), .val (.int i2), .val (.int i3), .val (.int (4 : Int32)), .val (.int n), .val (.ref q), .unset, .unset] [(.ref m1)])
    refine Go.on (fun _ k => XS.astore X91.here hx rfl (hb hby at_79) rfl rfl (l' := #[.val (.int i0), .val (.int i1), .val (.int i2), .val (.int i3), .val (.int (4 : Int32)), .val (.int n), .val (.ref q), .val (.ref m1), .unset]) rfl k) ?_
    show Go _ _ _ _ _ _ _ _ (mkF m 81 #[.val (.int i0), .val (.int i1), .val (.int i2), .val (.int i3), .val (.int (4 : Int32)), .val (.int n), .val (.ref q), .val (.ref m1), .unset] [])
    refine Go.on (fun _ k => XS.aload X91.here hx rfl (hb hby at_81) rfl rfl k) ?_
    show Go _ _ _ _ _ _ _ _ (mkF m 83 #[.val (.int i0), .val (.int i1), .val (.int i2), .val (.int i3), .val (.int (4 : Int32)), .val (.int n), .val (.ref q), .val (.ref m1), .unset] [(.ref q)])
    obtain ⟨cq92, kq92, q92a, q92b, q92c⟩ := isOf hZ e91 E_q
    obtain ⟨_, _, ⟨T92, L92, k92, n92⟩, -, X92, ⟨Lc92, hQ92, l92, y92, z92⟩, st92⟩ := X91.virtualBack hx (y := (⟨"com/example/d2rank/d2rank/rerank/Centroid", "mean", "()[D"⟩ : MethodName)) (z := (⟨"com/example/d2rank/d2rank/rerank/Centroid", "mean", "()[D"⟩ : MethodName)) hown (mvT hZ (hw _ (List.mem_of_getElem? (i := 30) rfl))) (mvT hZ (hw _ (List.mem_of_getElem? (i := 31) rfl))) (notFace_of_selects (args := #[]) (mvT hZ (hw _ (List.mem_of_getElem? (i := 33) rfl)))) (mvT hZ (hw _ (List.mem_of_getElem? (i := 33) rfl))) (mvT hZ (hw _ (List.mem_of_getElem? (i := 32) rfl))) (by decide) (backOf (W := 0) (cm_4 l Z aw hw [] q ar ct k_ar t0 t1 t2 t3 h91 n0 ZZ F_sum_q F_count_q V_ar (own_nnd' (ZV.of_int hT0).1 _ hctz) (own_nnd' (ZV.of_int hT1).1 _ hctz) (own_nnd' (ZV.of_int hT2).1 _ hctz) (own_nnd' (ZV.of_int hT3).1 _ hctz)) hZ (hw _ (List.mem_of_getElem? (i := 34) rfl)) (hw _ (List.mem_of_getElem? (i := 2) rfl)) (by decide) (by decide)) q92a q92c (g := (mkF m 83 #[.val (.int i0), .val (.int i1), .val (.int i2), .val (.int i3), .val (.int (4 : Int32)), .val (.int n), .val (.ref q), .val (.ref m1), .unset] [(.ref q)])) rfl (by rw [hml]; rfl) (Steps.refl _) (argsL := []) (rest := []) (lenOf pd_6 rfl) rfl (by show 2 * 0 + _ ≤ _; exact Nat.le_of_eq rfl) (hb hby at_83) (fun _ _ => ⟨rfl, e91, (by decide : 6 + 1 ≤ _), (by decide : 22 + 4 ≤ _)⟩)
    dsimp only [Pt.U, Pt.locs, Pt.cells, Pt.slots] at X92 l92 y92 z92 st92 hQ92
    subst l92 y92 z92
    obtain ⟨h92, e92⟩ : ∃ q, T92.heap = q := ⟨_, rfl⟩
    rw [e92] at hQ92
    obtain ⟨m2, kq92, rfl, N92q, K92q, szq92, V_q92⟩ := hQ92
    have N92 := Fr.app N91 N92q
    have ZZ92p := ZZ
    have ne_q_m2 : q ≠ m2 := Nat.ne_of_lt (Nat.lt_of_lt_of_le E_q.lt szq92)
    have ne_ar_m2 : ar ≠ m2 := Nat.ne_of_lt (Nat.lt_of_lt_of_le V_ar.lt szq92)
    have ne_m1_m2 : m1 ≠ m2 := Nat.ne_of_lt (Nat.lt_of_lt_of_le V_m1.lt szq92)
    replace E_q := E_q.keep K92q
    replace F_sum_q := F_sum_q.keep K92q nin0
    replace F_count_q := F_count_q.keep K92q nin0
    replace V_ar := V_ar.keep K92q nin0
    replace V_m1 := V_m1.keep K92q nin0
    replace ZZ := Nat.le_trans ZZ K92q.1
    have g_m2 : n0 ≤ m2 := Nat.le_trans ZZ92p szq92
    have V_m2 := V_q92
    obtain ⟨k_m2, hk_m2⟩ : ∃ z, z = kq92 := ⟨_, rfl⟩
    rw [← hk_m2] at V_m2
    refine Go.on (fun _ k => st92.trans k) ?_
    show Go _ _ _ _ _ _ _ _ (mkF m 86 #[.val (.int i0), .val (.int i1), .val (.int i2), .val (.int i3), .val (.int (4 : Int32)), .val (.int n), .val (.ref q), .val (.ref m1), .unset] [(.ref m2)])
    refine Go.on (fun _ k => XS.astore X92.here hx rfl (hb hby at_86) rfl rfl (l' := #[.val (.int i0), .val (.int i1), .val (.int i2), .val (.int i3), .val (.int (4 : Int32)), .val (.int n), .val (.ref q), .val (.ref m1), .val (.ref m2)]) rfl k) ?_
    show Go _ _ _ _ _ _ _ _ (mkF m 88 #[.val (.int i0), .val (.int i1), .val (.int i2), .val (.int i3), .val (.int (4 : Int32)), .val (.int n), .val (.ref q), .val (.ref m1), .val (.ref m2)] [])
    refine Go.on (fun _ k => XS.aload X92.here hx rfl (hb hby at_88) rfl rfl k) ?_
    show Go _ _ _ _ _ _ _ _ (mkF m 90 #[.val (.int i0), .val (.int i1), .val (.int i2), .val (.int i3), .val (.int (4 : Int32)), .val (.int n), .val (.ref q), .val (.ref m1), .val (.ref m2)] [(.ref m1)])
    refine Go.on (fun _ k => XS.aload X92.here hx rfl (hb hby at_90) rfl rfl k) ?_
    show Go _ _ _ _ _ _ _ _ (mkF m 92 #[.val (.int i0), .val (.int i1), .val (.int i2), .val (.int i3), .val (.int (4 : Int32)), .val (.int n), .val (.ref q), .val (.ref m1), .val (.ref m2)] [(.ref m2), (.ref m1)])
    refine Go.on (fun _ k => Jvm.RoadKit.acmp (g := (mkF m 92 #[.val (.int i0), .val (.int i1), .val (.int i2), .val (.int i3), .val (.int (4 : Int32)), .val (.int n), .val (.ref q), .val (.ref m1), .val (.ref m2)] [(.ref m2), (.ref m1)])) X92 hx rfl rfl rfl (pc0 := 92) (pc' := 97) (same := false) rfl (hb hby at_92) rfl (decide_eq_false fun q => (ne_m1_m2) (Value.ref.inj q)) (by decide) (by decide) k) ?_
    show Go _ _ _ _ _ _ _ _ (mkF m 97 #[.val (.int i0), .val (.int i1), .val (.int i2), .val (.int i3), .val (.int (4 : Int32)), .val (.int n), .val (.ref q), .val (.ref m1), .val (.ref m2)] [])
    refine Go.on (fun _ k => XS.aload X92.here hx rfl (hb hby at_97) rfl rfl k) ?_
    show Go _ _ _ _ _ _ _ _ (mkF m 99 #[.val (.int i0), .val (.int i1), .val (.int i2), .val (.int i3), .val (.int (4 : Int32)), .val (.int n), .val (.ref q), .val (.ref m1), .val (.ref m2)] [(.ref m1)])
    obtain ⟨cl93, Ar93, -, S93, N93n, -, -⟩ := id V_m1
    refine Go.on (X92.arraylength hx (by rw [e92]; exact Ar93.1) (State.isArrayOf_alike hZ.alike Ar93.2.1) (g := (mkF m 99 #[.val (.int i0), .val (.int i1), .val (.int i2), .val (.int i3), .val (.int (4 : Int32)), .val (.int n), .val (.ref q), .val (.ref m1), .val (.ref m2)] [(.ref m1)])) rfl rfl (hb hby at_99)) ?_
    rw [len_of S93 N93n]
    show Go _ _ _ _ _ _ _ _ (mkF m 100 #[.val (.int i0), .val (.int i1), .val (.int i2), .val (.int i3), .val (.int (4 : Int32)), .val (.int n), .val (.ref q), .val (.ref m1), .val (.ref m2)] [(.int (4 : Int32))])
    refine Go.on (fun _ k => XS.iload X92.here hx rfl (hb hby at_100) rfl k) ?_
    show Go _ _ _ _ _ _ _ _ (mkF m 102 #[.val (.int i0), .val (.int i1), .val (.int i2), .val (.int i3), .val (.int (4 : Int32)), .val (.int n), .val (.ref q), .val (.ref m1), .val (.ref m2)] [(.int (4 : Int32)), (.int (4 : Int32))])
    have hc94 : (4 : Int32) = (4 : Int32) := by decide
    refine Go.on (fun _ k => XS.icmpNo X92.here hx rfl (hb hby at_102) rfl (teq hc94).2 k) ?_
    show Go _ _ _ _ _ _ _ _ (mkF m 105 #[.val (.int i0), .val (.int i1), .val (.int i2), .val (.int i3), .val (.int (4 : Int32)), .val (.int n), .val (.ref q), .val (.ref m1), .val (.ref m2)] [])
    refine Go.on (fun _ k => XS.aload X92.here hx rfl (hb hby at_105) rfl rfl k) ?_
    show Go _ _ _ _ _ _ _ _ (mkF m 107 #[.val (.int i0), .val (.int i1), .val (.int i2), .val (.int i3), .val (.int (4 : Int32)), .val (.int n), .val (.ref q), .val (.ref m1), .val (.ref m2)] [(.ref m2)])
    obtain ⟨cl95, Ar95, -, S95, N95n, -, -⟩ := id V_m2
    refine Go.on (X92.arraylength hx (by rw [e92]; exact Ar95.1) (State.isArrayOf_alike hZ.alike Ar95.2.1) (g := (mkF m 107 #[.val (.int i0), .val (.int i1), .val (.int i2), .val (.int i3), .val (.int (4 : Int32)), .val (.int n), .val (.ref q), .val (.ref m1), .val (.ref m2)] [(.ref m2)])) rfl rfl (hb hby at_107)) ?_
    rw [len_of S95 N95n]
    show Go _ _ _ _ _ _ _ _ (mkF m 108 #[.val (.int i0), .val (.int i1), .val (.int i2), .val (.int i3), .val (.int (4 : Int32)), .val (.int n), .val (.ref q), .val (.ref m1), .val (.ref m2)] [(.int (4 : Int32))])
    refine Go.on (fun _ k => XS.iload X92.here hx rfl (hb hby at_108) rfl k) ?_
    show Go _ _ _ _ _ _ _ _ (mkF m 110 #[.val (.int i0), .val (.int i1), .val (.int i2), .val (.int i3), .val (.int (4 : Int32)), .val (.int n), .val (.ref q), .val (.ref m1), .val (.ref m2)] [(.int (4 : Int32)), (.int (4 : Int32))])
    have hc96 : (4 : Int32) = (4 : Int32) := by decide
    refine Go.on (fun _ k => XS.icmpYes X92.here hx rfl (pc0 := 110) (pc' := 115) rfl (hb hby at_110) rfl (teq hc96).1 (by decide) (by decide) k) ?_
    show Go _ _ _ _ _ _ _ _ (mkF m 115 #[.val (.int i0), .val (.int i1), .val (.int i2), .val (.int i3), .val (.int (4 : Int32)), .val (.int n), .val (.ref q), .val (.ref m1), .val (.ref m2)] [])
    refine Go.on (fun _ k => XS.aload X92.here hx rfl (hb hby at_115) rfl rfl k) ?_
    show Go _ _ _ _ _ _ _ _ (mkF m 117 #[.val (.int i0), .val (.int i1), .val (.int i2), .val (.int i3), .val (.int (4 : Int32)), .val (.int n), .val (.ref q), .val (.ref m1), .val (.ref m2)] [(.ref m1)])
    refine Go.on (fun _ k => XS.aload X92.here hx rfl (hb hby at_117) rfl rfl k) ?_
    show Go _ _ _ _ _ _ _ _ (mkF m 119 #[.val (.int i0), .val (.int i1), .val (.int i2), .val (.int i3), .val (.int (4 : Int32)), .val (.int n), .val (.ref q), .val (.ref m1), .val (.ref m2)] [(.ref m2), (.ref m1)])
    refine Go.on (fun _ k => XS.iconst X92.here hx rfl (hb hby at_119) k) ?_
    show Go _ _ _ _ _ _ _ _ (mkF m 120 #[.val (.int i0), .val (.int i1), .val (.int i2), .val (.int i3), .val (.int (4 : Int32)), .val (.int n), .val (.ref q), .val (.ref m1), .val (.ref m2)] [(.int (0 : Int32)), (.ref m2), (.ref m1)])
    refine Go.on (fun _ k => XS.iload X92.here hx rfl (hb hby at_120) rfl k) ?_
    show Go _ _ _ _ _ _ _ _ (mkF m 122 #[.val (.int i0), .val (.int i1), .val (.int i2), .val (.int i3), .val (.int (4 : Int32)), .val (.int n), .val (.ref q), .val (.ref m1), .val (.ref m2)] [(.int (4 : Int32)), (.int (0 : Int32)), (.ref m2), (.ref m1)])
    refine Go.on (fun _ k => XS.iload X92.here hx rfl (hb hby at_122) rfl k) ?_
    show Go _ _ _ _ _ _ _ _ (mkF m 124 #[.val (.int i0), .val (.int i1), .val (.int i2), .val (.int i3), .val (.int (4 : Int32)), .val (.int n), .val (.ref q), .val (.ref m1), .val (.ref m2)] [(.int n), (.int (4 : Int32)), (.int (0 : Int32)), (.ref m2), (.ref m1)])
    refine Go.on (fun _ k => XS.iloadN X92.here hx rfl (hb hby at_124) rfl k) ?_
    show Go _ _ _ _ _ _ _ _ (mkF m 125 #[.val (.int i0), .val (.int i1), .val (.int i2), .val (.int i3), .val (.int (4 : Int32)), .val (.int n), .val (.ref q), .val (.ref m1), .val (.ref m2)] [(.int i1), (.int n), (.int (4 : Int32)), (.int (0 : Int32)), (.ref m2), (.ref m1)])
    refine Go.on (fun _ k => XS.iloadN X92.here hx rfl (hb hby at_125) rfl k) ?_
    show Go _ _ _ _ _ _ _ _ (mkF m 126 #[.val (.int i0), .val (.int i1), .val (.int i2), .val (.int i3), .val (.int (4 : Int32)), .val (.int n), .val (.ref q), .val (.ref m1), .val (.ref m2)] [(.int i2), (.int i1), (.int n), (.int (4 : Int32)), (.int (0 : Int32)), (.ref m2), (.ref m1)])
    refine Go.on (fun _ k => XS.iloadN X92.here hx rfl (hb hby at_126) rfl k) ?_
    show Go _ _ _ _ _ _ _ _ (mkF m 127 #[.val (.int i0), .val (.int i1), .val (.int i2), .val (.int i3), .val (.int (4 : Int32)), .val (.int n), .val (.ref q), .val (.ref m1), .val (.ref m2)] [(.int i3), (.int i2), (.int i1), (.int n), (.int (4 : Int32)), (.int (0 : Int32)), (.ref m2), (.ref m1)])
    obtain ⟨_, _, ⟨T97, L97, k97, n97⟩, -, X97, ⟨Lc97, hQ97, l97, y97, z97⟩, st97⟩ := Jvm.LawKit.callS X92 hx (y := (⟨"com/example/d2rank/d2rank/rerank/CentroidMeanPinLaw", "comp", "([D[DIIIIII)Z"⟩ : MethodName)) hown (mvT hZ (hw _ (List.mem_of_getElem? (i := 35) rfl))) (mvT hZ (hw _ (List.mem_of_getElem? (i := 36) rfl))) (mvT hZ (hw _ (List.mem_of_getElem? (i := 14) rfl))) (mvT hZ (hw _ (List.mem_of_getElem? (i := 37) rfl))) (by decide) (backOf (W := 0) (cp_4 l Z aw hw [] m1 m2 (0 : Int32) n i1 i2 i3 k_m1 (FP.ddiv t0 (FP.i2d ct)) (FP.ddiv t1 (FP.i2d ct)) (FP.ddiv t2 (FP.i2d ct)) (FP.ddiv t3 (FP.i2d ct)) k_m2 (FP.ddiv t0 (FP.i2d ct)) (FP.ddiv t1 (FP.i2d ct)) (FP.ddiv t2 (FP.i2d ct)) (FP.ddiv t3 (FP.i2d ct)) h92 n0 ZZ V_m1 V_m2 (by decide) (own_n0 hn)) hZ (hw _ (List.mem_of_getElem? (i := 37) rfl)) (hw _ (List.mem_of_getElem? (i := 14) rfl)) (by decide) (by decide)) (g := (mkF m 127 #[.val (.int i0), .val (.int i1), .val (.int i2), .val (.int i3), .val (.int (4 : Int32)), .val (.int n), .val (.ref q), .val (.ref m1), .val (.ref m2)] [(.int i3), (.int i2), (.int i1), (.int n), (.int (4 : Int32)), (.int (0 : Int32)), (.ref m2), (.ref m1)])) rfl (by rw [hml]; rfl) (argsL := [(.ref m1), (.ref m2), (.int (0 : Int32)), (.int (4 : Int32)), (.int n), (.int i1), (.int i2), (.int i3)]) (rest := []) (lenOf pd_7 rfl) rfl (by show 2 * 0 + _ ≤ _; exact Nat.le_of_eq rfl) (hb hby at_127) (fun _ _ => ⟨rfl, e92, (by decide : 7 + 0 ≤ _), (by decide : 26 + 0 ≤ _)⟩)
    dsimp only [Pt.U, Pt.locs, Pt.cells, Pt.slots] at X97 l97 y97 z97 st97 hQ97
    subst l97 y97 z97
    obtain ⟨rfl, N97q, e97⟩ := hQ97
    have N97 := Fr.app N92 N97q
    refine Go.on st97 ?_
    show Go _ _ _ _ _ _ _ _ (mkF m 130 #[.val (.int i0), .val (.int i1), .val (.int i2), .val (.int i3), .val (.int (4 : Int32)), .val (.int n), .val (.ref q), .val (.ref m1), .val (.ref m2)] [(.int (compV (if (0 : Int32) = (0 : Int32) then (FP.ddiv t0 (FP.i2d ct)) else (if (0 : Int32) = (1 : Int32) then (FP.ddiv t1 (FP.i2d ct)) else (if (0 : Int32) = (2 : Int32) then (FP.ddiv t2 (FP.i2d ct)) else (FP.ddiv t3 (FP.i2d ct))))) (if (0 : Int32) = (0 : Int32) then (FP.ddiv t0 (FP.i2d ct)) else (if (0 : Int32) = (1 : Int32) then (FP.ddiv t1 (FP.i2d ct)) else (if (0 : Int32) = (2 : Int32) then (FP.ddiv t2 (FP.i2d ct)) else (FP.ddiv t3 (FP.i2d ct))))) (0 : Int32) (4 : Int32) n i1 i2 i3))])
    have hc98 : ¬ ((compV (if (0 : Int32) = (0 : Int32) then (FP.ddiv t0 (FP.i2d ct)) else (if (0 : Int32) = (1 : Int32) then (FP.ddiv t1 (FP.i2d ct)) else (if (0 : Int32) = (2 : Int32) then (FP.ddiv t2 (FP.i2d ct)) else (FP.ddiv t3 (FP.i2d ct))))) (if (0 : Int32) = (0 : Int32) then (FP.ddiv t0 (FP.i2d ct)) else (if (0 : Int32) = (1 : Int32) then (FP.ddiv t1 (FP.i2d ct)) else (if (0 : Int32) = (2 : Int32) then (FP.ddiv t2 (FP.i2d ct)) else (FP.ddiv t3 (FP.i2d ct))))) (0 : Int32) (4 : Int32) n i1 i2 i3) = (0 : Int32)) := own_cmpC hn hct hT0
    refine Go.on (fun _ k => XS.ifNo X97.here hx rfl (hb hby at_130) rfl ((if0 _ _).trans (feq hc98).1) k) ?_
    show Go _ _ _ _ _ _ _ _ (mkF m 133 #[.val (.int i0), .val (.int i1), .val (.int i2), .val (.int i3), .val (.int (4 : Int32)), .val (.int n), .val (.ref q), .val (.ref m1), .val (.ref m2)] [])
    refine Go.on (fun _ k => XS.aload X97.here hx rfl (hb hby at_133) rfl rfl k) ?_
    show Go _ _ _ _ _ _ _ _ (mkF m 135 #[.val (.int i0), .val (.int i1), .val (.int i2), .val (.int i3), .val (.int (4 : Int32)), .val (.int n), .val (.ref q), .val (.ref m1), .val (.ref m2)] [(.ref m1)])
    refine Go.on (fun _ k => XS.aload X97.here hx rfl (hb hby at_135) rfl rfl k) ?_
    show Go _ _ _ _ _ _ _ _ (mkF m 137 #[.val (.int i0), .val (.int i1), .val (.int i2), .val (.int i3), .val (.int (4 : Int32)), .val (.int n), .val (.ref q), .val (.ref m1), .val (.ref m2)] [(.ref m2), (.ref m1)])
    refine Go.on (fun _ k => XS.iconst X97.here hx rfl (hb hby at_137) k) ?_
    show Go _ _ _ _ _ _ _ _ (mkF m 138 #[.val (.int i0), .val (.int i1), .val (.int i2), .val (.int i3), .val (.int (4 : Int32)), .val (.int n), .val (.ref q), .val (.ref m1), .val (.ref m2)] [(.int (1 : Int32)), (.ref m2), (.ref m1)])
    refine Go.on (fun _ k => XS.iload X97.here hx rfl (hb hby at_138) rfl k) ?_
    show Go _ _ _ _ _ _ _ _ (mkF m 140 #[.val (.int i0), .val (.int i1), .val (.int i2), .val (.int i3), .val (.int (4 : Int32)), .val (.int n), .val (.ref q), .val (.ref m1), .val (.ref m2)] [(.int (4 : Int32)), (.int (1 : Int32)), (.ref m2), (.ref m1)])
    refine Go.on (fun _ k => XS.iload X97.here hx rfl (hb hby at_140) rfl k) ?_
    show Go _ _ _ _ _ _ _ _ (mkF m 142 #[.val (.int i0), .val (.int i1), .val (.int i2), .val (.int i3), .val (.int (4 : Int32)), .val (.int n), .val (.ref q), .val (.ref m1), .val (.ref m2)] [(.int n), (.int (4 : Int32)), (.int (1 : Int32)), (.ref m2), (.ref m1)])
    refine Go.on (fun _ k => XS.iloadN X97.here hx rfl (hb hby at_142) rfl k) ?_
    show Go _ _ _ _ _ _ _ _ (mkF m 143 #[.val (.int i0), .val (.int i1), .val (.int i2), .val (.int i3), .val (.int (4 : Int32)), .val (.int n), .val (.ref q), .val (.ref m1), .val (.ref m2)] [(.int i1), (.int n), (.int (4 : Int32)), (.int (1 : Int32)), (.ref m2), (.ref m1)])
    refine Go.on (fun _ k => XS.iloadN X97.here hx rfl (hb hby at_143) rfl k) ?_
    show Go _ _ _ _ _ _ _ _ (mkF m 144 #[.val (.int i0), .val (.int i1), .val (.int i2), .val (.int i3), .val (.int (4 : Int32)), .val (.int n), .val (.ref q), .val (.ref m1), .val (.ref m2)] [(.int i2), (.int i1), (.int n), (.int (4 : Int32)), (.int (1 : Int32)), (.ref m2), (.ref m1)])
    refine Go.on (fun _ k => XS.iloadN X97.here hx rfl (hb hby at_144) rfl k) ?_
    show Go _ _ _ _ _ _ _ _ (mkF m 145 #[.val (.int i0), .val (.int i1), .val (.int i2), .val (.int i3), .val (.int (4 : Int32)), .val (.int n), .val (.ref q), .val (.ref m1), .val (.ref m2)] [(.int i3), (.int i2), (.int i1), (.int n), (.int (4 : Int32)), (.int (1 : Int32)), (.ref m2), (.ref m1)])
    obtain ⟨_, _, ⟨T99, L99, k99, n99⟩, -, X99, ⟨Lc99, hQ99, l99, y99, z99⟩, st99⟩ := Jvm.LawKit.callS X97 hx (y := (⟨"com/example/d2rank/d2rank/rerank/CentroidMeanPinLaw", "comp", "([D[DIIIIII)Z"⟩ : MethodName)) hown (mvT hZ (hw _ (List.mem_of_getElem? (i := 35) rfl))) (mvT hZ (hw _ (List.mem_of_getElem? (i := 36) rfl))) (mvT hZ (hw _ (List.mem_of_getElem? (i := 14) rfl))) (mvT hZ (hw _ (List.mem_of_getElem? (i := 37) rfl))) (by decide) (backOf (W := 0) (cp_4 l Z aw hw [] m1 m2 (1 : Int32) n i1 i2 i3 k_m1 (FP.ddiv t0 (FP.i2d ct)) (FP.ddiv t1 (FP.i2d ct)) (FP.ddiv t2 (FP.i2d ct)) (FP.ddiv t3 (FP.i2d ct)) k_m2 (FP.ddiv t0 (FP.i2d ct)) (FP.ddiv t1 (FP.i2d ct)) (FP.ddiv t2 (FP.i2d ct)) (FP.ddiv t3 (FP.i2d ct)) h92 n0 ZZ V_m1 V_m2 (by decide) (own_n0 hn)) hZ (hw _ (List.mem_of_getElem? (i := 37) rfl)) (hw _ (List.mem_of_getElem? (i := 14) rfl)) (by decide) (by decide)) (g := (mkF m 145 #[.val (.int i0), .val (.int i1), .val (.int i2), .val (.int i3), .val (.int (4 : Int32)), .val (.int n), .val (.ref q), .val (.ref m1), .val (.ref m2)] [(.int i3), (.int i2), (.int i1), (.int n), (.int (4 : Int32)), (.int (1 : Int32)), (.ref m2), (.ref m1)])) rfl (by rw [hml]; rfl) (argsL := [(.ref m1), (.ref m2), (.int (1 : Int32)), (.int (4 : Int32)), (.int n), (.int i1), (.int i2), (.int i3)]) (rest := []) (lenOf pd_7 rfl) rfl (by show 2 * 0 + _ ≤ _; exact Nat.le_of_eq rfl) (hb hby at_145) (fun _ _ => ⟨rfl, e97, (by decide : 7 + 0 ≤ _), (by decide : 26 + 0 ≤ _)⟩)
    dsimp only [Pt.U, Pt.locs, Pt.cells, Pt.slots] at X99 l99 y99 z99 st99 hQ99
    subst l99 y99 z99
    obtain ⟨rfl, N99q, e99⟩ := hQ99
    have N99 := Fr.app N97 N99q
    refine Go.on st99 ?_
    show Go _ _ _ _ _ _ _ _ (mkF m 148 #[.val (.int i0), .val (.int i1), .val (.int i2), .val (.int i3), .val (.int (4 : Int32)), .val (.int n), .val (.ref q), .val (.ref m1), .val (.ref m2)] [(.int (compV (if (1 : Int32) = (0 : Int32) then (FP.ddiv t0 (FP.i2d ct)) else (if (1 : Int32) = (1 : Int32) then (FP.ddiv t1 (FP.i2d ct)) else (if (1 : Int32) = (2 : Int32) then (FP.ddiv t2 (FP.i2d ct)) else (FP.ddiv t3 (FP.i2d ct))))) (if (1 : Int32) = (0 : Int32) then (FP.ddiv t0 (FP.i2d ct)) else (if (1 : Int32) = (1 : Int32) then (FP.ddiv t1 (FP.i2d ct)) else (if (1 : Int32) = (2 : Int32) then (FP.ddiv t2 (FP.i2d ct)) else (FP.ddiv t3 (FP.i2d ct))))) (1 : Int32) (4 : Int32) n i1 i2 i3))])
    have hc100 : ¬ ((compV (if (1 : Int32) = (0 : Int32) then (FP.ddiv t0 (FP.i2d ct)) else (if (1 : Int32) = (1 : Int32) then (FP.ddiv t1 (FP.i2d ct)) else (if (1 : Int32) = (2 : Int32) then (FP.ddiv t2 (FP.i2d ct)) else (FP.ddiv t3 (FP.i2d ct))))) (if (1 : Int32) = (0 : Int32) then (FP.ddiv t0 (FP.i2d ct)) else (if (1 : Int32) = (1 : Int32) then (FP.ddiv t1 (FP.i2d ct)) else (if (1 : Int32) = (2 : Int32) then (FP.ddiv t2 (FP.i2d ct)) else (FP.ddiv t3 (FP.i2d ct))))) (1 : Int32) (4 : Int32) n i1 i2 i3) = (0 : Int32)) := own_cmpC hn hct hT1
    refine Go.on (fun _ k => XS.ifNo X99.here hx rfl (hb hby at_148) rfl ((if0 _ _).trans (feq hc100).1) k) ?_
    show Go _ _ _ _ _ _ _ _ (mkF m 151 #[.val (.int i0), .val (.int i1), .val (.int i2), .val (.int i3), .val (.int (4 : Int32)), .val (.int n), .val (.ref q), .val (.ref m1), .val (.ref m2)] [])
    refine Go.on (fun _ k => XS.aload X99.here hx rfl (hb hby at_151) rfl rfl k) ?_
    show Go _ _ _ _ _ _ _ _ (mkF m 153 #[.val (.int i0), .val (.int i1), .val (.int i2), .val (.int i3), .val (.int (4 : Int32)), .val (.int n), .val (.ref q), .val (.ref m1), .val (.ref m2)] [(.ref m1)])
    refine Go.on (fun _ k => XS.aload X99.here hx rfl (hb hby at_153) rfl rfl k) ?_
    show Go _ _ _ _ _ _ _ _ (mkF m 155 #[.val (.int i0), .val (.int i1), .val (.int i2), .val (.int i3), .val (.int (4 : Int32)), .val (.int n), .val (.ref q), .val (.ref m1), .val (.ref m2)] [(.ref m2), (.ref m1)])
    refine Go.on (fun _ k => XS.iconst X99.here hx rfl (hb hby at_155) k) ?_
    show Go _ _ _ _ _ _ _ _ (mkF m 156 #[.val (.int i0), .val (.int i1), .val (.int i2), .val (.int i3), .val (.int (4 : Int32)), .val (.int n), .val (.ref q), .val (.ref m1), .val (.ref m2)] [(.int (2 : Int32)), (.ref m2), (.ref m1)])
    refine Go.on (fun _ k => XS.iload X99.here hx rfl (hb hby at_156) rfl k) ?_
    show Go _ _ _ _ _ _ _ _ (mkF m 158 #[.val (.int i0), .val (.int i1), .val (.int i2), .val (.int i3), .val (.int (4 : Int32)), .val (.int n), .val (.ref q), .val (.ref m1), .val (.ref m2)] [(.int (4 : Int32)), (.int (2 : Int32)), (.ref m2), (.ref m1)])
    refine Go.on (fun _ k => XS.iload X99.here hx rfl (hb hby at_158) rfl k) ?_
    show Go _ _ _ _ _ _ _ _ (mkF m 160 #[.val (.int i0), .val (.int i1), .val (.int i2), .val (.int i3), .val (.int (4 : Int32)), .val (.int n), .val (.ref q), .val (.ref m1), .val (.ref m2)] [(.int n), (.int (4 : Int32)), (.int (2 : Int32)), (.ref m2), (.ref m1)])
    refine Go.on (fun _ k => XS.iloadN X99.here hx rfl (hb hby at_160) rfl k) ?_
    show Go _ _ _ _ _ _ _ _ (mkF m 161 #[.val (.int i0), .val (.int i1), .val (.int i2), .val (.int i3), .val (.int (4 : Int32)), .val (.int n), .val (.ref q), .val (.ref m1), .val (.ref m2)] [(.int i1), (.int n), (.int (4 : Int32)), (.int (2 : Int32)), (.ref m2), (.ref m1)])
    refine Go.on (fun _ k => XS.iloadN X99.here hx rfl (hb hby at_161) rfl k) ?_
    show Go _ _ _ _ _ _ _ _ (mkF m 162 #[.val (.int i0), .val (.int i1), .val (.int i2), .val (.int i3), .val (.int (4 : Int32)), .val (.int n), .val (.ref q), .val (.ref m1), .val (.ref m2)] [(.int i2), (.int i1), (.int n), (.int (4 : Int32)), (.int (2 : Int32)), (.ref m2), (.ref m1)])
    refine Go.on (fun _ k => XS.iloadN X99.here hx rfl (hb hby at_162) rfl k) ?_
    show Go _ _ _ _ _ _ _ _ (mkF m 163 #[.val (.int i0), .val (.int i1), .val (.int i2), .val (.int i3), .val (.int (4 : Int32)), .val (.int n), .val (.ref q), .val (.ref m1), .val (.ref m2)] [(.int i3), (.int i2), (.int i1), (.int n), (.int (4 : Int32)), (.int (2 : Int32)), (.ref m2), (.ref m1)])
    obtain ⟨_, _, ⟨T101, L101, k101, n101⟩, -, X101, ⟨Lc101, hQ101, l101, y101, z101⟩, st101⟩ := Jvm.LawKit.callS X99 hx (y := (⟨"com/example/d2rank/d2rank/rerank/CentroidMeanPinLaw", "comp", "([D[DIIIIII)Z"⟩ : MethodName)) hown (mvT hZ (hw _ (List.mem_of_getElem? (i := 35) rfl))) (mvT hZ (hw _ (List.mem_of_getElem? (i := 36) rfl))) (mvT hZ (hw _ (List.mem_of_getElem? (i := 14) rfl))) (mvT hZ (hw _ (List.mem_of_getElem? (i := 37) rfl))) (by decide) (backOf (W := 0) (cp_4 l Z aw hw [] m1 m2 (2 : Int32) n i1 i2 i3 k_m1 (FP.ddiv t0 (FP.i2d ct)) (FP.ddiv t1 (FP.i2d ct)) (FP.ddiv t2 (FP.i2d ct)) (FP.ddiv t3 (FP.i2d ct)) k_m2 (FP.ddiv t0 (FP.i2d ct)) (FP.ddiv t1 (FP.i2d ct)) (FP.ddiv t2 (FP.i2d ct)) (FP.ddiv t3 (FP.i2d ct)) h92 n0 ZZ V_m1 V_m2 (by decide) (own_n0 hn)) hZ (hw _ (List.mem_of_getElem? (i := 37) rfl)) (hw _ (List.mem_of_getElem? (i := 14) rfl)) (by decide) (by decide)) (g := (mkF m 163 #[.val (.int i0), .val (.int i1), .val (.int i2), .val (.int i3), .val (.int (4 : Int32)), .val (.int n), .val (.ref q), .val (.ref m1), .val (.ref m2)] [(.int i3), (.int i2), (.int i1), (.int n), (.int (4 : Int32)), (.int (2 : Int32)), (.ref m2), (.ref m1)])) rfl (by rw [hml]; rfl) (argsL := [(.ref m1), (.ref m2), (.int (2 : Int32)), (.int (4 : Int32)), (.int n), (.int i1), (.int i2), (.int i3)]) (rest := []) (lenOf pd_7 rfl) rfl (by show 2 * 0 + _ ≤ _; exact Nat.le_of_eq rfl) (hb hby at_163) (fun _ _ => ⟨rfl, e99, (by decide : 7 + 0 ≤ _), (by decide : 26 + 0 ≤ _)⟩)
    dsimp only [Pt.U, Pt.locs, Pt.cells, Pt.slots] at X101 l101 y101 z101 st101 hQ101
    subst l101 y101 z101
    obtain ⟨rfl, N101q, e101⟩ := hQ101
    have N101 := Fr.app N99 N101q
    refine Go.on st101 ?_
    show Go _ _ _ _ _ _ _ _ (mkF m 166 #[.val (.int i0), .val (.int i1), .val (.int i2), .val (.int i3), .val (.int (4 : Int32)), .val (.int n), .val (.ref q), .val (.ref m1), .val (.ref m2)] [(.int (compV (if (2 : Int32) = (0 : Int32) then (FP.ddiv t0 (FP.i2d ct)) else (if (2 : Int32) = (1 : Int32) then (FP.ddiv t1 (FP.i2d ct)) else (if (2 : Int32) = (2 : Int32) then (FP.ddiv t2 (FP.i2d ct)) else (FP.ddiv t3 (FP.i2d ct))))) (if (2 : Int32) = (0 : Int32) then (FP.ddiv t0 (FP.i2d ct)) else (if (2 : Int32) = (1 : Int32) then (FP.ddiv t1 (FP.i2d ct)) else (if (2 : Int32) = (2 : Int32) then (FP.ddiv t2 (FP.i2d ct)) else (FP.ddiv t3 (FP.i2d ct))))) (2 : Int32) (4 : Int32) n i1 i2 i3))])
    have hc102 : ¬ ((compV (if (2 : Int32) = (0 : Int32) then (FP.ddiv t0 (FP.i2d ct)) else (if (2 : Int32) = (1 : Int32) then (FP.ddiv t1 (FP.i2d ct)) else (if (2 : Int32) = (2 : Int32) then (FP.ddiv t2 (FP.i2d ct)) else (FP.ddiv t3 (FP.i2d ct))))) (if (2 : Int32) = (0 : Int32) then (FP.ddiv t0 (FP.i2d ct)) else (if (2 : Int32) = (1 : Int32) then (FP.ddiv t1 (FP.i2d ct)) else (if (2 : Int32) = (2 : Int32) then (FP.ddiv t2 (FP.i2d ct)) else (FP.ddiv t3 (FP.i2d ct))))) (2 : Int32) (4 : Int32) n i1 i2 i3) = (0 : Int32)) := own_cmpC hn hct hT2
    refine Go.on (fun _ k => XS.ifNo X101.here hx rfl (hb hby at_166) rfl ((if0 _ _).trans (feq hc102).1) k) ?_
    show Go _ _ _ _ _ _ _ _ (mkF m 169 #[.val (.int i0), .val (.int i1), .val (.int i2), .val (.int i3), .val (.int (4 : Int32)), .val (.int n), .val (.ref q), .val (.ref m1), .val (.ref m2)] [])
    refine Go.on (fun _ k => XS.aload X101.here hx rfl (hb hby at_169) rfl rfl k) ?_
    show Go _ _ _ _ _ _ _ _ (mkF m 171 #[.val (.int i0), .val (.int i1), .val (.int i2), .val (.int i3), .val (.int (4 : Int32)), .val (.int n), .val (.ref q), .val (.ref m1), .val (.ref m2)] [(.ref m1)])
    refine Go.on (fun _ k => XS.aload X101.here hx rfl (hb hby at_171) rfl rfl k) ?_
    show Go _ _ _ _ _ _ _ _ (mkF m 173 #[.val (.int i0), .val (.int i1), .val (.int i2), .val (.int i3), .val (.int (4 : Int32)), .val (.int n), .val (.ref q), .val (.ref m1), .val (.ref m2)] [(.ref m2), (.ref m1)])
    refine Go.on (fun _ k => XS.iconst X101.here hx rfl (hb hby at_173) k) ?_
    show Go _ _ _ _ _ _ _ _ (mkF m 174 #[.val (.int i0), .val (.int i1), .val (.int i2), .val (.int i3), .val (.int (4 : Int32)), .val (.int n), .val (.ref q), .val (.ref m1), .val (.ref m2)] [(.int (3 : Int32)), (.ref m2), (.ref m1)])
    refine Go.on (fun _ k => XS.iload X101.here hx rfl (hb hby at_174) rfl k) ?_
    show Go _ _ _ _ _ _ _ _ (mkF m 176 #[.val (.int i0), .val (.int i1), .val (.int i2), .val (.int i3), .val (.int (4 : Int32)), .val (.int n), .val (.ref q), .val (.ref m1), .val (.ref m2)] [(.int (4 : Int32)), (.int (3 : Int32)), (.ref m2), (.ref m1)])
    refine Go.on (fun _ k => XS.iload X101.here hx rfl (hb hby at_176) rfl k) ?_
    show Go _ _ _ _ _ _ _ _ (mkF m 178 #[.val (.int i0), .val (.int i1), .val (.int i2), .val (.int i3), .val (.int (4 : Int32)), .val (.int n), .val (.ref q), .val (.ref m1), .val (.ref m2)] [(.int n), (.int (4 : Int32)), (.int (3 : Int32)), (.ref m2), (.ref m1)])
    refine Go.on (fun _ k => XS.iloadN X101.here hx rfl (hb hby at_178) rfl k) ?_
    show Go _ _ _ _ _ _ _ _ (mkF m 179 #[.val (.int i0), .val (.int i1), .val (.int i2), .val (.int i3), .val (.int (4 : Int32)), .val (.int n), .val (.ref q), .val (.ref m1), .val (.ref m2)] [(.int i1), (.int n), (.int (4 : Int32)), (.int (3 : Int32)), (.ref m2), (.ref m1)])
    refine Go.on (fun _ k => XS.iloadN X101.here hx rfl (hb hby at_179) rfl k) ?_
    show Go _ _ _ _ _ _ _ _ (mkF m 180 #[.val (.int i0), .val (.int i1), .val (.int i2), .val (.int i3), .val (.int (4 : Int32)), .val (.int n), .val (.ref q), .val (.ref m1), .val (.ref m2)] [(.int i2), (.int i1), (.int n), (.int (4 : Int32)), (.int (3 : Int32)), (.ref m2), (.ref m1)])
    refine Go.on (fun _ k => XS.iloadN X101.here hx rfl (hb hby at_180) rfl k) ?_
    show Go _ _ _ _ _ _ _ _ (mkF m 181 #[.val (.int i0), .val (.int i1), .val (.int i2), .val (.int i3), .val (.int (4 : Int32)), .val (.int n), .val (.ref q), .val (.ref m1), .val (.ref m2)] [(.int i3), (.int i2), (.int i1), (.int n), (.int (4 : Int32)), (.int (3 : Int32)), (.ref m2), (.ref m1)])
    obtain ⟨_, _, ⟨T103, L103, k103, n103⟩, -, X103, ⟨Lc103, hQ103, l103, y103, z103⟩, st103⟩ := Jvm.LawKit.callS X101 hx (y := (⟨"com/example/d2rank/d2rank/rerank/CentroidMeanPinLaw", "comp", "([D[DIIIIII)Z"⟩ : MethodName)) hown (mvT hZ (hw _ (List.mem_of_getElem? (i := 35) rfl))) (mvT hZ (hw _ (List.mem_of_getElem? (i := 36) rfl))) (mvT hZ (hw _ (List.mem_of_getElem? (i := 14) rfl))) (mvT hZ (hw _ (List.mem_of_getElem? (i := 37) rfl))) (by decide) (backOf (W := 0) (cp_4 l Z aw hw [] m1 m2 (3 : Int32) n i1 i2 i3 k_m1 (FP.ddiv t0 (FP.i2d ct)) (FP.ddiv t1 (FP.i2d ct)) (FP.ddiv t2 (FP.i2d ct)) (FP.ddiv t3 (FP.i2d ct)) k_m2 (FP.ddiv t0 (FP.i2d ct)) (FP.ddiv t1 (FP.i2d ct)) (FP.ddiv t2 (FP.i2d ct)) (FP.ddiv t3 (FP.i2d ct)) h92 n0 ZZ V_m1 V_m2 (by decide) (own_n0 hn)) hZ (hw _ (List.mem_of_getElem? (i := 37) rfl)) (hw _ (List.mem_of_getElem? (i := 14) rfl)) (by decide) (by decide)) (g := (mkF m 181 #[.val (.int i0), .val (.int i1), .val (.int i2), .val (.int i3), .val (.int (4 : Int32)), .val (.int n), .val (.ref q), .val (.ref m1), .val (.ref m2)] [(.int i3), (.int i2), (.int i1), (.int n), (.int (4 : Int32)), (.int (3 : Int32)), (.ref m2), (.ref m1)])) rfl (by rw [hml]; rfl) (argsL := [(.ref m1), (.ref m2), (.int (3 : Int32)), (.int (4 : Int32)), (.int n), (.int i1), (.int i2), (.int i3)]) (rest := []) (lenOf pd_7 rfl) rfl (by show 2 * 0 + _ ≤ _; exact Nat.le_of_eq rfl) (hb hby at_181) (fun _ _ => ⟨rfl, e101, (by decide : 7 + 0 ≤ _), (by decide : 26 + 0 ≤ _)⟩)
    dsimp only [Pt.U, Pt.locs, Pt.cells, Pt.slots] at X103 l103 y103 z103 st103 hQ103
    subst l103 y103 z103
    obtain ⟨rfl, N103q, e103⟩ := hQ103
    have N103 := Fr.app N101 N103q
    refine Go.on st103 ?_
    show Go _ _ _ _ _ _ _ _ (mkF m 184 #[.val (.int i0), .val (.int i1), .val (.int i2), .val (.int i3), .val (.int (4 : Int32)), .val (.int n), .val (.ref q), .val (.ref m1), .val (.ref m2)] [(.int (compV (if (3 : Int32) = (0 : Int32) then (FP.ddiv t0 (FP.i2d ct)) else (if (3 : Int32) = (1 : Int32) then (FP.ddiv t1 (FP.i2d ct)) else (if (3 : Int32) = (2 : Int32) then (FP.ddiv t2 (FP.i2d ct)) else (FP.ddiv t3 (FP.i2d ct))))) (if (3 : Int32) = (0 : Int32) then (FP.ddiv t0 (FP.i2d ct)) else (if (3 : Int32) = (1 : Int32) then (FP.ddiv t1 (FP.i2d ct)) else (if (3 : Int32) = (2 : Int32) then (FP.ddiv t2 (FP.i2d ct)) else (FP.ddiv t3 (FP.i2d ct))))) (3 : Int32) (4 : Int32) n i1 i2 i3))])
    have hc104 : ¬ ((compV (if (3 : Int32) = (0 : Int32) then (FP.ddiv t0 (FP.i2d ct)) else (if (3 : Int32) = (1 : Int32) then (FP.ddiv t1 (FP.i2d ct)) else (if (3 : Int32) = (2 : Int32) then (FP.ddiv t2 (FP.i2d ct)) else (FP.ddiv t3 (FP.i2d ct))))) (if (3 : Int32) = (0 : Int32) then (FP.ddiv t0 (FP.i2d ct)) else (if (3 : Int32) = (1 : Int32) then (FP.ddiv t1 (FP.i2d ct)) else (if (3 : Int32) = (2 : Int32) then (FP.ddiv t2 (FP.i2d ct)) else (FP.ddiv t3 (FP.i2d ct))))) (3 : Int32) (4 : Int32) n i1 i2 i3) = (0 : Int32)) := own_cmpC hn hct hT3
    refine Go.on (fun _ k => XS.ifNo X103.here hx rfl (hb hby at_184) rfl ((if0 _ _).trans (feq hc104).1) k) ?_
    show Go _ _ _ _ _ _ _ _ (mkF m 187 #[.val (.int i0), .val (.int i1), .val (.int i2), .val (.int i3), .val (.int (4 : Int32)), .val (.int n), .val (.ref q), .val (.ref m1), .val (.ref m2)] [])
    refine Go.on (fun _ k => XS.iconst X103.here hx rfl (hb hby at_187) k) ?_
    show Go _ _ _ _ _ _ _ _ (mkF m 188 #[.val (.int i0), .val (.int i1), .val (.int i2), .val (.int i3), .val (.int (4 : Int32)), .val (.int n), .val (.ref q), .val (.ref m1), .val (.ref m2)] [(.int (1 : Int32))])
    refine Go.on (fun _ k => XS.goto X103.here hx rfl (pc0 := 188) (pc' := 192) rfl (hb hby at_188) (by decide) (by decide) k) ?_
    show Go _ _ _ _ _ _ _ _ (mkF m 192 #[.val (.int i0), .val (.int i1), .val (.int i2), .val (.int i3), .val (.int (4 : Int32)), .val (.int n), .val (.ref q), .val (.ref m1), .val (.ref m2)] [(.int (1 : Int32))])
    refine Go.retN X103 hx (t := .boolean) Bd.returns (by simp) (hb hby at_192) ?_ (by rw [hK1]; decide) (by rw [hK2]; decide)
    rw [e103, ← hQQ]
    exact ⟨rfl, N103⟩
set_option maxRecDepth 65536 in
set_option maxHeartbeats 40000000 in
theorem comes_1 {Post : Tables → Env → Array Value → State → Outcome → State → Prop} (hpost : ∀ tb e args s v u, (limb_1_1.after args s (.returned v) u = true ∧ limb_1_2.after args s (.returned v) u = true ∧ True) → FrameEnd s (.returned v) u (Jvm.fieldLocs frame_1_writes args s ++ Jvm.arrayLocs frame_1_arrays args s ++ Jvm.staticLocs frame_1_statics s) 24 128 → Post tb e args s (.returned v) u) :
    ArmFor flags0 classFile x code maxLocals ret World_1 tables_1 room_1 Calls_1 rest_1 Pre_1 Post := by
  intro l hfl _ _ p e ha hc hk s m args below hf hA hF happ hP
  obtain ⟨hcalls, hrest, hpre⟩ := hP
  obtain ⟨-, -, -, hnamed, -, -, -, hat⟩ := (Spec.applies_iff hf).mp happ
  obtain ⟨hg, hn⟩ := and_e (Cond.before_iff.mp (show (Jvm.Cond.and given_1 narrow_1).before args s = true from hpre))
  obtain ⟨g0, r0⟩ := and_e hg
  obtain ⟨g1, r1⟩ := and_e r0
  obtain ⟨g2, r2⟩ := and_e r1
  obtain ⟨g3, g4⟩ := and_e r2
  obtain ⟨w0, w1, w2, w3, rfl⟩ : ∃ w0 w1 w2 w3 : Value, args = #[w0, w1, w2, w3] := by
    have hs : args.size = 4 := by simpa [Cond.value, given_1] using g0
    obtain ⟨L⟩ := args
    match L, hs with
    | [w0, w1, w2, w3], _ => exact ⟨w0, w1, w2, w3, rfl⟩
  have hw := fun d (hd : d ∈ tables_1) => atoms_spec (ws := Jvm.Cond.code x code maxLocals ret :: tables_1) hat d (List.mem_cons_of_mem _ hd)
  have hfit : Fit s := fun {y c} hc i hi => by
    obtain ⟨ha, rfl⟩ := Array.getElem?_eq_some_iff.mp hc
    have q := List.all_eq_true.mp ((Array.all_eq_true_iff_forall_mem.mp hF) _ (Array.getElem_mem ha)) i (List.mem_range.mpr hi)
    simpa [Array.getElem?_eq_getElem hi] using q
  obtain ⟨i0, ei0⟩ := is_v g1
  obtain rfl : w0 = (.int i0) := Option.some.inj ei0
  obtain ⟨i1, ei1⟩ := is_v g2
  obtain rfl : w1 = (.int i1) := Option.some.inj ei1
  obtain ⟨i2, ei2⟩ := is_v g3
  obtain rfl : w2 = (.int i2) := Option.some.inj ei2
  obtain ⟨i3, ei3⟩ := is_v g4
  obtain rfl : w3 = (.int i3) := Option.some.inj ei3
  obtain ⟨n, o, h1, h2, h3, _, L, rfl, ⟨rfl, N⟩, hq⟩ := rm0 l s _ hw tables_1 i0 i1 i2 i3 s.heap s.heap.size (Nat.le_refl _) p e ha hc hk s m _ below hf ((Spec.applies_iff_loose hf).mp happ).1 ⟨rfl, State.Warmed39.refl s, rfl⟩ trivial
  refine ⟨n, _, h1, h2, h3, hpost _ _ _ _ _ _ ⟨Cond.after_iff.mpr rfl, Cond.after_iff.mpr (eq_i res_at (Term.int_eval (1)) rfl), trivial⟩ ⟨hq.1, hq.2.1, (hq.2.2.sift fun y hy => Or.inr (N y hy)).mono (by decide) (by decide)⟩⟩
theorem main_1_1 : Claimed_1_1 := comes_1 fun _ _ _ _ _ _ h hF => ⟨h.1, hF⟩
theorem main_1_2 : Claimed_1_2 := comes_1 fun _ _ _ _ _ _ h hF => ⟨h.2.1, hF⟩
end Jvm.Pilot.@@N@@
namespace Jvm.Pilot.@@N@@
open Jvm Jvm.ClassFile Sem Op Lib Jvm.Free Jvm.Stand Jvm.Pilot.@@N@@.Jvm.D
/-! MADE BY PROGRAM (witnessworld.py) out of the Statement's table words and the real class files: 11 classes; the members and pool entries that the words name. The judged class is class 1, her method 1. -/
namespace start1
open Jvm.ClassFile
def u (s : String) : CpInfo := .utf8 (stringToUtf16 s)
/-- a pool by its gaps: so many unusable entries, then the entry; so many at the end -/
def gap : Nat → List CpInfo → List CpInfo
  | 0, r => r
  | n + 1, r => .unusable :: gap n r
def poolList (es : List (Nat × CpInfo)) (last : Nat) : List CpInfo := es.foldr (fun e r => gap e.1 (e.2 :: r)) (gap last [])
def pool (es : List (Nat × CpInfo)) (last : Nat) : Array CpInfo := ⟨poolList es last⟩
def fileOf (pool : Array CpInfo) (this : Nat) (attrs : Array Attribute := #[]) (ms : Array MethodInfo := #[]) (fl : Nat := 33) (sup : Nat := 0) (ifs : Array Nat := #[]) (fds : Array FieldInfo := #[]) : ClassFile where
  minorVersion := 0
  majorVersion := 65
  constantPool := pool
  accessFlags := fl
  thisClass := this
  superClass := sup
  interfaces := ifs
  fields := fds
  methods := ms
  attributes := attrs
def plain (name : String) (sup : Option ClassId) : Class where
  name := name
  kind := .ordinary
  loader := none
  accessFlags := 33
  super := sup
  interfaces := #[]
  cf := none
  fields := #[]
  methods := #[]
  instanceTypes := #[]
  staticTypes := #[]
  resolved := #[]
  callSites := []
  init := .initialized
  statics := none
  mirror := none

def pool0 : Array CpInfo := pool [(5, u "<init>"), (0, u "()V"), (1, .class_ 10), (1, u "java/lang/Object")] 113

def k0c0 : Code := { maxStack := 0, maxLocals := 1, code := object_method_1_code, exceptionTable := #[], attributes := #[] }
def k0m0 : Method := { name := "<init>", desc := "()V", sig := { parameters := [], returnType := none }, accessFlags := 1, code := some k0c0 }
/-- java/lang/Object -/
def k0 : Class := { plain "java/lang/Object" none with
  accessFlags := 33
  interfaces := #[]
  cf := some (fileOf pool0 8 #[] #[{ accessFlags := 1, nameIndex := 5, descriptorIndex := 6, attributes := #[] }] 33 0 #[] #[])
  fields := #[]
  methods := #[k0m0]
  instanceTypes := #[]
  staticTypes := #[]
  resolved := Array.replicate 124 none
  statics := none }

def pool1 : Array CpInfo := pool [(2, .class_ 4), (1, u "java/lang/Object"), (0, u "<init>"), (0, u "()V"), (0, .class_ 8), (0, u "com/example/d2rank/d2rank/rerank/Centroid"), (0, .methodref 7 10), (0, .nameAndType 5 11), (0, u "(I)V"), (0, .methodref 13 14), (0, .class_ 15), (0, .nameAndType 16 17), (0, u "com/example/d2rank/d2rank/rerank/CentroidMeanPinLaw"), (0, u "unit"), (0, u "(II)[D"), (0, .methodref 7 19), (0, .nameAndType 20 21), (0, u "add"), (0, u "([D)V"), (0, .methodref 7 23), (0, .nameAndType 24 25), (0, u "mean"), (0, u "()[D"), (0, .methodref 13 27), (0, .nameAndType 28 29), (0, u "comp"), (0, u "([D[DIIIIII)Z"), (0, .integer 1073741823), (0, .methodref 13 32), (0, .nameAndType 33 34), (0, u "index"), (0, u "(II)I"), (0, .methodref 13 36), (0, .nameAndType 37 38), (0, u "sign"), (0, u "(I)I"), (0, .methodref 13 40), (0, .nameAndType 41 42), (0, u "contrib"), (0, u "(III)I"), (2, u "law"), (0, u "(IIII)Z")] 5

def k1m0 : Method := { name := "<init>", desc := "()V", sig := { parameters := [], returnType := none }, accessFlags := 1, code := none }
def k1c1 : Code := { maxStack := 8, maxLocals := 9, code := code, exceptionTable := #[], attributes := #[] }
def k1m1 : Method := { name := "law", desc := "(IIII)Z", sig := { parameters := [.int, .int, .int, .int], returnType := some .boolean }, accessFlags := 9, code := some k1c1 }
def k1c2 : Code := { maxStack := 2, maxLocals := 2, code := method_3_code, exceptionTable := #[], attributes := #[] }
def k1m2 : Method := { name := "index", desc := "(II)I", sig := { parameters := [.int, .int], returnType := some .int }, accessFlags := 10, code := some k1c2 }
def k1c3 : Code := { maxStack := 2, maxLocals := 1, code := method_4_code, exceptionTable := #[], attributes := #[] }
def k1m3 : Method := { name := "sign", desc := "(I)I", sig := { parameters := [.int], returnType := some .int }, accessFlags := 10, code := some k1c3 }
def k1c4 : Code := { maxStack := 4, maxLocals := 3, code := method_5_code, exceptionTable := #[], attributes := #[] }
def k1m4 : Method := { name := "unit", desc := "(II)[D", sig := { parameters := [.int, .int], returnType := some (.array .double) }, accessFlags := 10, code := some k1c4 }
def k1c5 : Code := { maxStack := 2, maxLocals := 3, code := method_6_code, exceptionTable := #[], attributes := #[] }
def k1m5 : Method := { name := "contrib", desc := "(III)I", sig := { parameters := [.int, .int, .int], returnType := some .int }, accessFlags := 10, code := some k1c5 }
def k1c6 : Code := { maxStack := 4, maxLocals := 11, code := method_7_code, exceptionTable := #[], attributes := #[] }
def k1m6 : Method := { name := "comp", desc := "([D[DIIIIII)Z", sig := { parameters := [(.array .double), (.array .double), .int, .int, .int, .int, .int, .int], returnType := some .boolean }, accessFlags := 10, code := some k1c6 }
/-- com/example/d2rank/d2rank/rerank/CentroidMeanPinLaw -/
def k1 : Class := { plain "com/example/d2rank/d2rank/rerank/CentroidMeanPinLaw" (some 0) with
  accessFlags := 49
  interfaces := #[]
  cf := some (fileOf pool1 13 #[] #[{ accessFlags := 1, nameIndex := 5, descriptorIndex := 6, attributes := #[] }, { accessFlags := 9, nameIndex := 45, descriptorIndex := 46, attributes := #[] }, { accessFlags := 10, nameIndex := 33, descriptorIndex := 34, attributes := #[] }, { accessFlags := 10, nameIndex := 37, descriptorIndex := 38, attributes := #[] }, { accessFlags := 10, nameIndex := 16, descriptorIndex := 17, attributes := #[] }, { accessFlags := 10, nameIndex := 41, descriptorIndex := 42, attributes := #[] }, { accessFlags := 10, nameIndex := 28, descriptorIndex := 29, attributes := #[] }] 49 2 #[] #[])
  fields := #[]
  methods := #[k1m0, k1m1, k1m2, k1m3, k1m4, k1m5, k1m6]
  instanceTypes := #[]
  staticTypes := #[]
  resolved := Array.replicate 52 none
  statics := none }

def pool2 : Array CpInfo := pool [(1, .methodref 2 3), (0, .class_ 4), (0, .nameAndType 5 6), (0, u "java/lang/Object"), (0, u "<init>"), (0, u "()V"), (0, .fieldref 8 9), (0, .class_ 10), (0, .nameAndType 11 12), (0, u "com/example/d2rank/d2rank/rerank/Centroid"), (0, u "sum"), (0, u "[D"), (0, .fieldref 8 14), (0, .nameAndType 15 16), (0, u "count"), (0, u "I"), (6, u "(I)V"), (2, u "add"), (0, u "([D)V"), (3, u "mean"), (0, u "()[D")] 3

def k2c0 : Code := { maxStack := 2, maxLocals := 2, code := prog_44_method_1_code, exceptionTable := #[], attributes := #[] }
def k2m0 : Method := { name := "<init>", desc := "(I)V", sig := { parameters := [.int], returnType := none }, accessFlags := 0, code := some k2c0 }
def k2c1 : Code := { maxStack := 6, maxLocals := 3, code := prog_44_method_2_code, exceptionTable := #[], attributes := #[] }
def k2m1 : Method := { name := "add", desc := "([D)V", sig := { parameters := [(.array .double)], returnType := none }, accessFlags := 0, code := some k2c1 }
def k2c2 : Code := { maxStack := 6, maxLocals := 3, code := prog_44_method_4_code, exceptionTable := #[], attributes := #[] }
def k2m2 : Method := { name := "mean", desc := "()[D", sig := { parameters := [], returnType := some (.array .double) }, accessFlags := 0, code := some k2c2 }
/-- com/example/d2rank/d2rank/rerank/Centroid -/
def k2 : Class := { plain "com/example/d2rank/d2rank/rerank/Centroid" (some 0) with
  accessFlags := 48
  interfaces := #[]
  cf := some (fileOf pool2 8 #[] #[{ accessFlags := 0, nameIndex := 5, descriptorIndex := 23, attributes := #[] }, { accessFlags := 0, nameIndex := 26, descriptorIndex := 27, attributes := #[] }, { accessFlags := 0, nameIndex := 31, descriptorIndex := 32, attributes := #[] }] 48 2 #[] #[{ accessFlags := 18, nameIndex := 11, descriptorIndex := 12, attributes := #[] }, { accessFlags := 2, nameIndex := 15, descriptorIndex := 16, attributes := #[] }])
  fields := #[{ name := "sum", type := (.array .double), accessFlags := 18, slot := 0, constantValue := 0 }, { name := "count", type := .int, accessFlags := 2, slot := 1, constantValue := 0 }]
  methods := #[k2m0, k2m1, k2m2]
  instanceTypes := #[(.array .double), .int]
  staticTypes := #[]
  resolved := Array.replicate 36 none
  statics := none }

def pool3 : Array CpInfo := pool [(1, u "java/lang/Cloneable"), (0, .class_ 1), (0, u "java/lang/Object"), (0, .class_ 3)] 3

/-- java/lang/Cloneable -/
def k3 : Class := { plain "java/lang/Cloneable" (some 0) with
  accessFlags := 1537
  interfaces := #[]
  cf := some (fileOf pool3 2 #[] #[] 1537 4 #[] #[])
  fields := #[]
  methods := #[]
  instanceTypes := #[]
  staticTypes := #[]
  resolved := Array.replicate 8 none
  statics := none }

def pool4 : Array CpInfo := pool [(1, u "java/io/Serializable"), (0, .class_ 1), (0, u "java/lang/Object"), (0, .class_ 3)] 3

/-- java/io/Serializable -/
def k4 : Class := { plain "java/io/Serializable" (some 0) with
  accessFlags := 1537
  interfaces := #[]
  cf := some (fileOf pool4 2 #[] #[] 1537 4 #[] #[])
  fields := #[]
  methods := #[]
  instanceTypes := #[]
  staticTypes := #[]
  resolved := Array.replicate 8 none
  statics := none }

/-- the primitive byte -/
def k5 : Class := { plain "byte" none with kind := .primitive 'B', accessFlags := 0x411 }
/-- [B -/
def k6 : Class := { plain "[B" (some 0) with kind := .array 5 .byte, interfaces := #[3, 4], accessFlags := 1041 }

/-- the primitive double -/
def k7 : Class := { plain "double" none with kind := .primitive 'D', accessFlags := 0x411 }
/-- [D -/
def k8 : Class := { plain "[D" (some 0) with kind := .array 7 .double, interfaces := #[3, 4], accessFlags := 1041 }

/-- the primitive int -/
def k9 : Class := { plain "int" none with kind := .primitive 'I', accessFlags := 0x411 }
/-- [I -/
def k10 : Class := { plain "[I" (some 0) with kind := .array 9 .int, interfaces := #[3, 4], accessFlags := 1041 }

def heap : Heap := #[]
def classes : Array Class := #[k0, k1, k2, k3, k4, k5, k6, k7, k8, k9, k10]
def interned : List (Array UInt16 × Addr) := []
def slotsUsed : Nat := 0
def theMethod : MethodId := ⟨1, 1⟩
def args0 : Array Value := #[.int 5, .int 300, .int 7, .int 300]
def aboutOver (below : List Frame) : State where
  vm := { classes := classes, interned := interned.toArray }
  heap := heap
  slotsUsed := slotsUsed
  threads := #[{ frames := .invoking theMethod args0 :: below }]
def below0 : List Frame := [.native { method := ⟨0, 0⟩, args := #[] }]
def about1 : State := aboutOver below0
def p0 : Program := .bare "" "" ""
def e0 : Env := launch0.env 0 0 0
theorem w_frames : about1.frames = Frame.invoking theMethod args0 :: below0 := rfl
set_option maxRecDepth 65536 in
theorem w_args : argsFit about1.vm theMethod args0 = true := by decide +kernel
set_option maxRecDepth 65536 in
theorem w_heap : heapFits about1 = true := by decide +kernel
set_option maxRecDepth 65536 in
theorem w_runnable : about1.curStatus? = some .runnable := by decide +kernel
set_option maxRecDepth 65536 in
theorem w_alone : about1.alone = true := by decide +kernel
set_option maxRecDepth 65536 in
theorem w_named : about1.methodNamed? x = some theMethod := by decide +kernel
set_option maxRecDepth 65536 in
theorem w_hears : about1.hears theMethod below0 = true := by decide +kernel
set_option maxRecDepth 65536 in
theorem w_ripe : about1.ripe theMethod args0 below0 = true := by decide +kernel
theorem w_running : about1.status = .running := rfl
set_option maxRecDepth 65536 in
theorem w_room : about1.hasRoom e0.platform room_1 = true :=
  launch0.hasRoom_least _ room_1 (by decide +kernel) (by decide +kernel) (by decide +kernel) (by decide +kernel) (by decide +kernel) (by decide +kernel)
theorem allAtoms_all (ts : List Jvm.Cond) (a : Array Jvm.Value) (st : Jvm.State) : (allAtoms ts).before a st = ts.all (fun c => c.before a st) := by
  induction ts with
  | nil => rfl
  | cons c t ih =>
    show (Jvm.Cond.and c (allAtoms t)).before a st = _
    rw [Jvm.Cond.before_and, ih, List.all_cons]
def words1 : List Jvm.Cond := Jvm.Cond.code x code maxLocals ret :: tables_1
/-- a 'code' word, met by the world's own term for the bytes: nothing is compared byte by byte -/
theorem code_word {y : MethodName} {bytes : ByteArray} {mx : Nat} {rt : Option FieldType} {a : Array Value} {s : State} {m : MethodId} {meth : Method} {c : Code} (h1 : s.methodNamed? y = some m) (h2 : s.vm.method? m = some meth) (h3 : meth.code = some c) (h4 : c.code = bytes)
    (h5 : (c.maxLocals == mx && c.exceptionTable.isEmpty && decide (c.maxStack ≤ mostOperands) && decide (meth.sig.returnType = rt) && !meth.locks && decide (parseMethodDescriptor y.desc = some meth.sig)) = true) : (Jvm.Cond.code y bytes mx rt).before a s = true := by
  simp only [Bool.and_eq_true, beq_iff_eq, Bool.not_eq_true', decide_eq_true_eq] at h5
  obtain ⟨⟨⟨⟨⟨g1, g2⟩, g3⟩, g4⟩, g5⟩, g6⟩ := h5
  simp [Cond.before, Cond.holds, Cond.value, h1, h2, h3, h4, g1, g2, g3, g4, g5, g6]
def isCode : Jvm.Cond → Bool
  | .code _ _ _ _ => true
  | _ => false
theorem all_split {L : List Jvm.Cond} {P : Jvm.Cond → Bool} (h1 : L.all (fun c => isCode c || P c) = true) (h2 : ∀ c ∈ L.filter isCode, P c = true) : L.all P = true := by
  refine List.all_eq_true.mpr fun c hc => ?_
  have h := List.all_eq_true.mp h1 c hc
  rcases Bool.eq_false_or_eq_true (isCode c) with hi | hi
  · exact h2 c (List.mem_filter.mpr ⟨hc, hi⟩)
  · simpa [hi] using h
set_option maxRecDepth 65536 in
theorem w_c0 : (Jvm.Cond.code x code maxLocals ret).before args0 about1 = true := code_word (m := ⟨1, 1⟩) (meth := k1m1) (c := k1c1) (by decide +kernel) rfl rfl rfl (by decide +kernel)
set_option maxRecDepth 65536 in
theorem w_c1 : (Jvm.Cond.code ({ cls := "com/example/d2rank/d2rank/rerank/Centroid", name := "<init>", desc := "(I)V" } : Jvm.MethodName) prog_44_method_1_code (2 : Nat) (Option.none : Option Jvm.ClassFile.FieldType)).before args0 about1 = true := code_word (m := ⟨2, 0⟩) (meth := k2m0) (c := k2c0) (by decide +kernel) rfl rfl rfl (by decide +kernel)
set_option maxRecDepth 65536 in
theorem w_c2 : (Jvm.Cond.code ({ cls := "java/lang/Object", name := "<init>", desc := "()V" } : Jvm.MethodName) object_method_1_code (1 : Nat) (Option.none : Option Jvm.ClassFile.FieldType)).before args0 about1 = true := code_word (m := ⟨0, 0⟩) (meth := k0m0) (c := k0c0) (by decide +kernel) rfl rfl rfl (by decide +kernel)
set_option maxRecDepth 65536 in
theorem w_c3 : (Jvm.Cond.code ({ cls := "com/example/d2rank/d2rank/rerank/CentroidMeanPinLaw", name := "unit", desc := "(II)[D" } : Jvm.MethodName) method_5_code (3 : Nat) (Option.some (Jvm.ClassFile.FieldType.array Jvm.ClassFile.FieldType.double))).before args0 about1 = true := code_word (m := ⟨1, 4⟩) (meth := k1m4) (c := k1c4) (by decide +kernel) rfl rfl rfl (by decide +kernel)
set_option maxRecDepth 65536 in
theorem w_c4 : (Jvm.Cond.code ({ cls := "com/example/d2rank/d2rank/rerank/CentroidMeanPinLaw", name := "index", desc := "(II)I" } : Jvm.MethodName) method_3_code (2 : Nat) (Option.some Jvm.ClassFile.FieldType.int)).before args0 about1 = true := code_word (m := ⟨1, 2⟩) (meth := k1m2) (c := k1c2) (by decide +kernel) rfl rfl rfl (by decide +kernel)
set_option maxRecDepth 65536 in
theorem w_c5 : (Jvm.Cond.code ({ cls := "com/example/d2rank/d2rank/rerank/CentroidMeanPinLaw", name := "sign", desc := "(I)I" } : Jvm.MethodName) method_4_code (1 : Nat) (Option.some Jvm.ClassFile.FieldType.int)).before args0 about1 = true := code_word (m := ⟨1, 3⟩) (meth := k1m3) (c := k1c3) (by decide +kernel) rfl rfl rfl (by decide +kernel)
set_option maxRecDepth 65536 in
theorem w_c6 : (Jvm.Cond.code ({ cls := "com/example/d2rank/d2rank/rerank/Centroid", name := "add", desc := "([D)V" } : Jvm.MethodName) prog_44_method_2_code (3 : Nat) (Option.none : Option Jvm.ClassFile.FieldType)).before args0 about1 = true := code_word (m := ⟨2, 1⟩) (meth := k2m1) (c := k2c1) (by decide +kernel) rfl rfl rfl (by decide +kernel)
set_option maxRecDepth 65536 in
theorem w_c7 : (Jvm.Cond.code ({ cls := "com/example/d2rank/d2rank/rerank/Centroid", name := "mean", desc := "()[D" } : Jvm.MethodName) prog_44_method_4_code (3 : Nat) (Option.some (Jvm.ClassFile.FieldType.array Jvm.ClassFile.FieldType.double))).before args0 about1 = true := code_word (m := ⟨2, 2⟩) (meth := k2m2) (c := k2c2) (by decide +kernel) rfl rfl rfl (by decide +kernel)
set_option maxRecDepth 65536 in
theorem w_c8 : (Jvm.Cond.code ({ cls := "com/example/d2rank/d2rank/rerank/CentroidMeanPinLaw", name := "comp", desc := "([D[DIIIIII)Z" } : Jvm.MethodName) method_7_code (11 : Nat) (Option.some Jvm.ClassFile.FieldType.boolean)).before args0 about1 = true := code_word (m := ⟨1, 6⟩) (meth := k1m6) (c := k1c6) (by decide +kernel) rfl rfl rfl (by decide +kernel)
set_option maxRecDepth 65536 in
theorem w_c9 : (Jvm.Cond.code ({ cls := "com/example/d2rank/d2rank/rerank/CentroidMeanPinLaw", name := "contrib", desc := "(III)I" } : Jvm.MethodName) method_6_code (3 : Nat) (Option.some Jvm.ClassFile.FieldType.int)).before args0 about1 = true := code_word (m := ⟨1, 5⟩) (meth := k1m5) (c := k1c5) (by decide +kernel) rfl rfl rfl (by decide +kernel)
def codes1 : List Jvm.Cond := [Jvm.Cond.code x code maxLocals ret, Jvm.Cond.code ({ cls := "com/example/d2rank/d2rank/rerank/Centroid", name := "<init>", desc := "(I)V" } : Jvm.MethodName) prog_44_method_1_code (2 : Nat) (Option.none : Option Jvm.ClassFile.FieldType), Jvm.Cond.code ({ cls := "java/lang/Object", name := "<init>", desc := "()V" } : Jvm.MethodName) object_method_1_code (1 : Nat) (Option.none : Option Jvm.ClassFile.FieldType), Jvm.Cond.code ({ cls := "com/example/d2rank/d2rank/rerank/CentroidMeanPinLaw", name := "unit", desc := "(II)[D" } : Jvm.MethodName) method_5_code (3 : Nat) (Option.some (Jvm.ClassFile.FieldType.array Jvm.ClassFile.FieldType.double)), Jvm.Cond.code ({ cls := "com/example/d2rank/d2rank/rerank/CentroidMeanPinLaw", name := "index", desc := "(II)I" } : Jvm.MethodName) method_3_code (2 : Nat) (Option.some Jvm.ClassFile.FieldType.int), Jvm.Cond.code ({ cls := "com/example/d2rank/d2rank/rerank/CentroidMeanPinLaw", name := "sign", desc := "(I)I" } : Jvm.MethodName) method_4_code (1 : Nat) (Option.some Jvm.ClassFile.FieldType.int), Jvm.Cond.code ({ cls := "com/example/d2rank/d2rank/rerank/Centroid", name := "add", desc := "([D)V" } : Jvm.MethodName) prog_44_method_2_code (3 : Nat) (Option.none : Option Jvm.ClassFile.FieldType), Jvm.Cond.code ({ cls := "com/example/d2rank/d2rank/rerank/Centroid", name := "mean", desc := "()[D" } : Jvm.MethodName) prog_44_method_4_code (3 : Nat) (Option.some (Jvm.ClassFile.FieldType.array Jvm.ClassFile.FieldType.double)), Jvm.Cond.code ({ cls := "com/example/d2rank/d2rank/rerank/CentroidMeanPinLaw", name := "comp", desc := "([D[DIIIIII)Z" } : Jvm.MethodName) method_7_code (11 : Nat) (Option.some Jvm.ClassFile.FieldType.boolean), Jvm.Cond.code ({ cls := "com/example/d2rank/d2rank/rerank/CentroidMeanPinLaw", name := "contrib", desc := "(III)I" } : Jvm.MethodName) method_6_code (3 : Nat) (Option.some Jvm.ClassFile.FieldType.int)]
set_option maxRecDepth 65536 in
theorem codes_eq : words1.filter isCode = codes1 := rfl
theorem w_codes : ∀ c ∈ words1.filter isCode, c.before args0 about1 = true := by
  rw [codes_eq]
  intro c hc
  simp only [codes1, List.mem_cons, List.not_mem_nil, or_false] at hc
  rcases hc with rfl | rfl | rfl | rfl | rfl | rfl | rfl | rfl | rfl | rfl
  · exact w_c0
  · exact w_c1
  · exact w_c2
  · exact w_c3
  · exact w_c4
  · exact w_c5
  · exact w_c6
  · exact w_c7
  · exact w_c8
  · exact w_c9
set_option maxRecDepth 65536 in
theorem w_t1 : (words1.take 24).all (fun c => isCode c || c.before args0 about1) = true := by decide +kernel
set_option maxRecDepth 65536 in
theorem w_t2 : (words1.drop 24).all (fun c => isCode c || c.before args0 about1) = true := by decide +kernel
theorem w_tables : (allAtoms (Jvm.Cond.code x code maxLocals ret :: tables_1)).before args0 about1 = true := by
  rw [allAtoms_all]
  show words1.all (fun c => c.before args0 about1) = true
  refine all_split ?_ w_codes
  rw [← List.take_append_drop 24 words1, List.all_append, w_t1, w_t2]
  rfl
set_option maxRecDepth 65536 in
theorem w_case : (Jvm.Cond.and given_1 narrow_1).before args0 about1 = true := by decide +kernel
theorem w_applies : (headSpec (Jvm.Cond.code x code maxLocals ret :: tables_1) room_1).applies x e0.platform about1 = true :=
  (Spec.applies_iff w_frames).mpr ⟨w_running, w_runnable, w_alone, w_named, w_hears, w_ripe, w_room, w_tables⟩
theorem atStart : AtStart classFile x code maxLocals ret World_1 tables_1 room_1 Calls_1 rest_1 Pre_1 launch0 p0 e0 about1 theMethod args0 below0 :=
  ⟨lists_1, trivial, launch0.admits_env _ _ _, launch0.least_env, fairChoices_fair.cas, fairChoices_fair.clock, w_frames, w_args, w_heap, w_applies, trivial, trivial, w_case⟩
end start1
theorem witness_1 : WitnessClaimed_1 := ⟨start1.p0, start1.e0, start1.about1, start1.theMethod, start1.args0, start1.below0, start1.atStart⟩
end Jvm.Pilot.@@N@@
