import JvmDerived
import JvmDerived.Pilot.@@N@@Statement
import JvmDerived.Pilot.@@N@@Code
set_option linter.unusedVariables false
set_option linter.unusedSimpArgs false
@@BLOCK:NumsL.lean.txt@@
namespace Jvm.Pilot.@@N@@
open Jvm Jvm.ClassFile Sem Op Lib Jvm.Free Jvm.Stand Jvm.LawKit Jvm.RoadKit Bundle Jvm.Pilot.@@N@@.Jvm.D
section OwnGo
variable {p : Program} {l : Launch} {e : Env} {R : Room} {s : State} {m : MethodId} {args : Array Value} {below : List Frame} {meth : Method} {c : Code} {T T' : State} {locs : List Loc} {cells slots K1 K2 : Nat} {Q : Option Value → Heap → List Loc → Prop}
/-- from T at the frame f the run comes to an end that meets Q -/
def Go (p : Program) (e : Env) (below : List Frame) (s : State) (K1 K2 : Nat) (Q : Option Value → Heap → List Loc → Prop) (T : State) (f : JFrame) : Prop :=
  ∃ s₂ o, Steps p.tables e below (T.setTop f) s₂ ∧ s₂.status = .running ∧ Ended s₂ below o ∧ ∃ v L, o = .returned v ∧ Q v s₂.heap L ∧ FrameEnd s o s₂ L K1 K2
theorem Go.on {f f' : JFrame} (h : ∀ t, Steps p.tables e below (T'.setTop f') t → Steps p.tables e below (T.setTop f) t) (g : Go p e below s K1 K2 Q T' f') : Go p e below s K1 K2 Q T f := by
  obtain ⟨s₂, o, h1, r⟩ := g
  exact ⟨s₂, o, h _ h1, r⟩
theorem Go.cast {f f' : JFrame} (h : f = f') (g : Go p e below s K1 K2 Q T f') : Go p e below s K1 K2 Q T f := h ▸ g
theorem Go.gen {f : JFrame} (h : ∀ k1 k2 q, k1 = K1 → k2 = K2 → Q = q → Go p e below s k1 k2 q T f) : Go p e below s K1 K2 Q T f := h _ _ _ rfl rfl rfl
theorem Go.retV (X : Stand p l e R s m args below meth c T locs cells slots) (hx : p.tables.exec = Jvm.exec) {pc : Nat} {Ls : Array Slot} {w : Value} {t : FieldType} {i : Instr} {rest : List Value} (hret : meth.sig.returnType = some t) (hn : narrow t w = w)
    (hi : (i = .ireturn ∧ (t = .int ∨ t = .boolean ∨ t = .byte ∨ t = .char ∨ t = .short) ∧ ∃ z, w = .int z) ∨ (i = .lreturn ∧ t = .long ∧ ∃ z, w = .long z) ∨ (i = .dreturn ∧ t = .double ∧ ∃ z, w = .double z) ∨ (i = .freturn ∧ t = .float ∧ ∃ z, w = .float z) ∨ (i = .areturn ∧ t.isReference = true ∧ w.isRef = true))
    (hd : decode c.code pc = .ok (i, 1)) (hq : Q (some w) T.heap locs) (hc : cells ≤ K1) (hs : slots ≤ K2) (hlk : meth.locks = false := by assumption) : Go p e below s K1 K2 Q T (mkF m pc Ls (w :: rest)) := by
  obtain ⟨fs, hr, hrun, hended, hW, hsame⟩ := X.leave (v := some w) (fun h => by rw [hret] at h; cases h) hlk
  exact ⟨_, _, retOut X hx hret hn hi hd hr, hrun, hended, _, _, rfl, hq, ⟨_, rfl⟩, hW, hsame.mono hc hs⟩
theorem Go.retN (X : Stand p l e R s m args below meth c T locs cells slots) (hx : p.tables.exec = Jvm.exec) {pc : Nat} {Ls : Array Slot} {z : Int32} {t : FieldType} {rest : List Value} (hret : meth.sig.returnType = some t) (ht : t = .boolean ∨ t = .byte ∨ t = .char ∨ t = .short)
    (hd : decode c.code pc = .ok (.ireturn, 1)) (hq : Q (some (.int (nar t z))) T.heap locs) (hc : cells ≤ K1) (hs : slots ≤ K2) (hlk : meth.locks = false := by assumption) : Go p e below s K1 K2 Q T (mkF m pc Ls (.int z :: rest)) := by
  obtain ⟨fs, hr, hrun, hended, hW, hsame⟩ := X.leave (v := some (.int (nar t z))) (fun h => by rw [hret] at h; cases h) hlk
  exact ⟨_, _, Jvm.RoadKit.retN X hx hret ht hd hr, hrun, hended, _, _, rfl, hq, ⟨_, rfl⟩, hW, hsame.mono hc hs⟩
theorem Go.ret0 (X : Stand p l e R s m args below meth c T locs cells slots) (hx : p.tables.exec = Jvm.exec) {pc : Nat} {Ls : Array Slot} (hret : meth.sig.returnType = none)
    (hd : decode c.code pc = .ok (.return_, 1)) (hq : Q none T.heap locs) (hc : cells ≤ K1) (hs : slots ≤ K2) (hlk : meth.locks = false := by assumption) : Go p e below s K1 K2 Q T (mkF m pc Ls []) := by
  obtain ⟨fs, hr, hrun, hended, hW, hsame⟩ := X.leave (v := none) (fun _ => rfl) hlk
  exact ⟨_, _, X.returnOut hx hret hd hr, hrun, hended, _, _, rfl, hq, ⟨_, rfl⟩, hW, hsame.mono hc hs⟩
theorem own_lc_lt {a b : Int64} : lcmpW a b < 0 ↔ a < b := by rw [lcW]; exact lc_lt a b
theorem own_lc_gt {a b : Int64} : 0 < lcmpW a b ↔ b < a := by rw [lcW]; exact lc_gt a b
theorem own_lc_eq {a b : Int64} : lcmpW a b = 0 ↔ a = b := by rw [lcW]; exact lc_eq a b
theorem own_lremM {g : JFrame} {target : State} (X : Stand p l e R s m args below meth c T locs cells slots) (hx : p.tables.exec = Jvm.exec) (hg : g.method = m) {x y : Int64} {rest : List Value} (hd : decode c.code g.pc = .ok (.lrem, 1)) (hs : g.stack = .long y :: .long x :: rest) (hy : y ≠ 0)
    (hr : Steps p.tables e below (T.setTop { g with pc := g.pc + 1, stack := .long (x % y) :: rest }) target) : Steps p.tables e below (T.setTop g) target := by
  have q : x - x / y * y = x % y := by
    apply Int64.toInt_inj.mp
    have h1 := Int64.le_toInt (x % y)
    have h2 := Int64.toInt_lt (x % y)
    rw [Int64.toInt_sub, Int64.toInt_mul, Int64.toInt_div, Int.bmod_mul_bmod, Int.sub_bmod_bmod, Int.mul_comm (x.toInt.tdiv y.toInt), ← Int.tmod_def, ← Int64.toInt_mod]
    exact Int.bmod_eq_of_le_mul_two (by omega) (by omega)
  exact XS.lrem X.here hx hg hd hs hy (by rw [q]; exact hr)
theorem own_cl_gt {o : Option Ordering} : 0 < cmpValue o .l ↔ o = some .gt := by rcases o with _ | (_ | _ | _) <;> decide
theorem own_cl_lt {o : Option Ordering} : cmpValue o .l < 0 ↔ ¬ (o = some .gt ∨ o = some .eq) := by rcases o with _ | (_ | _ | _) <;> decide
theorem own_cg_lt {o : Option Ordering} : cmpValue o .g < 0 ↔ o = some .lt := by rcases o with _ | (_ | _ | _) <;> decide
theorem own_cg_gt {o : Option Ordering} : 0 < cmpValue o .g ↔ ¬ (o = some .lt ∨ o = some .eq) := by rcases o with _ | (_ | _ | _) <;> decide
theorem own_c_eq {o : Option Ordering} {k : CmpOp} : cmpValue o k = 0 ↔ o = some .eq := by cases k <;> rcases o with _ | (_ | _ | _) <;> decide
end OwnGo
section OwnFp
open Jvm.FP.Core
variable {a b V : UInt64} {x y z v : Int}
/-- the double a is finite and worth x units of 2^-1074 -/
def ZV (a : UInt64) (x : Int) : Prop := DFin a ∧ zval b64 (val64 a) = x
theorem ZV.ne (h : ZV a x) : val64 a ≠ .nan := h.1.ne_nan
theorem ZV.nn (h : ZV a x) : Jvm.Free.Fl.NoNaN64 a := Jvm.Free.Fl.noNaN64_no.mpr h.1.notNaN
theorem ZV.cmp (ha : ZV a x) (hb : ZV b y) : FP.dcmp a b = some (compare x y) := by
  show FP.Core.dcmp a b = _
  rw [dcmp_zval ha.ne hb.ne, ha.2, hb.2]
theorem ZV.uniq (ha : ZV a x) (hb : ZV a y) : x = y := ha.2.symm.trans hb.2
theorem own_fin_of {W : UInt64} (hn : val64 a ≠ .nan) (hW : DFin W) (h : zmag b64 (val64 a) ≤ zmag b64 (val64 W)) : DFin a := by
  cases h2 : val64 a with
  | nan => exact absurd h2 hn
  | inf s =>
    rw [h2] at h
    have := hW.zval_lt
    have e : zmag b64 (.inf s) = b64.tails * 2 ^ (b64.exps - 2) := rfl
    rw [e] at h
    omega
  | fin s c q => exact ⟨s, c, q, h2⟩
theorem own_natAbs (d : Datum) : (zval b64 d).natAbs = zmag b64 d := natAbs_signed _ _
theorem own_fin_of_z {W : UInt64} (hn : val64 a ≠ .nan) (hW : DFin W) (h : (zval b64 (val64 a)).natAbs ≤ (zval b64 (val64 W)).natAbs) : DFin a := by
  rw [own_natAbs, own_natAbs] at h; exact own_fin_of hn hW h
theorem ZV.add (ha : ZV a x) (hb : ZV b y) (hv : ZV V (x + y)) : ZV (FP.dadd a b) (x + y) := by
  have hn : val64 (FP.Core.dadd a b) ≠ .nan := (notNaN_iff _).mp (FP.Core.dadd_out ha.1.notNaN hb.1)
  have e : zval b64 (val64 (FP.Core.dadd a b)) = x + y := by
    have h1 := sum_le good_b64 ha.1 hb.1 (val64_fits a) (val64_fits b) (val64_fits V) hv.ne (by rw [ha.2, hb.2, hv.2]; exact Int.le_refl _)
    have h2 := sum_ge good_b64 ha.1 hb.1 (val64_fits a) (val64_fits b) (val64_fits V) hv.ne (by rw [ha.2, hb.2, hv.2]; exact Int.le_refl _)
    rw [← val64_dadd, hv.2] at h1 h2
    exact Int.le_antisymm h1 h2
  exact ⟨own_fin_of_z hn hv.1 (by rw [e, hv.2]; exact Nat.le_refl _), e⟩
theorem own_neg_fin {d : Datum} (h : ∃ s c q, d = .fin s c q) : ∃ s c q, negate d = .fin s c q := by
  obtain ⟨s, c, q, rfl⟩ := h; exact ⟨_, _, _, rfl⟩
theorem ZV.sub (ha : ZV a x) (hb : ZV b y) (hv : ZV V (x - y)) : ZV (FP.dsub a b) (x - y) := by
  have hn : val64 (FP.Core.dsub a b) ≠ .nan := (notNaN_iff _).mp (FP.Core.dsub_out ha.1.notNaN hb.1)
  have e : zval b64 (val64 (FP.Core.dsub a b)) = x - y := by
    have h1 := sum_le good_b64 ha.1 (own_neg_fin hb.1) (val64_fits a) (negate_fits (val64_fits b)) (val64_fits V) hv.ne (by rw [ha.2, zval_negate, hb.2, hv.2]; omega)
    have h2 := sum_ge good_b64 ha.1 (own_neg_fin hb.1) (val64_fits a) (negate_fits (val64_fits b)) (val64_fits V) hv.ne (by rw [ha.2, zval_negate, hb.2, hv.2]; omega)
    rw [← val64_dsub, hv.2] at h1 h2
    exact Int.le_antisymm h1 h2
  exact ⟨own_fin_of_z hn hv.1 (by rw [e, hv.2]; exact Nat.le_refl _), e⟩
/-- a sum or a difference lies between what bounds it -/
theorem ZV.add_le (ha : ZV a x) (hb : ZV b y) (hv : ZV V v) (h : x + y ≤ v) : zval b64 (val64 (FP.dadd a b)) ≤ v := by
  have h1 := sum_le good_b64 ha.1 hb.1 (val64_fits a) (val64_fits b) (val64_fits V) hv.ne (by rw [ha.2, hb.2, hv.2]; exact h)
  rw [← val64_dadd, hv.2] at h1; exact h1
theorem ZV.add_ge (ha : ZV a x) (hb : ZV b y) (hv : ZV V v) (h : v ≤ x + y) : v ≤ zval b64 (val64 (FP.dadd a b)) := by
  have h1 := sum_ge good_b64 ha.1 hb.1 (val64_fits a) (val64_fits b) (val64_fits V) hv.ne (by rw [ha.2, hb.2, hv.2]; exact h)
  rw [← val64_dadd, hv.2] at h1; exact h1
theorem ZV.sub_le (ha : ZV a x) (hb : ZV b y) (hv : ZV V v) (h : x - y ≤ v) : zval b64 (val64 (FP.dsub a b)) ≤ v := by
  have h1 := sum_le good_b64 ha.1 (own_neg_fin hb.1) (val64_fits a) (negate_fits (val64_fits b)) (val64_fits V) hv.ne (by rw [ha.2, zval_negate, hb.2, hv.2]; omega)
  rw [← val64_dsub, hv.2] at h1; exact h1
theorem ZV.sub_ge (ha : ZV a x) (hb : ZV b y) (hv : ZV V v) (h : v ≤ x - y) : v ≤ zval b64 (val64 (FP.dsub a b)) := by
  have h1 := sum_ge good_b64 ha.1 (own_neg_fin hb.1) (val64_fits a) (negate_fits (val64_fits b)) (val64_fits V) hv.ne (by rw [ha.2, zval_negate, hb.2, hv.2]; omega)
  rw [← val64_dsub, hv.2] at h1; exact h1
/-- the product's bounds -/
theorem own_mul_le (ha : ZV a x) (hb : ZV b y) (hv : ZV V v) (h : x * y ≤ v * (one64 : Int)) : zval b64 (val64 (FP.dmul a b)) ≤ v := by
  obtain ⟨⟨s, c, q, h1⟩, ex⟩ := ha
  obtain ⟨⟨t, d, r, h2⟩, ey⟩ := hb
  have f1 := val64_fits a; have f2 := val64_fits b
  rw [h1] at f1 ex; rw [h2] at f2 ey
  obtain ⟨p1, p2, p3⟩ := product_units f1 f2
  show zval b64 (val64 (FP.Core.dmul a b)) ≤ v
  rw [val64_dmul, h1, h2, p1, ← hv.2]
  refine zval_round_le good_b64 (val64_fits V) hv.ne (e0 := 2 * b64.qmin) (by decide) p2 ?_
  rw [p3, show (b64.qmin - 2 * b64.qmin).toNat = (-b64.qmin).toNat from by decide, pow_qmin64, hv.2, signed_xor]
  have : zval b64 (.fin s c q) * zval b64 (.fin t d r) ≤ v * (one64 : Int) := by rw [ex, ey]; exact h
  exact this
theorem own_mul_ge (ha : ZV a x) (hb : ZV b y) (hv : ZV V v) (h : v * (one64 : Int) ≤ x * y) : v ≤ zval b64 (val64 (FP.dmul a b)) := by
  obtain ⟨⟨s, c, q, h1⟩, ex⟩ := ha
  obtain ⟨⟨t, d, r, h2⟩, ey⟩ := hb
  have f1 := val64_fits a; have f2 := val64_fits b
  rw [h1] at f1 ex; rw [h2] at f2 ey
  obtain ⟨p1, p2, p3⟩ := product_units f1 f2
  show v ≤ zval b64 (val64 (FP.Core.dmul a b))
  rw [val64_dmul, h1, h2, p1, ← hv.2]
  refine zval_round_ge good_b64 (val64_fits V) hv.ne (e0 := 2 * b64.qmin) (by decide) p2 ?_
  rw [p3, show (b64.qmin - 2 * b64.qmin).toNat = (-b64.qmin).toNat from by decide, pow_qmin64, hv.2, signed_xor]
  have : v * (one64 : Int) ≤ zval b64 (.fin s c q) * zval b64 (.fin t d r) := by rw [ex, ey]; exact h
  exact this
theorem ZV.mul (ha : ZV a x) (hb : ZV b y) (hv : ZV V z) (h : x * y = z * (one64 : Int)) : ZV (FP.dmul a b) z := by
  have hn : val64 (FP.Core.dmul a b) ≠ .nan := (notNaN_iff _).mp (FP.Core.dmul_out ha.1 hb.1)
  have e : zval b64 (val64 (FP.Core.dmul a b)) = z := Int.le_antisymm (own_mul_le ha hb hv (Int.le_of_eq h)) (own_mul_ge ha hb hv (Int.le_of_eq h.symm))
  exact ⟨own_fin_of_z hn hv.1 (by rw [e, hv.2]; exact Nat.le_refl _), e⟩
/-- the quotient of finite doubles, the divisor not nought: its datum -/
theorem own_quot (ha : ZV a x) (hb : ZV b y) (hy : y ≠ 0) : ∃ s c q t d r, val64 a = .fin s c q ∧ val64 b = .fin t d r ∧ 0 < d ∧ val64 (FP.ddiv a b) = roundRatio b64 (s != t) c d (q - r) ∧ FP.Core.fits b64 (.fin s c q) ∧ FP.Core.fits b64 (.fin t d r) := by
  obtain ⟨⟨s, c, q, h1⟩, ex⟩ := ha
  obtain ⟨⟨t, d, r, h2⟩, ey⟩ := hb
  have f1 := val64_fits a; have f2 := val64_fits b
  rw [h1] at f1; rw [h2] at f2
  have hd : d ≠ 0 := fun q => by
    subst q
    rw [h2] at ey
    apply hy; rw [← ey]; show signed t (inUnits 0 r _) = 0
    unfold inUnits; rw [Nat.zero_mul, signed_zero]
  refine ⟨s, c, q, t, d, r, h1, h2, Nat.pos_of_ne_zero hd, ?_, f1, f2⟩
  show val64 (FP.Core.ddiv a b) = _
  rw [val64_ddiv, h1, h2]
  show (if d = 0 then _ else _) = _
  rw [if_neg hd]
theorem own_div_mag_le {c d : Nat} {q r : Int} {s t sg : Bool} (f1 : FP.Core.fits b64 (.fin s c q)) (f2 : FP.Core.fits b64 (.fin t d r)) (hd : 0 < d) {W : Datum} (fW : FP.Core.fits b64 W) (hW : W ≠ .nan)
    (h : inUnits c q b64.qmin * one64 ≤ zmag b64 W * inUnits d r b64.qmin) : zmag b64 (roundRatio b64 sg c d (q - r)) ≤ zmag b64 W := by
  have h1 := f1.2.1
  have h2 := f2.2.1
  have hq : b64.qmin < 0 := by decide
  refine zmag_roundRatio_le good_b64 hd fW hW (e0 := 2 * b64.qmin - r) (by omega) (by omega) ?_
  have e1 : (b64.qmin - (2 * b64.qmin - r)).toNat = (r - b64.qmin).toNat := by congr 1; omega
  rw [e1]
  have e2 : inUnits c (q - r) (2 * b64.qmin - r) = inUnits c q b64.qmin * one64 := by
    unfold inUnits
    rw [← pow_qmin64, Nat.mul_assoc, ← Nat.pow_add]
    congr 2; omega
  rw [e2]
  refine Nat.le_trans h (Nat.le_of_eq ?_)
  unfold inUnits
  rw [Nat.mul_comm d, Nat.mul_assoc]
theorem own_div_mag_ge {c d : Nat} {q r : Int} {s t sg : Bool} (f1 : FP.Core.fits b64 (.fin s c q)) (f2 : FP.Core.fits b64 (.fin t d r)) (hd : 0 < d) {W : Datum} (fW : FP.Core.fits b64 W)
    (h : zmag b64 W * inUnits d r b64.qmin ≤ inUnits c q b64.qmin * one64) : zmag b64 W ≤ zmag b64 (roundRatio b64 sg c d (q - r)) := by
  have h1 := f1.2.1
  have h2 := f2.2.1
  have hq : b64.qmin < 0 := by decide
  refine zmag_roundRatio_ge good_b64 hd fW (e0 := 2 * b64.qmin - r) (by omega) (by omega) ?_
  have e1 : (b64.qmin - (2 * b64.qmin - r)).toNat = (r - b64.qmin).toNat := by congr 1; omega
  rw [e1]
  have e2 : inUnits c (q - r) (2 * b64.qmin - r) = inUnits c q b64.qmin * one64 := by
    unfold inUnits
    rw [← pow_qmin64, Nat.mul_assoc, ← Nat.pow_add]
    congr 2; omega
  rw [e2]
  refine Nat.le_trans (Nat.le_of_eq ?_) h
  unfold inUnits
  rw [Nat.mul_comm d, Nat.mul_assoc]
/-- what is said of a quotient: r its units -/
def Quo (x y r : Int) : Prop := ∀ (V : UInt64) (v : Int), ZV V v → (x * (one64 : Int) ≤ v * y → r ≤ v) ∧ (v * y ≤ x * (one64 : Int) → v ≤ r)
theorem own_sgn_z (s : Bool) (m : Nat) : signed s m = if s then -(m : Int) else m := rfl
theorem ZV.neg_ex (h : ZV a x) : ∃ V, ZV V (-x) := by
  refine ⟨FP.Core.dneg a, ?_, ?_⟩
  · obtain ⟨⟨s, c, q, h1⟩, -⟩ := h; exact ⟨!s, c, q, by rw [val64_dneg, h1]; rfl⟩
  · rw [val64_dneg, zval_negate, h.2]
theorem own_mag {s : Bool} {c : Nat} {q : Int} : zval b64 (.fin s c q) = signed s (inUnits c q b64.qmin) := rfl
/-- the quotient by a positive double of at least one -/
theorem ZV.div (ha : ZV a x) (hb : ZV b y) (hy : (one64 : Int) ≤ y) : ∃ r, ZV (FP.ddiv a b) r ∧ Quo x y r := by
  have o1 := one64_pos
  obtain ⟨s, c, q, t, d, r, h1, h2, hd, h3, f1, f2⟩ := own_quot ha hb (by omega)
  have ey := hb.2; rw [h2, own_mag] at ey
  have ex := ha.2; rw [h1, own_mag] at ex
  have t0 : t = false := by
    cases t
    · rfl
    · simp only [own_sgn_z, if_true] at ey; omega
  subst t0
  have hy0 : (0 : Int) < y := by omega
  have ey' : ((inUnits d r b64.qmin : Nat) : Int) = y := ey
  generalize hu : inUnits d r b64.qmin = u at *
  generalize hc : inUnits c q b64.qmin = k at *
  have hsg : sgn (val64 (FP.ddiv a b)) = s := by rw [h3, sgn_roundRatio]; cases s <;> rfl
  have hne : val64 (FP.ddiv a b) ≠ .nan := by rw [h3]; exact roundRatio_ne_nan _ _ _ _ _
  have hz : zval b64 (val64 (FP.ddiv a b)) = signed s (zmag b64 (val64 (FP.ddiv a b))) := by rw [zval, hsg]
  have up : ∀ W : UInt64, val64 W ≠ .nan → k * one64 ≤ zmag b64 (val64 W) * u → zmag b64 (val64 (FP.ddiv a b)) ≤ zmag b64 (val64 W) := fun W hW h => by
    rw [h3]; exact own_div_mag_le f1 f2 hd (val64_fits W) hW (by rw [hu, hc]; exact h)
  have dn : ∀ W : UInt64, zmag b64 (val64 W) * u ≤ k * one64 → zmag b64 (val64 W) ≤ zmag b64 (val64 (FP.ddiv a b)) := fun W h => by
    rw [h3]; exact own_div_mag_ge f1 f2 hd (val64_fits W) (by rw [hu, hc]; exact h)
  have hk : k = zmag b64 (val64 a) := by rw [h1]; exact hc.symm
  have hfin : DFin (FP.ddiv a b) := own_fin_of hne ha.1 (up a ha.ne (by rw [← hk]; exact Nat.mul_le_mul_left _ (by omega)))
  refine ⟨_, ⟨hfin, rfl⟩, fun V v hv => ?_⟩
  rw [hz]
  generalize hm : zmag b64 (val64 (FP.ddiv a b)) = m at *
  have hV := own_natAbs (val64 V)
  rw [hv.2] at hV
  have upV := up V hv.ne
  have dnV := dn V
  rw [← hV] at upV dnV
  clear up dn
  have cast : ∀ p q : Nat, ((p * q : Nat) : Int) = (p : Int) * q := fun p q => by simp
  cases s
  · have ex' : (k : Int) = x := ex
    have em : signed false m = (m : Int) := rfl
    rw [em]
    constructor
    · intro h
      by_cases hv0 : 0 ≤ v
      · have e1 : (v.natAbs : Int) = v := Int.natAbs_of_nonneg hv0
        have : k * one64 ≤ v.natAbs * u := by apply Int.ofNat_le.mp; rw [cast, cast, ex', e1, ey']; exact h
        have := upV this; omega
      · exfalso
        have h5 : v * y < 0 := Int.mul_neg_of_neg_of_pos (by omega) hy0
        have h6 : 0 ≤ x * (one64 : Int) := Int.mul_nonneg (by omega) (by omega)
        omega
    · intro h
      by_cases hv0 : 0 ≤ v
      · have e1 : (v.natAbs : Int) = v := Int.natAbs_of_nonneg hv0
        have : v.natAbs * u ≤ k * one64 := by apply Int.ofNat_le.mp; rw [cast, cast, ex', e1, ey']; exact h
        have := dnV this; omega
      · omega
  · have ex' : -(k : Int) = x := ex
    have em : signed true m = -(m : Int) := rfl
    rw [em]
    have ek : (k : Int) = -x := by omega
    constructor
    · intro h
      by_cases hv0 : 0 ≤ v
      · omega
      · have e1 : (v.natAbs : Int) = -v := by omega
        have : v.natAbs * u ≤ k * one64 := by
          apply Int.ofNat_le.mp; rw [cast, cast, ek, e1, ey', Int.neg_mul, Int.neg_mul]; omega
        have := dnV this; omega
    · intro h
      by_cases hv0 : v ≤ 0
      · have e1 : (v.natAbs : Int) = -v := by omega
        have : k * one64 ≤ v.natAbs * u := by
          apply Int.ofNat_le.mp; rw [cast, cast, ek, e1, ey', Int.neg_mul, Int.neg_mul]; omega
        have := upV this; omega
      · exfalso
        have h5 : 0 < v * y := Int.mul_pos (by omega) hy0
        have h6 : x * (one64 : Int) ≤ 0 := by
          have : 0 ≤ (k : Int) * (one64 : Int) := Int.mul_nonneg (by omega) (by omega)
          rw [ek, Int.neg_mul] at this; omega
        omega
theorem ZV.div_exact (ha : ZV a x) (hb : ZV b y) (hy : (one64 : Int) ≤ y) (hv : ZV V z) (h : x * (one64 : Int) = z * y) : ZV (FP.ddiv a b) z := by
  obtain ⟨r, h1, h2⟩ := ha.div hb hy
  have h3 := h2 V z hv
  have : r = z := Int.le_antisymm (h3.1 (Int.le_of_eq h)) (h3.2 (Int.le_of_eq h.symm))
  exact this ▸ h1
/-- i * 2^k units are a double -/
theorem own_rep (i : Int) (k : Nat) (hi : i.natAbs < 2 ^ 53) (hk : k ≤ 2045) : ∃ V, ZV V (i * ((2 ^ k : Nat) : Int)) := by
  obtain ⟨c', q', h1, h2⟩ := round_exact good_b64 (decide (i < 0)) (c := i.natAbs) (q := (k : Int) + b64.qmin) hi (by omega) (by rw [show b64.qmax = 971 from by decide, qmin_b64]; omega)
  have hf : FP.Core.fits b64 (.fin (decide (i < 0)) c' q') := by rw [← h1]; exact round_fits good_b64 _
  refine ⟨of64 (.fin (decide (i < 0)) c' q'), ⟨_, _, _, val64_of64 hf⟩, ?_⟩
  rw [val64_of64 hf, own_mag, h2]
  unfold inUnits
  rw [show ((k : Int) + b64.qmin - b64.qmin).toNat = k from by omega, signed_mul, own_sgn_z]
  congr 1
  by_cases h : i < 0
  · simp only [h, decide_true, if_true]; omega
  · simp only [h, decide_false]; simp only [Bool.false_eq_true, if_false]; omega
theorem own_one64 : (one64 : Int) = ((2 ^ 1074 : Nat) : Int) := rfl
theorem ZV.of_int {i : Int} (h : DInt i a) : ZV a (i * (one64 : Int)) := by
  refine ⟨?_, DInt_zval h⟩
  unfold DInt at h
  cases h2 : val64 a with
  | nan => rw [h2] at h; exact h.elim
  | inf s => rw [h2] at h; exact h.elim
  | fin s c q => exact ⟨s, c, q, h2⟩
theorem own_i2d (n : Int32) : ZV (FP.i2d n) (n.toInt * (one64 : Int)) := ZV.of_int (i2d_int n)
theorem own_l2d {n : Int64} (h : n.toInt.natAbs ≤ 2 ^ 53) : ZV (FP.l2d n) (n.toInt * (one64 : Int)) := ZV.of_int (l2d_int h)
theorem own_ddiv_nn (ha : DFin a) (hb : DFin b) : FP.ddiv (FP.Core.dneg a) (FP.Core.dneg b) = FP.ddiv a b ∨ val64 (FP.ddiv a b) = .nan := by
  by_cases hn : val64 (FP.ddiv a b) = .nan
  · exact Or.inr hn
  · refine Or.inl (val64_inj hn ?_).symm
    obtain ⟨s, c, q, h1⟩ := ha
    obtain ⟨t, d, r, h2⟩ := hb
    show val64 (FP.Core.ddiv a b) = val64 (FP.Core.ddiv _ _)
    rw [val64_ddiv, val64_ddiv, val64_dneg, val64_dneg, h1, h2]
    show quotient b64 (.fin s c q) (.fin t d r) = quotient b64 (.fin (!s) c q) (.fin (!t) d r)
    simp only [quotient]
    have : ((!s) != (!t)) = (s != t) := by cases s <;> cases t <;> rfl
    rw [this]
theorem ZV.dneg (h : ZV a x) : ZV (FP.Core.dneg a) (-x) := by
  refine ⟨?_, by rw [val64_dneg, zval_negate, h.2]⟩
  obtain ⟨⟨s, c, q, h1⟩, -⟩ := h; exact ⟨!s, c, q, by rw [val64_dneg, h1]; rfl⟩
/-- the quotient by a negative double of at most minus one -/
theorem ZV.div_neg (ha : ZV a x) (hb : ZV b y) (hy : y ≤ -(one64 : Int)) : ∃ r, ZV (FP.ddiv a b) r ∧ Quo (-x) (-y) r := by
  obtain ⟨r, h1, h2⟩ := ha.dneg.div hb.dneg (by omega)
  have o1 := one64_pos
  obtain ⟨s, c, q, t, d, r', -, -, -, h3, -⟩ := own_quot ha hb (by omega)
  rcases own_ddiv_nn ha.1 hb.1 with h | h
  · exact ⟨r, h ▸ h1, h2⟩
  · rw [h3] at h; exact absurd h (roundRatio_ne_nan _ _ _ _ _)
/-- n / D against i / 2^j -/
theorem own_quo_int {n D r : Int} (h : Quo (n * (one64 : Int)) (D * (one64 : Int)) r) (i : Int) (j : Nat) (hj : j ≤ 1074) (hi : i.natAbs < 2 ^ 53) :
    (n * ((2 ^ j : Nat) : Int) ≤ i * D → r ≤ i * ((2 ^ (1074 - j) : Nat) : Int)) ∧ (i * D ≤ n * ((2 ^ j : Nat) : Int) → i * ((2 ^ (1074 - j) : Nat) : Int) ≤ r) := by
  obtain ⟨V, hV⟩ := own_rep i (1074 - j) hi (by omega)
  have q := h V _ hV
  have e : (one64 : Int) = ((2 ^ j : Nat) : Int) * ((2 ^ (1074 - j) : Nat) : Int) := by
    rw [own_one64, ← Int.natCast_mul, ← Nat.pow_add]; congr 2; omega
  have hu : (0 : Int) ≤ ((2 ^ (1074 - j) : Nat) : Int) * (one64 : Int) := Int.mul_nonneg (Int.natCast_nonneg _) (Int.natCast_nonneg _)
  have e1 : n * (one64 : Int) * (one64 : Int) = n * ((2 ^ j : Nat) : Int) * (((2 ^ (1074 - j) : Nat) : Int) * (one64 : Int)) := by
    conv => lhs; arg 1; rw [e]
    rw [← Int.mul_assoc n, Int.mul_assoc (n * _)]
  have e2 : i * ((2 ^ (1074 - j) : Nat) : Int) * (D * (one64 : Int)) = i * D * (((2 ^ (1074 - j) : Nat) : Int) * (one64 : Int)) := by rw [Int.mul_assoc i, Int.mul_left_comm _ D, ← Int.mul_assoc i D]
  rw [e1, e2] at q
  exact ⟨fun z => q.1 (Int.mul_le_mul_of_nonneg_right z hu), fun z => q.2 (Int.mul_le_mul_of_nonneg_right z hu)⟩
theorem own_zero : ZV (0 : UInt64) 0 := ⟨⟨_, _, _, val64_zero⟩, zval64_zero⟩
theorem own_one : ZV (4607182418800017408 : UInt64) (one64 : Int) := by
  have := ZV.of_int dint_one; rwa [Int.one_mul] at this
theorem own_cmp_gt {x y : Int} : some (compare x y) = some Ordering.gt ↔ y < x := by rw [Option.some.injEq]; exact compare_gt_iff x y
theorem own_cmp_lt {x y : Int} : some (compare x y) = some Ordering.lt ↔ x < y := by rw [Option.some.injEq]; exact compare_lt_iff x y
theorem own_cmp_eq {x y : Int} : some (compare x y) = some Ordering.eq ↔ x = y := by rw [Option.some.injEq]; exact compare_eq_iff x y
theorem own_dnn {i : Int} {a : UInt64} (h : DInt i a) : Jvm.Free.Fl.NoNaN64 a := (ZV.of_int h).nn
theorem own_nnd' {a : UInt64} (ha : DFin a) (n : Int32) (hn : n ≠ 0) : Jvm.Free.Fl.NoNaN64 (FP.ddiv a (FP.i2d n)) :=
  Jvm.Free.Fl.noNaN64_no.mpr (FP.Core.ddiv_out ha.notNaN (i2d_fin n) (fun q => i2d_ne_zero hn (by rwa [zero_bits2] at q)))
theorem own_nnd (s : Int64) (n : Int32) (hn : n ≠ 0) : Jvm.Free.Fl.NoNaN64 (FP.ddiv (FP.l2d s) (FP.i2d n)) := own_nnd' (l2d_fin s) n hn
theorem own_dz : DInt 0 (0 : UInt64) := by
  have : (0 : UInt64) = FP.l2d 0 := FP.Core.l2d_zero.symm
  rw [this]; exact l2d_int (a := 0) (by decide)
theorem own_div_eq {S S' : UInt64} {s : Int} (h : DInt s S) (h' : DInt s S') (n : Int32) (hn : 1 ≤ n.toInt) : FP.dcmp (FP.ddiv S (FP.i2d n)) (FP.ddiv S' (FP.i2d n)) = some .eq := by
  have hy : (one64 : Int) ≤ n.toInt * (one64 : Int) := by
    have := Int.mul_le_mul_of_nonneg_right hn (show (0 : Int) ≤ (one64 : Int) by omega)
    rwa [Int.one_mul] at this
  by_cases hs : s = 0
  · subst hs
    have z1 := ZV.of_int h
    have z2 := ZV.of_int h'
    rw [Int.zero_mul] at z1 z2
    have q1 := z1.div_exact (own_i2d n) hy own_zero (by rw [Int.zero_mul, Int.zero_mul])
    have q2 := z2.div_exact (own_i2d n) hy own_zero (by rw [Int.zero_mul, Int.zero_mul])
    rw [q1.cmp q2, own_cmp_eq]
  · have e := dint_unique hs h h'
    subst e
    have hz : n ≠ 0 := fun q => by subst q; revert hn; decide
    exact dcmp_refl (Jvm.Free.Fl.noNaN64_no.mp (own_nnd' (ZV.of_int h).1 n hz))
theorem own_ib (x : Int32) : x.toInt.natAbs ≤ 2147483648 := by have := x.le_toInt; have := x.toInt_lt; omega
end OwnFp
def compV (code i : Int32) : Int32 := if ((code &&& (2147483647 : Int32)) % (3 : Int32)) = i then (if code < (0 : Int32) then (-1 : Int32) else (1 : Int32)) else (0 : Int32)
def expV (i a b c n : Int32) : UInt64 :=
  if n < (2 : Int32) then (if n < (3 : Int32) then FP.ddiv (FP.i2d (compV a i)) (FP.i2d n) else FP.ddiv (FP.i2d (compV a i + compV c i)) (FP.i2d n))
  else (if n < (3 : Int32) then FP.ddiv (FP.i2d (compV a i + compV b i)) (FP.i2d n) else FP.ddiv (FP.i2d (compV a i + compV b i + compV c i)) (FP.i2d n))

theorem d2_0 : decode method_3_code 0 = .ok (.iload_n 0, 1) := by decide +kernel
theorem d2_1 : decode method_3_code 1 = .ok (.ldc 7, 2) := by decide +kernel
theorem d2_3 : decode method_3_code 3 = .ok (.iand, 1) := by decide +kernel
theorem d2_4 : decode method_3_code 4 = .ok (.iconst 3, 1) := by decide +kernel
theorem d2_5 : decode method_3_code 5 = .ok (.irem, 1) := by decide +kernel
theorem d2_6 : decode method_3_code 6 = .ok (.istore_n 2, 1) := by decide +kernel
theorem d2_7 : decode method_3_code 7 = .ok (.iload_n 2, 1) := by decide +kernel
theorem d2_8 : decode method_3_code 8 = .ok (.iload_n 1, 1) := by decide +kernel
theorem d2_9 : decode method_3_code 9 = .ok (.if_icmp .eq 5, 3) := by decide +kernel
theorem d2_12 : decode method_3_code 12 = .ok (.iconst 0, 1) := by decide +kernel
theorem d2_13 : decode method_3_code 13 = .ok (.ireturn, 1) := by decide +kernel
theorem d2_14 : decode method_3_code 14 = .ok (.iload_n 0, 1) := by decide +kernel
theorem d2_15 : decode method_3_code 15 = .ok (.ifCond .ge 7, 3) := by decide +kernel
theorem d2_18 : decode method_3_code 18 = .ok (.iconst (-1), 1) := by decide +kernel
theorem d2_19 : decode method_3_code 19 = .ok (.goto 4, 3) := by decide +kernel
theorem d2_22 : decode method_3_code 22 = .ok (.iconst 1, 1) := by decide +kernel
theorem d2_23 : decode method_3_code 23 = .ok (.ireturn, 1) := by decide +kernel
theorem pn_0 : plainName "com/example/d2rank/d2rank/rerank/CentroidAddPinLaw" = true := by first | (simp [plainName, overriddenIn]; done) | decide +kernel
theorem ef_rm2 (m : MethodId) (i0 : Int32) (i1 : Int32) : entryFrame m #[(.int i0), (.int i1)] 3 = mkF m 0 #[.val (.int i0), .val (.int i1), .unset] [] := by first | (simp [entryFrame, mkF, argsToLocals, Value.category]; done) | rfl
def Q_rm2 (Z : State) (i0 : Int32) (i1 : Int32) (h0 : Heap) (n0 : Nat) (v : Option Value) (h : Heap) (L : List Loc) : Prop := v = some (.int (compV i0 i1)) ∧ Fr n0 L ∧ h = h0
set_option maxRecDepth 65536 in
set_option maxHeartbeats 40000000 in
theorem rm2 (l : Launch) (Z : State) (aw : Array Value) (hw : ∀ d ∈ tables_1, d.before aw Z = true) (ws : List Jvm.Cond) (i0 : Int32) (i1 : Int32) (h0 : Heap) (n0 : Nat) (Z0 : n0 ≤ h0.size) :
    MetFree l (⟨"com/example/d2rank/d2rank/rerank/CentroidAddPinLaw", "comp", "(II)I"⟩ : MethodName) (head1 (Jvm.Cond.code (⟨"com/example/d2rank/d2rank/rerank/CentroidAddPinLaw", "comp", "(II)I"⟩ : MethodName) method_3_code 3 (some .int) :: ws) ({ frames := 0, cells := 0, slots := 0, locals := 0 } : Room)) (fun a U => a = #[(.int i0), (.int i1)] ∧ Z.Warmed39 U.vm ∧ U.heap = h0) (fun _ _ _ _ _ => True) (fun _ U o U' => ∃ v L, o = .returned v ∧ Q_rm2 Z i0 i1 h0 n0 v U'.heap L ∧ FrameEnd U o U' L ({ frames := 0, cells := 0, slots := 0, locals := 0 } : Room).cells ({ frames := 0, cells := 0, slots := 0, locals := 0 } : Room).slots) := by
  refine MetFree.of_bodySF (plainFor_of_name pn_0) hisR ?_
  intro p e s m args below meth c s₁ Bd hml0 hP hK
  obtain ⟨rfl, hZ, hh⟩ := hP
  have hx := Bd.exec
  have hby := Bd.bytes
  have hml : c.maxLocals = 3 := hml0
  have hown : s.vm.findClass "com/example/d2rank/d2rank/rerank/CentroidAddPinLaw" = some m.cls := findClass_of_methodNamed Bd.named
  have hnm := (name_of_methodNamed Bd.named Bd.method).1
  have hlk : meth.locks = false := BodyLoose.notSynchronized Bd
  have X0 : Stand p l e ({ frames := 0, cells := 0, slots := 0, locals := 0 } : Room) s m #[(.int i0), (.int i1)] below meth c s₁ [] 0 0 := Stand.of_body Bd
  have e0 : s₁.heap = h0 := by rw [← hh, Bd.state]; rfl
  have N0 := Fr.nil n0
  have ZZ := Z0
  show Go p e below s ({ frames := 0, cells := 0, slots := 0, locals := 0 } : Room).cells ({ frames := 0, cells := 0, slots := 0, locals := 0 } : Room).slots (fun v h L => Q_rm2 Z i0 i1 h0 n0 v h L) s₁ (entryFrame m #[(.int i0), (.int i1)] 3)
  refine Go.cast (ef_rm2 m i0 i1) ?_
  refine Go.gen ?_
  intro K1 K2 QQ hK1 hK2 hQQ
  refine Go.on (fun _ k => XS.iloadN X0.here hx rfl (hb hby d2_0) rfl k) ?_
  show Go _ _ _ _ _ _ _ _ (mkF m 1 #[.val (.int i0), .val (.int i1), .unset] [(.int i0)])
  refine Go.on (fun _ k => X0.ldcI hx hown (mvT hZ (hw _ (List.mem_of_getElem? (i := 0) rfl))) rfl (hb hby d2_1) k) ?_
  show Go _ _ _ _ _ _ _ _ (mkF m 3 #[.val (.int i0), .val (.int i1), .unset] [(.int (2147483647 : Int32)), (.int i0)])
  refine Go.on (fun _ k => XS.iand X0.here hx rfl (hb hby d2_3) rfl k) ?_
  show Go _ _ _ _ _ _ _ _ (mkF m 4 #[.val (.int i0), .val (.int i1), .unset] [(.int (i0 &&& (2147483647 : Int32)))])
  refine Go.on (fun _ k => XS.iconst X0.here hx rfl (hb hby d2_4) k) ?_
  show Go _ _ _ _ _ _ _ _ (mkF m 5 #[.val (.int i0), .val (.int i1), .unset] [(.int (3 : Int32)), (.int (i0 &&& (2147483647 : Int32)))])
  refine Go.on (fun _ k => iremM X0 hx rfl (hb hby d2_5) rfl (by decide) k) ?_
  show Go _ _ _ _ _ _ _ _ (mkF m 6 #[.val (.int i0), .val (.int i1), .unset] [(.int ((i0 &&& (2147483647 : Int32)) % (3 : Int32)))])
  refine Go.on (fun _ k => XS.istoreN X0.here hx rfl (hb hby d2_6) rfl (l' := #[.val (.int i0), .val (.int i1), .val (.int ((i0 &&& (2147483647 : Int32)) % (3 : Int32)))]) rfl k) ?_
  show Go _ _ _ _ _ _ _ _ (mkF m 7 #[.val (.int i0), .val (.int i1), .val (.int ((i0 &&& (2147483647 : Int32)) % (3 : Int32)))] [])
  generalize hix : ((i0 &&& (2147483647 : Int32)) % (3 : Int32)) = ix
  show Go _ _ _ _ _ _ _ _ (mkF m 7 #[.val (.int i0), .val (.int i1), .val (.int ix)] [])
  refine Go.on (fun _ k => XS.iloadN X0.here hx rfl (hb hby d2_7) rfl k) ?_
  show Go _ _ _ _ _ _ _ _ (mkF m 8 #[.val (.int i0), .val (.int i1), .val (.int ix)] [(.int ix)])
  refine Go.on (fun _ k => XS.iloadN X0.here hx rfl (hb hby d2_8) rfl k) ?_
  show Go _ _ _ _ _ _ _ _ (mkF m 9 #[.val (.int i0), .val (.int i1), .val (.int ix)] [(.int i1), (.int ix)])
  by_cases hc1 : ix = i1
  · -- pc 9 yes
    refine Go.on (fun _ k => XS.icmpYes X0.here hx rfl (pc0 := 9) (pc' := 14) rfl (hb hby d2_9) rfl (teq hc1).1 (by decide) (by decide) k) ?_
    show Go _ _ _ _ _ _ _ _ (mkF m 14 #[.val (.int i0), .val (.int i1), .val (.int ix)] [])
    refine Go.on (fun _ k => XS.iloadN X0.here hx rfl (hb hby d2_14) rfl k) ?_
    show Go _ _ _ _ _ _ _ _ (mkF m 15 #[.val (.int i0), .val (.int i1), .val (.int ix)] [(.int i0)])
    suffices hJ3 : ∀ (v2 : Int32), v2 = (if i0 < (0 : Int32) then (-1 : Int32) else (1 : Int32)) → Go p e below s K1 K2 QQ s₁ (mkF m 23 #[.val (.int i0), .val (.int i1), .val (.int ix)] [(.int v2)]) by
      by_cases hc4 : i0 < (0 : Int32)
      · -- pc 15 yes
        refine Go.on (fun _ k => XS.ifNo X0.here hx rfl (hb hby d2_15) rfl ((if0 _ _).trans (tlt hc4).2.1) k) ?_
        show Go _ _ _ _ _ _ _ _ (mkF m 18 #[.val (.int i0), .val (.int i1), .val (.int ix)] [])
        refine Go.on (fun _ k => XS.iconst X0.here hx rfl (hb hby d2_18) k) ?_
        show Go _ _ _ _ _ _ _ _ (mkF m 19 #[.val (.int i0), .val (.int i1), .val (.int ix)] [(.int (-1 : Int32))])
        refine Go.on (fun _ k => XS.goto X0.here hx rfl (pc0 := 19) (pc' := 23) rfl (hb hby d2_19) (by decide) (by decide) k) ?_
        show Go _ _ _ _ _ _ _ _ (mkF m 23 #[.val (.int i0), .val (.int i1), .val (.int ix)] [(.int (-1 : Int32))])
        exact hJ3 _ (by rw [if_pos hc4])
      · -- pc 15 no
        refine Go.on (fun _ k => XS.ifYes X0.here hx rfl (pc0 := 15) (pc' := 22) rfl (hb hby d2_15) rfl ((if0 _ _).trans (flt hc4).2.1) (by decide) (by decide) k) ?_
        show Go _ _ _ _ _ _ _ _ (mkF m 22 #[.val (.int i0), .val (.int i1), .val (.int ix)] [])
        refine Go.on (fun _ k => XS.iconst X0.here hx rfl (hb hby d2_22) k) ?_
        show Go _ _ _ _ _ _ _ _ (mkF m 23 #[.val (.int i0), .val (.int i1), .val (.int ix)] [(.int (1 : Int32))])
        exact hJ3 _ (by rw [if_neg hc4])
    intro v2 hv2
    refine Go.retV X0 hx Bd.returns rfl (Or.inl ⟨rfl, Or.inl rfl, _, rfl⟩) (hb hby d2_23) ?_ (by rw [hK1]; decide) (by rw [hK2]; decide)
    rw [e0, ← hQQ]
    refine ⟨?_, N0, rfl⟩
    show _ = some (Value.int (compV i0 i1))
    unfold compV; rw [hix, if_pos hc1]; rw [hv2]
  · -- pc 9 no
    refine Go.on (fun _ k => XS.icmpNo X0.here hx rfl (hb hby d2_9) rfl (feq hc1).1 k) ?_
    show Go _ _ _ _ _ _ _ _ (mkF m 12 #[.val (.int i0), .val (.int i1), .val (.int ix)] [])
    refine Go.on (fun _ k => XS.iconst X0.here hx rfl (hb hby d2_12) k) ?_
    show Go _ _ _ _ _ _ _ _ (mkF m 13 #[.val (.int i0), .val (.int i1), .val (.int ix)] [(.int (0 : Int32))])
    refine Go.retV X0 hx Bd.returns rfl (Or.inl ⟨rfl, Or.inl rfl, _, rfl⟩) (hb hby d2_13) ?_ (by rw [hK1]; decide) (by rw [hK2]; decide)
    rw [e0, ← hQQ]
    refine ⟨?_, N0, rfl⟩
    show _ = some (Value.int (compV i0 i1))
    unfold compV; rw [hix, if_neg hc1]
theorem pd_0 : parseMethodDescriptor "(II)I" = some ⟨[.int, .int], some .int⟩ := by decide +kernel
theorem d1_0 : decode method_4_code 0 = .ok (.iconst 3, 1) := by decide +kernel
theorem d1_1 : decode method_4_code 1 = .ok (.newarray .double, 2) := by decide +kernel
theorem d1_3 : decode method_4_code 3 = .ok (.astore_n 1, 1) := by decide +kernel
theorem d1_4 : decode method_4_code 4 = .ok (.aload_n 1, 1) := by decide +kernel
theorem d1_5 : decode method_4_code 5 = .ok (.iconst 0, 1) := by decide +kernel
theorem d1_6 : decode method_4_code 6 = .ok (.iload_n 0, 1) := by decide +kernel
theorem d1_7 : decode method_4_code 7 = .ok (.iconst 0, 1) := by decide +kernel
theorem d1_8 : decode method_4_code 8 = .ok (.invokestatic 31, 3) := by decide +kernel
theorem d1_11 : decode method_4_code 11 = .ok (.i2d, 1) := by decide +kernel
theorem d1_12 : decode method_4_code 12 = .ok (.dastore, 1) := by decide +kernel
theorem d1_13 : decode method_4_code 13 = .ok (.aload_n 1, 1) := by decide +kernel
theorem d1_14 : decode method_4_code 14 = .ok (.iconst 1, 1) := by decide +kernel
theorem d1_15 : decode method_4_code 15 = .ok (.iload_n 0, 1) := by decide +kernel
theorem d1_16 : decode method_4_code 16 = .ok (.iconst 1, 1) := by decide +kernel
theorem d1_17 : decode method_4_code 17 = .ok (.invokestatic 31, 3) := by decide +kernel
theorem d1_20 : decode method_4_code 20 = .ok (.i2d, 1) := by decide +kernel
theorem d1_21 : decode method_4_code 21 = .ok (.dastore, 1) := by decide +kernel
theorem d1_22 : decode method_4_code 22 = .ok (.aload_n 1, 1) := by decide +kernel
theorem d1_23 : decode method_4_code 23 = .ok (.iconst 2, 1) := by decide +kernel
theorem d1_24 : decode method_4_code 24 = .ok (.iload_n 0, 1) := by decide +kernel
theorem d1_25 : decode method_4_code 25 = .ok (.iconst 2, 1) := by decide +kernel
theorem d1_26 : decode method_4_code 26 = .ok (.invokestatic 31, 3) := by decide +kernel
theorem d1_29 : decode method_4_code 29 = .ok (.i2d, 1) := by decide +kernel
theorem d1_30 : decode method_4_code 30 = .ok (.dastore, 1) := by decide +kernel
theorem d1_31 : decode method_4_code 31 = .ok (.aload_n 1, 1) := by decide +kernel
theorem d1_32 : decode method_4_code 32 = .ok (.areturn, 1) := by decide +kernel
theorem ef_rm1 (m : MethodId) (i0 : Int32) : entryFrame m #[(.int i0)] 2 = mkF m 0 #[.val (.int i0), .unset] [] := by first | (simp [entryFrame, mkF, argsToLocals, Value.category]; done) | rfl
def Q_rm1 (Z : State) (i0 : Int32) (h0 : Heap) (n0 : Nat) (v : Option Value) (h : Heap) (L : List Loc) : Prop := ∃ (ar : Addr) (k_ar : ClassId), v = some (.ref ar) ∧ Fr n0 L ∧ Keep h0 h [] ∧ h0.size ≤ ar ∧ Arv Z h ar k_ar .double (3 : Int32) [(.double (FP.i2d (compV i0 (0 : Int32)))), (.double (FP.i2d (compV i0 (1 : Int32)))), (.double (FP.i2d (compV i0 (2 : Int32))))] (.double (0 : UInt64))
set_option maxRecDepth 65536 in
set_option maxHeartbeats 40000000 in
theorem rm1 (l : Launch) (Z : State) (aw : Array Value) (hw : ∀ d ∈ tables_1, d.before aw Z = true) (ws : List Jvm.Cond) (i0 : Int32) (h0 : Heap) (n0 : Nat) (Z0 : n0 ≤ h0.size) :
    MetFree l (⟨"com/example/d2rank/d2rank/rerank/CentroidAddPinLaw", "axis", "(I)[D"⟩ : MethodName) (head1 (Jvm.Cond.code (⟨"com/example/d2rank/d2rank/rerank/CentroidAddPinLaw", "axis", "(I)[D"⟩ : MethodName) method_4_code 2 (some (.array .double)) :: ws) ({ frames := 1, cells := 1, slots := 3, locals := 16 } : Room)) (fun a U => a = #[(.int i0)] ∧ Z.Warmed39 U.vm ∧ U.heap = h0) (fun _ _ _ _ _ => True) (fun _ U o U' => ∃ v L, o = .returned v ∧ Q_rm1 Z i0 h0 n0 v U'.heap L ∧ FrameEnd U o U' L ({ frames := 1, cells := 1, slots := 3, locals := 16 } : Room).cells ({ frames := 1, cells := 1, slots := 3, locals := 16 } : Room).slots) := by
  refine MetFree.of_bodySF (plainFor_of_name pn_0) hisR ?_
  intro p e s m args below meth c s₁ Bd hml0 hP hK
  obtain ⟨rfl, hZ, hh⟩ := hP
  have hx := Bd.exec
  have hby := Bd.bytes
  have hml : c.maxLocals = 2 := hml0
  have hown : s.vm.findClass "com/example/d2rank/d2rank/rerank/CentroidAddPinLaw" = some m.cls := findClass_of_methodNamed Bd.named
  have hnm := (name_of_methodNamed Bd.named Bd.method).1
  have hlk : meth.locks = false := BodyLoose.notSynchronized Bd
  have X0 : Stand p l e ({ frames := 1, cells := 1, slots := 3, locals := 16 } : Room) s m #[(.int i0)] below meth c s₁ [] 0 0 := Stand.of_body Bd
  have e0 : s₁.heap = h0 := by rw [← hh, Bd.state]; rfl
  have N0 := Fr.nil n0
  have ZZ := Z0
  show Go p e below s ({ frames := 1, cells := 1, slots := 3, locals := 16 } : Room).cells ({ frames := 1, cells := 1, slots := 3, locals := 16 } : Room).slots (fun v h L => Q_rm1 Z i0 h0 n0 v h L) s₁ (entryFrame m #[(.int i0)] 2)
  refine Go.cast (ef_rm1 m i0) ?_
  refine Go.gen ?_
  intro K1 K2 QQ hK1 hK2 hQQ
  have KP : Keep h0 h0 [] := Keep.refl _ _
  refine Go.on (fun _ k => XS.iconst X0.here hx rfl (hb hby d1_0) k) ?_
  show Go _ _ _ _ _ _ _ _ (mkF m 1 #[.val (.int i0), .unset] [(.int (3 : Int32))])
  obtain ⟨T1, h1, k_ar, X1, e1, E1, A1, st1⟩ := newP X0 hx hZ (hw _ (List.mem_of_getElem? (i := 5) rfl)) e0 (g := (mkF m 1 #[.val (.int i0), .unset] [(.int (3 : Int32))])) rfl (hb hby d1_1) rfl (by decide) (cap := 3) (by decide) (by decide) (by decide) (by decide)
  obtain ⟨ar, g1⟩ : ∃ z, z = h0.size := ⟨_, rfl⟩
  have g_ar : n0 ≤ ar := Nat.le_trans ZZ (Nat.le_of_eq g1.symm)
  have sz_ar : h0.size ≤ ar := Nat.le_trans KP.1 (Nat.le_of_eq g1.symm)
  rw [← g1] at A1 st1
  replace ZZ := Nat.le_trans ZZ E1.1
  replace KP := KP.ext E1
  have V_ar : Arv Z h1 ar k_ar .double (3 : Int32) [(.double (0 : UInt64)), (.double (0 : UInt64)), (.double (0 : UInt64))] (.double (0 : UInt64)) := (Arv.new A1 (by decide)).pad (pad_rep [] (.double (0 : UInt64)) 3)
  refine Go.on st1 ?_
  show Go _ _ _ _ _ _ _ _ (mkF m 3 #[.val (.int i0), .unset] [(.ref ar)])
  refine Go.on (fun _ k => XS.astoreN X1.here hx rfl (hb hby d1_3) rfl rfl (l' := #[.val (.int i0), .val (.ref ar)]) rfl k) ?_
  show Go _ _ _ _ _ _ _ _ (mkF m 4 #[.val (.int i0), .val (.ref ar)] [])
  refine Go.on (fun _ k => XS.aloadN X1.here hx rfl (hb hby d1_4) rfl rfl k) ?_
  show Go _ _ _ _ _ _ _ _ (mkF m 5 #[.val (.int i0), .val (.ref ar)] [(.ref ar)])
  refine Go.on (fun _ k => XS.iconst X1.here hx rfl (hb hby d1_5) k) ?_
  show Go _ _ _ _ _ _ _ _ (mkF m 6 #[.val (.int i0), .val (.ref ar)] [(.int (0 : Int32)), (.ref ar)])
  refine Go.on (fun _ k => XS.iloadN X1.here hx rfl (hb hby d1_6) rfl k) ?_
  show Go _ _ _ _ _ _ _ _ (mkF m 7 #[.val (.int i0), .val (.ref ar)] [(.int i0), (.int (0 : Int32)), (.ref ar)])
  refine Go.on (fun _ k => XS.iconst X1.here hx rfl (hb hby d1_7) k) ?_
  show Go _ _ _ _ _ _ _ _ (mkF m 8 #[.val (.int i0), .val (.ref ar)] [(.int (0 : Int32)), (.int i0), (.int (0 : Int32)), (.ref ar)])
  obtain ⟨_, _, ⟨T2, L2, k2, n2⟩, -, X2, ⟨Lc2, hQ2, l2, y2, z2⟩, st2⟩ := Jvm.LawKit.callS X1 hx (y := (⟨"com/example/d2rank/d2rank/rerank/CentroidAddPinLaw", "comp", "(II)I"⟩ : MethodName)) hown (mvT hZ (hw _ (List.mem_of_getElem? (i := 6) rfl))) (mvT hZ (hw _ (List.mem_of_getElem? (i := 7) rfl))) (mvT hZ (hw _ (List.mem_of_getElem? (i := 3) rfl))) (mvT hZ (hw _ (List.mem_of_getElem? (i := 8) rfl))) (by decide) (backOf (W := 2) (rm2 l Z aw hw [] i0 (0 : Int32)  h1 n0 ZZ ) hZ (hw _ (List.mem_of_getElem? (i := 8) rfl)) (hw _ (List.mem_of_getElem? (i := 3) rfl)) (by decide) (by decide)) (g := (mkF m 8 #[.val (.int i0), .val (.ref ar)] [(.int (0 : Int32)), (.int i0), (.int (0 : Int32)), (.ref ar)])) rfl (by rw [hml]; rfl) (argsL := [(.int i0), (.int (0 : Int32))]) (rest := [(.int (0 : Int32)), (.ref ar)]) (lenOf pd_0 rfl) rfl (by show 2 * 0 + _ ≤ _; exact Nat.le_of_eq rfl) (hb hby d1_8) (fun _ _ => ⟨rfl, e1, (by decide : 1 + 0 ≤ _), (by decide : 3 + 0 ≤ _)⟩)
  dsimp only [Pt.U, Pt.locs, Pt.cells, Pt.slots] at X2 l2 y2 z2 st2 hQ2
  subst l2 y2 z2
  obtain ⟨rfl, N2q, e2⟩ := hQ2
  have N2 := Fr.app N0 N2q
  refine Go.on st2 ?_
  show Go _ _ _ _ _ _ _ _ (mkF m 11 #[.val (.int i0), .val (.ref ar)] [(.int (compV i0 (0 : Int32))), (.int (0 : Int32)), (.ref ar)])
  refine Go.on (fun _ k => XS.i2dS X2.here hx rfl (hb hby d1_11) rfl rfl k) ?_
  show Go _ _ _ _ _ _ _ _ (mkF m 12 #[.val (.int i0), .val (.ref ar)] [(.double (FP.i2d (compV i0 (0 : Int32)))), (.int (0 : Int32)), (.ref ar)])
  obtain ⟨cl3, Ar3, q3, S3, N3n, H3, G3⟩ := id V_ar
  have hin3 : ¬ ((0 : Int32) < 0 ∨ cl3.slots.size ≤ ((0 : Int32)).toNatClampNeg) := inb_of S3 ⟨by decide, by decide⟩
  obtain ⟨T3, h3, X3, e3, W3, st3⟩ := stD X2 hx hZ e2 Ar3 (j := (0 : Int32)) hin3 (g := (mkF m 12 #[.val (.int i0), .val (.ref ar)] [(.double (FP.i2d (compV i0 (0 : Int32)))), (.int (0 : Int32)), (.ref ar)])) rfl rfl (hb hby d1_12)
  replace V_ar := Arv.set Ar3 q3 S3 N3n H3 G3 rfl W3 0 rfl (Nat.le_of_ble_eq_true rfl)
  refine Go.on st3 ?_
  have N3 := Fr.snoc X3 N2 g_ar
  replace ZZ := Nat.le_trans ZZ (Keep.of_wr W3).1
  replace KP := KP.wr W3 (Or.inr sz_ar)
  change Arv Z h3 ar k_ar .double (3 : Int32) [(.double (FP.i2d (compV i0 (0 : Int32)))), (.double (0 : UInt64)), (.double (0 : UInt64))] (.double (0 : UInt64)) at V_ar
  show Go _ _ _ _ _ _ _ _ (mkF m 13 #[.val (.int i0), .val (.ref ar)] [])
  refine Go.on (fun _ k => XS.aloadN X3.here hx rfl (hb hby d1_13) rfl rfl k) ?_
  show Go _ _ _ _ _ _ _ _ (mkF m 14 #[.val (.int i0), .val (.ref ar)] [(.ref ar)])
  refine Go.on (fun _ k => XS.iconst X3.here hx rfl (hb hby d1_14) k) ?_
  show Go _ _ _ _ _ _ _ _ (mkF m 15 #[.val (.int i0), .val (.ref ar)] [(.int (1 : Int32)), (.ref ar)])
  refine Go.on (fun _ k => XS.iloadN X3.here hx rfl (hb hby d1_15) rfl k) ?_
  show Go _ _ _ _ _ _ _ _ (mkF m 16 #[.val (.int i0), .val (.ref ar)] [(.int i0), (.int (1 : Int32)), (.ref ar)])
  refine Go.on (fun _ k => XS.iconst X3.here hx rfl (hb hby d1_16) k) ?_
  show Go _ _ _ _ _ _ _ _ (mkF m 17 #[.val (.int i0), .val (.ref ar)] [(.int (1 : Int32)), (.int i0), (.int (1 : Int32)), (.ref ar)])
  obtain ⟨_, _, ⟨T4, L4, k4, n4⟩, -, X4, ⟨Lc4, hQ4, l4, y4, z4⟩, st4⟩ := Jvm.LawKit.callS X3 hx (y := (⟨"com/example/d2rank/d2rank/rerank/CentroidAddPinLaw", "comp", "(II)I"⟩ : MethodName)) hown (mvT hZ (hw _ (List.mem_of_getElem? (i := 6) rfl))) (mvT hZ (hw _ (List.mem_of_getElem? (i := 7) rfl))) (mvT hZ (hw _ (List.mem_of_getElem? (i := 3) rfl))) (mvT hZ (hw _ (List.mem_of_getElem? (i := 8) rfl))) (by decide) (backOf (W := 2) (rm2 l Z aw hw [] i0 (1 : Int32)  h3 n0 ZZ ) hZ (hw _ (List.mem_of_getElem? (i := 8) rfl)) (hw _ (List.mem_of_getElem? (i := 3) rfl)) (by decide) (by decide)) (g := (mkF m 17 #[.val (.int i0), .val (.ref ar)] [(.int (1 : Int32)), (.int i0), (.int (1 : Int32)), (.ref ar)])) rfl (by rw [hml]; rfl) (argsL := [(.int i0), (.int (1 : Int32))]) (rest := [(.int (1 : Int32)), (.ref ar)]) (lenOf pd_0 rfl) rfl (by show 2 * 0 + _ ≤ _; exact Nat.le_of_eq rfl) (hb hby d1_17) (fun _ _ => ⟨rfl, e3, (by decide : 1 + 0 ≤ _), (by decide : 3 + 0 ≤ _)⟩)
  dsimp only [Pt.U, Pt.locs, Pt.cells, Pt.slots] at X4 l4 y4 z4 st4 hQ4
  subst l4 y4 z4
  obtain ⟨rfl, N4q, e4⟩ := hQ4
  have N4 := Fr.app N3 N4q
  refine Go.on st4 ?_
  show Go _ _ _ _ _ _ _ _ (mkF m 20 #[.val (.int i0), .val (.ref ar)] [(.int (compV i0 (1 : Int32))), (.int (1 : Int32)), (.ref ar)])
  refine Go.on (fun _ k => XS.i2dS X4.here hx rfl (hb hby d1_20) rfl rfl k) ?_
  show Go _ _ _ _ _ _ _ _ (mkF m 21 #[.val (.int i0), .val (.ref ar)] [(.double (FP.i2d (compV i0 (1 : Int32)))), (.int (1 : Int32)), (.ref ar)])
  obtain ⟨cl5, Ar5, q5, S5, N5n, H5, G5⟩ := id V_ar
  have hin5 : ¬ ((1 : Int32) < 0 ∨ cl5.slots.size ≤ ((1 : Int32)).toNatClampNeg) := inb_of S5 ⟨by decide, by decide⟩
  obtain ⟨T5, h5, X5, e5, W5, st5⟩ := stD X4 hx hZ e4 Ar5 (j := (1 : Int32)) hin5 (g := (mkF m 21 #[.val (.int i0), .val (.ref ar)] [(.double (FP.i2d (compV i0 (1 : Int32)))), (.int (1 : Int32)), (.ref ar)])) rfl rfl (hb hby d1_21)
  replace V_ar := Arv.set Ar5 q5 S5 N5n H5 G5 rfl W5 1 rfl (Nat.le_of_ble_eq_true rfl)
  refine Go.on st5 ?_
  have N5 := Fr.snoc X5 N4 g_ar
  replace ZZ := Nat.le_trans ZZ (Keep.of_wr W5).1
  replace KP := KP.wr W5 (Or.inr sz_ar)
  change Arv Z h5 ar k_ar .double (3 : Int32) [(.double (FP.i2d (compV i0 (0 : Int32)))), (.double (FP.i2d (compV i0 (1 : Int32)))), (.double (0 : UInt64))] (.double (0 : UInt64)) at V_ar
  show Go _ _ _ _ _ _ _ _ (mkF m 22 #[.val (.int i0), .val (.ref ar)] [])
  refine Go.on (fun _ k => XS.aloadN X5.here hx rfl (hb hby d1_22) rfl rfl k) ?_
  show Go _ _ _ _ _ _ _ _ (mkF m 23 #[.val (.int i0), .val (.ref ar)] [(.ref ar)])
  refine Go.on (fun _ k => XS.iconst X5.here hx rfl (hb hby d1_23) k) ?_
  show Go _ _ _ _ _ _ _ _ (mkF m 24 #[.val (.int i0), .val (.ref ar)] [(.int (2 : Int32)), (.ref ar)])
  refine Go.on (fun _ k => XS.iloadN X5.here hx rfl (hb hby d1_24) rfl k) ?_
  show Go _ _ _ _ _ _ _ _ (mkF m 25 #[.val (.int i0), .val (.ref ar)] [(.int i0), (.int (2 : Int32)), (.ref ar)])
  refine Go.on (fun _ k => XS.iconst X5.here hx rfl (hb hby d1_25) k) ?_
  show Go _ _ _ _ _ _ _ _ (mkF m 26 #[.val (.int i0), .val (.ref ar)] [(.int (2 : Int32)), (.int i0), (.int (2 : Int32)), (.ref ar)])
  obtain ⟨_, _, ⟨T6, L6, k6, n6⟩, -, X6, ⟨Lc6, hQ6, l6, y6, z6⟩, st6⟩ := Jvm.LawKit.callS X5 hx (y := (⟨"com/example/d2rank/d2rank/rerank/CentroidAddPinLaw", "comp", "(II)I"⟩ : MethodName)) hown (mvT hZ (hw _ (List.mem_of_getElem? (i := 6) rfl))) (mvT hZ (hw _ (List.mem_of_getElem? (i := 7) rfl))) (mvT hZ (hw _ (List.mem_of_getElem? (i := 3) rfl))) (mvT hZ (hw _ (List.mem_of_getElem? (i := 8) rfl))) (by decide) (backOf (W := 2) (rm2 l Z aw hw [] i0 (2 : Int32)  h5 n0 ZZ ) hZ (hw _ (List.mem_of_getElem? (i := 8) rfl)) (hw _ (List.mem_of_getElem? (i := 3) rfl)) (by decide) (by decide)) (g := (mkF m 26 #[.val (.int i0), .val (.ref ar)] [(.int (2 : Int32)), (.int i0), (.int (2 : Int32)), (.ref ar)])) rfl (by rw [hml]; rfl) (argsL := [(.int i0), (.int (2 : Int32))]) (rest := [(.int (2 : Int32)), (.ref ar)]) (lenOf pd_0 rfl) rfl (by show 2 * 0 + _ ≤ _; exact Nat.le_of_eq rfl) (hb hby d1_26) (fun _ _ => ⟨rfl, e5, (by decide : 1 + 0 ≤ _), (by decide : 3 + 0 ≤ _)⟩)
  dsimp only [Pt.U, Pt.locs, Pt.cells, Pt.slots] at X6 l6 y6 z6 st6 hQ6
  subst l6 y6 z6
  obtain ⟨rfl, N6q, e6⟩ := hQ6
  have N6 := Fr.app N5 N6q
  refine Go.on st6 ?_
  show Go _ _ _ _ _ _ _ _ (mkF m 29 #[.val (.int i0), .val (.ref ar)] [(.int (compV i0 (2 : Int32))), (.int (2 : Int32)), (.ref ar)])
  refine Go.on (fun _ k => XS.i2dS X6.here hx rfl (hb hby d1_29) rfl rfl k) ?_
  show Go _ _ _ _ _ _ _ _ (mkF m 30 #[.val (.int i0), .val (.ref ar)] [(.double (FP.i2d (compV i0 (2 : Int32)))), (.int (2 : Int32)), (.ref ar)])
  obtain ⟨cl7, Ar7, q7, S7, N7n, H7, G7⟩ := id V_ar
  have hin7 : ¬ ((2 : Int32) < 0 ∨ cl7.slots.size ≤ ((2 : Int32)).toNatClampNeg) := inb_of S7 ⟨by decide, by decide⟩
  obtain ⟨T7, h7, X7, e7, W7, st7⟩ := stD X6 hx hZ e6 Ar7 (j := (2 : Int32)) hin7 (g := (mkF m 30 #[.val (.int i0), .val (.ref ar)] [(.double (FP.i2d (compV i0 (2 : Int32)))), (.int (2 : Int32)), (.ref ar)])) rfl rfl (hb hby d1_30)
  replace V_ar := Arv.set Ar7 q7 S7 N7n H7 G7 rfl W7 2 rfl (Nat.le_of_ble_eq_true rfl)
  refine Go.on st7 ?_
  have N7 := Fr.snoc X7 N6 g_ar
  replace ZZ := Nat.le_trans ZZ (Keep.of_wr W7).1
  replace KP := KP.wr W7 (Or.inr sz_ar)
  change Arv Z h7 ar k_ar .double (3 : Int32) [(.double (FP.i2d (compV i0 (0 : Int32)))), (.double (FP.i2d (compV i0 (1 : Int32)))), (.double (FP.i2d (compV i0 (2 : Int32))))] (.double (0 : UInt64)) at V_ar
  show Go _ _ _ _ _ _ _ _ (mkF m 31 #[.val (.int i0), .val (.ref ar)] [])
  refine Go.on (fun _ k => XS.aloadN X7.here hx rfl (hb hby d1_31) rfl rfl k) ?_
  show Go _ _ _ _ _ _ _ _ (mkF m 32 #[.val (.int i0), .val (.ref ar)] [(.ref ar)])
  refine Go.retV X7 hx Bd.returns rfl (Or.inr (Or.inr (Or.inr (Or.inr ⟨rfl, rfl, rfl⟩)))) (hb hby d1_32) ?_ (by rw [hK1]; decide) (by rw [hK2]; decide)
  rw [e7, ← hQQ]
  exact ⟨ar, k_ar, rfl, N7, KP, sz_ar, V_ar⟩
theorem d3_0 : decode prog_44_method_1_code 0 = .ok (.aload_n 0, 1) := by decide +kernel
theorem d3_1 : decode prog_44_method_1_code 1 = .ok (.invokespecial 1, 3) := by decide +kernel
theorem d3_4 : decode prog_44_method_1_code 4 = .ok (.aload_n 0, 1) := by decide +kernel
theorem d3_5 : decode prog_44_method_1_code 5 = .ok (.iload_n 1, 1) := by decide +kernel
theorem d3_6 : decode prog_44_method_1_code 6 = .ok (.newarray .double, 2) := by decide +kernel
theorem d3_8 : decode prog_44_method_1_code 8 = .ok (.putfield 7, 3) := by decide +kernel
theorem d3_11 : decode prog_44_method_1_code 11 = .ok (.return_, 1) := by decide +kernel
theorem pn_1 : plainName "com/example/d2rank/d2rank/rerank/Centroid" = true := by first | (simp [plainName, overriddenIn]; done) | decide +kernel
theorem ef_ci_3 (m : MethodId) (a0 : Addr) : entryFrame m #[(.ref a0), (.int (3 : Int32))] 2 = mkF m 0 #[.val (.ref a0), .val (.int (3 : Int32))] [] := by first | (simp [entryFrame, mkF, argsToLocals, Value.category]; done) | rfl
def Q_ci_3 (Z : State) (a0 : Addr) (u0 : Value) (h0 : Heap) (n0 : Nat) (v : Option Value) (h : Heap) (L : List Loc) : Prop := v = none ∧ Fr n0 L ∧ ∃ (ar : Addr) (k_ar : ClassId), Keep h0 h [a0] ∧ h0.size ≤ ar ∧ Exa Z h a0 "com/example/d2rank/d2rank/rerank/Centroid" ∧ Fld Z h a0 "com/example/d2rank/d2rank/rerank/Centroid" "sum" "[D" (.ref ar) ∧ Fld Z h a0 "com/example/d2rank/d2rank/rerank/Centroid" "count" "I" (.int (0 : Int32)) ∧ Arv Z h ar k_ar .double (3 : Int32) [(.double (0 : UInt64)), (.double (0 : UInt64)), (.double (0 : UInt64))] (.double (0 : UInt64))
set_option maxRecDepth 65536 in
set_option maxHeartbeats 40000000 in
theorem ci_3 (l : Launch) (Z : State) (aw : Array Value) (hw : ∀ d ∈ tables_1, d.before aw Z = true) (ws : List Jvm.Cond) (a0 : Addr) (u0 : Value) (h0 : Heap) (n0 : Nat) (Z0 : n0 ≤ h0.size) (E_a0 : Exa Z h0 a0 "com/example/d2rank/d2rank/rerank/Centroid") (F_sum_a0 : Fld Z h0 a0 "com/example/d2rank/d2rank/rerank/Centroid" "sum" "[D" u0) (F_count_a0 : Fld Z h0 a0 "com/example/d2rank/d2rank/rerank/Centroid" "count" "I" (.int (0 : Int32))) (g_a0 : n0 ≤ a0) :
    MetFree l (⟨"com/example/d2rank/d2rank/rerank/Centroid", "<init>", "(I)V"⟩ : MethodName) (head1 (Jvm.Cond.code (⟨"com/example/d2rank/d2rank/rerank/Centroid", "<init>", "(I)V"⟩ : MethodName) prog_44_method_1_code 2 none :: ws) ({ frames := 1, cells := 1, slots := 3, locals := 12 } : Room)) (fun a U => a = #[(.ref a0), (.int (3 : Int32))] ∧ Z.Warmed39 U.vm ∧ U.heap = h0) (fun _ _ _ _ _ => True) (fun _ U o U' => ∃ v L, o = .returned v ∧ Q_ci_3 Z a0 u0 h0 n0 v U'.heap L ∧ FrameEnd U o U' L ({ frames := 1, cells := 1, slots := 3, locals := 12 } : Room).cells ({ frames := 1, cells := 1, slots := 3, locals := 12 } : Room).slots) := by
  refine MetFree.of_bodySF (plainFor_of_name pn_1) hisR ?_
  intro p e s m args below meth c s₁ Bd hml0 hP hK
  obtain ⟨rfl, hZ, hh⟩ := hP
  have hx := Bd.exec
  have hby := Bd.bytes
  have hml : c.maxLocals = 2 := hml0
  have hown : s.vm.findClass "com/example/d2rank/d2rank/rerank/Centroid" = some m.cls := findClass_of_methodNamed Bd.named
  have hnm := (name_of_methodNamed Bd.named Bd.method).1
  have hlk : meth.locks = false := BodyLoose.notSynchronized Bd
  have X0 : Stand p l e ({ frames := 1, cells := 1, slots := 3, locals := 12 } : Room) s m #[(.ref a0), (.int (3 : Int32))] below meth c s₁ [] 0 0 := Stand.of_body Bd
  have e0 : s₁.heap = h0 := by rw [← hh, Bd.state]; rfl
  have N0 := Fr.nil n0
  have ZZ := Z0
  show Go p e below s ({ frames := 1, cells := 1, slots := 3, locals := 12 } : Room).cells ({ frames := 1, cells := 1, slots := 3, locals := 12 } : Room).slots (fun v h L => Q_ci_3 Z a0 u0 h0 n0 v h L) s₁ (entryFrame m #[(.ref a0), (.int (3 : Int32))] 2)
  refine Go.cast (ef_ci_3 m a0) ?_
  refine Go.gen ?_
  intro K1 K2 QQ hK1 hK2 hQQ
  have KP : Keep h0 h0 [a0] := Keep.refl _ _
  refine Go.on (fun _ k => XS.aloadN X0.here hx rfl (hb hby d3_0) rfl rfl k) ?_
  show Go _ _ _ _ _ _ _ _ (mkF m 1 #[.val (.ref a0), .val (.int (3 : Int32))] [(.ref a0)])
  obtain ⟨T1, X1, e1, st1⟩ := initO X0 hx hZ hown (hw _ (List.mem_of_getElem? (i := 15) rfl)) (hw _ (List.mem_of_getElem? (i := 16) rfl)) (hw _ (List.mem_of_getElem? (i := 17) rfl)) e0 (g := (mkF m 1 #[.val (.ref a0), .val (.int (3 : Int32))] [(.ref a0)])) rfl (by rw [hml]; rfl) rfl (hb hby d3_1) (by decide) (W := 0) (by show 2 * 0 + _ ≤ _; exact Nat.le_of_eq rfl) (by decide)
  refine Go.on st1 ?_
  show Go _ _ _ _ _ _ _ _ (mkF m 4 #[.val (.ref a0), .val (.int (3 : Int32))] [])
  refine Go.on (fun _ k => XS.aloadN X1.here hx rfl (hb hby d3_4) rfl rfl k) ?_
  show Go _ _ _ _ _ _ _ _ (mkF m 5 #[.val (.ref a0), .val (.int (3 : Int32))] [(.ref a0)])
  refine Go.on (fun _ k => XS.iloadN X1.here hx rfl (hb hby d3_5) rfl k) ?_
  show Go _ _ _ _ _ _ _ _ (mkF m 6 #[.val (.ref a0), .val (.int (3 : Int32))] [(.int (3 : Int32)), (.ref a0)])
  obtain ⟨T2, h2, k_ar, X2, e2, E2, A2, st2⟩ := newP X1 hx hZ (hw _ (List.mem_of_getElem? (i := 5) rfl)) e1 (g := (mkF m 6 #[.val (.ref a0), .val (.int (3 : Int32))] [(.int (3 : Int32)), (.ref a0)])) rfl (hb hby d3_6) rfl (by decide) (cap := 3) (by decide) (by decide) (by decide) (by decide)
  obtain ⟨ar, g2⟩ : ∃ z, z = h0.size := ⟨_, rfl⟩
  have ne_a0_ar : a0 ≠ ar := Nat.ne_of_lt (Nat.lt_of_lt_of_le E_a0.lt (Nat.le_of_eq g2.symm))
  have g_ar : n0 ≤ ar := Nat.le_trans ZZ (Nat.le_of_eq g2.symm)
  have sz_ar : h0.size ≤ ar := Nat.le_trans KP.1 (Nat.le_of_eq g2.symm)
  rw [← g2] at A2 st2
  replace E_a0 := E_a0.ext E2
  replace F_sum_a0 := F_sum_a0.ext E2
  replace F_count_a0 := F_count_a0.ext E2
  replace ZZ := Nat.le_trans ZZ E2.1
  replace KP := KP.ext E2
  have V_ar : Arv Z h2 ar k_ar .double (3 : Int32) [(.double (0 : UInt64)), (.double (0 : UInt64)), (.double (0 : UInt64))] (.double (0 : UInt64)) := (Arv.new A2 (by decide)).pad (pad_rep [] (.double (0 : UInt64)) 3)
  refine Go.on st2 ?_
  show Go _ _ _ _ _ _ _ _ (mkF m 8 #[.val (.ref a0), .val (.int (3 : Int32))] [(.ref ar), (.ref a0)])
  obtain ⟨T3, h3, X3, e3, W3, st3⟩ := putF X2 hx hZ hown (host := "") (Or.inl (hw _ (List.mem_of_getElem? (i := 18) rfl))) Via.refl e2 F_sum_a0 E_a0 (Or.inr ⟨(hw _ (List.mem_of_getElem? (i := 19) rfl)), rfl, hnm⟩) (hw _ (List.mem_of_getElem? (i := 10) rfl)) (ty := (.array .double)) (by decide) rfl rfl (g := (mkF m 8 #[.val (.ref a0), .val (.int (3 : Int32))] [(.ref ar), (.ref a0)])) rfl rfl (hb hby d3_8)
  refine Go.on st3 ?_
  replace F_sum_a0 := F_sum_a0.same W3
  replace E_a0 := E_a0.wr W3
  replace F_count_a0 := F_count_a0.other W3 (Or.inr (slot_ne (Or.inl (hw _ (List.mem_of_getElem? (i := 26) rfl))) (Or.inr (hw _ (List.mem_of_getElem? (i := 19) rfl))) (by decide) (t := .int) (t' := (.array .double)) (by decide) (by decide)))
  replace V_ar := V_ar.other W3 (Ne.symm ne_a0_ar)
  have N3 := Fr.snoc X3 N0 g_a0
  replace ZZ := Nat.le_trans ZZ (Keep.of_wr W3).1
  replace KP := KP.wr W3 (Or.inl (List.mem_of_getElem? (i := 0) rfl))
  show Go _ _ _ _ _ _ _ _ (mkF m 11 #[.val (.ref a0), .val (.int (3 : Int32))] [])
  refine Go.ret0 X3 hx Bd.returns (hb hby d3_11) ?_ (by rw [hK1]; decide) (by rw [hK2]; decide)
  rw [e3, ← hQQ]
  exact ⟨rfl, N3, ar, k_ar, KP, sz_ar, E_a0, F_sum_a0, F_count_a0, V_ar⟩
theorem d5_0 : decode prog_44_method_2_code 0 = .ok (.iconst 0, 1) := by decide +kernel
theorem d5_1 : decode prog_44_method_2_code 1 = .ok (.istore_n 2, 1) := by decide +kernel
theorem d5_2 : decode prog_44_method_2_code 2 = .ok (.iload_n 2, 1) := by decide +kernel
theorem d5_3 : decode prog_44_method_2_code 3 = .ok (.aload_n 0, 1) := by decide +kernel
theorem d5_4 : decode prog_44_method_2_code 4 = .ok (.getfield 7, 3) := by decide +kernel
theorem d5_7 : decode prog_44_method_2_code 7 = .ok (.arraylength, 1) := by decide +kernel
theorem d5_8 : decode prog_44_method_2_code 8 = .ok (.if_icmp .ge 21, 3) := by decide +kernel
theorem d5_11 : decode prog_44_method_2_code 11 = .ok (.aload_n 0, 1) := by decide +kernel
theorem d5_12 : decode prog_44_method_2_code 12 = .ok (.getfield 7, 3) := by decide +kernel
theorem d5_15 : decode prog_44_method_2_code 15 = .ok (.iload_n 2, 1) := by decide +kernel
theorem d5_16 : decode prog_44_method_2_code 16 = .ok (.dup2, 1) := by decide +kernel
theorem d5_17 : decode prog_44_method_2_code 17 = .ok (.daload, 1) := by decide +kernel
theorem d5_18 : decode prog_44_method_2_code 18 = .ok (.aload_n 1, 1) := by decide +kernel
theorem d5_19 : decode prog_44_method_2_code 19 = .ok (.iload_n 2, 1) := by decide +kernel
theorem d5_20 : decode prog_44_method_2_code 20 = .ok (.daload, 1) := by decide +kernel
theorem d5_21 : decode prog_44_method_2_code 21 = .ok (.dadd, 1) := by decide +kernel
theorem d5_22 : decode prog_44_method_2_code 22 = .ok (.dastore, 1) := by decide +kernel
theorem d5_23 : decode prog_44_method_2_code 23 = .ok (.iinc 2 1, 3) := by decide +kernel
theorem d5_26 : decode prog_44_method_2_code 26 = .ok (.goto (-24), 3) := by decide +kernel
theorem d5_29 : decode prog_44_method_2_code 29 = .ok (.aload_n 0, 1) := by decide +kernel
theorem d5_30 : decode prog_44_method_2_code 30 = .ok (.dup, 1) := by decide +kernel
theorem d5_31 : decode prog_44_method_2_code 31 = .ok (.getfield 13, 3) := by decide +kernel
theorem d5_34 : decode prog_44_method_2_code 34 = .ok (.iconst 1, 1) := by decide +kernel
theorem d5_35 : decode prog_44_method_2_code 35 = .ok (.iadd, 1) := by decide +kernel
theorem d5_36 : decode prog_44_method_2_code 36 = .ok (.putfield 13, 3) := by decide +kernel
theorem d5_39 : decode prog_44_method_2_code 39 = .ok (.return_, 1) := by decide +kernel
theorem ef_ca_3 (m : MethodId) (a0 : Addr) (a1 : Addr) : entryFrame m #[(.ref a0), (.ref a1)] 3 = mkF m 0 #[.val (.ref a0), .val (.ref a1), .unset] [] := by first | (simp [entryFrame, mkF, argsToLocals, Value.category]; done) | rfl
def Q_ca_3 (Z : State) (a0 : Addr) (a1 : Addr) (as : Addr) (ct : Int32) (k_as : ClassId) (x0 : UInt64) (x1 : UInt64) (x2 : UInt64) (k_a1 : ClassId) (y0 : UInt64) (y1 : UInt64) (y2 : UInt64) (h0 : Heap) (n0 : Nat) (v : Option Value) (h : Heap) (L : List Loc) : Prop := v = none ∧ Fr n0 L ∧ Keep h0 h [a0, as] ∧ Exa Z h a0 "com/example/d2rank/d2rank/rerank/Centroid" ∧ Fld Z h a0 "com/example/d2rank/d2rank/rerank/Centroid" "sum" "[D" (.ref as) ∧ Fld Z h a0 "com/example/d2rank/d2rank/rerank/Centroid" "count" "I" (.int (ct + (1 : Int32))) ∧ Arv Z h as k_as .double (3 : Int32) [(.double (FP.dadd x0 y0)), (.double (FP.dadd x1 y1)), (.double (FP.dadd x2 y2))] (.double (0 : UInt64))
set_option maxRecDepth 65536 in
set_option maxHeartbeats 40000000 in
theorem ca_3 (l : Launch) (Z : State) (aw : Array Value) (hw : ∀ d ∈ tables_1, d.before aw Z = true) (ws : List Jvm.Cond) (a0 : Addr) (a1 : Addr) (as : Addr) (ct : Int32) (k_as : ClassId) (x0 : UInt64) (x1 : UInt64) (x2 : UInt64) (k_a1 : ClassId) (y0 : UInt64) (y1 : UInt64) (y2 : UInt64) (h0 : Heap) (n0 : Nat) (Z0 : n0 ≤ h0.size) (E_a0 : Exa Z h0 a0 "com/example/d2rank/d2rank/rerank/Centroid") (F_sum_a0 : Fld Z h0 a0 "com/example/d2rank/d2rank/rerank/Centroid" "sum" "[D" (.ref as)) (F_count_a0 : Fld Z h0 a0 "com/example/d2rank/d2rank/rerank/Centroid" "count" "I" (.int ct)) (V_as : Arv Z h0 as k_as .double (3 : Int32) [(.double x0), (.double x1), (.double x2)] (.double (0 : UInt64))) (V_a1 : Arv Z h0 a1 k_a1 .double (3 : Int32) [(.double y0), (.double y1), (.double y2)] (.double (0 : UInt64))) (g_a0 : n0 ≤ a0) (g_as : n0 ≤ as) (ne_a0_as : a0 ≠ as) (ne_a1_as : a1 ≠ as) (ne_a1_a0 : a1 ≠ a0) (hs0 : Jvm.Free.Fl.NoNaN64 (FP.dadd x0 y0)) (hs1 : Jvm.Free.Fl.NoNaN64 (FP.dadd x1 y1)) (hs2 : Jvm.Free.Fl.NoNaN64 (FP.dadd x2 y2)) :
    MetFree l (⟨"com/example/d2rank/d2rank/rerank/Centroid", "add", "([D)V"⟩ : MethodName) (head1 (Jvm.Cond.code (⟨"com/example/d2rank/d2rank/rerank/Centroid", "add", "([D)V"⟩ : MethodName) prog_44_method_2_code 3 none :: ws) ({ frames := 0, cells := 0, slots := 0, locals := 0 } : Room)) (fun a U => a = #[(.ref a0), (.ref a1)] ∧ Z.Warmed39 U.vm ∧ U.heap = h0) (fun _ _ _ _ _ => True) (fun _ U o U' => ∃ v L, o = .returned v ∧ Q_ca_3 Z a0 a1 as ct k_as x0 x1 x2 k_a1 y0 y1 y2 h0 n0 v U'.heap L ∧ FrameEnd U o U' L ({ frames := 0, cells := 0, slots := 0, locals := 0 } : Room).cells ({ frames := 0, cells := 0, slots := 0, locals := 0 } : Room).slots) := by
  refine MetFree.of_bodySF (plainFor_of_name pn_1) hisR ?_
  intro p e s m args below meth c s₁ Bd hml0 hP hK
  obtain ⟨rfl, hZ, hh⟩ := hP
  have hx := Bd.exec
  have hby := Bd.bytes
  have hml : c.maxLocals = 3 := hml0
  have hown : s.vm.findClass "com/example/d2rank/d2rank/rerank/Centroid" = some m.cls := findClass_of_methodNamed Bd.named
  have hnm := (name_of_methodNamed Bd.named Bd.method).1
  have hlk : meth.locks = false := BodyLoose.notSynchronized Bd
  have X0 : Stand p l e ({ frames := 0, cells := 0, slots := 0, locals := 0 } : Room) s m #[(.ref a0), (.ref a1)] below meth c s₁ [] 0 0 := Stand.of_body Bd
  have e0 : s₁.heap = h0 := by rw [← hh, Bd.state]; rfl
  have N0 := Fr.nil n0
  have ZZ := Z0
  show Go p e below s ({ frames := 0, cells := 0, slots := 0, locals := 0 } : Room).cells ({ frames := 0, cells := 0, slots := 0, locals := 0 } : Room).slots (fun v h L => Q_ca_3 Z a0 a1 as ct k_as x0 x1 x2 k_a1 y0 y1 y2 h0 n0 v h L) s₁ (entryFrame m #[(.ref a0), (.ref a1)] 3)
  refine Go.cast (ef_ca_3 m a0 a1) ?_
  refine Go.gen ?_
  intro K1 K2 QQ hK1 hK2 hQQ
  have KP : Keep h0 h0 [a0, as] := Keep.refl _ _
  refine Go.on (fun _ k => XS.iconst X0.here hx rfl (hb hby d5_0) k) ?_
  show Go _ _ _ _ _ _ _ _ (mkF m 1 #[.val (.ref a0), .val (.ref a1), .unset] [(.int (0 : Int32))])
  refine Go.on (fun _ k => XS.istoreN X0.here hx rfl (hb hby d5_1) rfl (l' := #[.val (.ref a0), .val (.ref a1), .val (.int (0 : Int32))]) rfl k) ?_
  show Go _ _ _ _ _ _ _ _ (mkF m 2 #[.val (.ref a0), .val (.ref a1), .val (.int (0 : Int32))] [])
  refine Go.on (fun _ k => XS.iloadN X0.here hx rfl (hb hby d5_2) rfl k) ?_
  show Go _ _ _ _ _ _ _ _ (mkF m 3 #[.val (.ref a0), .val (.ref a1), .val (.int (0 : Int32))] [(.int (0 : Int32))])
  refine Go.on (fun _ k => XS.aloadN X0.here hx rfl (hb hby d5_3) rfl rfl k) ?_
  show Go _ _ _ _ _ _ _ _ (mkF m 4 #[.val (.ref a0), .val (.ref a1), .val (.int (0 : Int32))] [(.ref a0), (.int (0 : Int32))])
  obtain ⟨T1, X1, e1, st1⟩ := getF X0 hx hZ hown (host := "") (Or.inl (hw _ (List.mem_of_getElem? (i := 18) rfl))) Via.refl e0 F_sum_a0 (g := (mkF m 4 #[.val (.ref a0), .val (.ref a1), .val (.int (0 : Int32))] [(.ref a0), (.int (0 : Int32))])) rfl rfl (hb hby d5_4)
  refine Go.on st1 ?_
  show Go _ _ _ _ _ _ _ _ (mkF m 7 #[.val (.ref a0), .val (.ref a1), .val (.int (0 : Int32))] [(.ref as), (.int (0 : Int32))])
  obtain ⟨cl2, Ar2, -, S2, N2n, -, -⟩ := id V_as
  refine Go.on (X1.arraylength hx (by rw [e1]; exact Ar2.1) (State.isArrayOf_alike hZ.alike Ar2.2.1) (g := (mkF m 7 #[.val (.ref a0), .val (.ref a1), .val (.int (0 : Int32))] [(.ref as), (.int (0 : Int32))])) rfl rfl (hb hby d5_7)) ?_
  rw [len_of S2 N2n]
  show Go _ _ _ _ _ _ _ _ (mkF m 8 #[.val (.ref a0), .val (.ref a1), .val (.int (0 : Int32))] [(.int (3 : Int32)), (.int (0 : Int32))])
  have hc3 : (0 : Int32) < (3 : Int32) := by decide
  refine Go.on (fun _ k => XS.icmpNo X1.here hx rfl (hb hby d5_8) rfl (tlt hc3).2.1 k) ?_
  show Go _ _ _ _ _ _ _ _ (mkF m 11 #[.val (.ref a0), .val (.ref a1), .val (.int (0 : Int32))] [])
  refine Go.on (fun _ k => XS.aloadN X1.here hx rfl (hb hby d5_11) rfl rfl k) ?_
  show Go _ _ _ _ _ _ _ _ (mkF m 12 #[.val (.ref a0), .val (.ref a1), .val (.int (0 : Int32))] [(.ref a0)])
  obtain ⟨T4, X4, e4, st4⟩ := getF X1 hx hZ hown (host := "") (Or.inl (hw _ (List.mem_of_getElem? (i := 18) rfl))) Via.refl e1 F_sum_a0 (g := (mkF m 12 #[.val (.ref a0), .val (.ref a1), .val (.int (0 : Int32))] [(.ref a0)])) rfl rfl (hb hby d5_12)
  refine Go.on st4 ?_
  show Go _ _ _ _ _ _ _ _ (mkF m 15 #[.val (.ref a0), .val (.ref a1), .val (.int (0 : Int32))] [(.ref as)])
  refine Go.on (fun _ k => XS.iloadN X4.here hx rfl (hb hby d5_15) rfl k) ?_
  show Go _ _ _ _ _ _ _ _ (mkF m 16 #[.val (.ref a0), .val (.ref a1), .val (.int (0 : Int32))] [(.int (0 : Int32)), (.ref as)])
  refine Go.on (fun _ k => Jvm.Free.XT.dup2 X4.here hx rfl (hb hby d5_16) rfl rfl rfl k) ?_
  show Go _ _ _ _ _ _ _ _ (mkF m 17 #[.val (.ref a0), .val (.ref a1), .val (.int (0 : Int32))] [(.int (0 : Int32)), (.ref as), (.int (0 : Int32)), (.ref as)])
  obtain ⟨cl5, Ar5, -, S5, -, H5, -⟩ := id V_as
  have hin5 : ¬ ((0 : Int32) < 0 ∨ cl5.slots.size ≤ ((0 : Int32)).toNatClampNeg) := inb_of S5 ⟨by decide, by decide⟩
  refine Go.on (X4.daload hx (j := (0 : Int32)) (v := (.double x0)) (by rw [e4]; exact Ar5.1) (State.isArrayOf_alike hZ.alike Ar5.2.1) Ar5.2.2 hin5 (H5.at hin5 (rfl)) (g := (mkF m 17 #[.val (.ref a0), .val (.ref a1), .val (.int (0 : Int32))] [(.int (0 : Int32)), (.ref as), (.int (0 : Int32)), (.ref as)])) rfl rfl (hb hby d5_17)) ?_
  show Go _ _ _ _ _ _ _ _ (mkF m 18 #[.val (.ref a0), .val (.ref a1), .val (.int (0 : Int32))] [(.double x0), (.int (0 : Int32)), (.ref as)])
  refine Go.on (fun _ k => XS.aloadN X4.here hx rfl (hb hby d5_18) rfl rfl k) ?_
  show Go _ _ _ _ _ _ _ _ (mkF m 19 #[.val (.ref a0), .val (.ref a1), .val (.int (0 : Int32))] [(.ref a1), (.double x0), (.int (0 : Int32)), (.ref as)])
  refine Go.on (fun _ k => XS.iloadN X4.here hx rfl (hb hby d5_19) rfl k) ?_
  show Go _ _ _ _ _ _ _ _ (mkF m 20 #[.val (.ref a0), .val (.ref a1), .val (.int (0 : Int32))] [(.int (0 : Int32)), (.ref a1), (.double x0), (.int (0 : Int32)), (.ref as)])
  obtain ⟨cl6, Ar6, -, S6, -, H6, -⟩ := id V_a1
  have hin6 : ¬ ((0 : Int32) < 0 ∨ cl6.slots.size ≤ ((0 : Int32)).toNatClampNeg) := inb_of S6 ⟨by decide, by decide⟩
  refine Go.on (X4.daload hx (j := (0 : Int32)) (v := (.double y0)) (by rw [e4]; exact Ar6.1) (State.isArrayOf_alike hZ.alike Ar6.2.1) Ar6.2.2 hin6 (H6.at hin6 (rfl)) (g := (mkF m 20 #[.val (.ref a0), .val (.ref a1), .val (.int (0 : Int32))] [(.int (0 : Int32)), (.ref a1), (.double x0), (.int (0 : Int32)), (.ref as)])) rfl rfl (hb hby d5_20)) ?_
  show Go _ _ _ _ _ _ _ _ (mkF m 21 #[.val (.ref a0), .val (.ref a1), .val (.int (0 : Int32))] [(.double y0), (.double x0), (.int (0 : Int32)), (.ref as)])
  refine Go.on (fun _ k => XS.daddS X4.here hx rfl (hb hby d5_21) rfl (hs0) rfl k) ?_
  show Go _ _ _ _ _ _ _ _ (mkF m 22 #[.val (.ref a0), .val (.ref a1), .val (.int (0 : Int32))] [(.double (FP.dadd x0 y0)), (.int (0 : Int32)), (.ref as)])
  obtain ⟨cl7, Ar7, q7, S7, N7n, H7, G7⟩ := id V_as
  have hin7 : ¬ ((0 : Int32) < 0 ∨ cl7.slots.size ≤ ((0 : Int32)).toNatClampNeg) := inb_of S7 ⟨by decide, by decide⟩
  obtain ⟨T7, h7, X7, e7, W7, st7⟩ := stD X4 hx hZ e4 Ar7 (j := (0 : Int32)) hin7 (g := (mkF m 22 #[.val (.ref a0), .val (.ref a1), .val (.int (0 : Int32))] [(.double (FP.dadd x0 y0)), (.int (0 : Int32)), (.ref as)])) rfl rfl (hb hby d5_22)
  replace V_as := Arv.set Ar7 q7 S7 N7n H7 G7 rfl W7 0 rfl (Nat.le_of_ble_eq_true rfl)
  replace E_a0 := E_a0.wr W7
  replace F_sum_a0 := F_sum_a0.other W7 (Or.inl ne_a0_as)
  replace F_count_a0 := F_count_a0.other W7 (Or.inl ne_a0_as)
  replace V_a1 := V_a1.other W7 ne_a1_as
  refine Go.on st7 ?_
  have N7 := Fr.snoc X7 N0 g_as
  replace ZZ := Nat.le_trans ZZ (Keep.of_wr W7).1
  replace KP := KP.wr W7 (Or.inl (List.mem_of_getElem? (i := 1) rfl))
  change Arv Z h7 as k_as .double (3 : Int32) [(.double (FP.dadd x0 y0)), (.double x1), (.double x2)] (.double (0 : UInt64)) at V_as
  show Go _ _ _ _ _ _ _ _ (mkF m 23 #[.val (.ref a0), .val (.ref a1), .val (.int (0 : Int32))] [])
  refine Go.on (fun _ k => XS.iinc X7.here hx rfl (hb hby d5_23) rfl (l' := #[.val (.ref a0), .val (.ref a1), .val (.int (1 : Int32))]) rfl k) ?_
  show Go _ _ _ _ _ _ _ _ (mkF m 26 #[.val (.ref a0), .val (.ref a1), .val (.int (1 : Int32))] [])
  refine Go.on (fun _ k => XS.goto X7.here hx rfl (pc0 := 26) (pc' := 2) rfl (hb hby d5_26) (by decide) (by decide) k) ?_
  show Go _ _ _ _ _ _ _ _ (mkF m 2 #[.val (.ref a0), .val (.ref a1), .val (.int (1 : Int32))] [])
  refine Go.on (fun _ k => XS.iloadN X7.here hx rfl (hb hby d5_2) rfl k) ?_
  show Go _ _ _ _ _ _ _ _ (mkF m 3 #[.val (.ref a0), .val (.ref a1), .val (.int (1 : Int32))] [(.int (1 : Int32))])
  refine Go.on (fun _ k => XS.aloadN X7.here hx rfl (hb hby d5_3) rfl rfl k) ?_
  show Go _ _ _ _ _ _ _ _ (mkF m 4 #[.val (.ref a0), .val (.ref a1), .val (.int (1 : Int32))] [(.ref a0), (.int (1 : Int32))])
  obtain ⟨T8, X8, e8, st8⟩ := getF X7 hx hZ hown (host := "") (Or.inl (hw _ (List.mem_of_getElem? (i := 18) rfl))) Via.refl e7 F_sum_a0 (g := (mkF m 4 #[.val (.ref a0), .val (.ref a1), .val (.int (1 : Int32))] [(.ref a0), (.int (1 : Int32))])) rfl rfl (hb hby d5_4)
  refine Go.on st8 ?_
  show Go _ _ _ _ _ _ _ _ (mkF m 7 #[.val (.ref a0), .val (.ref a1), .val (.int (1 : Int32))] [(.ref as), (.int (1 : Int32))])
  obtain ⟨cl9, Ar9, -, S9, N9n, -, -⟩ := id V_as
  refine Go.on (X8.arraylength hx (by rw [e8]; exact Ar9.1) (State.isArrayOf_alike hZ.alike Ar9.2.1) (g := (mkF m 7 #[.val (.ref a0), .val (.ref a1), .val (.int (1 : Int32))] [(.ref as), (.int (1 : Int32))])) rfl rfl (hb hby d5_7)) ?_
  rw [len_of S9 N9n]
  show Go _ _ _ _ _ _ _ _ (mkF m 8 #[.val (.ref a0), .val (.ref a1), .val (.int (1 : Int32))] [(.int (3 : Int32)), (.int (1 : Int32))])
  have hc10 : (1 : Int32) < (3 : Int32) := by decide
  refine Go.on (fun _ k => XS.icmpNo X8.here hx rfl (hb hby d5_8) rfl (tlt hc10).2.1 k) ?_
  show Go _ _ _ _ _ _ _ _ (mkF m 11 #[.val (.ref a0), .val (.ref a1), .val (.int (1 : Int32))] [])
  refine Go.on (fun _ k => XS.aloadN X8.here hx rfl (hb hby d5_11) rfl rfl k) ?_
  show Go _ _ _ _ _ _ _ _ (mkF m 12 #[.val (.ref a0), .val (.ref a1), .val (.int (1 : Int32))] [(.ref a0)])
  obtain ⟨T11, X11, e11, st11⟩ := getF X8 hx hZ hown (host := "") (Or.inl (hw _ (List.mem_of_getElem? (i := 18) rfl))) Via.refl e8 F_sum_a0 (g := (mkF m 12 #[.val (.ref a0), .val (.ref a1), .val (.int (1 : Int32))] [(.ref a0)])) rfl rfl (hb hby d5_12)
  refine Go.on st11 ?_
  show Go _ _ _ _ _ _ _ _ (mkF m 15 #[.val (.ref a0), .val (.ref a1), .val (.int (1 : Int32))] [(.ref as)])
  refine Go.on (fun _ k => XS.iloadN X11.here hx rfl (hb hby d5_15) rfl k) ?_
  show Go _ _ _ _ _ _ _ _ (mkF m 16 #[.val (.ref a0), .val (.ref a1), .val (.int (1 : Int32))] [(.int (1 : Int32)), (.ref as)])
  refine Go.on (fun _ k => Jvm.Free.XT.dup2 X11.here hx rfl (hb hby d5_16) rfl rfl rfl k) ?_
  show Go _ _ _ _ _ _ _ _ (mkF m 17 #[.val (.ref a0), .val (.ref a1), .val (.int (1 : Int32))] [(.int (1 : Int32)), (.ref as), (.int (1 : Int32)), (.ref as)])
  obtain ⟨cl12, Ar12, -, S12, -, H12, -⟩ := id V_as
  have hin12 : ¬ ((1 : Int32) < 0 ∨ cl12.slots.size ≤ ((1 : Int32)).toNatClampNeg) := inb_of S12 ⟨by decide, by decide⟩
  refine Go.on (X11.daload hx (j := (1 : Int32)) (v := (.double x1)) (by rw [e11]; exact Ar12.1) (State.isArrayOf_alike hZ.alike Ar12.2.1) Ar12.2.2 hin12 (H12.at hin12 (rfl)) (g := (mkF m 17 #[.val (.ref a0), .val (.ref a1), .val (.int (1 : Int32))] [(.int (1 : Int32)), (.ref as), (.int (1 : Int32)), (.ref as)])) rfl rfl (hb hby d5_17)) ?_
  show Go _ _ _ _ _ _ _ _ (mkF m 18 #[.val (.ref a0), .val (.ref a1), .val (.int (1 : Int32))] [(.double x1), (.int (1 : Int32)), (.ref as)])
  refine Go.on (fun _ k => XS.aloadN X11.here hx rfl (hb hby d5_18) rfl rfl k) ?_
  show Go _ _ _ _ _ _ _ _ (mkF m 19 #[.val (.ref a0), .val (.ref a1), .val (.int (1 : Int32))] [(.ref a1), (.double x1), (.int (1 : Int32)), (.ref as)])
  refine Go.on (fun _ k => XS.iloadN X11.here hx rfl (hb hby d5_19) rfl k) ?_
  show Go _ _ _ _ _ _ _ _ (mkF m 20 #[.val (.ref a0), .val (.ref a1), .val (.int (1 : Int32))] [(.int (1 : Int32)), (.ref a1), (.double x1), (.int (1 : Int32)), (.ref as)])
  obtain ⟨cl13, Ar13, -, S13, -, H13, -⟩ := id V_a1
  have hin13 : ¬ ((1 : Int32) < 0 ∨ cl13.slots.size ≤ ((1 : Int32)).toNatClampNeg) := inb_of S13 ⟨by decide, by decide⟩
  refine Go.on (X11.daload hx (j := (1 : Int32)) (v := (.double y1)) (by rw [e11]; exact Ar13.1) (State.isArrayOf_alike hZ.alike Ar13.2.1) Ar13.2.2 hin13 (H13.at hin13 (rfl)) (g := (mkF m 20 #[.val (.ref a0), .val (.ref a1), .val (.int (1 : Int32))] [(.int (1 : Int32)), (.ref a1), (.double x1), (.int (1 : Int32)), (.ref as)])) rfl rfl (hb hby d5_20)) ?_
  show Go _ _ _ _ _ _ _ _ (mkF m 21 #[.val (.ref a0), .val (.ref a1), .val (.int (1 : Int32))] [(.double y1), (.double x1), (.int (1 : Int32)), (.ref as)])
  refine Go.on (fun _ k => XS.daddS X11.here hx rfl (hb hby d5_21) rfl (hs1) rfl k) ?_
  show Go _ _ _ _ _ _ _ _ (mkF m 22 #[.val (.ref a0), .val (.ref a1), .val (.int (1 : Int32))] [(.double (FP.dadd x1 y1)), (.int (1 : Int32)), (.ref as)])
  obtain ⟨cl14, Ar14, q14, S14, N14n, H14, G14⟩ := id V_as
  have hin14 : ¬ ((1 : Int32) < 0 ∨ cl14.slots.size ≤ ((1 : Int32)).toNatClampNeg) := inb_of S14 ⟨by decide, by decide⟩
  obtain ⟨T14, h14, X14, e14, W14, st14⟩ := stD X11 hx hZ e11 Ar14 (j := (1 : Int32)) hin14 (g := (mkF m 22 #[.val (.ref a0), .val (.ref a1), .val (.int (1 : Int32))] [(.double (FP.dadd x1 y1)), (.int (1 : Int32)), (.ref as)])) rfl rfl (hb hby d5_22)
  replace V_as := Arv.set Ar14 q14 S14 N14n H14 G14 rfl W14 1 rfl (Nat.le_of_ble_eq_true rfl)
  replace E_a0 := E_a0.wr W14
  replace F_sum_a0 := F_sum_a0.other W14 (Or.inl ne_a0_as)
  replace F_count_a0 := F_count_a0.other W14 (Or.inl ne_a0_as)
  replace V_a1 := V_a1.other W14 ne_a1_as
  refine Go.on st14 ?_
  have N14 := Fr.snoc X14 N7 g_as
  replace ZZ := Nat.le_trans ZZ (Keep.of_wr W14).1
  replace KP := KP.wr W14 (Or.inl (List.mem_of_getElem? (i := 1) rfl))
  change Arv Z h14 as k_as .double (3 : Int32) [(.double (FP.dadd x0 y0)), (.double (FP.dadd x1 y1)), (.double x2)] (.double (0 : UInt64)) at V_as
  show Go _ _ _ _ _ _ _ _ (mkF m 23 #[.val (.ref a0), .val (.ref a1), .val (.int (1 : Int32))] [])
  refine Go.on (fun _ k => XS.iinc X14.here hx rfl (hb hby d5_23) rfl (l' := #[.val (.ref a0), .val (.ref a1), .val (.int (2 : Int32))]) rfl k) ?_
  show Go _ _ _ _ _ _ _ _ (mkF m 26 #[.val (.ref a0), .val (.ref a1), .val (.int (2 : Int32))] [])
  refine Go.on (fun _ k => XS.goto X14.here hx rfl (pc0 := 26) (pc' := 2) rfl (hb hby d5_26) (by decide) (by decide) k) ?_
  show Go _ _ _ _ _ _ _ _ (mkF m 2 #[.val (.ref a0), .val (.ref a1), .val (.int (2 : Int32))] [])
  refine Go.on (fun _ k => XS.iloadN X14.here hx rfl (hb hby d5_2) rfl k) ?_
  show Go _ _ _ _ _ _ _ _ (mkF m 3 #[.val (.ref a0), .val (.ref a1), .val (.int (2 : Int32))] [(.int (2 : Int32))])
  refine Go.on (fun _ k => XS.aloadN X14.here hx rfl (hb hby d5_3) rfl rfl k) ?_
  show Go _ _ _ _ _ _ _ _ (mkF m 4 #[.val (.ref a0), .val (.ref a1), .val (.int (2 : Int32))] [(.ref a0), (.int (2 : Int32))])
  obtain ⟨T15, X15, e15, st15⟩ := getF X14 hx hZ hown (host := "") (Or.inl (hw _ (List.mem_of_getElem? (i := 18) rfl))) Via.refl e14 F_sum_a0 (g := (mkF m 4 #[.val (.ref a0), .val (.ref a1), .val (.int (2 : Int32))] [(.ref a0), (.int (2 : Int32))])) rfl rfl (hb hby d5_4)
  refine Go.on st15 ?_
  show Go _ _ _ _ _ _ _ _ (mkF m 7 #[.val (.ref a0), .val (.ref a1), .val (.int (2 : Int32))] [(.ref as), (.int (2 : Int32))])
  obtain ⟨cl16, Ar16, -, S16, N16n, -, -⟩ := id V_as
  refine Go.on (X15.arraylength hx (by rw [e15]; exact Ar16.1) (State.isArrayOf_alike hZ.alike Ar16.2.1) (g := (mkF m 7 #[.val (.ref a0), .val (.ref a1), .val (.int (2 : Int32))] [(.ref as), (.int (2 : Int32))])) rfl rfl (hb hby d5_7)) ?_
  rw [len_of S16 N16n]
  show Go _ _ _ _ _ _ _ _ (mkF m 8 #[.val (.ref a0), .val (.ref a1), .val (.int (2 : Int32))] [(.int (3 : Int32)), (.int (2 : Int32))])
  have hc17 : (2 : Int32) < (3 : Int32) := by decide
  refine Go.on (fun _ k => XS.icmpNo X15.here hx rfl (hb hby d5_8) rfl (tlt hc17).2.1 k) ?_
  show Go _ _ _ _ _ _ _ _ (mkF m 11 #[.val (.ref a0), .val (.ref a1), .val (.int (2 : Int32))] [])
  refine Go.on (fun _ k => XS.aloadN X15.here hx rfl (hb hby d5_11) rfl rfl k) ?_
  show Go _ _ _ _ _ _ _ _ (mkF m 12 #[.val (.ref a0), .val (.ref a1), .val (.int (2 : Int32))] [(.ref a0)])
  obtain ⟨T18, X18, e18, st18⟩ := getF X15 hx hZ hown (host := "") (Or.inl (hw _ (List.mem_of_getElem? (i := 18) rfl))) Via.refl e15 F_sum_a0 (g := (mkF m 12 #[.val (.ref a0), .val (.ref a1), .val (.int (2 : Int32))] [(.ref a0)])) rfl rfl (hb hby d5_12)
  refine Go.on st18 ?_
  show Go _ _ _ _ _ _ _ _ (mkF m 15 #[.val (.ref a0), .val (.ref a1), .val (.int (2 : Int32))] [(.ref as)])
  refine Go.on (fun _ k => XS.iloadN X18.here hx rfl (hb hby d5_15) rfl k) ?_
  show Go _ _ _ _ _ _ _ _ (mkF m 16 #[.val (.ref a0), .val (.ref a1), .val (.int (2 : Int32))] [(.int (2 : Int32)), (.ref as)])
  refine Go.on (fun _ k => Jvm.Free.XT.dup2 X18.here hx rfl (hb hby d5_16) rfl rfl rfl k) ?_
  show Go _ _ _ _ _ _ _ _ (mkF m 17 #[.val (.ref a0), .val (.ref a1), .val (.int (2 : Int32))] [(.int (2 : Int32)), (.ref as), (.int (2 : Int32)), (.ref as)])
  obtain ⟨cl19, Ar19, -, S19, -, H19, -⟩ := id V_as
  have hin19 : ¬ ((2 : Int32) < 0 ∨ cl19.slots.size ≤ ((2 : Int32)).toNatClampNeg) := inb_of S19 ⟨by decide, by decide⟩
  refine Go.on (X18.daload hx (j := (2 : Int32)) (v := (.double x2)) (by rw [e18]; exact Ar19.1) (State.isArrayOf_alike hZ.alike Ar19.2.1) Ar19.2.2 hin19 (H19.at hin19 (rfl)) (g := (mkF m 17 #[.val (.ref a0), .val (.ref a1), .val (.int (2 : Int32))] [(.int (2 : Int32)), (.ref as), (.int (2 : Int32)), (.ref as)])) rfl rfl (hb hby d5_17)) ?_
  show Go _ _ _ _ _ _ _ _ (mkF m 18 #[.val (.ref a0), .val (.ref a1), .val (.int (2 : Int32))] [(.double x2), (.int (2 : Int32)), (.ref as)])
  refine Go.on (fun _ k => XS.aloadN X18.here hx rfl (hb hby d5_18) rfl rfl k) ?_
  show Go _ _ _ _ _ _ _ _ (mkF m 19 #[.val (.ref a0), .val (.ref a1), .val (.int (2 : Int32))] [(.ref a1), (.double x2), (.int (2 : Int32)), (.ref as)])
  refine Go.on (fun _ k => XS.iloadN X18.here hx rfl (hb hby d5_19) rfl k) ?_
  show Go _ _ _ _ _ _ _ _ (mkF m 20 #[.val (.ref a0), .val (.ref a1), .val (.int (2 : Int32))] [(.int (2 : Int32)), (.ref a1), (.double x2), (.int (2 : Int32)), (.ref as)])
  obtain ⟨cl20, Ar20, -, S20, -, H20, -⟩ := id V_a1
  have hin20 : ¬ ((2 : Int32) < 0 ∨ cl20.slots.size ≤ ((2 : Int32)).toNatClampNeg) := inb_of S20 ⟨by decide, by decide⟩
  refine Go.on (X18.daload hx (j := (2 : Int32)) (v := (.double y2)) (by rw [e18]; exact Ar20.1) (State.isArrayOf_alike hZ.alike Ar20.2.1) Ar20.2.2 hin20 (H20.at hin20 (rfl)) (g := (mkF m 20 #[.val (.ref a0), .val (.ref a1), .val (.int (2 : Int32))] [(.int (2 : Int32)), (.ref a1), (.double x2), (.int (2 : Int32)), (.ref as)])) rfl rfl (hb hby d5_20)) ?_
  show Go _ _ _ _ _ _ _ _ (mkF m 21 #[.val (.ref a0), .val (.ref a1), .val (.int (2 : Int32))] [(.double y2), (.double x2), (.int (2 : Int32)), (.ref as)])
  refine Go.on (fun _ k => XS.daddS X18.here hx rfl (hb hby d5_21) rfl (hs2) rfl k) ?_
  show Go _ _ _ _ _ _ _ _ (mkF m 22 #[.val (.ref a0), .val (.ref a1), .val (.int (2 : Int32))] [(.double (FP.dadd x2 y2)), (.int (2 : Int32)), (.ref as)])
  obtain ⟨cl21, Ar21, q21, S21, N21n, H21, G21⟩ := id V_as
  have hin21 : ¬ ((2 : Int32) < 0 ∨ cl21.slots.size ≤ ((2 : Int32)).toNatClampNeg) := inb_of S21 ⟨by decide, by decide⟩
  obtain ⟨T21, h21, X21, e21, W21, st21⟩ := stD X18 hx hZ e18 Ar21 (j := (2 : Int32)) hin21 (g := (mkF m 22 #[.val (.ref a0), .val (.ref a1), .val (.int (2 : Int32))] [(.double (FP.dadd x2 y2)), (.int (2 : Int32)), (.ref as)])) rfl rfl (hb hby d5_22)
  replace V_as := Arv.set Ar21 q21 S21 N21n H21 G21 rfl W21 2 rfl (Nat.le_of_ble_eq_true rfl)
  replace E_a0 := E_a0.wr W21
  replace F_sum_a0 := F_sum_a0.other W21 (Or.inl ne_a0_as)
  replace F_count_a0 := F_count_a0.other W21 (Or.inl ne_a0_as)
  replace V_a1 := V_a1.other W21 ne_a1_as
  refine Go.on st21 ?_
  have N21 := Fr.snoc X21 N14 g_as
  replace ZZ := Nat.le_trans ZZ (Keep.of_wr W21).1
  replace KP := KP.wr W21 (Or.inl (List.mem_of_getElem? (i := 1) rfl))
  change Arv Z h21 as k_as .double (3 : Int32) [(.double (FP.dadd x0 y0)), (.double (FP.dadd x1 y1)), (.double (FP.dadd x2 y2))] (.double (0 : UInt64)) at V_as
  show Go _ _ _ _ _ _ _ _ (mkF m 23 #[.val (.ref a0), .val (.ref a1), .val (.int (2 : Int32))] [])
  refine Go.on (fun _ k => XS.iinc X21.here hx rfl (hb hby d5_23) rfl (l' := #[.val (.ref a0), .val (.ref a1), .val (.int (3 : Int32))]) rfl k) ?_
  show Go _ _ _ _ _ _ _ _ (mkF m 26 #[.val (.ref a0), .val (.ref a1), .val (.int (3 : Int32))] [])
  refine Go.on (fun _ k => XS.goto X21.here hx rfl (pc0 := 26) (pc' := 2) rfl (hb hby d5_26) (by decide) (by decide) k) ?_
  show Go _ _ _ _ _ _ _ _ (mkF m 2 #[.val (.ref a0), .val (.ref a1), .val (.int (3 : Int32))] [])
  refine Go.on (fun _ k => XS.iloadN X21.here hx rfl (hb hby d5_2) rfl k) ?_
  show Go _ _ _ _ _ _ _ _ (mkF m 3 #[.val (.ref a0), .val (.ref a1), .val (.int (3 : Int32))] [(.int (3 : Int32))])
  refine Go.on (fun _ k => XS.aloadN X21.here hx rfl (hb hby d5_3) rfl rfl k) ?_
  show Go _ _ _ _ _ _ _ _ (mkF m 4 #[.val (.ref a0), .val (.ref a1), .val (.int (3 : Int32))] [(.ref a0), (.int (3 : Int32))])
  obtain ⟨T22, X22, e22, st22⟩ := getF X21 hx hZ hown (host := "") (Or.inl (hw _ (List.mem_of_getElem? (i := 18) rfl))) Via.refl e21 F_sum_a0 (g := (mkF m 4 #[.val (.ref a0), .val (.ref a1), .val (.int (3 : Int32))] [(.ref a0), (.int (3 : Int32))])) rfl rfl (hb hby d5_4)
  refine Go.on st22 ?_
  show Go _ _ _ _ _ _ _ _ (mkF m 7 #[.val (.ref a0), .val (.ref a1), .val (.int (3 : Int32))] [(.ref as), (.int (3 : Int32))])
  obtain ⟨cl23, Ar23, -, S23, N23n, -, -⟩ := id V_as
  refine Go.on (X22.arraylength hx (by rw [e22]; exact Ar23.1) (State.isArrayOf_alike hZ.alike Ar23.2.1) (g := (mkF m 7 #[.val (.ref a0), .val (.ref a1), .val (.int (3 : Int32))] [(.ref as), (.int (3 : Int32))])) rfl rfl (hb hby d5_7)) ?_
  rw [len_of S23 N23n]
  show Go _ _ _ _ _ _ _ _ (mkF m 8 #[.val (.ref a0), .val (.ref a1), .val (.int (3 : Int32))] [(.int (3 : Int32)), (.int (3 : Int32))])
  have hc24 : ¬ ((3 : Int32) < (3 : Int32)) := by decide
  refine Go.on (fun _ k => XS.icmpYes X22.here hx rfl (pc0 := 8) (pc' := 29) rfl (hb hby d5_8) rfl (flt hc24).2.1 (by decide) (by decide) k) ?_
  show Go _ _ _ _ _ _ _ _ (mkF m 29 #[.val (.ref a0), .val (.ref a1), .val (.int (3 : Int32))] [])
  refine Go.on (fun _ k => XS.aloadN X22.here hx rfl (hb hby d5_29) rfl rfl k) ?_
  show Go _ _ _ _ _ _ _ _ (mkF m 30 #[.val (.ref a0), .val (.ref a1), .val (.int (3 : Int32))] [(.ref a0)])
  refine Go.on (fun _ k => XS.dup X22.here hx rfl (hb hby d5_30) rfl rfl k) ?_
  show Go _ _ _ _ _ _ _ _ (mkF m 31 #[.val (.ref a0), .val (.ref a1), .val (.int (3 : Int32))] [(.ref a0), (.ref a0)])
  obtain ⟨T25, X25, e25, st25⟩ := getF X22 hx hZ hown (host := "") (Or.inl (hw _ (List.mem_of_getElem? (i := 25) rfl))) Via.refl e22 F_count_a0 (g := (mkF m 31 #[.val (.ref a0), .val (.ref a1), .val (.int (3 : Int32))] [(.ref a0), (.ref a0)])) rfl rfl (hb hby d5_31)
  refine Go.on st25 ?_
  show Go _ _ _ _ _ _ _ _ (mkF m 34 #[.val (.ref a0), .val (.ref a1), .val (.int (3 : Int32))] [(.int ct), (.ref a0)])
  refine Go.on (fun _ k => XS.iconst X25.here hx rfl (hb hby d5_34) k) ?_
  show Go _ _ _ _ _ _ _ _ (mkF m 35 #[.val (.ref a0), .val (.ref a1), .val (.int (3 : Int32))] [(.int (1 : Int32)), (.int ct), (.ref a0)])
  refine Go.on (fun _ k => XS.iadd X25.here hx rfl (hb hby d5_35) rfl k) ?_
  show Go _ _ _ _ _ _ _ _ (mkF m 36 #[.val (.ref a0), .val (.ref a1), .val (.int (3 : Int32))] [(.int (ct + (1 : Int32))), (.ref a0)])
  obtain ⟨T26, h26, X26, e26, W26, st26⟩ := putF X25 hx hZ hown (host := "") (Or.inl (hw _ (List.mem_of_getElem? (i := 25) rfl))) Via.refl e25 F_count_a0 E_a0 (Or.inl (hw _ (List.mem_of_getElem? (i := 26) rfl))) (hw _ (List.mem_of_getElem? (i := 10) rfl)) (ty := .int) (by decide) rfl rfl (g := (mkF m 36 #[.val (.ref a0), .val (.ref a1), .val (.int (3 : Int32))] [(.int (ct + (1 : Int32))), (.ref a0)])) rfl rfl (hb hby d5_36)
  refine Go.on st26 ?_
  replace F_count_a0 := F_count_a0.same W26
  replace E_a0 := E_a0.wr W26
  replace F_sum_a0 := F_sum_a0.other W26 (Or.inr (slot_ne (Or.inr (hw _ (List.mem_of_getElem? (i := 19) rfl))) (Or.inl (hw _ (List.mem_of_getElem? (i := 26) rfl))) (by decide) (t := (.array .double)) (t' := .int) (by decide) (by decide)))
  replace V_as := V_as.other W26 (Ne.symm ne_a0_as)
  replace V_a1 := V_a1.other W26 ne_a1_a0
  have N26 := Fr.snoc X26 N21 g_a0
  replace ZZ := Nat.le_trans ZZ (Keep.of_wr W26).1
  replace KP := KP.wr W26 (Or.inl (List.mem_of_getElem? (i := 0) rfl))
  show Go _ _ _ _ _ _ _ _ (mkF m 39 #[.val (.ref a0), .val (.ref a1), .val (.int (3 : Int32))] [])
  refine Go.ret0 X26 hx Bd.returns (hb hby d5_39) ?_ (by rw [hK1]; decide) (by rw [hK2]; decide)
  rw [e26, ← hQQ]
  exact ⟨rfl, N26, KP, E_a0, F_sum_a0, F_count_a0, V_as⟩
theorem d6_0 : decode prog_44_method_4_code 0 = .ok (.aload_n 0, 1) := by decide +kernel
theorem d6_1 : decode prog_44_method_4_code 1 = .ok (.getfield 7, 3) := by decide +kernel
theorem d6_4 : decode prog_44_method_4_code 4 = .ok (.arraylength, 1) := by decide +kernel
theorem d6_5 : decode prog_44_method_4_code 5 = .ok (.newarray .double, 2) := by decide +kernel
theorem d6_7 : decode prog_44_method_4_code 7 = .ok (.astore_n 1, 1) := by decide +kernel
theorem d6_8 : decode prog_44_method_4_code 8 = .ok (.iconst 0, 1) := by decide +kernel
theorem d6_9 : decode prog_44_method_4_code 9 = .ok (.istore_n 2, 1) := by decide +kernel
theorem d6_10 : decode prog_44_method_4_code 10 = .ok (.iload_n 2, 1) := by decide +kernel
theorem d6_11 : decode prog_44_method_4_code 11 = .ok (.aload_n 0, 1) := by decide +kernel
theorem d6_12 : decode prog_44_method_4_code 12 = .ok (.getfield 7, 3) := by decide +kernel
theorem d6_15 : decode prog_44_method_4_code 15 = .ok (.arraylength, 1) := by decide +kernel
theorem d6_16 : decode prog_44_method_4_code 16 = .ok (.if_icmp .ge 24, 3) := by decide +kernel
theorem d6_19 : decode prog_44_method_4_code 19 = .ok (.aload_n 1, 1) := by decide +kernel
theorem d6_20 : decode prog_44_method_4_code 20 = .ok (.iload_n 2, 1) := by decide +kernel
theorem d6_21 : decode prog_44_method_4_code 21 = .ok (.aload_n 0, 1) := by decide +kernel
theorem d6_22 : decode prog_44_method_4_code 22 = .ok (.getfield 7, 3) := by decide +kernel
theorem d6_25 : decode prog_44_method_4_code 25 = .ok (.iload_n 2, 1) := by decide +kernel
theorem d6_26 : decode prog_44_method_4_code 26 = .ok (.daload, 1) := by decide +kernel
theorem d6_27 : decode prog_44_method_4_code 27 = .ok (.aload_n 0, 1) := by decide +kernel
theorem d6_28 : decode prog_44_method_4_code 28 = .ok (.getfield 13, 3) := by decide +kernel
theorem d6_31 : decode prog_44_method_4_code 31 = .ok (.i2d, 1) := by decide +kernel
theorem d6_32 : decode prog_44_method_4_code 32 = .ok (.ddiv, 1) := by decide +kernel
theorem d6_33 : decode prog_44_method_4_code 33 = .ok (.dastore, 1) := by decide +kernel
theorem d6_34 : decode prog_44_method_4_code 34 = .ok (.iinc 2 1, 3) := by decide +kernel
theorem d6_37 : decode prog_44_method_4_code 37 = .ok (.goto (-27), 3) := by decide +kernel
theorem d6_40 : decode prog_44_method_4_code 40 = .ok (.aload_n 1, 1) := by decide +kernel
theorem d6_41 : decode prog_44_method_4_code 41 = .ok (.areturn, 1) := by decide +kernel
theorem ef_cm_3 (m : MethodId) (a0 : Addr) : entryFrame m #[(.ref a0)] 3 = mkF m 0 #[.val (.ref a0), .unset, .unset] [] := by first | (simp [entryFrame, mkF, argsToLocals, Value.category]; done) | rfl
def Q_cm_3 (Z : State) (a0 : Addr) (as : Addr) (ct : Int32) (k_as : ClassId) (x0 : UInt64) (x1 : UInt64) (x2 : UInt64) (h0 : Heap) (n0 : Nat) (v : Option Value) (h : Heap) (L : List Loc) : Prop := ∃ (ar : Addr) (k_ar : ClassId), v = some (.ref ar) ∧ Fr n0 L ∧ Keep h0 h [] ∧ h0.size ≤ ar ∧ Arv Z h ar k_ar .double (3 : Int32) [(.double (FP.ddiv x0 (FP.i2d ct))), (.double (FP.ddiv x1 (FP.i2d ct))), (.double (FP.ddiv x2 (FP.i2d ct)))] (.double (0 : UInt64))
set_option maxRecDepth 65536 in
set_option maxHeartbeats 40000000 in
theorem cm_3 (l : Launch) (Z : State) (aw : Array Value) (hw : ∀ d ∈ tables_1, d.before aw Z = true) (ws : List Jvm.Cond) (a0 : Addr) (as : Addr) (ct : Int32) (k_as : ClassId) (x0 : UInt64) (x1 : UInt64) (x2 : UInt64) (h0 : Heap) (n0 : Nat) (Z0 : n0 ≤ h0.size) (F_sum_a0 : Fld Z h0 a0 "com/example/d2rank/d2rank/rerank/Centroid" "sum" "[D" (.ref as)) (F_count_a0 : Fld Z h0 a0 "com/example/d2rank/d2rank/rerank/Centroid" "count" "I" (.int ct)) (V_as : Arv Z h0 as k_as .double (3 : Int32) [(.double x0), (.double x1), (.double x2)] (.double (0 : UInt64))) (hd0 : Jvm.Free.Fl.NoNaN64 (FP.ddiv x0 (FP.i2d ct))) (hd1 : Jvm.Free.Fl.NoNaN64 (FP.ddiv x1 (FP.i2d ct))) (hd2 : Jvm.Free.Fl.NoNaN64 (FP.ddiv x2 (FP.i2d ct))) :
    MetFree l (⟨"com/example/d2rank/d2rank/rerank/Centroid", "mean", "()[D"⟩ : MethodName) (head1 (Jvm.Cond.code (⟨"com/example/d2rank/d2rank/rerank/Centroid", "mean", "()[D"⟩ : MethodName) prog_44_method_4_code 3 (some (.array .double)) :: ws) ({ frames := 0, cells := 1, slots := 3, locals := 0 } : Room)) (fun a U => a = #[(.ref a0)] ∧ Z.Warmed39 U.vm ∧ U.heap = h0) (fun _ _ _ _ _ => True) (fun _ U o U' => ∃ v L, o = .returned v ∧ Q_cm_3 Z a0 as ct k_as x0 x1 x2 h0 n0 v U'.heap L ∧ FrameEnd U o U' L ({ frames := 0, cells := 1, slots := 3, locals := 0 } : Room).cells ({ frames := 0, cells := 1, slots := 3, locals := 0 } : Room).slots) := by
  refine MetFree.of_bodySF (plainFor_of_name pn_1) hisR ?_
  intro p e s m args below meth c s₁ Bd hml0 hP hK
  obtain ⟨rfl, hZ, hh⟩ := hP
  have hx := Bd.exec
  have hby := Bd.bytes
  have hml : c.maxLocals = 3 := hml0
  have hown : s.vm.findClass "com/example/d2rank/d2rank/rerank/Centroid" = some m.cls := findClass_of_methodNamed Bd.named
  have hnm := (name_of_methodNamed Bd.named Bd.method).1
  have hlk : meth.locks = false := BodyLoose.notSynchronized Bd
  have X0 : Stand p l e ({ frames := 0, cells := 1, slots := 3, locals := 0 } : Room) s m #[(.ref a0)] below meth c s₁ [] 0 0 := Stand.of_body Bd
  have e0 : s₁.heap = h0 := by rw [← hh, Bd.state]; rfl
  have N0 := Fr.nil n0
  have ZZ := Z0
  show Go p e below s ({ frames := 0, cells := 1, slots := 3, locals := 0 } : Room).cells ({ frames := 0, cells := 1, slots := 3, locals := 0 } : Room).slots (fun v h L => Q_cm_3 Z a0 as ct k_as x0 x1 x2 h0 n0 v h L) s₁ (entryFrame m #[(.ref a0)] 3)
  refine Go.cast (ef_cm_3 m a0) ?_
  refine Go.gen ?_
  intro K1 K2 QQ hK1 hK2 hQQ
  have KP : Keep h0 h0 [] := Keep.refl _ _
  refine Go.on (fun _ k => XS.aloadN X0.here hx rfl (hb hby d6_0) rfl rfl k) ?_
  show Go _ _ _ _ _ _ _ _ (mkF m 1 #[.val (.ref a0), .unset, .unset] [(.ref a0)])
  obtain ⟨T1, X1, e1, st1⟩ := getF X0 hx hZ hown (host := "") (Or.inl (hw _ (List.mem_of_getElem? (i := 18) rfl))) Via.refl e0 F_sum_a0 (g := (mkF m 1 #[.val (.ref a0), .unset, .unset] [(.ref a0)])) rfl rfl (hb hby d6_1)
  refine Go.on st1 ?_
  show Go _ _ _ _ _ _ _ _ (mkF m 4 #[.val (.ref a0), .unset, .unset] [(.ref as)])
  obtain ⟨cl2, Ar2, -, S2, N2n, -, -⟩ := id V_as
  refine Go.on (X1.arraylength hx (by rw [e1]; exact Ar2.1) (State.isArrayOf_alike hZ.alike Ar2.2.1) (g := (mkF m 4 #[.val (.ref a0), .unset, .unset] [(.ref as)])) rfl rfl (hb hby d6_4)) ?_
  rw [len_of S2 N2n]
  show Go _ _ _ _ _ _ _ _ (mkF m 5 #[.val (.ref a0), .unset, .unset] [(.int (3 : Int32))])
  obtain ⟨T3, h3, k_ar, X3, e3, E3, A3, st3⟩ := newP X1 hx hZ (hw _ (List.mem_of_getElem? (i := 5) rfl)) e1 (g := (mkF m 5 #[.val (.ref a0), .unset, .unset] [(.int (3 : Int32))])) rfl (hb hby d6_5) rfl (by decide) (cap := 3) (by decide) (by decide) (by decide) (by decide)
  obtain ⟨ar, g3⟩ : ∃ z, z = h0.size := ⟨_, rfl⟩
  have ne_a0_ar : a0 ≠ ar := Nat.ne_of_lt (Nat.lt_of_lt_of_le F_sum_a0.lt (Nat.le_of_eq g3.symm))
  have ne_as_ar : as ≠ ar := Nat.ne_of_lt (Nat.lt_of_lt_of_le V_as.lt (Nat.le_of_eq g3.symm))
  have g_ar : n0 ≤ ar := Nat.le_trans ZZ (Nat.le_of_eq g3.symm)
  have sz_ar : h0.size ≤ ar := Nat.le_trans KP.1 (Nat.le_of_eq g3.symm)
  rw [← g3] at A3 st3
  replace F_sum_a0 := F_sum_a0.ext E3
  replace F_count_a0 := F_count_a0.ext E3
  replace V_as := V_as.ext E3
  replace ZZ := Nat.le_trans ZZ E3.1
  replace KP := KP.ext E3
  have V_ar : Arv Z h3 ar k_ar .double (3 : Int32) [(.double (0 : UInt64)), (.double (0 : UInt64)), (.double (0 : UInt64))] (.double (0 : UInt64)) := (Arv.new A3 (by decide)).pad (pad_rep [] (.double (0 : UInt64)) 3)
  refine Go.on st3 ?_
  show Go _ _ _ _ _ _ _ _ (mkF m 7 #[.val (.ref a0), .unset, .unset] [(.ref ar)])
  refine Go.on (fun _ k => XS.astoreN X3.here hx rfl (hb hby d6_7) rfl rfl (l' := #[.val (.ref a0), .val (.ref ar), .unset]) rfl k) ?_
  show Go _ _ _ _ _ _ _ _ (mkF m 8 #[.val (.ref a0), .val (.ref ar), .unset] [])
  refine Go.on (fun _ k => XS.iconst X3.here hx rfl (hb hby d6_8) k) ?_
  show Go _ _ _ _ _ _ _ _ (mkF m 9 #[.val (.ref a0), .val (.ref ar), .unset] [(.int (0 : Int32))])
  refine Go.on (fun _ k => XS.istoreN X3.here hx rfl (hb hby d6_9) rfl (l' := #[.val (.ref a0), .val (.ref ar), .val (.int (0 : Int32))]) rfl k) ?_
  show Go _ _ _ _ _ _ _ _ (mkF m 10 #[.val (.ref a0), .val (.ref ar), .val (.int (0 : Int32))] [])
  refine Go.on (fun _ k => XS.iloadN X3.here hx rfl (hb hby d6_10) rfl k) ?_
  show Go _ _ _ _ _ _ _ _ (mkF m 11 #[.val (.ref a0), .val (.ref ar), .val (.int (0 : Int32))] [(.int (0 : Int32))])
  refine Go.on (fun _ k => XS.aloadN X3.here hx rfl (hb hby d6_11) rfl rfl k) ?_
  show Go _ _ _ _ _ _ _ _ (mkF m 12 #[.val (.ref a0), .val (.ref ar), .val (.int (0 : Int32))] [(.ref a0), (.int (0 : Int32))])
  obtain ⟨T4, X4, e4, st4⟩ := getF X3 hx hZ hown (host := "") (Or.inl (hw _ (List.mem_of_getElem? (i := 18) rfl))) Via.refl e3 F_sum_a0 (g := (mkF m 12 #[.val (.ref a0), .val (.ref ar), .val (.int (0 : Int32))] [(.ref a0), (.int (0 : Int32))])) rfl rfl (hb hby d6_12)
  refine Go.on st4 ?_
  show Go _ _ _ _ _ _ _ _ (mkF m 15 #[.val (.ref a0), .val (.ref ar), .val (.int (0 : Int32))] [(.ref as), (.int (0 : Int32))])
  obtain ⟨cl5, Ar5, -, S5, N5n, -, -⟩ := id V_as
  refine Go.on (X4.arraylength hx (by rw [e4]; exact Ar5.1) (State.isArrayOf_alike hZ.alike Ar5.2.1) (g := (mkF m 15 #[.val (.ref a0), .val (.ref ar), .val (.int (0 : Int32))] [(.ref as), (.int (0 : Int32))])) rfl rfl (hb hby d6_15)) ?_
  rw [len_of S5 N5n]
  show Go _ _ _ _ _ _ _ _ (mkF m 16 #[.val (.ref a0), .val (.ref ar), .val (.int (0 : Int32))] [(.int (3 : Int32)), (.int (0 : Int32))])
  have hc6 : (0 : Int32) < (3 : Int32) := by decide
  refine Go.on (fun _ k => XS.icmpNo X4.here hx rfl (hb hby d6_16) rfl (tlt hc6).2.1 k) ?_
  show Go _ _ _ _ _ _ _ _ (mkF m 19 #[.val (.ref a0), .val (.ref ar), .val (.int (0 : Int32))] [])
  refine Go.on (fun _ k => XS.aloadN X4.here hx rfl (hb hby d6_19) rfl rfl k) ?_
  show Go _ _ _ _ _ _ _ _ (mkF m 20 #[.val (.ref a0), .val (.ref ar), .val (.int (0 : Int32))] [(.ref ar)])
  refine Go.on (fun _ k => XS.iloadN X4.here hx rfl (hb hby d6_20) rfl k) ?_
  show Go _ _ _ _ _ _ _ _ (mkF m 21 #[.val (.ref a0), .val (.ref ar), .val (.int (0 : Int32))] [(.int (0 : Int32)), (.ref ar)])
  refine Go.on (fun _ k => XS.aloadN X4.here hx rfl (hb hby d6_21) rfl rfl k) ?_
  show Go _ _ _ _ _ _ _ _ (mkF m 22 #[.val (.ref a0), .val (.ref ar), .val (.int (0 : Int32))] [(.ref a0), (.int (0 : Int32)), (.ref ar)])
  obtain ⟨T7, X7, e7, st7⟩ := getF X4 hx hZ hown (host := "") (Or.inl (hw _ (List.mem_of_getElem? (i := 18) rfl))) Via.refl e4 F_sum_a0 (g := (mkF m 22 #[.val (.ref a0), .val (.ref ar), .val (.int (0 : Int32))] [(.ref a0), (.int (0 : Int32)), (.ref ar)])) rfl rfl (hb hby d6_22)
  refine Go.on st7 ?_
  show Go _ _ _ _ _ _ _ _ (mkF m 25 #[.val (.ref a0), .val (.ref ar), .val (.int (0 : Int32))] [(.ref as), (.int (0 : Int32)), (.ref ar)])
  refine Go.on (fun _ k => XS.iloadN X7.here hx rfl (hb hby d6_25) rfl k) ?_
  show Go _ _ _ _ _ _ _ _ (mkF m 26 #[.val (.ref a0), .val (.ref ar), .val (.int (0 : Int32))] [(.int (0 : Int32)), (.ref as), (.int (0 : Int32)), (.ref ar)])
  obtain ⟨cl8, Ar8, -, S8, -, H8, -⟩ := id V_as
  have hin8 : ¬ ((0 : Int32) < 0 ∨ cl8.slots.size ≤ ((0 : Int32)).toNatClampNeg) := inb_of S8 ⟨by decide, by decide⟩
  refine Go.on (X7.daload hx (j := (0 : Int32)) (v := (.double x0)) (by rw [e7]; exact Ar8.1) (State.isArrayOf_alike hZ.alike Ar8.2.1) Ar8.2.2 hin8 (H8.at hin8 (rfl)) (g := (mkF m 26 #[.val (.ref a0), .val (.ref ar), .val (.int (0 : Int32))] [(.int (0 : Int32)), (.ref as), (.int (0 : Int32)), (.ref ar)])) rfl rfl (hb hby d6_26)) ?_
  show Go _ _ _ _ _ _ _ _ (mkF m 27 #[.val (.ref a0), .val (.ref ar), .val (.int (0 : Int32))] [(.double x0), (.int (0 : Int32)), (.ref ar)])
  refine Go.on (fun _ k => XS.aloadN X7.here hx rfl (hb hby d6_27) rfl rfl k) ?_
  show Go _ _ _ _ _ _ _ _ (mkF m 28 #[.val (.ref a0), .val (.ref ar), .val (.int (0 : Int32))] [(.ref a0), (.double x0), (.int (0 : Int32)), (.ref ar)])
  obtain ⟨T9, X9, e9, st9⟩ := getF X7 hx hZ hown (host := "") (Or.inl (hw _ (List.mem_of_getElem? (i := 25) rfl))) Via.refl e7 F_count_a0 (g := (mkF m 28 #[.val (.ref a0), .val (.ref ar), .val (.int (0 : Int32))] [(.ref a0), (.double x0), (.int (0 : Int32)), (.ref ar)])) rfl rfl (hb hby d6_28)
  refine Go.on st9 ?_
  show Go _ _ _ _ _ _ _ _ (mkF m 31 #[.val (.ref a0), .val (.ref ar), .val (.int (0 : Int32))] [(.int ct), (.double x0), (.int (0 : Int32)), (.ref ar)])
  refine Go.on (fun _ k => XS.i2dS X9.here hx rfl (hb hby d6_31) rfl rfl k) ?_
  show Go _ _ _ _ _ _ _ _ (mkF m 32 #[.val (.ref a0), .val (.ref ar), .val (.int (0 : Int32))] [(.double (FP.i2d ct)), (.double x0), (.int (0 : Int32)), (.ref ar)])
  refine Go.on (fun _ k => XS.ddivS X9.here hx rfl (hb hby d6_32) rfl (hd0) rfl k) ?_
  show Go _ _ _ _ _ _ _ _ (mkF m 33 #[.val (.ref a0), .val (.ref ar), .val (.int (0 : Int32))] [(.double (FP.ddiv x0 (FP.i2d ct))), (.int (0 : Int32)), (.ref ar)])
  obtain ⟨cl10, Ar10, q10, S10, N10n, H10, G10⟩ := id V_ar
  have hin10 : ¬ ((0 : Int32) < 0 ∨ cl10.slots.size ≤ ((0 : Int32)).toNatClampNeg) := inb_of S10 ⟨by decide, by decide⟩
  obtain ⟨T10, h10, X10, e10, W10, st10⟩ := stD X9 hx hZ e9 Ar10 (j := (0 : Int32)) hin10 (g := (mkF m 33 #[.val (.ref a0), .val (.ref ar), .val (.int (0 : Int32))] [(.double (FP.ddiv x0 (FP.i2d ct))), (.int (0 : Int32)), (.ref ar)])) rfl rfl (hb hby d6_33)
  replace V_ar := Arv.set Ar10 q10 S10 N10n H10 G10 rfl W10 0 rfl (Nat.le_of_ble_eq_true rfl)
  replace F_sum_a0 := F_sum_a0.other W10 (Or.inl ne_a0_ar)
  replace F_count_a0 := F_count_a0.other W10 (Or.inl ne_a0_ar)
  replace V_as := V_as.other W10 ne_as_ar
  refine Go.on st10 ?_
  have N10 := Fr.snoc X10 N0 g_ar
  replace ZZ := Nat.le_trans ZZ (Keep.of_wr W10).1
  replace KP := KP.wr W10 (Or.inr sz_ar)
  change Arv Z h10 ar k_ar .double (3 : Int32) [(.double (FP.ddiv x0 (FP.i2d ct))), (.double (0 : UInt64)), (.double (0 : UInt64))] (.double (0 : UInt64)) at V_ar
  show Go _ _ _ _ _ _ _ _ (mkF m 34 #[.val (.ref a0), .val (.ref ar), .val (.int (0 : Int32))] [])
  refine Go.on (fun _ k => XS.iinc X10.here hx rfl (hb hby d6_34) rfl (l' := #[.val (.ref a0), .val (.ref ar), .val (.int (1 : Int32))]) rfl k) ?_
  show Go _ _ _ _ _ _ _ _ (mkF m 37 #[.val (.ref a0), .val (.ref ar), .val (.int (1 : Int32))] [])
  refine Go.on (fun _ k => XS.goto X10.here hx rfl (pc0 := 37) (pc' := 10) rfl (hb hby d6_37) (by decide) (by decide) k) ?_
  show Go _ _ _ _ _ _ _ _ (mkF m 10 #[.val (.ref a0), .val (.ref ar), .val (.int (1 : Int32))] [])
  refine Go.on (fun _ k => XS.iloadN X10.here hx rfl (hb hby d6_10) rfl k) ?_
  show Go _ _ _ _ _ _ _ _ (mkF m 11 #[.val (.ref a0), .val (.ref ar), .val (.int (1 : Int32))] [(.int (1 : Int32))])
  refine Go.on (fun _ k => XS.aloadN X10.here hx rfl (hb hby d6_11) rfl rfl k) ?_
  show Go _ _ _ _ _ _ _ _ (mkF m 12 #[.val (.ref a0), .val (.ref ar), .val (.int (1 : Int32))] [(.ref a0), (.int (1 : Int32))])
  obtain ⟨T11, X11, e11, st11⟩ := getF X10 hx hZ hown (host := "") (Or.inl (hw _ (List.mem_of_getElem? (i := 18) rfl))) Via.refl e10 F_sum_a0 (g := (mkF m 12 #[.val (.ref a0), .val (.ref ar), .val (.int (1 : Int32))] [(.ref a0), (.int (1 : Int32))])) rfl rfl (hb hby d6_12)
  refine Go.on st11 ?_
  show Go _ _ _ _ _ _ _ _ (mkF m 15 #[.val (.ref a0), .val (.ref ar), .val (.int (1 : Int32))] [(.ref as), (.int (1 : Int32))])
  obtain ⟨cl12, Ar12, -, S12, N12n, -, -⟩ := id V_as
  refine Go.on (X11.arraylength hx (by rw [e11]; exact Ar12.1) (State.isArrayOf_alike hZ.alike Ar12.2.1) (g := (mkF m 15 #[.val (.ref a0), .val (.ref ar), .val (.int (1 : Int32))] [(.ref as), (.int (1 : Int32))])) rfl rfl (hb hby d6_15)) ?_
  rw [len_of S12 N12n]
  show Go _ _ _ _ _ _ _ _ (mkF m 16 #[.val (.ref a0), .val (.ref ar), .val (.int (1 : Int32))] [(.int (3 : Int32)), (.int (1 : Int32))])
  have hc13 : (1 : Int32) < (3 : Int32) := by decide
  refine Go.on (fun _ k => XS.icmpNo X11.here hx rfl (hb hby d6_16) rfl (tlt hc13).2.1 k) ?_
  show Go _ _ _ _ _ _ _ _ (mkF m 19 #[.val (.ref a0), .val (.ref ar), .val (.int (1 : Int32))] [])
  refine Go.on (fun _ k => XS.aloadN X11.here hx rfl (hb hby d6_19) rfl rfl k) ?_
  show Go _ _ _ _ _ _ _ _ (mkF m 20 #[.val (.ref a0), .val (.ref ar), .val (.int (1 : Int32))] [(.ref ar)])
  refine Go.on (fun _ k => XS.iloadN X11.here hx rfl (hb hby d6_20) rfl k) ?_
  show Go _ _ _ _ _ _ _ _ (mkF m 21 #[.val (.ref a0), .val (.ref ar), .val (.int (1 : Int32))] [(.int (1 : Int32)), (.ref ar)])
  refine Go.on (fun _ k => XS.aloadN X11.here hx rfl (hb hby d6_21) rfl rfl k) ?_
  show Go _ _ _ _ _ _ _ _ (mkF m 22 #[.val (.ref a0), .val (.ref ar), .val (.int (1 : Int32))] [(.ref a0), (.int (1 : Int32)), (.ref ar)])
  obtain ⟨T14, X14, e14, st14⟩ := getF X11 hx hZ hown (host := "") (Or.inl (hw _ (List.mem_of_getElem? (i := 18) rfl))) Via.refl e11 F_sum_a0 (g := (mkF m 22 #[.val (.ref a0), .val (.ref ar), .val (.int (1 : Int32))] [(.ref a0), (.int (1 : Int32)), (.ref ar)])) rfl rfl (hb hby d6_22)
  refine Go.on st14 ?_
  show Go _ _ _ _ _ _ _ _ (mkF m 25 #[.val (.ref a0), .val (.ref ar), .val (.int (1 : Int32))] [(.ref as), (.int (1 : Int32)), (.ref ar)])
  refine Go.on (fun _ k => XS.iloadN X14.here hx rfl (hb hby d6_25) rfl k) ?_
  show Go _ _ _ _ _ _ _ _ (mkF m 26 #[.val (.ref a0), .val (.ref ar), .val (.int (1 : Int32))] [(.int (1 : Int32)), (.ref as), (.int (1 : Int32)), (.ref ar)])
  obtain ⟨cl15, Ar15, -, S15, -, H15, -⟩ := id V_as
  have hin15 : ¬ ((1 : Int32) < 0 ∨ cl15.slots.size ≤ ((1 : Int32)).toNatClampNeg) := inb_of S15 ⟨by decide, by decide⟩
  refine Go.on (X14.daload hx (j := (1 : Int32)) (v := (.double x1)) (by rw [e14]; exact Ar15.1) (State.isArrayOf_alike hZ.alike Ar15.2.1) Ar15.2.2 hin15 (H15.at hin15 (rfl)) (g := (mkF m 26 #[.val (.ref a0), .val (.ref ar), .val (.int (1 : Int32))] [(.int (1 : Int32)), (.ref as), (.int (1 : Int32)), (.ref ar)])) rfl rfl (hb hby d6_26)) ?_
  show Go _ _ _ _ _ _ _ _ (mkF m 27 #[.val (.ref a0), .val (.ref ar), .val (.int (1 : Int32))] [(.double x1), (.int (1 : Int32)), (.ref ar)])
  refine Go.on (fun _ k => XS.aloadN X14.here hx rfl (hb hby d6_27) rfl rfl k) ?_
  show Go _ _ _ _ _ _ _ _ (mkF m 28 #[.val (.ref a0), .val (.ref ar), .val (.int (1 : Int32))] [(.ref a0), (.double x1), (.int (1 : Int32)), (.ref ar)])
  obtain ⟨T16, X16, e16, st16⟩ := getF X14 hx hZ hown (host := "") (Or.inl (hw _ (List.mem_of_getElem? (i := 25) rfl))) Via.refl e14 F_count_a0 (g := (mkF m 28 #[.val (.ref a0), .val (.ref ar), .val (.int (1 : Int32))] [(.ref a0), (.double x1), (.int (1 : Int32)), (.ref ar)])) rfl rfl (hb hby d6_28)
  refine Go.on st16 ?_
  show Go _ _ _ _ _ _ _ _ (mkF m 31 #[.val (.ref a0), .val (.ref ar), .val (.int (1 : Int32))] [(.int ct), (.double x1), (.int (1 : Int32)), (.ref ar)])
  refine Go.on (fun _ k => XS.i2dS X16.here hx rfl (hb hby d6_31) rfl rfl k) ?_
  show Go _ _ _ _ _ _ _ _ (mkF m 32 #[.val (.ref a0), .val (.ref ar), .val (.int (1 : Int32))] [(.double (FP.i2d ct)), (.double x1), (.int (1 : Int32)), (.ref ar)])
  refine Go.on (fun _ k => XS.ddivS X16.here hx rfl (hb hby d6_32) rfl (hd1) rfl k) ?_
  show Go _ _ _ _ _ _ _ _ (mkF m 33 #[.val (.ref a0), .val (.ref ar), .val (.int (1 : Int32))] [(.double (FP.ddiv x1 (FP.i2d ct))), (.int (1 : Int32)), (.ref ar)])
  obtain ⟨cl17, Ar17, q17, S17, N17n, H17, G17⟩ := id V_ar
  have hin17 : ¬ ((1 : Int32) < 0 ∨ cl17.slots.size ≤ ((1 : Int32)).toNatClampNeg) := inb_of S17 ⟨by decide, by decide⟩
  obtain ⟨T17, h17, X17, e17, W17, st17⟩ := stD X16 hx hZ e16 Ar17 (j := (1 : Int32)) hin17 (g := (mkF m 33 #[.val (.ref a0), .val (.ref ar), .val (.int (1 : Int32))] [(.double (FP.ddiv x1 (FP.i2d ct))), (.int (1 : Int32)), (.ref ar)])) rfl rfl (hb hby d6_33)
  replace V_ar := Arv.set Ar17 q17 S17 N17n H17 G17 rfl W17 1 rfl (Nat.le_of_ble_eq_true rfl)
  replace F_sum_a0 := F_sum_a0.other W17 (Or.inl ne_a0_ar)
  replace F_count_a0 := F_count_a0.other W17 (Or.inl ne_a0_ar)
  replace V_as := V_as.other W17 ne_as_ar
  refine Go.on st17 ?_
  have N17 := Fr.snoc X17 N10 g_ar
  replace ZZ := Nat.le_trans ZZ (Keep.of_wr W17).1
  replace KP := KP.wr W17 (Or.inr sz_ar)
  change Arv Z h17 ar k_ar .double (3 : Int32) [(.double (FP.ddiv x0 (FP.i2d ct))), (.double (FP.ddiv x1 (FP.i2d ct))), (.double (0 : UInt64))] (.double (0 : UInt64)) at V_ar
  show Go _ _ _ _ _ _ _ _ (mkF m 34 #[.val (.ref a0), .val (.ref ar), .val (.int (1 : Int32))] [])
  refine Go.on (fun _ k => XS.iinc X17.here hx rfl (hb hby d6_34) rfl (l' := #[.val (.ref a0), .val (.ref ar), .val (.int (2 : Int32))]) rfl k) ?_
  show Go _ _ _ _ _ _ _ _ (mkF m 37 #[.val (.ref a0), .val (.ref ar), .val (.int (2 : Int32))] [])
  refine Go.on (fun _ k => XS.goto X17.here hx rfl (pc0 := 37) (pc' := 10) rfl (hb hby d6_37) (by decide) (by decide) k) ?_
  show Go _ _ _ _ _ _ _ _ (mkF m 10 #[.val (.ref a0), .val (.ref ar), .val (.int (2 : Int32))] [])
  refine Go.on (fun _ k => XS.iloadN X17.here hx rfl (hb hby d6_10) rfl k) ?_
  show Go _ _ _ _ _ _ _ _ (mkF m 11 #[.val (.ref a0), .val (.ref ar), .val (.int (2 : Int32))] [(.int (2 : Int32))])
  refine Go.on (fun _ k => XS.aloadN X17.here hx rfl (hb hby d6_11) rfl rfl k) ?_
  show Go _ _ _ _ _ _ _ _ (mkF m 12 #[.val (.ref a0), .val (.ref ar), .val (.int (2 : Int32))] [(.ref a0), (.int (2 : Int32))])
  obtain ⟨T18, X18, e18, st18⟩ := getF X17 hx hZ hown (host := "") (Or.inl (hw _ (List.mem_of_getElem? (i := 18) rfl))) Via.refl e17 F_sum_a0 (g := (mkF m 12 #[.val (.ref a0), .val (.ref ar), .val (.int (2 : Int32))] [(.ref a0), (.int (2 : Int32))])) rfl rfl (hb hby d6_12)
  refine Go.on st18 ?_
  show Go _ _ _ _ _ _ _ _ (mkF m 15 #[.val (.ref a0), .val (.ref ar), .val (.int (2 : Int32))] [(.ref as), (.int (2 : Int32))])
  obtain ⟨cl19, Ar19, -, S19, N19n, -, -⟩ := id V_as
  refine Go.on (X18.arraylength hx (by rw [e18]; exact Ar19.1) (State.isArrayOf_alike hZ.alike Ar19.2.1) (g := (mkF m 15 #[.val (.ref a0), .val (.ref ar), .val (.int (2 : Int32))] [(.ref as), (.int (2 : Int32))])) rfl rfl (hb hby d6_15)) ?_
  rw [len_of S19 N19n]
  show Go _ _ _ _ _ _ _ _ (mkF m 16 #[.val (.ref a0), .val (.ref ar), .val (.int (2 : Int32))] [(.int (3 : Int32)), (.int (2 : Int32))])
  have hc20 : (2 : Int32) < (3 : Int32) := by decide
  refine Go.on (fun _ k => XS.icmpNo X18.here hx rfl (hb hby d6_16) rfl (tlt hc20).2.1 k) ?_
  show Go _ _ _ _ _ _ _ _ (mkF m 19 #[.val (.ref a0), .val (.ref ar), .val (.int (2 : Int32))] [])
  refine Go.on (fun _ k => XS.aloadN X18.here hx rfl (hb hby d6_19) rfl rfl k) ?_
  show Go _ _ _ _ _ _ _ _ (mkF m 20 #[.val (.ref a0), .val (.ref ar), .val (.int (2 : Int32))] [(.ref ar)])
  refine Go.on (fun _ k => XS.iloadN X18.here hx rfl (hb hby d6_20) rfl k) ?_
  show Go _ _ _ _ _ _ _ _ (mkF m 21 #[.val (.ref a0), .val (.ref ar), .val (.int (2 : Int32))] [(.int (2 : Int32)), (.ref ar)])
  refine Go.on (fun _ k => XS.aloadN X18.here hx rfl (hb hby d6_21) rfl rfl k) ?_
  show Go _ _ _ _ _ _ _ _ (mkF m 22 #[.val (.ref a0), .val (.ref ar), .val (.int (2 : Int32))] [(.ref a0), (.int (2 : Int32)), (.ref ar)])
  obtain ⟨T21, X21, e21, st21⟩ := getF X18 hx hZ hown (host := "") (Or.inl (hw _ (List.mem_of_getElem? (i := 18) rfl))) Via.refl e18 F_sum_a0 (g := (mkF m 22 #[.val (.ref a0), .val (.ref ar), .val (.int (2 : Int32))] [(.ref a0), (.int (2 : Int32)), (.ref ar)])) rfl rfl (hb hby d6_22)
  refine Go.on st21 ?_
  show Go _ _ _ _ _ _ _ _ (mkF m 25 #[.val (.ref a0), .val (.ref ar), .val (.int (2 : Int32))] [(.ref as), (.int (2 : Int32)), (.ref ar)])
  refine Go.on (fun _ k => XS.iloadN X21.here hx rfl (hb hby d6_25) rfl k) ?_
  show Go _ _ _ _ _ _ _ _ (mkF m 26 #[.val (.ref a0), .val (.ref ar), .val (.int (2 : Int32))] [(.int (2 : Int32)), (.ref as), (.int (2 : Int32)), (.ref ar)])
  obtain ⟨cl22, Ar22, -, S22, -, H22, -⟩ := id V_as
  have hin22 : ¬ ((2 : Int32) < 0 ∨ cl22.slots.size ≤ ((2 : Int32)).toNatClampNeg) := inb_of S22 ⟨by decide, by decide⟩
  refine Go.on (X21.daload hx (j := (2 : Int32)) (v := (.double x2)) (by rw [e21]; exact Ar22.1) (State.isArrayOf_alike hZ.alike Ar22.2.1) Ar22.2.2 hin22 (H22.at hin22 (rfl)) (g := (mkF m 26 #[.val (.ref a0), .val (.ref ar), .val (.int (2 : Int32))] [(.int (2 : Int32)), (.ref as), (.int (2 : Int32)), (.ref ar)])) rfl rfl (hb hby d6_26)) ?_
  show Go _ _ _ _ _ _ _ _ (mkF m 27 #[.val (.ref a0), .val (.ref ar), .val (.int (2 : Int32))] [(.double x2), (.int (2 : Int32)), (.ref ar)])
  refine Go.on (fun _ k => XS.aloadN X21.here hx rfl (hb hby d6_27) rfl rfl k) ?_
  show Go _ _ _ _ _ _ _ _ (mkF m 28 #[.val (.ref a0), .val (.ref ar), .val (.int (2 : Int32))] [(.ref a0), (.double x2), (.int (2 : Int32)), (.ref ar)])
  obtain ⟨T23, X23, e23, st23⟩ := getF X21 hx hZ hown (host := "") (Or.inl (hw _ (List.mem_of_getElem? (i := 25) rfl))) Via.refl e21 F_count_a0 (g := (mkF m 28 #[.val (.ref a0), .val (.ref ar), .val (.int (2 : Int32))] [(.ref a0), (.double x2), (.int (2 : Int32)), (.ref ar)])) rfl rfl (hb hby d6_28)
  refine Go.on st23 ?_
  show Go _ _ _ _ _ _ _ _ (mkF m 31 #[.val (.ref a0), .val (.ref ar), .val (.int (2 : Int32))] [(.int ct), (.double x2), (.int (2 : Int32)), (.ref ar)])
  refine Go.on (fun _ k => XS.i2dS X23.here hx rfl (hb hby d6_31) rfl rfl k) ?_
  show Go _ _ _ _ _ _ _ _ (mkF m 32 #[.val (.ref a0), .val (.ref ar), .val (.int (2 : Int32))] [(.double (FP.i2d ct)), (.double x2), (.int (2 : Int32)), (.ref ar)])
  refine Go.on (fun _ k => XS.ddivS X23.here hx rfl (hb hby d6_32) rfl (hd2) rfl k) ?_
  show Go _ _ _ _ _ _ _ _ (mkF m 33 #[.val (.ref a0), .val (.ref ar), .val (.int (2 : Int32))] [(.double (FP.ddiv x2 (FP.i2d ct))), (.int (2 : Int32)), (.ref ar)])
  obtain ⟨cl24, Ar24, q24, S24, N24n, H24, G24⟩ := id V_ar
  have hin24 : ¬ ((2 : Int32) < 0 ∨ cl24.slots.size ≤ ((2 : Int32)).toNatClampNeg) := inb_of S24 ⟨by decide, by decide⟩
  obtain ⟨T24, h24, X24, e24, W24, st24⟩ := stD X23 hx hZ e23 Ar24 (j := (2 : Int32)) hin24 (g := (mkF m 33 #[.val (.ref a0), .val (.ref ar), .val (.int (2 : Int32))] [(.double (FP.ddiv x2 (FP.i2d ct))), (.int (2 : Int32)), (.ref ar)])) rfl rfl (hb hby d6_33)
  replace V_ar := Arv.set Ar24 q24 S24 N24n H24 G24 rfl W24 2 rfl (Nat.le_of_ble_eq_true rfl)
  replace F_sum_a0 := F_sum_a0.other W24 (Or.inl ne_a0_ar)
  replace F_count_a0 := F_count_a0.other W24 (Or.inl ne_a0_ar)
  replace V_as := V_as.other W24 ne_as_ar
  refine Go.on st24 ?_
  have N24 := Fr.snoc X24 N17 g_ar
  replace ZZ := Nat.le_trans ZZ (Keep.of_wr W24).1
  replace KP := KP.wr W24 (Or.inr sz_ar)
  change Arv Z h24 ar k_ar .double (3 : Int32) [(.double (FP.ddiv x0 (FP.i2d ct))), (.double (FP.ddiv x1 (FP.i2d ct))), (.double (FP.ddiv x2 (FP.i2d ct)))] (.double (0 : UInt64)) at V_ar
  show Go _ _ _ _ _ _ _ _ (mkF m 34 #[.val (.ref a0), .val (.ref ar), .val (.int (2 : Int32))] [])
  refine Go.on (fun _ k => XS.iinc X24.here hx rfl (hb hby d6_34) rfl (l' := #[.val (.ref a0), .val (.ref ar), .val (.int (3 : Int32))]) rfl k) ?_
  show Go _ _ _ _ _ _ _ _ (mkF m 37 #[.val (.ref a0), .val (.ref ar), .val (.int (3 : Int32))] [])
  refine Go.on (fun _ k => XS.goto X24.here hx rfl (pc0 := 37) (pc' := 10) rfl (hb hby d6_37) (by decide) (by decide) k) ?_
  show Go _ _ _ _ _ _ _ _ (mkF m 10 #[.val (.ref a0), .val (.ref ar), .val (.int (3 : Int32))] [])
  refine Go.on (fun _ k => XS.iloadN X24.here hx rfl (hb hby d6_10) rfl k) ?_
  show Go _ _ _ _ _ _ _ _ (mkF m 11 #[.val (.ref a0), .val (.ref ar), .val (.int (3 : Int32))] [(.int (3 : Int32))])
  refine Go.on (fun _ k => XS.aloadN X24.here hx rfl (hb hby d6_11) rfl rfl k) ?_
  show Go _ _ _ _ _ _ _ _ (mkF m 12 #[.val (.ref a0), .val (.ref ar), .val (.int (3 : Int32))] [(.ref a0), (.int (3 : Int32))])
  obtain ⟨T25, X25, e25, st25⟩ := getF X24 hx hZ hown (host := "") (Or.inl (hw _ (List.mem_of_getElem? (i := 18) rfl))) Via.refl e24 F_sum_a0 (g := (mkF m 12 #[.val (.ref a0), .val (.ref ar), .val (.int (3 : Int32))] [(.ref a0), (.int (3 : Int32))])) rfl rfl (hb hby d6_12)
  refine Go.on st25 ?_
  show Go _ _ _ _ _ _ _ _ (mkF m 15 #[.val (.ref a0), .val (.ref ar), .val (.int (3 : Int32))] [(.ref as), (.int (3 : Int32))])
  obtain ⟨cl26, Ar26, -, S26, N26n, -, -⟩ := id V_as
  refine Go.on (X25.arraylength hx (by rw [e25]; exact Ar26.1) (State.isArrayOf_alike hZ.alike Ar26.2.1) (g := (mkF m 15 #[.val (.ref a0), .val (.ref ar), .val (.int (3 : Int32))] [(.ref as), (.int (3 : Int32))])) rfl rfl (hb hby d6_15)) ?_
  rw [len_of S26 N26n]
  show Go _ _ _ _ _ _ _ _ (mkF m 16 #[.val (.ref a0), .val (.ref ar), .val (.int (3 : Int32))] [(.int (3 : Int32)), (.int (3 : Int32))])
  have hc27 : ¬ ((3 : Int32) < (3 : Int32)) := by decide
  refine Go.on (fun _ k => XS.icmpYes X25.here hx rfl (pc0 := 16) (pc' := 40) rfl (hb hby d6_16) rfl (flt hc27).2.1 (by decide) (by decide) k) ?_
  show Go _ _ _ _ _ _ _ _ (mkF m 40 #[.val (.ref a0), .val (.ref ar), .val (.int (3 : Int32))] [])
  refine Go.on (fun _ k => XS.aloadN X25.here hx rfl (hb hby d6_40) rfl rfl k) ?_
  show Go _ _ _ _ _ _ _ _ (mkF m 41 #[.val (.ref a0), .val (.ref ar), .val (.int (3 : Int32))] [(.ref ar)])
  refine Go.retV X25 hx Bd.returns rfl (Or.inr (Or.inr (Or.inr (Or.inr ⟨rfl, rfl, rfl⟩)))) (hb hby d6_41) ?_ (by rw [hK1]; decide) (by rw [hK2]; decide)
  rw [e25, ← hQQ]
  exact ⟨ar, k_ar, rfl, N24, KP, sz_ar, V_ar⟩
theorem d7_0 : decode method_5_code 0 = .ok (.iload_n 1, 1) := by decide +kernel
theorem d7_1 : decode method_5_code 1 = .ok (.iload_n 0, 1) := by decide +kernel
theorem d7_2 : decode method_5_code 2 = .ok (.invokestatic 31, 3) := by decide +kernel
theorem d7_5 : decode method_5_code 5 = .ok (.istore 5, 2) := by decide +kernel
theorem d7_7 : decode method_5_code 7 = .ok (.iload 4, 2) := by decide +kernel
theorem d7_9 : decode method_5_code 9 = .ok (.iconst 2, 1) := by decide +kernel
theorem d7_10 : decode method_5_code 10 = .ok (.if_icmp .lt 13, 3) := by decide +kernel
theorem d7_13 : decode method_5_code 13 = .ok (.iload 5, 2) := by decide +kernel
theorem d7_15 : decode method_5_code 15 = .ok (.iload_n 2, 1) := by decide +kernel
theorem d7_16 : decode method_5_code 16 = .ok (.iload_n 0, 1) := by decide +kernel
theorem d7_17 : decode method_5_code 17 = .ok (.invokestatic 31, 3) := by decide +kernel
theorem d7_20 : decode method_5_code 20 = .ok (.iadd, 1) := by decide +kernel
theorem d7_21 : decode method_5_code 21 = .ok (.istore 5, 2) := by decide +kernel
theorem d7_23 : decode method_5_code 23 = .ok (.iload 4, 2) := by decide +kernel
theorem d7_25 : decode method_5_code 25 = .ok (.iconst 3, 1) := by decide +kernel
theorem d7_26 : decode method_5_code 26 = .ok (.if_icmp .lt 13, 3) := by decide +kernel
theorem d7_29 : decode method_5_code 29 = .ok (.iload 5, 2) := by decide +kernel
theorem d7_31 : decode method_5_code 31 = .ok (.iload_n 3, 1) := by decide +kernel
theorem d7_32 : decode method_5_code 32 = .ok (.iload_n 0, 1) := by decide +kernel
theorem d7_33 : decode method_5_code 33 = .ok (.invokestatic 31, 3) := by decide +kernel
theorem d7_36 : decode method_5_code 36 = .ok (.iadd, 1) := by decide +kernel
theorem d7_37 : decode method_5_code 37 = .ok (.istore 5, 2) := by decide +kernel
theorem d7_39 : decode method_5_code 39 = .ok (.iload 5, 2) := by decide +kernel
theorem d7_41 : decode method_5_code 41 = .ok (.i2d, 1) := by decide +kernel
theorem d7_42 : decode method_5_code 42 = .ok (.iload 4, 2) := by decide +kernel
theorem d7_44 : decode method_5_code 44 = .ok (.i2d, 1) := by decide +kernel
theorem d7_45 : decode method_5_code 45 = .ok (.ddiv, 1) := by decide +kernel
theorem d7_46 : decode method_5_code 46 = .ok (.dreturn, 1) := by decide +kernel
theorem ef_rm7 (m : MethodId) (i0 : Int32) (i1 : Int32) (i2 : Int32) (i3 : Int32) (i4 : Int32) : entryFrame m #[(.int i0), (.int i1), (.int i2), (.int i3), (.int i4)] 6 = mkF m 0 #[.val (.int i0), .val (.int i1), .val (.int i2), .val (.int i3), .val (.int i4), .unset] [] := by first | (simp [entryFrame, mkF, argsToLocals, Value.category]; done) | rfl
def Q_rm7 (Z : State) (i0 : Int32) (i1 : Int32) (i2 : Int32) (i3 : Int32) (i4 : Int32) (h0 : Heap) (n0 : Nat) (v : Option Value) (h : Heap) (L : List Loc) : Prop := v = some (.double (expV i0 i1 i2 i3 i4)) ∧ Fr n0 L ∧ h = h0
set_option maxRecDepth 65536 in
set_option maxHeartbeats 40000000 in
theorem rm7 (l : Launch) (Z : State) (aw : Array Value) (hw : ∀ d ∈ tables_1, d.before aw Z = true) (ws : List Jvm.Cond) (i0 : Int32) (i1 : Int32) (i2 : Int32) (i3 : Int32) (i4 : Int32) (h0 : Heap) (n0 : Nat) (Z0 : n0 ≤ h0.size) (hn4 : i4 ≠ 0) :
    MetFree l (⟨"com/example/d2rank/d2rank/rerank/CentroidAddPinLaw", "expect", "(IIIII)D"⟩ : MethodName) (head1 (Jvm.Cond.code (⟨"com/example/d2rank/d2rank/rerank/CentroidAddPinLaw", "expect", "(IIIII)D"⟩ : MethodName) method_5_code 6 (some .double) :: ws) ({ frames := 1, cells := 0, slots := 0, locals := 15 } : Room)) (fun a U => a = #[(.int i0), (.int i1), (.int i2), (.int i3), (.int i4)] ∧ Z.Warmed39 U.vm ∧ U.heap = h0) (fun _ _ _ _ _ => True) (fun _ U o U' => ∃ v L, o = .returned v ∧ Q_rm7 Z i0 i1 i2 i3 i4 h0 n0 v U'.heap L ∧ FrameEnd U o U' L ({ frames := 1, cells := 0, slots := 0, locals := 15 } : Room).cells ({ frames := 1, cells := 0, slots := 0, locals := 15 } : Room).slots) := by
  refine MetFree.of_bodySF (plainFor_of_name pn_0) hisR ?_
  intro p e s m args below meth c s₁ Bd hml0 hP hK
  obtain ⟨rfl, hZ, hh⟩ := hP
  have hx := Bd.exec
  have hby := Bd.bytes
  have hml : c.maxLocals = 6 := hml0
  have hown : s.vm.findClass "com/example/d2rank/d2rank/rerank/CentroidAddPinLaw" = some m.cls := findClass_of_methodNamed Bd.named
  have hnm := (name_of_methodNamed Bd.named Bd.method).1
  have hlk : meth.locks = false := BodyLoose.notSynchronized Bd
  have X0 : Stand p l e ({ frames := 1, cells := 0, slots := 0, locals := 15 } : Room) s m #[(.int i0), (.int i1), (.int i2), (.int i3), (.int i4)] below meth c s₁ [] 0 0 := Stand.of_body Bd
  have e0 : s₁.heap = h0 := by rw [← hh, Bd.state]; rfl
  have N0 := Fr.nil n0
  have ZZ := Z0
  show Go p e below s ({ frames := 1, cells := 0, slots := 0, locals := 15 } : Room).cells ({ frames := 1, cells := 0, slots := 0, locals := 15 } : Room).slots (fun v h L => Q_rm7 Z i0 i1 i2 i3 i4 h0 n0 v h L) s₁ (entryFrame m #[(.int i0), (.int i1), (.int i2), (.int i3), (.int i4)] 6)
  refine Go.cast (ef_rm7 m i0 i1 i2 i3 i4) ?_
  refine Go.gen ?_
  intro K1 K2 QQ hK1 hK2 hQQ
  refine Go.on (fun _ k => XS.iloadN X0.here hx rfl (hb hby d7_0) rfl k) ?_
  show Go _ _ _ _ _ _ _ _ (mkF m 1 #[.val (.int i0), .val (.int i1), .val (.int i2), .val (.int i3), .val (.int i4), .unset] [(.int i1)])
  refine Go.on (fun _ k => XS.iloadN X0.here hx rfl (hb hby d7_1) rfl k) ?_
  show Go _ _ _ _ _ _ _ _ (mkF m 2 #[.val (.int i0), .val (.int i1), .val (.int i2), .val (.int i3), .val (.int i4), .unset] [(.int i0), (.int i1)])
  obtain ⟨_, _, ⟨T1, L1, k1, n1⟩, -, X1, ⟨Lc1, hQ1, l1, y1, z1⟩, st1⟩ := Jvm.LawKit.callS X0 hx (y := (⟨"com/example/d2rank/d2rank/rerank/CentroidAddPinLaw", "comp", "(II)I"⟩ : MethodName)) hown (mvT hZ (hw _ (List.mem_of_getElem? (i := 6) rfl))) (mvT hZ (hw _ (List.mem_of_getElem? (i := 7) rfl))) (mvT hZ (hw _ (List.mem_of_getElem? (i := 3) rfl))) (mvT hZ (hw _ (List.mem_of_getElem? (i := 8) rfl))) (by decide) (backOf (W := 0) (rm2 l Z aw hw [] i1 i0  h0 n0 ZZ ) hZ (hw _ (List.mem_of_getElem? (i := 8) rfl)) (hw _ (List.mem_of_getElem? (i := 3) rfl)) (by decide) (by decide)) (g := (mkF m 2 #[.val (.int i0), .val (.int i1), .val (.int i2), .val (.int i3), .val (.int i4), .unset] [(.int i0), (.int i1)])) rfl (by rw [hml]; rfl) (argsL := [(.int i1), (.int i0)]) (rest := []) (lenOf pd_0 rfl) rfl (by show 2 * 0 + _ ≤ _; exact Nat.le_of_eq rfl) (hb hby d7_2) (fun _ _ => ⟨rfl, e0, (by decide : 0 + 0 ≤ _), (by decide : 0 + 0 ≤ _)⟩)
  dsimp only [Pt.U, Pt.locs, Pt.cells, Pt.slots] at X1 l1 y1 z1 st1 hQ1
  subst l1 y1 z1
  obtain ⟨rfl, N1q, e1⟩ := hQ1
  have N1 := Fr.app N0 N1q
  refine Go.on st1 ?_
  show Go _ _ _ _ _ _ _ _ (mkF m 5 #[.val (.int i0), .val (.int i1), .val (.int i2), .val (.int i3), .val (.int i4), .unset] [(.int (compV i1 i0))])
  refine Go.on (fun _ k => XS.istore X1.here hx rfl (hb hby d7_5) rfl (l' := #[.val (.int i0), .val (.int i1), .val (.int i2), .val (.int i3), .val (.int i4), .val (.int (compV i1 i0))]) rfl k) ?_
  show Go _ _ _ _ _ _ _ _ (mkF m 7 #[.val (.int i0), .val (.int i1), .val (.int i2), .val (.int i3), .val (.int i4), .val (.int (compV i1 i0))] [])
  refine Go.on (fun _ k => XS.iload X1.here hx rfl (hb hby d7_7) rfl k) ?_
  show Go _ _ _ _ _ _ _ _ (mkF m 9 #[.val (.int i0), .val (.int i1), .val (.int i2), .val (.int i3), .val (.int i4), .val (.int (compV i1 i0))] [(.int i4)])
  refine Go.on (fun _ k => XS.iconst X1.here hx rfl (hb hby d7_9) k) ?_
  show Go _ _ _ _ _ _ _ _ (mkF m 10 #[.val (.int i0), .val (.int i1), .val (.int i2), .val (.int i3), .val (.int i4), .val (.int (compV i1 i0))] [(.int (2 : Int32)), (.int i4)])
  by_cases hc2 : i4 < (2 : Int32)
  · -- pc 10 yes
    refine Go.on (fun _ k => XS.icmpYes X1.here hx rfl (pc0 := 10) (pc' := 23) rfl (hb hby d7_10) rfl (tlt hc2).1 (by decide) (by decide) k) ?_
    show Go _ _ _ _ _ _ _ _ (mkF m 23 #[.val (.int i0), .val (.int i1), .val (.int i2), .val (.int i3), .val (.int i4), .val (.int (compV i1 i0))] [])
    refine Go.on (fun _ k => XS.iload X1.here hx rfl (hb hby d7_23) rfl k) ?_
    show Go _ _ _ _ _ _ _ _ (mkF m 25 #[.val (.int i0), .val (.int i1), .val (.int i2), .val (.int i3), .val (.int i4), .val (.int (compV i1 i0))] [(.int i4)])
    refine Go.on (fun _ k => XS.iconst X1.here hx rfl (hb hby d7_25) k) ?_
    show Go _ _ _ _ _ _ _ _ (mkF m 26 #[.val (.int i0), .val (.int i1), .val (.int i2), .val (.int i3), .val (.int i4), .val (.int (compV i1 i0))] [(.int (3 : Int32)), (.int i4)])
    by_cases hc3 : i4 < (3 : Int32)
    · -- pc 26 yes
      refine Go.on (fun _ k => XS.icmpYes X1.here hx rfl (pc0 := 26) (pc' := 39) rfl (hb hby d7_26) rfl (tlt hc3).1 (by decide) (by decide) k) ?_
      show Go _ _ _ _ _ _ _ _ (mkF m 39 #[.val (.int i0), .val (.int i1), .val (.int i2), .val (.int i3), .val (.int i4), .val (.int (compV i1 i0))] [])
      refine Go.on (fun _ k => XS.iload X1.here hx rfl (hb hby d7_39) rfl k) ?_
      show Go _ _ _ _ _ _ _ _ (mkF m 41 #[.val (.int i0), .val (.int i1), .val (.int i2), .val (.int i3), .val (.int i4), .val (.int (compV i1 i0))] [(.int (compV i1 i0))])
      refine Go.on (fun _ k => XS.i2dS X1.here hx rfl (hb hby d7_41) rfl rfl k) ?_
      show Go _ _ _ _ _ _ _ _ (mkF m 42 #[.val (.int i0), .val (.int i1), .val (.int i2), .val (.int i3), .val (.int i4), .val (.int (compV i1 i0))] [(.double (FP.i2d (compV i1 i0)))])
      refine Go.on (fun _ k => XS.iload X1.here hx rfl (hb hby d7_42) rfl k) ?_
      show Go _ _ _ _ _ _ _ _ (mkF m 44 #[.val (.int i0), .val (.int i1), .val (.int i2), .val (.int i3), .val (.int i4), .val (.int (compV i1 i0))] [(.int i4), (.double (FP.i2d (compV i1 i0)))])
      refine Go.on (fun _ k => XS.i2dS X1.here hx rfl (hb hby d7_44) rfl rfl k) ?_
      show Go _ _ _ _ _ _ _ _ (mkF m 45 #[.val (.int i0), .val (.int i1), .val (.int i2), .val (.int i3), .val (.int i4), .val (.int (compV i1 i0))] [(.double (FP.i2d i4)), (.double (FP.i2d (compV i1 i0)))])
      refine Go.on (fun _ k => XS.ddivS X1.here hx rfl (hb hby d7_45) rfl (own_nnd' (Jvm.FP.Core.i2d_fin _) _ hn4) rfl k) ?_
      show Go _ _ _ _ _ _ _ _ (mkF m 46 #[.val (.int i0), .val (.int i1), .val (.int i2), .val (.int i3), .val (.int i4), .val (.int (compV i1 i0))] [(.double (FP.ddiv (FP.i2d (compV i1 i0)) (FP.i2d i4)))])
      refine Go.retV X1 hx Bd.returns rfl (Or.inr (Or.inr (Or.inl ⟨rfl, rfl, _, rfl⟩))) (hb hby d7_46) ?_ (by rw [hK1]; decide) (by rw [hK2]; decide)
      rw [e1, ← hQQ]
      refine ⟨?_, N1, rfl⟩
      show _ = some (Value.double (expV i0 i1 i2 i3 i4))
      unfold expV; rw [if_pos hc2]; rw [if_pos hc3]
    · -- pc 26 no
      refine Go.on (fun _ k => XS.icmpNo X1.here hx rfl (hb hby d7_26) rfl (flt hc3).1 k) ?_
      show Go _ _ _ _ _ _ _ _ (mkF m 29 #[.val (.int i0), .val (.int i1), .val (.int i2), .val (.int i3), .val (.int i4), .val (.int (compV i1 i0))] [])
      refine Go.on (fun _ k => XS.iload X1.here hx rfl (hb hby d7_29) rfl k) ?_
      show Go _ _ _ _ _ _ _ _ (mkF m 31 #[.val (.int i0), .val (.int i1), .val (.int i2), .val (.int i3), .val (.int i4), .val (.int (compV i1 i0))] [(.int (compV i1 i0))])
      refine Go.on (fun _ k => XS.iloadN X1.here hx rfl (hb hby d7_31) rfl k) ?_
      show Go _ _ _ _ _ _ _ _ (mkF m 32 #[.val (.int i0), .val (.int i1), .val (.int i2), .val (.int i3), .val (.int i4), .val (.int (compV i1 i0))] [(.int i3), (.int (compV i1 i0))])
      refine Go.on (fun _ k => XS.iloadN X1.here hx rfl (hb hby d7_32) rfl k) ?_
      show Go _ _ _ _ _ _ _ _ (mkF m 33 #[.val (.int i0), .val (.int i1), .val (.int i2), .val (.int i3), .val (.int i4), .val (.int (compV i1 i0))] [(.int i0), (.int i3), (.int (compV i1 i0))])
      obtain ⟨_, _, ⟨T4, L4, k4, n4⟩, -, X4, ⟨Lc4, hQ4, l4, y4, z4⟩, st4⟩ := Jvm.LawKit.callS X1 hx (y := (⟨"com/example/d2rank/d2rank/rerank/CentroidAddPinLaw", "comp", "(II)I"⟩ : MethodName)) hown (mvT hZ (hw _ (List.mem_of_getElem? (i := 6) rfl))) (mvT hZ (hw _ (List.mem_of_getElem? (i := 7) rfl))) (mvT hZ (hw _ (List.mem_of_getElem? (i := 3) rfl))) (mvT hZ (hw _ (List.mem_of_getElem? (i := 8) rfl))) (by decide) (backOf (W := 1) (rm2 l Z aw hw [] i3 i0  h0 n0 ZZ ) hZ (hw _ (List.mem_of_getElem? (i := 8) rfl)) (hw _ (List.mem_of_getElem? (i := 3) rfl)) (by decide) (by decide)) (g := (mkF m 33 #[.val (.int i0), .val (.int i1), .val (.int i2), .val (.int i3), .val (.int i4), .val (.int (compV i1 i0))] [(.int i0), (.int i3), (.int (compV i1 i0))])) rfl (by rw [hml]; rfl) (argsL := [(.int i3), (.int i0)]) (rest := [(.int (compV i1 i0))]) (lenOf pd_0 rfl) rfl (by show 2 * 0 + _ ≤ _; exact Nat.le_of_eq rfl) (hb hby d7_33) (fun _ _ => ⟨rfl, e1, (by decide : 0 + 0 ≤ _), (by decide : 0 + 0 ≤ _)⟩)
      dsimp only [Pt.U, Pt.locs, Pt.cells, Pt.slots] at X4 l4 y4 z4 st4 hQ4
      subst l4 y4 z4
      obtain ⟨rfl, N4q, e4⟩ := hQ4
      have N4 := Fr.app N1 N4q
      refine Go.on st4 ?_
      show Go _ _ _ _ _ _ _ _ (mkF m 36 #[.val (.int i0), .val (.int i1), .val (.int i2), .val (.int i3), .val (.int i4), .val (.int (compV i1 i0))] [(.int (compV i3 i0)), (.int (compV i1 i0))])
      refine Go.on (fun _ k => XS.iadd X4.here hx rfl (hb hby d7_36) rfl k) ?_
      show Go _ _ _ _ _ _ _ _ (mkF m 37 #[.val (.int i0), .val (.int i1), .val (.int i2), .val (.int i3), .val (.int i4), .val (.int (compV i1 i0))] [(.int ((compV i1 i0) + (compV i3 i0)))])
      refine Go.on (fun _ k => XS.istore X4.here hx rfl (hb hby d7_37) rfl (l' := #[.val (.int i0), .val (.int i1), .val (.int i2), .val (.int i3), .val (.int i4), .val (.int ((compV i1 i0) + (compV i3 i0)))]) rfl k) ?_
      show Go _ _ _ _ _ _ _ _ (mkF m 39 #[.val (.int i0), .val (.int i1), .val (.int i2), .val (.int i3), .val (.int i4), .val (.int ((compV i1 i0) + (compV i3 i0)))] [])
      refine Go.on (fun _ k => XS.iload X4.here hx rfl (hb hby d7_39) rfl k) ?_
      show Go _ _ _ _ _ _ _ _ (mkF m 41 #[.val (.int i0), .val (.int i1), .val (.int i2), .val (.int i3), .val (.int i4), .val (.int ((compV i1 i0) + (compV i3 i0)))] [(.int ((compV i1 i0) + (compV i3 i0)))])
      refine Go.on (fun _ k => XS.i2dS X4.here hx rfl (hb hby d7_41) rfl rfl k) ?_
      show Go _ _ _ _ _ _ _ _ (mkF m 42 #[.val (.int i0), .val (.int i1), .val (.int i2), .val (.int i3), .val (.int i4), .val (.int ((compV i1 i0) + (compV i3 i0)))] [(.double (FP.i2d ((compV i1 i0) + (compV i3 i0))))])
      refine Go.on (fun _ k => XS.iload X4.here hx rfl (hb hby d7_42) rfl k) ?_
      show Go _ _ _ _ _ _ _ _ (mkF m 44 #[.val (.int i0), .val (.int i1), .val (.int i2), .val (.int i3), .val (.int i4), .val (.int ((compV i1 i0) + (compV i3 i0)))] [(.int i4), (.double (FP.i2d ((compV i1 i0) + (compV i3 i0))))])
      refine Go.on (fun _ k => XS.i2dS X4.here hx rfl (hb hby d7_44) rfl rfl k) ?_
      show Go _ _ _ _ _ _ _ _ (mkF m 45 #[.val (.int i0), .val (.int i1), .val (.int i2), .val (.int i3), .val (.int i4), .val (.int ((compV i1 i0) + (compV i3 i0)))] [(.double (FP.i2d i4)), (.double (FP.i2d ((compV i1 i0) + (compV i3 i0))))])
      refine Go.on (fun _ k => XS.ddivS X4.here hx rfl (hb hby d7_45) rfl (own_nnd' (Jvm.FP.Core.i2d_fin _) _ hn4) rfl k) ?_
      show Go _ _ _ _ _ _ _ _ (mkF m 46 #[.val (.int i0), .val (.int i1), .val (.int i2), .val (.int i3), .val (.int i4), .val (.int ((compV i1 i0) + (compV i3 i0)))] [(.double (FP.ddiv (FP.i2d ((compV i1 i0) + (compV i3 i0))) (FP.i2d i4)))])
      refine Go.retV X4 hx Bd.returns rfl (Or.inr (Or.inr (Or.inl ⟨rfl, rfl, _, rfl⟩))) (hb hby d7_46) ?_ (by rw [hK1]; decide) (by rw [hK2]; decide)
      rw [e4, ← hQQ]
      refine ⟨?_, N4, rfl⟩
      show _ = some (Value.double (expV i0 i1 i2 i3 i4))
      unfold expV; rw [if_pos hc2]; rw [if_neg hc3]
  · -- pc 10 no
    refine Go.on (fun _ k => XS.icmpNo X1.here hx rfl (hb hby d7_10) rfl (flt hc2).1 k) ?_
    show Go _ _ _ _ _ _ _ _ (mkF m 13 #[.val (.int i0), .val (.int i1), .val (.int i2), .val (.int i3), .val (.int i4), .val (.int (compV i1 i0))] [])
    refine Go.on (fun _ k => XS.iload X1.here hx rfl (hb hby d7_13) rfl k) ?_
    show Go _ _ _ _ _ _ _ _ (mkF m 15 #[.val (.int i0), .val (.int i1), .val (.int i2), .val (.int i3), .val (.int i4), .val (.int (compV i1 i0))] [(.int (compV i1 i0))])
    refine Go.on (fun _ k => XS.iloadN X1.here hx rfl (hb hby d7_15) rfl k) ?_
    show Go _ _ _ _ _ _ _ _ (mkF m 16 #[.val (.int i0), .val (.int i1), .val (.int i2), .val (.int i3), .val (.int i4), .val (.int (compV i1 i0))] [(.int i2), (.int (compV i1 i0))])
    refine Go.on (fun _ k => XS.iloadN X1.here hx rfl (hb hby d7_16) rfl k) ?_
    show Go _ _ _ _ _ _ _ _ (mkF m 17 #[.val (.int i0), .val (.int i1), .val (.int i2), .val (.int i3), .val (.int i4), .val (.int (compV i1 i0))] [(.int i0), (.int i2), (.int (compV i1 i0))])
    obtain ⟨_, _, ⟨T5, L5, k5, n5⟩, -, X5, ⟨Lc5, hQ5, l5, y5, z5⟩, st5⟩ := Jvm.LawKit.callS X1 hx (y := (⟨"com/example/d2rank/d2rank/rerank/CentroidAddPinLaw", "comp", "(II)I"⟩ : MethodName)) hown (mvT hZ (hw _ (List.mem_of_getElem? (i := 6) rfl))) (mvT hZ (hw _ (List.mem_of_getElem? (i := 7) rfl))) (mvT hZ (hw _ (List.mem_of_getElem? (i := 3) rfl))) (mvT hZ (hw _ (List.mem_of_getElem? (i := 8) rfl))) (by decide) (backOf (W := 1) (rm2 l Z aw hw [] i2 i0  h0 n0 ZZ ) hZ (hw _ (List.mem_of_getElem? (i := 8) rfl)) (hw _ (List.mem_of_getElem? (i := 3) rfl)) (by decide) (by decide)) (g := (mkF m 17 #[.val (.int i0), .val (.int i1), .val (.int i2), .val (.int i3), .val (.int i4), .val (.int (compV i1 i0))] [(.int i0), (.int i2), (.int (compV i1 i0))])) rfl (by rw [hml]; rfl) (argsL := [(.int i2), (.int i0)]) (rest := [(.int (compV i1 i0))]) (lenOf pd_0 rfl) rfl (by show 2 * 0 + _ ≤ _; exact Nat.le_of_eq rfl) (hb hby d7_17) (fun _ _ => ⟨rfl, e1, (by decide : 0 + 0 ≤ _), (by decide : 0 + 0 ≤ _)⟩)
    dsimp only [Pt.U, Pt.locs, Pt.cells, Pt.slots] at X5 l5 y5 z5 st5 hQ5
    subst l5 y5 z5
    obtain ⟨rfl, N5q, e5⟩ := hQ5
    have N5 := Fr.app N1 N5q
    refine Go.on st5 ?_
    show Go _ _ _ _ _ _ _ _ (mkF m 20 #[.val (.int i0), .val (.int i1), .val (.int i2), .val (.int i3), .val (.int i4), .val (.int (compV i1 i0))] [(.int (compV i2 i0)), (.int (compV i1 i0))])
    refine Go.on (fun _ k => XS.iadd X5.here hx rfl (hb hby d7_20) rfl k) ?_
    show Go _ _ _ _ _ _ _ _ (mkF m 21 #[.val (.int i0), .val (.int i1), .val (.int i2), .val (.int i3), .val (.int i4), .val (.int (compV i1 i0))] [(.int ((compV i1 i0) + (compV i2 i0)))])
    refine Go.on (fun _ k => XS.istore X5.here hx rfl (hb hby d7_21) rfl (l' := #[.val (.int i0), .val (.int i1), .val (.int i2), .val (.int i3), .val (.int i4), .val (.int ((compV i1 i0) + (compV i2 i0)))]) rfl k) ?_
    show Go _ _ _ _ _ _ _ _ (mkF m 23 #[.val (.int i0), .val (.int i1), .val (.int i2), .val (.int i3), .val (.int i4), .val (.int ((compV i1 i0) + (compV i2 i0)))] [])
    refine Go.on (fun _ k => XS.iload X5.here hx rfl (hb hby d7_23) rfl k) ?_
    show Go _ _ _ _ _ _ _ _ (mkF m 25 #[.val (.int i0), .val (.int i1), .val (.int i2), .val (.int i3), .val (.int i4), .val (.int ((compV i1 i0) + (compV i2 i0)))] [(.int i4)])
    refine Go.on (fun _ k => XS.iconst X5.here hx rfl (hb hby d7_25) k) ?_
    show Go _ _ _ _ _ _ _ _ (mkF m 26 #[.val (.int i0), .val (.int i1), .val (.int i2), .val (.int i3), .val (.int i4), .val (.int ((compV i1 i0) + (compV i2 i0)))] [(.int (3 : Int32)), (.int i4)])
    by_cases hc6 : i4 < (3 : Int32)
    · -- pc 26 yes
      refine Go.on (fun _ k => XS.icmpYes X5.here hx rfl (pc0 := 26) (pc' := 39) rfl (hb hby d7_26) rfl (tlt hc6).1 (by decide) (by decide) k) ?_
      show Go _ _ _ _ _ _ _ _ (mkF m 39 #[.val (.int i0), .val (.int i1), .val (.int i2), .val (.int i3), .val (.int i4), .val (.int ((compV i1 i0) + (compV i2 i0)))] [])
      refine Go.on (fun _ k => XS.iload X5.here hx rfl (hb hby d7_39) rfl k) ?_
      show Go _ _ _ _ _ _ _ _ (mkF m 41 #[.val (.int i0), .val (.int i1), .val (.int i2), .val (.int i3), .val (.int i4), .val (.int ((compV i1 i0) + (compV i2 i0)))] [(.int ((compV i1 i0) + (compV i2 i0)))])
      refine Go.on (fun _ k => XS.i2dS X5.here hx rfl (hb hby d7_41) rfl rfl k) ?_
      show Go _ _ _ _ _ _ _ _ (mkF m 42 #[.val (.int i0), .val (.int i1), .val (.int i2), .val (.int i3), .val (.int i4), .val (.int ((compV i1 i0) + (compV i2 i0)))] [(.double (FP.i2d ((compV i1 i0) + (compV i2 i0))))])
      refine Go.on (fun _ k => XS.iload X5.here hx rfl (hb hby d7_42) rfl k) ?_
      show Go _ _ _ _ _ _ _ _ (mkF m 44 #[.val (.int i0), .val (.int i1), .val (.int i2), .val (.int i3), .val (.int i4), .val (.int ((compV i1 i0) + (compV i2 i0)))] [(.int i4), (.double (FP.i2d ((compV i1 i0) + (compV i2 i0))))])
      refine Go.on (fun _ k => XS.i2dS X5.here hx rfl (hb hby d7_44) rfl rfl k) ?_
      show Go _ _ _ _ _ _ _ _ (mkF m 45 #[.val (.int i0), .val (.int i1), .val (.int i2), .val (.int i3), .val (.int i4), .val (.int ((compV i1 i0) + (compV i2 i0)))] [(.double (FP.i2d i4)), (.double (FP.i2d ((compV i1 i0) + (compV i2 i0))))])
      refine Go.on (fun _ k => XS.ddivS X5.here hx rfl (hb hby d7_45) rfl (own_nnd' (Jvm.FP.Core.i2d_fin _) _ hn4) rfl k) ?_
      show Go _ _ _ _ _ _ _ _ (mkF m 46 #[.val (.int i0), .val (.int i1), .val (.int i2), .val (.int i3), .val (.int i4), .val (.int ((compV i1 i0) + (compV i2 i0)))] [(.double (FP.ddiv (FP.i2d ((compV i1 i0) + (compV i2 i0))) (FP.i2d i4)))])
      refine Go.retV X5 hx Bd.returns rfl (Or.inr (Or.inr (Or.inl ⟨rfl, rfl, _, rfl⟩))) (hb hby d7_46) ?_ (by rw [hK1]; decide) (by rw [hK2]; decide)
      rw [e5, ← hQQ]
      refine ⟨?_, N5, rfl⟩
      show _ = some (Value.double (expV i0 i1 i2 i3 i4))
      unfold expV; rw [if_neg hc2]; rw [if_pos hc6]
    · -- pc 26 no
      refine Go.on (fun _ k => XS.icmpNo X5.here hx rfl (hb hby d7_26) rfl (flt hc6).1 k) ?_
      show Go _ _ _ _ _ _ _ _ (mkF m 29 #[.val (.int i0), .val (.int i1), .val (.int i2), .val (.int i3), .val (.int i4), .val (.int ((compV i1 i0) + (compV i2 i0)))] [])
      refine Go.on (fun _ k => XS.iload X5.here hx rfl (hb hby d7_29) rfl k) ?_
      show Go _ _ _ _ _ _ _ _ (mkF m 31 #[.val (.int i0), .val (.int i1), .val (.int i2), .val (.int i3), .val (.int i4), .val (.int ((compV i1 i0) + (compV i2 i0)))] [(.int ((compV i1 i0) + (compV i2 i0)))])
      refine Go.on (fun _ k => XS.iloadN X5.here hx rfl (hb hby d7_31) rfl k) ?_
      show Go _ _ _ _ _ _ _ _ (mkF m 32 #[.val (.int i0), .val (.int i1), .val (.int i2), .val (.int i3), .val (.int i4), .val (.int ((compV i1 i0) + (compV i2 i0)))] [(.int i3), (.int ((compV i1 i0) + (compV i2 i0)))])
      refine Go.on (fun _ k => XS.iloadN X5.here hx rfl (hb hby d7_32) rfl k) ?_
      show Go _ _ _ _ _ _ _ _ (mkF m 33 #[.val (.int i0), .val (.int i1), .val (.int i2), .val (.int i3), .val (.int i4), .val (.int ((compV i1 i0) + (compV i2 i0)))] [(.int i0), (.int i3), (.int ((compV i1 i0) + (compV i2 i0)))])
      obtain ⟨_, _, ⟨T7, L7, k7, n7⟩, -, X7, ⟨Lc7, hQ7, l7, y7, z7⟩, st7⟩ := Jvm.LawKit.callS X5 hx (y := (⟨"com/example/d2rank/d2rank/rerank/CentroidAddPinLaw", "comp", "(II)I"⟩ : MethodName)) hown (mvT hZ (hw _ (List.mem_of_getElem? (i := 6) rfl))) (mvT hZ (hw _ (List.mem_of_getElem? (i := 7) rfl))) (mvT hZ (hw _ (List.mem_of_getElem? (i := 3) rfl))) (mvT hZ (hw _ (List.mem_of_getElem? (i := 8) rfl))) (by decide) (backOf (W := 1) (rm2 l Z aw hw [] i3 i0  h0 n0 ZZ ) hZ (hw _ (List.mem_of_getElem? (i := 8) rfl)) (hw _ (List.mem_of_getElem? (i := 3) rfl)) (by decide) (by decide)) (g := (mkF m 33 #[.val (.int i0), .val (.int i1), .val (.int i2), .val (.int i3), .val (.int i4), .val (.int ((compV i1 i0) + (compV i2 i0)))] [(.int i0), (.int i3), (.int ((compV i1 i0) + (compV i2 i0)))])) rfl (by rw [hml]; rfl) (argsL := [(.int i3), (.int i0)]) (rest := [(.int ((compV i1 i0) + (compV i2 i0)))]) (lenOf pd_0 rfl) rfl (by show 2 * 0 + _ ≤ _; exact Nat.le_of_eq rfl) (hb hby d7_33) (fun _ _ => ⟨rfl, e5, (by decide : 0 + 0 ≤ _), (by decide : 0 + 0 ≤ _)⟩)
      dsimp only [Pt.U, Pt.locs, Pt.cells, Pt.slots] at X7 l7 y7 z7 st7 hQ7
      subst l7 y7 z7
      obtain ⟨rfl, N7q, e7⟩ := hQ7
      have N7 := Fr.app N5 N7q
      refine Go.on st7 ?_
      show Go _ _ _ _ _ _ _ _ (mkF m 36 #[.val (.int i0), .val (.int i1), .val (.int i2), .val (.int i3), .val (.int i4), .val (.int ((compV i1 i0) + (compV i2 i0)))] [(.int (compV i3 i0)), (.int ((compV i1 i0) + (compV i2 i0)))])
      refine Go.on (fun _ k => XS.iadd X7.here hx rfl (hb hby d7_36) rfl k) ?_
      show Go _ _ _ _ _ _ _ _ (mkF m 37 #[.val (.int i0), .val (.int i1), .val (.int i2), .val (.int i3), .val (.int i4), .val (.int ((compV i1 i0) + (compV i2 i0)))] [(.int (((compV i1 i0) + (compV i2 i0)) + (compV i3 i0)))])
      refine Go.on (fun _ k => XS.istore X7.here hx rfl (hb hby d7_37) rfl (l' := #[.val (.int i0), .val (.int i1), .val (.int i2), .val (.int i3), .val (.int i4), .val (.int (((compV i1 i0) + (compV i2 i0)) + (compV i3 i0)))]) rfl k) ?_
      show Go _ _ _ _ _ _ _ _ (mkF m 39 #[.val (.int i0), .val (.int i1), .val (.int i2), .val (.int i3), .val (.int i4), .val (.int (((compV i1 i0) + (compV i2 i0)) + (compV i3 i0)))] [])
      refine Go.on (fun _ k => XS.iload X7.here hx rfl (hb hby d7_39) rfl k) ?_
      show Go _ _ _ _ _ _ _ _ (mkF m 41 #[.val (.int i0), .val (.int i1), .val (.int i2), .val (.int i3), .val (.int i4), .val (.int (((compV i1 i0) + (compV i2 i0)) + (compV i3 i0)))] [(.int (((compV i1 i0) + (compV i2 i0)) + (compV i3 i0)))])
      refine Go.on (fun _ k => XS.i2dS X7.here hx rfl (hb hby d7_41) rfl rfl k) ?_
      show Go _ _ _ _ _ _ _ _ (mkF m 42 #[.val (.int i0), .val (.int i1), .val (.int i2), .val (.int i3), .val (.int i4), .val (.int (((compV i1 i0) + (compV i2 i0)) + (compV i3 i0)))] [(.double (FP.i2d (((compV i1 i0) + (compV i2 i0)) + (compV i3 i0))))])
      refine Go.on (fun _ k => XS.iload X7.here hx rfl (hb hby d7_42) rfl k) ?_
      show Go _ _ _ _ _ _ _ _ (mkF m 44 #[.val (.int i0), .val (.int i1), .val (.int i2), .val (.int i3), .val (.int i4), .val (.int (((compV i1 i0) + (compV i2 i0)) + (compV i3 i0)))] [(.int i4), (.double (FP.i2d (((compV i1 i0) + (compV i2 i0)) + (compV i3 i0))))])
      refine Go.on (fun _ k => XS.i2dS X7.here hx rfl (hb hby d7_44) rfl rfl k) ?_
      show Go _ _ _ _ _ _ _ _ (mkF m 45 #[.val (.int i0), .val (.int i1), .val (.int i2), .val (.int i3), .val (.int i4), .val (.int (((compV i1 i0) + (compV i2 i0)) + (compV i3 i0)))] [(.double (FP.i2d i4)), (.double (FP.i2d (((compV i1 i0) + (compV i2 i0)) + (compV i3 i0))))])
      refine Go.on (fun _ k => XS.ddivS X7.here hx rfl (hb hby d7_45) rfl (own_nnd' (Jvm.FP.Core.i2d_fin _) _ hn4) rfl k) ?_
      show Go _ _ _ _ _ _ _ _ (mkF m 46 #[.val (.int i0), .val (.int i1), .val (.int i2), .val (.int i3), .val (.int i4), .val (.int (((compV i1 i0) + (compV i2 i0)) + (compV i3 i0)))] [(.double (FP.ddiv (FP.i2d (((compV i1 i0) + (compV i2 i0)) + (compV i3 i0))) (FP.i2d i4)))])
      refine Go.retV X7 hx Bd.returns rfl (Or.inr (Or.inr (Or.inl ⟨rfl, rfl, _, rfl⟩))) (hb hby d7_46) ?_ (by rw [hK1]; decide) (by rw [hK2]; decide)
      rw [e7, ← hQQ]
      refine ⟨?_, N7, rfl⟩
      show _ = some (Value.double (expV i0 i1 i2 i3 i4))
      unfold expV; rw [if_neg hc2]; rw [if_neg hc6]
section PureLaw
open Jvm.FP.Core
theorem own_cb (a i : Int32) : (compV a i).toInt.natAbs ≤ 1 := by
  unfold compV
  split
  · split <;> decide
  · decide
theorem own_d1 (a k : Int32) : DInt ((compV a k).toInt) (FP.dadd (0 : UInt64) (FP.i2d (compV a k))) := by
  have h := own_cb a k
  have := dadd_int own_dz (i2d_int (compV a k)) (by omega)
  rwa [Int.zero_add] at this
theorem own_d2 (a b k : Int32) : DInt ((compV a k).toInt + (compV b k).toInt) (FP.dadd (FP.dadd (0 : UInt64) (FP.i2d (compV a k))) (FP.i2d (compV b k))) := by
  have h := own_cb a k
  have h2 := own_cb b k
  exact dadd_int (own_d1 a k) (i2d_int (compV b k)) (by omega)
theorem own_d3 (a b c k : Int32) : DInt ((compV a k).toInt + (compV b k).toInt + (compV c k).toInt) (FP.dadd (FP.dadd (FP.dadd (0 : UInt64) (FP.i2d (compV a k))) (FP.i2d (compV b k))) (FP.i2d (compV c k))) := by
  have h := own_cb a k
  have h2 := own_cb b k
  have h3 := own_cb c k
  exact dadd_int (own_d2 a b k) (i2d_int (compV c k)) (by omega)
theorem own_s1 (a k : Int32) : ZV (FP.dadd (0 : UInt64) (FP.i2d (compV a k))) ((compV a k).toInt * (one64 : Int)) := ZV.of_int (own_d1 a k)
theorem own_s2 (a b k : Int32) : ZV (FP.dadd (FP.dadd (0 : UInt64) (FP.i2d (compV a k))) (FP.i2d (compV b k))) (((compV a k).toInt + (compV b k).toInt) * (one64 : Int)) := ZV.of_int (own_d2 a b k)
theorem own_s3 (a b c k : Int32) : ZV (FP.dadd (FP.dadd (FP.dadd (0 : UInt64) (FP.i2d (compV a k))) (FP.i2d (compV b k))) (FP.i2d (compV c k))) (((compV a k).toInt + (compV b k).toInt + (compV c k).toInt) * (one64 : Int)) := ZV.of_int (own_d3 a b c k)
theorem own_nval {k n : Int32} (h : ((1 : Int32) + ((k &&& (2147483647 : Int32)) % (3 : Int32))) = n) : 1 ≤ n.toInt ∧ n.toInt ≤ 3 := by
  have e1 : (k &&& 2147483647).toInt = k.toInt % 2 ^ 31 := Jvm.Kit.i32_mask k 2147483647 (k := 31) (by decide) (by decide)
  have l3 : (3 : Int32).toInt = 3 := by decide
  have l1 : (1 : Int32).toInt = 1 := by decide
  have e2 : ((k &&& (2147483647 : Int32)) % (3 : Int32)).toInt = k.toInt % 2 ^ 31 % 3 := by
    rw [Int32.toInt_mod, e1, l3, Int.tmod_eq_emod_of_nonneg (by omega)]
  rw [← h, Jvm.Kit.i32_add (by rw [e2, l1]; omega) (by rw [e2, l1]; omega), e2, l1]; omega
theorem own_n0 {k n : Int32} (h : ((1 : Int32) + ((k &&& (2147483647 : Int32)) % (3 : Int32))) = n) : n ≠ 0 := fun q => by
  have := own_nval h; subst q; revert this; decide
theorem own_lt3 {n : Int32} (h : n < (2 : Int32)) : n < (3 : Int32) := by
  rw [Int32.lt_iff_toInt_lt] at h ⊢
  have l2 : (2 : Int32).toInt = 2 := by decide
  have l3 : (3 : Int32).toInt = 3 := by decide
  omega
theorem own_is {n : Int32} {m : Int32} (h : n.toInt = m.toInt) : n = m := Int32.toInt_inj.mp h
theorem own_fin1 {d n : Int32} (a b c k : Int32) (hn : ((1 : Int32) + ((d &&& (2147483647 : Int32)) % (3 : Int32))) = n) (h : n < (2 : Int32)) :
    (cmpValue (FP.dcmp (FP.ddiv (FP.dadd (0 : UInt64) (FP.i2d (compV a k))) (FP.i2d (1 : Int32))) (expV k a b c n)) .l) = (0 : Int32) := by
  have b1 := own_nval hn
  have l2 : (2 : Int32).toInt = 2 := by decide
  have e : n = 1 := own_is (by rw [Int32.lt_iff_toInt_lt] at h; rw [show (1 : Int32).toInt = 1 from by decide]; omega)
  subst e
  unfold expV
  rw [if_pos (by decide), if_pos (by decide), own_c_eq]
  exact own_div_eq (own_d1 a k) (i2d_int (compV a k)) 1 (by decide)
theorem own_sum2 (a b k : Int32) : (compV a k + compV b k).toInt = (compV a k).toInt + (compV b k).toInt := by
  have h := own_cb a k
  have h2 := own_cb b k
  exact Jvm.Kit.i32_add (by omega) (by omega)
theorem own_sum3 (a b c k : Int32) : (compV a k + compV b k + compV c k).toInt = (compV a k).toInt + (compV b k).toInt + (compV c k).toInt := by
  have h := own_cb a k
  have h2 := own_cb b k
  have h3 := own_cb c k
  have e := own_sum2 a b k
  rw [Jvm.Kit.i32_add (by rw [e]; omega) (by rw [e]; omega), e]
theorem own_fin2 {d n : Int32} (a b c k : Int32) (hn : ((1 : Int32) + ((d &&& (2147483647 : Int32)) % (3 : Int32))) = n) (h : ¬ n < (2 : Int32)) (h' : n < (3 : Int32)) :
    (cmpValue (FP.dcmp (FP.ddiv (FP.dadd (FP.dadd (0 : UInt64) (FP.i2d (compV a k))) (FP.i2d (compV b k))) (FP.i2d (2 : Int32))) (expV k a b c n)) .l) = (0 : Int32) := by
  have b1 := own_nval hn
  have l2 : (2 : Int32).toInt = 2 := by decide
  have l3 : (3 : Int32).toInt = 3 := by decide
  have e : n = 2 := own_is (by rw [Int32.lt_iff_toInt_lt] at h h'; omega)
  subst e
  unfold expV
  rw [if_neg (by decide), if_pos (by decide), own_c_eq]
  refine own_div_eq (own_d2 a b k) ?_ 2 (by decide)
  rw [← own_sum2]; exact i2d_int _
theorem own_fin3 {d n : Int32} (a b c k : Int32) (hn : ((1 : Int32) + ((d &&& (2147483647 : Int32)) % (3 : Int32))) = n) (h : ¬ n < (2 : Int32)) (h' : ¬ n < (3 : Int32)) :
    (cmpValue (FP.dcmp (FP.ddiv (FP.dadd (FP.dadd (FP.dadd (0 : UInt64) (FP.i2d (compV a k))) (FP.i2d (compV b k))) (FP.i2d (compV c k))) (FP.i2d (3 : Int32))) (expV k a b c n)) .l) = (0 : Int32) := by
  have b1 := own_nval hn
  have l2 : (2 : Int32).toInt = 2 := by decide
  have l3 : (3 : Int32).toInt = 3 := by decide
  have e : n = 3 := own_is (by rw [Int32.lt_iff_toInt_lt] at h h'; omega)
  subst e
  unfold expV
  rw [if_neg (by decide), if_neg (by decide), own_c_eq]
  refine own_div_eq (own_d3 a b c k) ?_ 3 (by decide)
  rw [← own_sum3]; exact i2d_int _
end PureLaw

theorem pd_1 : parseMethodDescriptor "(I)[D" = some ⟨[.int], some (.array .double)⟩ := by decide +kernel
theorem pd_2 : parseMethodDescriptor "(I)V" = some ⟨[.int], none⟩ := by decide +kernel
theorem pd_3 : parseMethodDescriptor "([D)V" = some ⟨[(.array .double)], none⟩ := by decide +kernel
theorem pd_4 : parseMethodDescriptor "()[D" = some ⟨[], some (.array .double)⟩ := by decide +kernel
theorem pd_5 : parseMethodDescriptor "(IIIII)D" = some ⟨[.int, .int, .int, .int, .int], some .double⟩ := by decide +kernel
theorem ef_rm0 (m : MethodId) (i0 : Int32) (i1 : Int32) (i2 : Int32) (i3 : Int32) : entryFrame m #[(.int i0), (.int i1), (.int i2), (.int i3)] maxLocals = mkF m 0 #[.val (.int i0), .val (.int i1), .val (.int i2), .val (.int i3), .unset, .unset, .unset, .unset, .unset, .unset] [] := by first | (simp [entryFrame, mkF, argsToLocals, Value.category, maxLocals]; done) | rfl
def Q_rm0 (Z : State) (i0 : Int32) (i1 : Int32) (i2 : Int32) (i3 : Int32) (h0 : Heap) (n0 : Nat) (v : Option Value) (h : Heap) (L : List Loc) : Prop := v = some (.int 1) ∧ Fr n0 L
set_option maxRecDepth 65536 in
set_option maxHeartbeats 40000000 in
theorem rm0 (l : Launch) (Z : State) (aw : Array Value) (hw : ∀ d ∈ tables_1, d.before aw Z = true) (ws : List Jvm.Cond) (i0 : Int32) (i1 : Int32) (i2 : Int32) (i3 : Int32) (h0 : Heap) (n0 : Nat) (Z0 : n0 ≤ h0.size) :
    MetFree l x (head1 (Jvm.Cond.code x code maxLocals ret :: ws) room_1) (fun a U => a = #[(.int i0), (.int i1), (.int i2), (.int i3)] ∧ Z.Warmed39 U.vm ∧ U.heap = h0) (fun _ _ _ _ _ => True) (fun _ U o U' => ∃ v L, o = .returned v ∧ Q_rm0 Z i0 i1 i2 i3 h0 n0 v U'.heap L ∧ FrameEnd U o U' L 6 17) := by
  refine MetFree.of_bodySF (plainFor_of_name pn_0) hisR ?_
  intro p e s m args below meth c s₁ Bd hml0 hP hK
  obtain ⟨rfl, hZ, hh⟩ := hP
  have hx := Bd.exec
  have hby := Bd.bytes
  have hml : c.maxLocals = 10 := hml0
  have hown : s.vm.findClass "com/example/d2rank/d2rank/rerank/CentroidAddPinLaw" = some m.cls := findClass_of_methodNamed Bd.named
  have hnm := (name_of_methodNamed Bd.named Bd.method).1
  have hlk : meth.locks = false := BodyLoose.notSynchronized Bd
  have X0 : Stand p l e room_1 s m #[(.int i0), (.int i1), (.int i2), (.int i3)] below meth c s₁ [] 0 0 := Stand.of_body Bd
  have e0 : s₁.heap = h0 := by rw [← hh, Bd.state]; rfl
  have N0 := Fr.nil n0
  have ZZ := Z0
  show Go p e below s 6 17 (fun v h L => Q_rm0 Z i0 i1 i2 i3 h0 n0 v h L) s₁ (entryFrame m #[(.int i0), (.int i1), (.int i2), (.int i3)] maxLocals)
  refine Go.cast (ef_rm0 m i0 i1 i2 i3) ?_
  refine Go.gen ?_
  intro K1 K2 QQ hK1 hK2 hQQ
  refine Go.on (fun _ k => XS.iconst X0.here hx rfl (hb hby at_0) k) ?_
  show Go _ _ _ _ _ _ _ _ (mkF m 1 #[.val (.int i0), .val (.int i1), .val (.int i2), .val (.int i3), .unset, .unset, .unset, .unset, .unset, .unset] [(.int (1 : Int32))])
  refine Go.on (fun _ k => XS.iloadN X0.here hx rfl (hb hby at_1) rfl k) ?_
  show Go _ _ _ _ _ _ _ _ (mkF m 2 #[.val (.int i0), .val (.int i1), .val (.int i2), .val (.int i3), .unset, .unset, .unset, .unset, .unset, .unset] [(.int i3), (.int (1 : Int32))])
  refine Go.on (fun _ k => X0.ldcI hx hown (mvT hZ (hw _ (List.mem_of_getElem? (i := 0) rfl))) rfl (hb hby at_2) k) ?_
  show Go _ _ _ _ _ _ _ _ (mkF m 4 #[.val (.int i0), .val (.int i1), .val (.int i2), .val (.int i3), .unset, .unset, .unset, .unset, .unset, .unset] [(.int (2147483647 : Int32)), (.int i3), (.int (1 : Int32))])
  refine Go.on (fun _ k => XS.iand X0.here hx rfl (hb hby at_4) rfl k) ?_
  show Go _ _ _ _ _ _ _ _ (mkF m 5 #[.val (.int i0), .val (.int i1), .val (.int i2), .val (.int i3), .unset, .unset, .unset, .unset, .unset, .unset] [(.int (i3 &&& (2147483647 : Int32))), (.int (1 : Int32))])
  refine Go.on (fun _ k => XS.iconst X0.here hx rfl (hb hby at_5) k) ?_
  show Go _ _ _ _ _ _ _ _ (mkF m 6 #[.val (.int i0), .val (.int i1), .val (.int i2), .val (.int i3), .unset, .unset, .unset, .unset, .unset, .unset] [(.int (3 : Int32)), (.int (i3 &&& (2147483647 : Int32))), (.int (1 : Int32))])
  refine Go.on (fun _ k => iremM X0 hx rfl (hb hby at_6) rfl (by decide) k) ?_
  show Go _ _ _ _ _ _ _ _ (mkF m 7 #[.val (.int i0), .val (.int i1), .val (.int i2), .val (.int i3), .unset, .unset, .unset, .unset, .unset, .unset] [(.int ((i3 &&& (2147483647 : Int32)) % (3 : Int32))), (.int (1 : Int32))])
  refine Go.on (fun _ k => XS.iadd X0.here hx rfl (hb hby at_7) rfl k) ?_
  show Go _ _ _ _ _ _ _ _ (mkF m 8 #[.val (.int i0), .val (.int i1), .val (.int i2), .val (.int i3), .unset, .unset, .unset, .unset, .unset, .unset] [(.int ((1 : Int32) + ((i3 &&& (2147483647 : Int32)) % (3 : Int32))))])
  refine Go.on (fun _ k => XS.istore X0.here hx rfl (hb hby at_8) rfl (l' := #[.val (.int i0), .val (.int i1), .val (.int i2), .val (.int i3), .val (.int ((1 : Int32) + ((i3 &&& (2147483647 : Int32)) % (3 : Int32)))), .unset, .unset, .unset, .unset, .unset]) rfl k) ?_
  show Go _ _ _ _ _ _ _ _ (mkF m 10 #[.val (.int i0), .val (.int i1), .val (.int i2), .val (.int i3), .val (.int ((1 : Int32) + ((i3 &&& (2147483647 : Int32)) % (3 : Int32)))), .unset, .unset, .unset, .unset, .unset] [])
  generalize hn : ((1 : Int32) + ((i3 &&& (2147483647 : Int32)) % (3 : Int32))) = n
  show Go _ _ _ _ _ _ _ _ (mkF m 10 #[.val (.int i0), .val (.int i1), .val (.int i2), .val (.int i3), .val (.int n), .unset, .unset, .unset, .unset, .unset] [])
  refine Go.on (fun _ k => XS.iloadN X0.here hx rfl (hb hby at_10) rfl k) ?_
  show Go _ _ _ _ _ _ _ _ (mkF m 11 #[.val (.int i0), .val (.int i1), .val (.int i2), .val (.int i3), .val (.int n), .unset, .unset, .unset, .unset, .unset] [(.int i0)])
  obtain ⟨_, _, ⟨T1, L1, k1, n1⟩, -, X1, ⟨Lc1, hQ1, l1, y1, z1⟩, st1⟩ := Jvm.LawKit.callS X0 hx (y := (⟨"com/example/d2rank/d2rank/rerank/CentroidAddPinLaw", "axis", "(I)[D"⟩ : MethodName)) hown (mvT hZ (hw _ (List.mem_of_getElem? (i := 1) rfl))) (mvT hZ (hw _ (List.mem_of_getElem? (i := 2) rfl))) (mvT hZ (hw _ (List.mem_of_getElem? (i := 3) rfl))) (mvT hZ (hw _ (List.mem_of_getElem? (i := 4) rfl))) (by decide) (backOf (W := 0) (rm1 l Z aw hw [] i0  h0 n0 ZZ ) hZ (hw _ (List.mem_of_getElem? (i := 4) rfl)) (hw _ (List.mem_of_getElem? (i := 3) rfl)) (by decide) (by decide)) (g := (mkF m 11 #[.val (.int i0), .val (.int i1), .val (.int i2), .val (.int i3), .val (.int n), .unset, .unset, .unset, .unset, .unset] [(.int i0)])) rfl (by rw [hml]; rfl) (argsL := [(.int i0)]) (rest := []) (lenOf pd_1 rfl) rfl (by show 2 * 0 + _ ≤ _; exact Nat.le_of_eq rfl) (hb hby at_11) (fun _ _ => ⟨rfl, e0, (by decide : 0 + 1 ≤ _), (by decide : 0 + 3 ≤ _)⟩)
  dsimp only [Pt.U, Pt.locs, Pt.cells, Pt.slots] at X1 l1 y1 z1 st1 hQ1
  subst l1 y1 z1
  obtain ⟨h1, e1⟩ : ∃ q, T1.heap = q := ⟨_, rfl⟩
  rw [e1] at hQ1
  obtain ⟨u, k_u, rfl, N1q, K1q, szq1, V_u⟩ := hQ1
  have N1 := Fr.app N0 N1q
  have g_u : n0 ≤ u := Nat.le_trans ZZ szq1
  replace ZZ := Nat.le_trans ZZ K1q.1
  refine Go.on st1 ?_
  show Go _ _ _ _ _ _ _ _ (mkF m 14 #[.val (.int i0), .val (.int i1), .val (.int i2), .val (.int i3), .val (.int n), .unset, .unset, .unset, .unset, .unset] [(.ref u)])
  refine Go.on (fun _ k => XS.astore X1.here hx rfl (hb hby at_14) rfl rfl (l' := #[.val (.int i0), .val (.int i1), .val (.int i2), .val (.int i3), .val (.int n), .val (.ref u), .unset, .unset, .unset, .unset]) rfl k) ?_
  show Go _ _ _ _ _ _ _ _ (mkF m 16 #[.val (.int i0), .val (.int i1), .val (.int i2), .val (.int i3), .val (.int n), .val (.ref u), .unset, .unset, .unset, .unset] [])
  refine Go.on (fun _ k => XS.iloadN X1.here hx rfl (hb hby at_16) rfl k) ?_
  show Go _ _ _ _ _ _ _ _ (mkF m 17 #[.val (.int i0), .val (.int i1), .val (.int i2), .val (.int i3), .val (.int n), .val (.ref u), .unset, .unset, .unset, .unset] [(.int i1)])
  obtain ⟨_, _, ⟨T2, L2, k2, n2⟩, -, X2, ⟨Lc2, hQ2, l2, y2, z2⟩, st2⟩ := Jvm.LawKit.callS X1 hx (y := (⟨"com/example/d2rank/d2rank/rerank/CentroidAddPinLaw", "axis", "(I)[D"⟩ : MethodName)) hown (mvT hZ (hw _ (List.mem_of_getElem? (i := 1) rfl))) (mvT hZ (hw _ (List.mem_of_getElem? (i := 2) rfl))) (mvT hZ (hw _ (List.mem_of_getElem? (i := 3) rfl))) (mvT hZ (hw _ (List.mem_of_getElem? (i := 4) rfl))) (by decide) (backOf (W := 0) (rm1 l Z aw hw [] i1  h1 n0 ZZ ) hZ (hw _ (List.mem_of_getElem? (i := 4) rfl)) (hw _ (List.mem_of_getElem? (i := 3) rfl)) (by decide) (by decide)) (g := (mkF m 17 #[.val (.int i0), .val (.int i1), .val (.int i2), .val (.int i3), .val (.int n), .val (.ref u), .unset, .unset, .unset, .unset] [(.int i1)])) rfl (by rw [hml]; rfl) (argsL := [(.int i1)]) (rest := []) (lenOf pd_1 rfl) rfl (by show 2 * 0 + _ ≤ _; exact Nat.le_of_eq rfl) (hb hby at_17) (fun _ _ => ⟨rfl, e1, (by decide : 1 + 1 ≤ _), (by decide : 3 + 3 ≤ _)⟩)
  dsimp only [Pt.U, Pt.locs, Pt.cells, Pt.slots] at X2 l2 y2 z2 st2 hQ2
  subst l2 y2 z2
  obtain ⟨h2, e2⟩ : ∃ q, T2.heap = q := ⟨_, rfl⟩
  rw [e2] at hQ2
  obtain ⟨v, k_v, rfl, N2q, K2q, szq2, V_v⟩ := hQ2
  have N2 := Fr.app N1 N2q
  have g_v : n0 ≤ v := Nat.le_trans ZZ szq2
  have ne_u_v : u ≠ v := Nat.ne_of_lt (Nat.lt_of_lt_of_le V_u.lt szq2)
  replace V_u := V_u.keep K2q nin0
  replace ZZ := Nat.le_trans ZZ K2q.1
  refine Go.on st2 ?_
  show Go _ _ _ _ _ _ _ _ (mkF m 20 #[.val (.int i0), .val (.int i1), .val (.int i2), .val (.int i3), .val (.int n), .val (.ref u), .unset, .unset, .unset, .unset] [(.ref v)])
  refine Go.on (fun _ k => XS.astore X2.here hx rfl (hb hby at_20) rfl rfl (l' := #[.val (.int i0), .val (.int i1), .val (.int i2), .val (.int i3), .val (.int n), .val (.ref u), .val (.ref v), .unset, .unset, .unset]) rfl k) ?_
  show Go _ _ _ _ _ _ _ _ (mkF m 22 #[.val (.int i0), .val (.int i1), .val (.int i2), .val (.int i3), .val (.int n), .val (.ref u), .val (.ref v), .unset, .unset, .unset] [])
  refine Go.on (fun _ k => XS.iloadN X2.here hx rfl (hb hby at_22) rfl k) ?_
  show Go _ _ _ _ _ _ _ _ (mkF m 23 #[.val (.int i0), .val (.int i1), .val (.int i2), .val (.int i3), .val (.int n), .val (.ref u), .val (.ref v), .unset, .unset, .unset] [(.int i2)])
  obtain ⟨_, _, ⟨T3, L3, k3, n3⟩, -, X3, ⟨Lc3, hQ3, l3, y3, z3⟩, st3⟩ := Jvm.LawKit.callS X2 hx (y := (⟨"com/example/d2rank/d2rank/rerank/CentroidAddPinLaw", "axis", "(I)[D"⟩ : MethodName)) hown (mvT hZ (hw _ (List.mem_of_getElem? (i := 1) rfl))) (mvT hZ (hw _ (List.mem_of_getElem? (i := 2) rfl))) (mvT hZ (hw _ (List.mem_of_getElem? (i := 3) rfl))) (mvT hZ (hw _ (List.mem_of_getElem? (i := 4) rfl))) (by decide) (backOf (W := 0) (rm1 l Z aw hw [] i2  h2 n0 ZZ ) hZ (hw _ (List.mem_of_getElem? (i := 4) rfl)) (hw _ (List.mem_of_getElem? (i := 3) rfl)) (by decide) (by decide)) (g := (mkF m 23 #[.val (.int i0), .val (.int i1), .val (.int i2), .val (.int i3), .val (.int n), .val (.ref u), .val (.ref v), .unset, .unset, .unset] [(.int i2)])) rfl (by rw [hml]; rfl) (argsL := [(.int i2)]) (rest := []) (lenOf pd_1 rfl) rfl (by show 2 * 0 + _ ≤ _; exact Nat.le_of_eq rfl) (hb hby at_23) (fun _ _ => ⟨rfl, e2, (by decide : 2 + 1 ≤ _), (by decide : 6 + 3 ≤ _)⟩)
  dsimp only [Pt.U, Pt.locs, Pt.cells, Pt.slots] at X3 l3 y3 z3 st3 hQ3
  subst l3 y3 z3
  obtain ⟨h3, e3⟩ : ∃ q, T3.heap = q := ⟨_, rfl⟩
  rw [e3] at hQ3
  obtain ⟨ww, k_ww, rfl, N3q, K3q, szq3, V_ww⟩ := hQ3
  have N3 := Fr.app N2 N3q
  have g_ww : n0 ≤ ww := Nat.le_trans ZZ szq3
  have ne_u_ww : u ≠ ww := Nat.ne_of_lt (Nat.lt_of_lt_of_le V_u.lt szq3)
  have ne_v_ww : v ≠ ww := Nat.ne_of_lt (Nat.lt_of_lt_of_le V_v.lt szq3)
  replace V_u := V_u.keep K3q nin0
  replace V_v := V_v.keep K3q nin0
  replace ZZ := Nat.le_trans ZZ K3q.1
  refine Go.on st3 ?_
  show Go _ _ _ _ _ _ _ _ (mkF m 26 #[.val (.int i0), .val (.int i1), .val (.int i2), .val (.int i3), .val (.int n), .val (.ref u), .val (.ref v), .unset, .unset, .unset] [(.ref ww)])
  refine Go.on (fun _ k => XS.astore X3.here hx rfl (hb hby at_26) rfl rfl (l' := #[.val (.int i0), .val (.int i1), .val (.int i2), .val (.int i3), .val (.int n), .val (.ref u), .val (.ref v), .val (.ref ww), .unset, .unset]) rfl k) ?_
  show Go _ _ _ _ _ _ _ _ (mkF m 28 #[.val (.int i0), .val (.int i1), .val (.int i2), .val (.int i3), .val (.int n), .val (.ref u), .val (.ref v), .val (.ref ww), .unset, .unset] [])
  obtain ⟨T4, h4, X4, e4, E4, A4, D4, -, st4⟩ := newO X3 hx hZ hown (hw _ (List.mem_of_getElem? (i := 9) rfl)) (hw _ (List.mem_of_getElem? (i := 10) rfl)) (hw _ (List.mem_of_getElem? (i := 11) rfl)) e3 (g := (mkF m 28 #[.val (.int i0), .val (.int i1), .val (.int i2), .val (.int i3), .val (.int n), .val (.ref u), .val (.ref v), .val (.ref ww), .unset, .unset] [])) rfl (hb hby at_28) (by decide) (by decide)
  obtain ⟨q, g4⟩ : ∃ z, z = h3.size := ⟨_, rfl⟩
  have ne_u_q : u ≠ q := Nat.ne_of_lt (Nat.lt_of_lt_of_le V_u.lt (Nat.le_of_eq g4.symm))
  have ne_v_q : v ≠ q := Nat.ne_of_lt (Nat.lt_of_lt_of_le V_v.lt (Nat.le_of_eq g4.symm))
  have ne_ww_q : ww ≠ q := Nat.ne_of_lt (Nat.lt_of_lt_of_le V_ww.lt (Nat.le_of_eq g4.symm))
  have g_q : n0 ≤ q := Nat.le_trans ZZ (Nat.le_of_eq g4.symm)
  rw [← g4] at A4 D4 st4
  replace V_u := V_u.ext E4
  replace V_v := V_v.ext E4
  replace V_ww := V_ww.ext E4
  replace ZZ := Nat.le_trans ZZ E4.1
  have E_q := A4
  have F_sum_q : Fld Z h4 q "com/example/d2rank/d2rank/rerank/Centroid" "sum" "[D" .null := D4 (Or.inr (hw _ (List.mem_of_getElem? (i := 19) rfl))) (ty := (.array .double)) (by decide)
  have F_count_q : Fld Z h4 q "com/example/d2rank/d2rank/rerank/Centroid" "count" "I" (.int (0 : Int32)) := D4 (Or.inl (hw _ (List.mem_of_getElem? (i := 26) rfl))) (ty := .int) (by decide)
  refine Go.on st4 ?_
  show Go _ _ _ _ _ _ _ _ (mkF m 31 #[.val (.int i0), .val (.int i1), .val (.int i2), .val (.int i3), .val (.int n), .val (.ref u), .val (.ref v), .val (.ref ww), .unset, .unset] [(.ref q)])
  refine Go.on (fun _ k => XS.dup X4.here hx rfl (hb hby at_31) rfl rfl k) ?_
  show Go _ _ _ _ _ _ _ _ (mkF m 32 #[.val (.int i0), .val (.int i1), .val (.int i2), .val (.int i3), .val (.int n), .val (.ref u), .val (.ref v), .val (.ref ww), .unset, .unset] [(.ref q), (.ref q)])
  refine Go.on (fun _ k => XS.iconst X4.here hx rfl (hb hby at_32) k) ?_
  show Go _ _ _ _ _ _ _ _ (mkF m 33 #[.val (.int i0), .val (.int i1), .val (.int i2), .val (.int i3), .val (.int n), .val (.ref u), .val (.ref v), .val (.ref ww), .unset, .unset] [(.int (3 : Int32)), (.ref q), (.ref q)])
  obtain ⟨_, _, ⟨T5, L5, k5, n5⟩, -, X5, ⟨Lc5, hQ5, l5, y5, z5⟩, st5⟩ := X4.specialBack hx (y := (⟨"com/example/d2rank/d2rank/rerank/Centroid", "<init>", "(I)V"⟩ : MethodName)) rfl hown (mvT hZ (hw _ (List.mem_of_getElem? (i := 12) rfl))) (mvT hZ (hw _ (List.mem_of_getElem? (i := 13) rfl))) (mvT hZ (hw _ (List.mem_of_getElem? (i := 14) rfl))) (by decide) (backOf (W := 1) (ci_3 l Z aw hw [] q .null h4 n0 ZZ E_q F_sum_q F_count_q g_q) hZ (hw _ (List.mem_of_getElem? (i := 14) rfl)) (hw _ (List.mem_of_getElem? (i := 11) rfl)) (by decide) (by decide)) (g := (mkF m 33 #[.val (.int i0), .val (.int i1), .val (.int i2), .val (.int i3), .val (.int n), .val (.ref u), .val (.ref v), .val (.ref ww), .unset, .unset] [(.int (3 : Int32)), (.ref q), (.ref q)])) rfl (by rw [hml]; rfl) (Steps.refl _) (a := q) (argsL := [(.int (3 : Int32))]) (rest := [(.ref q)]) (lenOf pd_2 rfl) rfl (by show 2 * 0 + _ ≤ _; exact Nat.le_of_eq rfl) (hb hby at_33) (fun _ _ => ⟨rfl, e4, (by decide : 4 + 1 ≤ _), (by decide : 11 + 3 ≤ _)⟩)
  dsimp only [Pt.U, Pt.locs, Pt.cells, Pt.slots] at X5 l5 y5 z5 st5 hQ5
  subst l5 y5 z5
  obtain ⟨h5, e5⟩ : ∃ q, T5.heap = q := ⟨_, rfl⟩
  rw [e5] at hQ5
  obtain ⟨rfl, N5q, ar, k_ar, K5q, szarq, Eq5, F_sumq5, F_countq5, V_ar⟩ := hQ5
  have N5 := Fr.app N3 N5q
  have ZZ5p := ZZ
  have lt_u := V_u.lt
  have lt_v := V_v.lt
  have lt_ww := V_ww.lt
  have lt_q := E_q.lt
  replace V_u := V_u.keep K5q (ninS ne_u_q nin0)
  replace V_v := V_v.keep K5q (ninS ne_v_q nin0)
  replace V_ww := V_ww.keep K5q (ninS ne_ww_q nin0)
  replace E_q := E_q.keep K5q
  replace ZZ := Nat.le_trans ZZ K5q.1
  have F_sum_q := F_sumq5
  have F_count_q := F_countq5
  have g_ar : n0 ≤ ar := Nat.le_trans ZZ5p szarq
  have ne_u_ar : u ≠ ar := Nat.ne_of_lt (Nat.lt_of_lt_of_le lt_u szarq)
  have ne_v_ar : v ≠ ar := Nat.ne_of_lt (Nat.lt_of_lt_of_le lt_v szarq)
  have ne_ww_ar : ww ≠ ar := Nat.ne_of_lt (Nat.lt_of_lt_of_le lt_ww szarq)
  have ne_q_ar : q ≠ ar := Nat.ne_of_lt (Nat.lt_of_lt_of_le lt_q szarq)
  refine Go.on (fun _ k => st5.trans k) ?_
  show Go _ _ _ _ _ _ _ _ (mkF m 36 #[.val (.int i0), .val (.int i1), .val (.int i2), .val (.int i3), .val (.int n), .val (.ref u), .val (.ref v), .val (.ref ww), .unset, .unset] [(.ref q)])
  refine Go.on (fun _ k => XS.astore X5.here hx rfl (hb hby at_36) rfl rfl (l' := #[.val (.int i0), .val (.int i1), .val (.int i2), .val (.int i3), .val (.int n), .val (.ref u), .val (.ref v), .val (.ref ww), .val (.ref q), .unset]) rfl k) ?_
  show Go _ _ _ _ _ _ _ _ (mkF m 38 #[.val (.int i0), .val (.int i1), .val (.int i2), .val (.int i3), .val (.int n), .val (.ref u), .val (.ref v), .val (.ref ww), .val (.ref q), .unset] [])
  refine Go.on (fun _ k => XS.aload X5.here hx rfl (hb hby at_38) rfl rfl k) ?_
  show Go _ _ _ _ _ _ _ _ (mkF m 40 #[.val (.int i0), .val (.int i1), .val (.int i2), .val (.int i3), .val (.int n), .val (.ref u), .val (.ref v), .val (.ref ww), .val (.ref q), .unset] [(.ref q)])
  refine Go.on (fun _ k => XS.aload X5.here hx rfl (hb hby at_40) rfl rfl k) ?_
  show Go _ _ _ _ _ _ _ _ (mkF m 42 #[.val (.int i0), .val (.int i1), .val (.int i2), .val (.int i3), .val (.int n), .val (.ref u), .val (.ref v), .val (.ref ww), .val (.ref q), .unset] [(.ref u), (.ref q)])
  obtain ⟨cq6, kq6, q6a, q6b, q6c⟩ := isOf hZ e5 E_q
  obtain ⟨_, _, ⟨T6, L6, k6, n6⟩, -, X6, ⟨Lc6, hQ6, l6, y6, z6⟩, st6⟩ := X5.virtualBack hx (y := (⟨"com/example/d2rank/d2rank/rerank/Centroid", "add", "([D)V"⟩ : MethodName)) (z := (⟨"com/example/d2rank/d2rank/rerank/Centroid", "add", "([D)V"⟩ : MethodName)) hown (mvT hZ (hw _ (List.mem_of_getElem? (i := 20) rfl))) (mvT hZ (hw _ (List.mem_of_getElem? (i := 21) rfl))) (notFace_of_selects (args := #[]) (mvT hZ (hw _ (List.mem_of_getElem? (i := 23) rfl)))) (mvT hZ (hw _ (List.mem_of_getElem? (i := 23) rfl))) (mvT hZ (hw _ (List.mem_of_getElem? (i := 22) rfl))) (by decide) (backOf (W := 0) (ca_3 l Z aw hw [] q u ar (0 : Int32) k_ar (0 : UInt64) (0 : UInt64) (0 : UInt64) k_u (FP.i2d (compV i0 (0 : Int32))) (FP.i2d (compV i0 (1 : Int32))) (FP.i2d (compV i0 (2 : Int32))) h5 n0 ZZ E_q F_sum_q F_count_q V_ar V_u g_q g_ar ne_q_ar ne_u_ar ne_u_q (own_s1 i0 _).nn (own_s1 i0 _).nn (own_s1 i0 _).nn) hZ (hw _ (List.mem_of_getElem? (i := 24) rfl)) (hw _ (List.mem_of_getElem? (i := 11) rfl)) (by decide) (by decide)) q6a q6c (g := (mkF m 42 #[.val (.int i0), .val (.int i1), .val (.int i2), .val (.int i3), .val (.int n), .val (.ref u), .val (.ref v), .val (.ref ww), .val (.ref q), .unset] [(.ref u), (.ref q)])) rfl (by rw [hml]; rfl) (Steps.refl _) (argsL := [(.ref u)]) (rest := []) (lenOf pd_3 rfl) rfl (by show 2 * 0 + _ ≤ _; exact Nat.le_of_eq rfl) (hb hby at_42) (fun _ _ => ⟨rfl, e5, (by decide : 5 + 0 ≤ _), (by decide : 14 + 0 ≤ _)⟩)
  dsimp only [Pt.U, Pt.locs, Pt.cells, Pt.slots] at X6 l6 y6 z6 st6 hQ6
  subst l6 y6 z6
  obtain ⟨h6, e6⟩ : ∃ q, T6.heap = q := ⟨_, rfl⟩
  rw [e6] at hQ6
  obtain ⟨rfl, N6q, K6q, Eq6, F_sumq6, F_countq6, V_q6⟩ := hQ6
  have N6 := Fr.app N5 N6q
  have ZZ6p := ZZ
  have lt_u := V_u.lt
  have lt_v := V_v.lt
  have lt_ww := V_ww.lt
  have lt_q := E_q.lt
  have lt_ar := V_ar.lt
  replace V_u := V_u.keep K6q (ninS ne_u_q (ninS ne_u_ar nin0))
  replace V_v := V_v.keep K6q (ninS ne_v_q (ninS ne_v_ar nin0))
  replace V_ww := V_ww.keep K6q (ninS ne_ww_q (ninS ne_ww_ar nin0))
  replace E_q := E_q.keep K6q
  replace ZZ := Nat.le_trans ZZ K6q.1
  have F_sum_q := F_sumq6
  have F_count_q : Fld Z h6 q "com/example/d2rank/d2rank/rerank/Centroid" "count" "I" (.int (1 : Int32)) := F_countq6
  have V_ar := V_q6
  refine Go.on (fun _ k => st6.trans k) ?_
  show Go _ _ _ _ _ _ _ _ (mkF m 45 #[.val (.int i0), .val (.int i1), .val (.int i2), .val (.int i3), .val (.int n), .val (.ref u), .val (.ref v), .val (.ref ww), .val (.ref q), .unset] [])
  refine Go.on (fun _ k => XS.iload X6.here hx rfl (hb hby at_45) rfl k) ?_
  show Go _ _ _ _ _ _ _ _ (mkF m 47 #[.val (.int i0), .val (.int i1), .val (.int i2), .val (.int i3), .val (.int n), .val (.ref u), .val (.ref v), .val (.ref ww), .val (.ref q), .unset] [(.int n)])
  refine Go.on (fun _ k => XS.iconst X6.here hx rfl (hb hby at_47) k) ?_
  show Go _ _ _ _ _ _ _ _ (mkF m 48 #[.val (.int i0), .val (.int i1), .val (.int i2), .val (.int i3), .val (.int n), .val (.ref u), .val (.ref v), .val (.ref ww), .val (.ref q), .unset] [(.int (2 : Int32)), (.int n)])
  by_cases hc7 : n < (2 : Int32)
  · -- pc 48
    refine Go.on (fun _ k => XS.icmpYes X6.here hx rfl (pc0 := 48) (pc' := 58) rfl (hb hby at_48) rfl (tlt hc7).1 (by decide) (by decide) k) ?_
    show Go _ _ _ _ _ _ _ _ (mkF m 58 #[.val (.int i0), .val (.int i1), .val (.int i2), .val (.int i3), .val (.int n), .val (.ref u), .val (.ref v), .val (.ref ww), .val (.ref q), .unset] [])
    refine Go.on (fun _ k => XS.iload X6.here hx rfl (hb hby at_58) rfl k) ?_
    show Go _ _ _ _ _ _ _ _ (mkF m 60 #[.val (.int i0), .val (.int i1), .val (.int i2), .val (.int i3), .val (.int n), .val (.ref u), .val (.ref v), .val (.ref ww), .val (.ref q), .unset] [(.int n)])
    refine Go.on (fun _ k => XS.iconst X6.here hx rfl (hb hby at_60) k) ?_
    show Go _ _ _ _ _ _ _ _ (mkF m 61 #[.val (.int i0), .val (.int i1), .val (.int i2), .val (.int i3), .val (.int n), .val (.ref u), .val (.ref v), .val (.ref ww), .val (.ref q), .unset] [(.int (3 : Int32)), (.int n)])
    have hc8 : n < (3 : Int32) := own_lt3 hc7
    refine Go.on (fun _ k => XS.icmpYes X6.here hx rfl (pc0 := 61) (pc' := 71) rfl (hb hby at_61) rfl (tlt hc8).1 (by decide) (by decide) k) ?_
    show Go _ _ _ _ _ _ _ _ (mkF m 71 #[.val (.int i0), .val (.int i1), .val (.int i2), .val (.int i3), .val (.int n), .val (.ref u), .val (.ref v), .val (.ref ww), .val (.ref q), .unset] [])
    refine Go.on (fun _ k => XS.aload X6.here hx rfl (hb hby at_71) rfl rfl k) ?_
    show Go _ _ _ _ _ _ _ _ (mkF m 73 #[.val (.int i0), .val (.int i1), .val (.int i2), .val (.int i3), .val (.int n), .val (.ref u), .val (.ref v), .val (.ref ww), .val (.ref q), .unset] [(.ref q)])
    obtain ⟨cq9, kq9, q9a, q9b, q9c⟩ := isOf hZ e6 E_q
    obtain ⟨_, _, ⟨T9, L9, k9, n9⟩, -, X9, ⟨Lc9, hQ9, l9, y9, z9⟩, st9⟩ := X6.virtualBack hx (y := (⟨"com/example/d2rank/d2rank/rerank/Centroid", "mean", "()[D"⟩ : MethodName)) (z := (⟨"com/example/d2rank/d2rank/rerank/Centroid", "mean", "()[D"⟩ : MethodName)) hown (mvT hZ (hw _ (List.mem_of_getElem? (i := 27) rfl))) (mvT hZ (hw _ (List.mem_of_getElem? (i := 28) rfl))) (notFace_of_selects (args := #[]) (mvT hZ (hw _ (List.mem_of_getElem? (i := 30) rfl)))) (mvT hZ (hw _ (List.mem_of_getElem? (i := 30) rfl))) (mvT hZ (hw _ (List.mem_of_getElem? (i := 29) rfl))) (by decide) (backOf (W := 0) (cm_3 l Z aw hw [] q ar (1 : Int32) k_ar (FP.dadd (0 : UInt64) (FP.i2d (compV i0 (0 : Int32)))) (FP.dadd (0 : UInt64) (FP.i2d (compV i0 (1 : Int32)))) (FP.dadd (0 : UInt64) (FP.i2d (compV i0 (2 : Int32)))) h6 n0 ZZ F_sum_q F_count_q V_ar (own_nnd' (own_s1 i0 _).1 _ (by decide)) (own_nnd' (own_s1 i0 _).1 _ (by decide)) (own_nnd' (own_s1 i0 _).1 _ (by decide))) hZ (hw _ (List.mem_of_getElem? (i := 31) rfl)) (hw _ (List.mem_of_getElem? (i := 11) rfl)) (by decide) (by decide)) q9a q9c (g := (mkF m 73 #[.val (.int i0), .val (.int i1), .val (.int i2), .val (.int i3), .val (.int n), .val (.ref u), .val (.ref v), .val (.ref ww), .val (.ref q), .unset] [(.ref q)])) rfl (by rw [hml]; rfl) (Steps.refl _) (argsL := []) (rest := []) (lenOf pd_4 rfl) rfl (by show 2 * 0 + _ ≤ _; exact Nat.le_of_eq rfl) (hb hby at_73) (fun _ _ => ⟨rfl, e6, (by decide : 5 + 1 ≤ _), (by decide : 14 + 3 ≤ _)⟩)
    dsimp only [Pt.U, Pt.locs, Pt.cells, Pt.slots] at X9 l9 y9 z9 st9 hQ9
    subst l9 y9 z9
    obtain ⟨h9, e9⟩ : ∃ q, T9.heap = q := ⟨_, rfl⟩
    rw [e9] at hQ9
    obtain ⟨mm, kq9, rfl, N9q, K9q, szq9, V_q9⟩ := hQ9
    have N9 := Fr.app N6 N9q
    have ZZ9p := ZZ
    replace V_u := V_u.keep K9q nin0
    replace V_v := V_v.keep K9q nin0
    replace V_ww := V_ww.keep K9q nin0
    replace E_q := E_q.keep K9q
    replace F_sum_q := F_sum_q.keep K9q nin0
    replace F_count_q := F_count_q.keep K9q nin0
    replace V_ar := V_ar.keep K9q nin0
    replace ZZ := Nat.le_trans ZZ K9q.1
    have g_mm : n0 ≤ mm := Nat.le_trans ZZ9p szq9
    have V_mm := V_q9
    obtain ⟨k_mm, hk_mm⟩ : ∃ z, z = kq9 := ⟨_, rfl⟩
    rw [← hk_mm] at V_mm
    refine Go.on (fun _ k => st9.trans k) ?_
    show Go _ _ _ _ _ _ _ _ (mkF m 76 #[.val (.int i0), .val (.int i1), .val (.int i2), .val (.int i3), .val (.int n), .val (.ref u), .val (.ref v), .val (.ref ww), .val (.ref q), .unset] [(.ref mm)])
    refine Go.on (fun _ k => XS.astore X9.here hx rfl (hb hby at_76) rfl rfl (l' := #[.val (.int i0), .val (.int i1), .val (.int i2), .val (.int i3), .val (.int n), .val (.ref u), .val (.ref v), .val (.ref ww), .val (.ref q), .val (.ref mm)]) rfl k) ?_
    show Go _ _ _ _ _ _ _ _ (mkF m 78 #[.val (.int i0), .val (.int i1), .val (.int i2), .val (.int i3), .val (.int n), .val (.ref u), .val (.ref v), .val (.ref ww), .val (.ref q), .val (.ref mm)] [])
    refine Go.on (fun _ k => XS.aload X9.here hx rfl (hb hby at_78) rfl rfl k) ?_
    show Go _ _ _ _ _ _ _ _ (mkF m 80 #[.val (.int i0), .val (.int i1), .val (.int i2), .val (.int i3), .val (.int n), .val (.ref u), .val (.ref v), .val (.ref ww), .val (.ref q), .val (.ref mm)] [(.ref mm)])
    obtain ⟨cl10, Ar10, -, S10, N10n, -, -⟩ := id V_mm
    refine Go.on (X9.arraylength hx (by rw [e9]; exact Ar10.1) (State.isArrayOf_alike hZ.alike Ar10.2.1) (g := (mkF m 80 #[.val (.int i0), .val (.int i1), .val (.int i2), .val (.int i3), .val (.int n), .val (.ref u), .val (.ref v), .val (.ref ww), .val (.ref q), .val (.ref mm)] [(.ref mm)])) rfl rfl (hb hby at_80)) ?_
    rw [len_of S10 N10n]
    show Go _ _ _ _ _ _ _ _ (mkF m 81 #[.val (.int i0), .val (.int i1), .val (.int i2), .val (.int i3), .val (.int n), .val (.ref u), .val (.ref v), .val (.ref ww), .val (.ref q), .val (.ref mm)] [(.int (3 : Int32))])
    refine Go.on (fun _ k => XS.iconst X9.here hx rfl (hb hby at_81) k) ?_
    show Go _ _ _ _ _ _ _ _ (mkF m 82 #[.val (.int i0), .val (.int i1), .val (.int i2), .val (.int i3), .val (.int n), .val (.ref u), .val (.ref v), .val (.ref ww), .val (.ref q), .val (.ref mm)] [(.int (3 : Int32)), (.int (3 : Int32))])
    have hc11 : (3 : Int32) = (3 : Int32) := by decide
    refine Go.on (fun _ k => XS.icmpYes X9.here hx rfl (pc0 := 82) (pc' := 87) rfl (hb hby at_82) rfl (teq hc11).1 (by decide) (by decide) k) ?_
    show Go _ _ _ _ _ _ _ _ (mkF m 87 #[.val (.int i0), .val (.int i1), .val (.int i2), .val (.int i3), .val (.int n), .val (.ref u), .val (.ref v), .val (.ref ww), .val (.ref q), .val (.ref mm)] [])
    refine Go.on (fun _ k => XS.aload X9.here hx rfl (hb hby at_87) rfl rfl k) ?_
    show Go _ _ _ _ _ _ _ _ (mkF m 89 #[.val (.int i0), .val (.int i1), .val (.int i2), .val (.int i3), .val (.int n), .val (.ref u), .val (.ref v), .val (.ref ww), .val (.ref q), .val (.ref mm)] [(.ref mm)])
    refine Go.on (fun _ k => XS.iconst X9.here hx rfl (hb hby at_89) k) ?_
    show Go _ _ _ _ _ _ _ _ (mkF m 90 #[.val (.int i0), .val (.int i1), .val (.int i2), .val (.int i3), .val (.int n), .val (.ref u), .val (.ref v), .val (.ref ww), .val (.ref q), .val (.ref mm)] [(.int (0 : Int32)), (.ref mm)])
    obtain ⟨cl12, Ar12, -, S12, -, H12, -⟩ := id V_mm
    have hin12 : ¬ ((0 : Int32) < 0 ∨ cl12.slots.size ≤ ((0 : Int32)).toNatClampNeg) := inb_of S12 ⟨by decide, by decide⟩
    refine Go.on (X9.daload hx (j := (0 : Int32)) (v := (.double (FP.ddiv (FP.dadd (0 : UInt64) (FP.i2d (compV i0 (0 : Int32)))) (FP.i2d (1 : Int32))))) (by rw [e9]; exact Ar12.1) (State.isArrayOf_alike hZ.alike Ar12.2.1) Ar12.2.2 hin12 (H12.at hin12 (rfl)) (g := (mkF m 90 #[.val (.int i0), .val (.int i1), .val (.int i2), .val (.int i3), .val (.int n), .val (.ref u), .val (.ref v), .val (.ref ww), .val (.ref q), .val (.ref mm)] [(.int (0 : Int32)), (.ref mm)])) rfl rfl (hb hby at_90)) ?_
    show Go _ _ _ _ _ _ _ _ (mkF m 91 #[.val (.int i0), .val (.int i1), .val (.int i2), .val (.int i3), .val (.int n), .val (.ref u), .val (.ref v), .val (.ref ww), .val (.ref q), .val (.ref mm)] [(.double (FP.ddiv (FP.dadd (0 : UInt64) (FP.i2d (compV i0 (0 : Int32)))) (FP.i2d (1 : Int32))))])
    refine Go.on (fun _ k => XS.iconst X9.here hx rfl (hb hby at_91) k) ?_
    show Go _ _ _ _ _ _ _ _ (mkF m 92 #[.val (.int i0), .val (.int i1), .val (.int i2), .val (.int i3), .val (.int n), .val (.ref u), .val (.ref v), .val (.ref ww), .val (.ref q), .val (.ref mm)] [(.int (0 : Int32)), (.double (FP.ddiv (FP.dadd (0 : UInt64) (FP.i2d (compV i0 (0 : Int32)))) (FP.i2d (1 : Int32))))])
    refine Go.on (fun _ k => XS.iloadN X9.here hx rfl (hb hby at_92) rfl k) ?_
    show Go _ _ _ _ _ _ _ _ (mkF m 93 #[.val (.int i0), .val (.int i1), .val (.int i2), .val (.int i3), .val (.int n), .val (.ref u), .val (.ref v), .val (.ref ww), .val (.ref q), .val (.ref mm)] [(.int i0), (.int (0 : Int32)), (.double (FP.ddiv (FP.dadd (0 : UInt64) (FP.i2d (compV i0 (0 : Int32)))) (FP.i2d (1 : Int32))))])
    refine Go.on (fun _ k => XS.iloadN X9.here hx rfl (hb hby at_93) rfl k) ?_
    show Go _ _ _ _ _ _ _ _ (mkF m 94 #[.val (.int i0), .val (.int i1), .val (.int i2), .val (.int i3), .val (.int n), .val (.ref u), .val (.ref v), .val (.ref ww), .val (.ref q), .val (.ref mm)] [(.int i1), (.int i0), (.int (0 : Int32)), (.double (FP.ddiv (FP.dadd (0 : UInt64) (FP.i2d (compV i0 (0 : Int32)))) (FP.i2d (1 : Int32))))])
    refine Go.on (fun _ k => XS.iloadN X9.here hx rfl (hb hby at_94) rfl k) ?_
    show Go _ _ _ _ _ _ _ _ (mkF m 95 #[.val (.int i0), .val (.int i1), .val (.int i2), .val (.int i3), .val (.int n), .val (.ref u), .val (.ref v), .val (.ref ww), .val (.ref q), .val (.ref mm)] [(.int i2), (.int i1), (.int i0), (.int (0 : Int32)), (.double (FP.ddiv (FP.dadd (0 : UInt64) (FP.i2d (compV i0 (0 : Int32)))) (FP.i2d (1 : Int32))))])
    refine Go.on (fun _ k => XS.iload X9.here hx rfl (hb hby at_95) rfl k) ?_
    show Go _ _ _ _ _ _ _ _ (mkF m 97 #[.val (.int i0), .val (.int i1), .val (.int i2), .val (.int i3), .val (.int n), .val (.ref u), .val (.ref v), .val (.ref ww), .val (.ref q), .val (.ref mm)] [(.int n), (.int i2), (.int i1), (.int i0), (.int (0 : Int32)), (.double (FP.ddiv (FP.dadd (0 : UInt64) (FP.i2d (compV i0 (0 : Int32)))) (FP.i2d (1 : Int32))))])
    obtain ⟨_, _, ⟨T13, L13, k13, n13⟩, -, X13, ⟨Lc13, hQ13, l13, y13, z13⟩, st13⟩ := Jvm.LawKit.callS X9 hx (y := (⟨"com/example/d2rank/d2rank/rerank/CentroidAddPinLaw", "expect", "(IIIII)D"⟩ : MethodName)) hown (mvT hZ (hw _ (List.mem_of_getElem? (i := 32) rfl))) (mvT hZ (hw _ (List.mem_of_getElem? (i := 33) rfl))) (mvT hZ (hw _ (List.mem_of_getElem? (i := 3) rfl))) (mvT hZ (hw _ (List.mem_of_getElem? (i := 34) rfl))) (by decide) (backOf (W := 2) (rm7 l Z aw hw [] (0 : Int32) i0 i1 i2 n  h9 n0 ZZ (own_n0 hn)) hZ (hw _ (List.mem_of_getElem? (i := 34) rfl)) (hw _ (List.mem_of_getElem? (i := 3) rfl)) (by decide) (by decide)) (g := (mkF m 97 #[.val (.int i0), .val (.int i1), .val (.int i2), .val (.int i3), .val (.int n), .val (.ref u), .val (.ref v), .val (.ref ww), .val (.ref q), .val (.ref mm)] [(.int n), (.int i2), (.int i1), (.int i0), (.int (0 : Int32)), (.double (FP.ddiv (FP.dadd (0 : UInt64) (FP.i2d (compV i0 (0 : Int32)))) (FP.i2d (1 : Int32))))])) rfl (by rw [hml]; rfl) (argsL := [(.int (0 : Int32)), (.int i0), (.int i1), (.int i2), (.int n)]) (rest := [(.double (FP.ddiv (FP.dadd (0 : UInt64) (FP.i2d (compV i0 (0 : Int32)))) (FP.i2d (1 : Int32))))]) (lenOf pd_5 rfl) rfl (by show 2 * 0 + _ ≤ _; exact Nat.le_of_eq rfl) (hb hby at_97) (fun _ _ => ⟨rfl, e9, (by decide : 6 + 0 ≤ _), (by decide : 17 + 0 ≤ _)⟩)
    dsimp only [Pt.U, Pt.locs, Pt.cells, Pt.slots] at X13 l13 y13 z13 st13 hQ13
    subst l13 y13 z13
    obtain ⟨rfl, N13q, e13⟩ := hQ13
    have N13 := Fr.app N9 N13q
    refine Go.on st13 ?_
    show Go _ _ _ _ _ _ _ _ (mkF m 100 #[.val (.int i0), .val (.int i1), .val (.int i2), .val (.int i3), .val (.int n), .val (.ref u), .val (.ref v), .val (.ref ww), .val (.ref q), .val (.ref mm)] [(.double (expV (0 : Int32) i0 i1 i2 n)), (.double (FP.ddiv (FP.dadd (0 : UInt64) (FP.i2d (compV i0 (0 : Int32)))) (FP.i2d (1 : Int32))))])
    refine Go.on (fun _ k => XS.dcmpS X13.here hx rfl (hb hby at_100) rfl rfl k) ?_
    show Go _ _ _ _ _ _ _ _ (mkF m 101 #[.val (.int i0), .val (.int i1), .val (.int i2), .val (.int i3), .val (.int n), .val (.ref u), .val (.ref v), .val (.ref ww), .val (.ref q), .val (.ref mm)] [(.int (cmpValue (FP.dcmp (FP.ddiv (FP.dadd (0 : UInt64) (FP.i2d (compV i0 (0 : Int32)))) (FP.i2d (1 : Int32))) (expV (0 : Int32) i0 i1 i2 n)) .l))])
    have hc14 : (cmpValue (FP.dcmp (FP.ddiv (FP.dadd (0 : UInt64) (FP.i2d (compV i0 (0 : Int32)))) (FP.i2d (1 : Int32))) (expV (0 : Int32) i0 i1 i2 n)) .l) = (0 : Int32) := own_fin1 i0 i1 i2 (0 : Int32) hn hc7
    refine Go.on (fun _ k => XS.ifNo X13.here hx rfl (hb hby at_101) rfl ((if0 _ _).trans (teq hc14).2) k) ?_
    show Go _ _ _ _ _ _ _ _ (mkF m 104 #[.val (.int i0), .val (.int i1), .val (.int i2), .val (.int i3), .val (.int n), .val (.ref u), .val (.ref v), .val (.ref ww), .val (.ref q), .val (.ref mm)] [])
    refine Go.on (fun _ k => XS.aload X13.here hx rfl (hb hby at_104) rfl rfl k) ?_
    show Go _ _ _ _ _ _ _ _ (mkF m 106 #[.val (.int i0), .val (.int i1), .val (.int i2), .val (.int i3), .val (.int n), .val (.ref u), .val (.ref v), .val (.ref ww), .val (.ref q), .val (.ref mm)] [(.ref mm)])
    refine Go.on (fun _ k => XS.iconst X13.here hx rfl (hb hby at_106) k) ?_
    show Go _ _ _ _ _ _ _ _ (mkF m 107 #[.val (.int i0), .val (.int i1), .val (.int i2), .val (.int i3), .val (.int n), .val (.ref u), .val (.ref v), .val (.ref ww), .val (.ref q), .val (.ref mm)] [(.int (1 : Int32)), (.ref mm)])
    obtain ⟨cl15, Ar15, -, S15, -, H15, -⟩ := id V_mm
    have hin15 : ¬ ((1 : Int32) < 0 ∨ cl15.slots.size ≤ ((1 : Int32)).toNatClampNeg) := inb_of S15 ⟨by decide, by decide⟩
    refine Go.on (X13.daload hx (j := (1 : Int32)) (v := (.double (FP.ddiv (FP.dadd (0 : UInt64) (FP.i2d (compV i0 (1 : Int32)))) (FP.i2d (1 : Int32))))) (by rw [e13]; exact Ar15.1) (State.isArrayOf_alike hZ.alike Ar15.2.1) Ar15.2.2 hin15 (H15.at hin15 (rfl)) (g := (mkF m 107 #[.val (.int i0), .val (.int i1), .val (.int i2), .val (.int i3), .val (.int n), .val (.ref u), .val (.ref v), .val (.ref ww), .val (.ref q), .val (.ref mm)] [(.int (1 : Int32)), (.ref mm)])) rfl rfl (hb hby at_107)) ?_
    show Go _ _ _ _ _ _ _ _ (mkF m 108 #[.val (.int i0), .val (.int i1), .val (.int i2), .val (.int i3), .val (.int n), .val (.ref u), .val (.ref v), .val (.ref ww), .val (.ref q), .val (.ref mm)] [(.double (FP.ddiv (FP.dadd (0 : UInt64) (FP.i2d (compV i0 (1 : Int32)))) (FP.i2d (1 : Int32))))])
    refine Go.on (fun _ k => XS.iconst X13.here hx rfl (hb hby at_108) k) ?_
    show Go _ _ _ _ _ _ _ _ (mkF m 109 #[.val (.int i0), .val (.int i1), .val (.int i2), .val (.int i3), .val (.int n), .val (.ref u), .val (.ref v), .val (.ref ww), .val (.ref q), .val (.ref mm)] [(.int (1 : Int32)), (.double (FP.ddiv (FP.dadd (0 : UInt64) (FP.i2d (compV i0 (1 : Int32)))) (FP.i2d (1 : Int32))))])
    refine Go.on (fun _ k => XS.iloadN X13.here hx rfl (hb hby at_109) rfl k) ?_
    show Go _ _ _ _ _ _ _ _ (mkF m 110 #[.val (.int i0), .val (.int i1), .val (.int i2), .val (.int i3), .val (.int n), .val (.ref u), .val (.ref v), .val (.ref ww), .val (.ref q), .val (.ref mm)] [(.int i0), (.int (1 : Int32)), (.double (FP.ddiv (FP.dadd (0 : UInt64) (FP.i2d (compV i0 (1 : Int32)))) (FP.i2d (1 : Int32))))])
    refine Go.on (fun _ k => XS.iloadN X13.here hx rfl (hb hby at_110) rfl k) ?_
    show Go _ _ _ _ _ _ _ _ (mkF m 111 #[.val (.int i0), .val (.int i1), .val (.int i2), .val (.int i3), .val (.int n), .val (.ref u), .val (.ref v), .val (.ref ww), .val (.ref q), .val (.ref mm)] [(.int i1), (.int i0), (.int (1 : Int32)), (.double (FP.ddiv (FP.dadd (0 : UInt64) (FP.i2d (compV i0 (1 : Int32)))) (FP.i2d (1 : Int32))))])
    refine Go.on (fun _ k => XS.iloadN X13.here hx rfl (hb hby at_111) rfl k) ?_
    show Go _ _ _ _ _ _ _ _ (mkF m 112 #[.val (.int i0), .val (.int i1), .val (.int i2), .val (.int i3), .val (.int n), .val (.ref u), .val (.ref v), .val (.ref ww), .val (.ref q), .val (.ref mm)] [(.int i2), (.int i1), (.int i0), (.int (1 : Int32)), (.double (FP.ddiv (FP.dadd (0 : UInt64) (FP.i2d (compV i0 (1 : Int32)))) (FP.i2d (1 : Int32))))])
    refine Go.on (fun _ k => XS.iload X13.here hx rfl (hb hby at_112) rfl k) ?_
    show Go _ _ _ _ _ _ _ _ (mkF m 114 #[.val (.int i0), .val (.int i1), .val (.int i2), .val (.int i3), .val (.int n), .val (.ref u), .val (.ref v), .val (.ref ww), .val (.ref q), .val (.ref mm)] [(.int n), (.int i2), (.int i1), (.int i0), (.int (1 : Int32)), (.double (FP.ddiv (FP.dadd (0 : UInt64) (FP.i2d (compV i0 (1 : Int32)))) (FP.i2d (1 : Int32))))])
    obtain ⟨_, _, ⟨T16, L16, k16, n16⟩, -, X16, ⟨Lc16, hQ16, l16, y16, z16⟩, st16⟩ := Jvm.LawKit.callS X13 hx (y := (⟨"com/example/d2rank/d2rank/rerank/CentroidAddPinLaw", "expect", "(IIIII)D"⟩ : MethodName)) hown (mvT hZ (hw _ (List.mem_of_getElem? (i := 32) rfl))) (mvT hZ (hw _ (List.mem_of_getElem? (i := 33) rfl))) (mvT hZ (hw _ (List.mem_of_getElem? (i := 3) rfl))) (mvT hZ (hw _ (List.mem_of_getElem? (i := 34) rfl))) (by decide) (backOf (W := 2) (rm7 l Z aw hw [] (1 : Int32) i0 i1 i2 n  h9 n0 ZZ (own_n0 hn)) hZ (hw _ (List.mem_of_getElem? (i := 34) rfl)) (hw _ (List.mem_of_getElem? (i := 3) rfl)) (by decide) (by decide)) (g := (mkF m 114 #[.val (.int i0), .val (.int i1), .val (.int i2), .val (.int i3), .val (.int n), .val (.ref u), .val (.ref v), .val (.ref ww), .val (.ref q), .val (.ref mm)] [(.int n), (.int i2), (.int i1), (.int i0), (.int (1 : Int32)), (.double (FP.ddiv (FP.dadd (0 : UInt64) (FP.i2d (compV i0 (1 : Int32)))) (FP.i2d (1 : Int32))))])) rfl (by rw [hml]; rfl) (argsL := [(.int (1 : Int32)), (.int i0), (.int i1), (.int i2), (.int n)]) (rest := [(.double (FP.ddiv (FP.dadd (0 : UInt64) (FP.i2d (compV i0 (1 : Int32)))) (FP.i2d (1 : Int32))))]) (lenOf pd_5 rfl) rfl (by show 2 * 0 + _ ≤ _; exact Nat.le_of_eq rfl) (hb hby at_114) (fun _ _ => ⟨rfl, e13, (by decide : 6 + 0 ≤ _), (by decide : 17 + 0 ≤ _)⟩)
    dsimp only [Pt.U, Pt.locs, Pt.cells, Pt.slots] at X16 l16 y16 z16 st16 hQ16
    subst l16 y16 z16
    obtain ⟨rfl, N16q, e16⟩ := hQ16
    have N16 := Fr.app N13 N16q
    refine Go.on st16 ?_
    show Go _ _ _ _ _ _ _ _ (mkF m 117 #[.val (.int i0), .val (.int i1), .val (.int i2), .val (.int i3), .val (.int n), .val (.ref u), .val (.ref v), .val (.ref ww), .val (.ref q), .val (.ref mm)] [(.double (expV (1 : Int32) i0 i1 i2 n)), (.double (FP.ddiv (FP.dadd (0 : UInt64) (FP.i2d (compV i0 (1 : Int32)))) (FP.i2d (1 : Int32))))])
    refine Go.on (fun _ k => XS.dcmpS X16.here hx rfl (hb hby at_117) rfl rfl k) ?_
    show Go _ _ _ _ _ _ _ _ (mkF m 118 #[.val (.int i0), .val (.int i1), .val (.int i2), .val (.int i3), .val (.int n), .val (.ref u), .val (.ref v), .val (.ref ww), .val (.ref q), .val (.ref mm)] [(.int (cmpValue (FP.dcmp (FP.ddiv (FP.dadd (0 : UInt64) (FP.i2d (compV i0 (1 : Int32)))) (FP.i2d (1 : Int32))) (expV (1 : Int32) i0 i1 i2 n)) .l))])
    have hc17 : (cmpValue (FP.dcmp (FP.ddiv (FP.dadd (0 : UInt64) (FP.i2d (compV i0 (1 : Int32)))) (FP.i2d (1 : Int32))) (expV (1 : Int32) i0 i1 i2 n)) .l) = (0 : Int32) := own_fin1 i0 i1 i2 (1 : Int32) hn hc7
    refine Go.on (fun _ k => XS.ifNo X16.here hx rfl (hb hby at_118) rfl ((if0 _ _).trans (teq hc17).2) k) ?_
    show Go _ _ _ _ _ _ _ _ (mkF m 121 #[.val (.int i0), .val (.int i1), .val (.int i2), .val (.int i3), .val (.int n), .val (.ref u), .val (.ref v), .val (.ref ww), .val (.ref q), .val (.ref mm)] [])
    refine Go.on (fun _ k => XS.aload X16.here hx rfl (hb hby at_121) rfl rfl k) ?_
    show Go _ _ _ _ _ _ _ _ (mkF m 123 #[.val (.int i0), .val (.int i1), .val (.int i2), .val (.int i3), .val (.int n), .val (.ref u), .val (.ref v), .val (.ref ww), .val (.ref q), .val (.ref mm)] [(.ref mm)])
    refine Go.on (fun _ k => XS.iconst X16.here hx rfl (hb hby at_123) k) ?_
    show Go _ _ _ _ _ _ _ _ (mkF m 124 #[.val (.int i0), .val (.int i1), .val (.int i2), .val (.int i3), .val (.int n), .val (.ref u), .val (.ref v), .val (.ref ww), .val (.ref q), .val (.ref mm)] [(.int (2 : Int32)), (.ref mm)])
    obtain ⟨cl18, Ar18, -, S18, -, H18, -⟩ := id V_mm
    have hin18 : ¬ ((2 : Int32) < 0 ∨ cl18.slots.size ≤ ((2 : Int32)).toNatClampNeg) := inb_of S18 ⟨by decide, by decide⟩
    refine Go.on (X16.daload hx (j := (2 : Int32)) (v := (.double (FP.ddiv (FP.dadd (0 : UInt64) (FP.i2d (compV i0 (2 : Int32)))) (FP.i2d (1 : Int32))))) (by rw [e16]; exact Ar18.1) (State.isArrayOf_alike hZ.alike Ar18.2.1) Ar18.2.2 hin18 (H18.at hin18 (rfl)) (g := (mkF m 124 #[.val (.int i0), .val (.int i1), .val (.int i2), .val (.int i3), .val (.int n), .val (.ref u), .val (.ref v), .val (.ref ww), .val (.ref q), .val (.ref mm)] [(.int (2 : Int32)), (.ref mm)])) rfl rfl (hb hby at_124)) ?_
    show Go _ _ _ _ _ _ _ _ (mkF m 125 #[.val (.int i0), .val (.int i1), .val (.int i2), .val (.int i3), .val (.int n), .val (.ref u), .val (.ref v), .val (.ref ww), .val (.ref q), .val (.ref mm)] [(.double (FP.ddiv (FP.dadd (0 : UInt64) (FP.i2d (compV i0 (2 : Int32)))) (FP.i2d (1 : Int32))))])
    refine Go.on (fun _ k => XS.iconst X16.here hx rfl (hb hby at_125) k) ?_
    show Go _ _ _ _ _ _ _ _ (mkF m 126 #[.val (.int i0), .val (.int i1), .val (.int i2), .val (.int i3), .val (.int n), .val (.ref u), .val (.ref v), .val (.ref ww), .val (.ref q), .val (.ref mm)] [(.int (2 : Int32)), (.double (FP.ddiv (FP.dadd (0 : UInt64) (FP.i2d (compV i0 (2 : Int32)))) (FP.i2d (1 : Int32))))])
    refine Go.on (fun _ k => XS.iloadN X16.here hx rfl (hb hby at_126) rfl k) ?_
    show Go _ _ _ _ _ _ _ _ (mkF m 127 #[.val (.int i0), .val (.int i1), .val (.int i2), .val (.int i3), .val (.int n), .val (.ref u), .val (.ref v), .val (.ref ww), .val (.ref q), .val (.ref mm)] [(.int i0), (.int (2 : Int32)), (.double (FP.ddiv (FP.dadd (0 : UInt64) (FP.i2d (compV i0 (2 : Int32)))) (FP.i2d (1 : Int32))))])
    refine Go.on (fun _ k => XS.iloadN X16.here hx rfl (hb hby at_127) rfl k) ?_
    show Go _ _ _ _ _ _ _ _ (mkF m 128 #[.val (.int i0), .val (.int i1), .val (.int i2), .val (.int i3), .val (.int n), .val (.ref u), .val (.ref v), .val (.ref ww), .val (.ref q), .val (.ref mm)] [(.int i1), (.int i0), (.int (2 : Int32)), (.double (FP.ddiv (FP.dadd (0 : UInt64) (FP.i2d (compV i0 (2 : Int32)))) (FP.i2d (1 : Int32))))])
    refine Go.on (fun _ k => XS.iloadN X16.here hx rfl (hb hby at_128) rfl k) ?_
    show Go _ _ _ _ _ _ _ _ (mkF m 129 #[.val (.int i0), .val (.int i1), .val (.int i2), .val (.int i3), .val (.int n), .val (.ref u), .val (.ref v), .val (.ref ww), .val (.ref q), .val (.ref mm)] [(.int i2), (.int i1), (.int i0), (.int (2 : Int32)), (.double (FP.ddiv (FP.dadd (0 : UInt64) (FP.i2d (compV i0 (2 : Int32)))) (FP.i2d (1 : Int32))))])
    refine Go.on (fun _ k => XS.iload X16.here hx rfl (hb hby at_129) rfl k) ?_
    show Go _ _ _ _ _ _ _ _ (mkF m 131 #[.val (.int i0), .val (.int i1), .val (.int i2), .val (.int i3), .val (.int n), .val (.ref u), .val (.ref v), .val (.ref ww), .val (.ref q), .val (.ref mm)] [(.int n), (.int i2), (.int i1), (.int i0), (.int (2 : Int32)), (.double (FP.ddiv (FP.dadd (0 : UInt64) (FP.i2d (compV i0 (2 : Int32)))) (FP.i2d (1 : Int32))))])
    obtain ⟨_, _, ⟨T19, L19, k19, n19⟩, -, X19, ⟨Lc19, hQ19, l19, y19, z19⟩, st19⟩ := Jvm.LawKit.callS X16 hx (y := (⟨"com/example/d2rank/d2rank/rerank/CentroidAddPinLaw", "expect", "(IIIII)D"⟩ : MethodName)) hown (mvT hZ (hw _ (List.mem_of_getElem? (i := 32) rfl))) (mvT hZ (hw _ (List.mem_of_getElem? (i := 33) rfl))) (mvT hZ (hw _ (List.mem_of_getElem? (i := 3) rfl))) (mvT hZ (hw _ (List.mem_of_getElem? (i := 34) rfl))) (by decide) (backOf (W := 2) (rm7 l Z aw hw [] (2 : Int32) i0 i1 i2 n  h9 n0 ZZ (own_n0 hn)) hZ (hw _ (List.mem_of_getElem? (i := 34) rfl)) (hw _ (List.mem_of_getElem? (i := 3) rfl)) (by decide) (by decide)) (g := (mkF m 131 #[.val (.int i0), .val (.int i1), .val (.int i2), .val (.int i3), .val (.int n), .val (.ref u), .val (.ref v), .val (.ref ww), .val (.ref q), .val (.ref mm)] [(.int n), (.int i2), (.int i1), (.int i0), (.int (2 : Int32)), (.double (FP.ddiv (FP.dadd (0 : UInt64) (FP.i2d (compV i0 (2 : Int32)))) (FP.i2d (1 : Int32))))])) rfl (by rw [hml]; rfl) (argsL := [(.int (2 : Int32)), (.int i0), (.int i1), (.int i2), (.int n)]) (rest := [(.double (FP.ddiv (FP.dadd (0 : UInt64) (FP.i2d (compV i0 (2 : Int32)))) (FP.i2d (1 : Int32))))]) (lenOf pd_5 rfl) rfl (by show 2 * 0 + _ ≤ _; exact Nat.le_of_eq rfl) (hb hby at_131) (fun _ _ => ⟨rfl, e16, (by decide : 6 + 0 ≤ _), (by decide : 17 + 0 ≤ _)⟩)
    dsimp only [Pt.U, Pt.locs, Pt.cells, Pt.slots] at X19 l19 y19 z19 st19 hQ19
    subst l19 y19 z19
    obtain ⟨rfl, N19q, e19⟩ := hQ19
    have N19 := Fr.app N16 N19q
    refine Go.on st19 ?_
    show Go _ _ _ _ _ _ _ _ (mkF m 134 #[.val (.int i0), .val (.int i1), .val (.int i2), .val (.int i3), .val (.int n), .val (.ref u), .val (.ref v), .val (.ref ww), .val (.ref q), .val (.ref mm)] [(.double (expV (2 : Int32) i0 i1 i2 n)), (.double (FP.ddiv (FP.dadd (0 : UInt64) (FP.i2d (compV i0 (2 : Int32)))) (FP.i2d (1 : Int32))))])
    refine Go.on (fun _ k => XS.dcmpS X19.here hx rfl (hb hby at_134) rfl rfl k) ?_
    show Go _ _ _ _ _ _ _ _ (mkF m 135 #[.val (.int i0), .val (.int i1), .val (.int i2), .val (.int i3), .val (.int n), .val (.ref u), .val (.ref v), .val (.ref ww), .val (.ref q), .val (.ref mm)] [(.int (cmpValue (FP.dcmp (FP.ddiv (FP.dadd (0 : UInt64) (FP.i2d (compV i0 (2 : Int32)))) (FP.i2d (1 : Int32))) (expV (2 : Int32) i0 i1 i2 n)) .l))])
    have hc20 : (cmpValue (FP.dcmp (FP.ddiv (FP.dadd (0 : UInt64) (FP.i2d (compV i0 (2 : Int32)))) (FP.i2d (1 : Int32))) (expV (2 : Int32) i0 i1 i2 n)) .l) = (0 : Int32) := own_fin1 i0 i1 i2 (2 : Int32) hn hc7
    refine Go.on (fun _ k => XS.ifNo X19.here hx rfl (hb hby at_135) rfl ((if0 _ _).trans (teq hc20).2) k) ?_
    show Go _ _ _ _ _ _ _ _ (mkF m 138 #[.val (.int i0), .val (.int i1), .val (.int i2), .val (.int i3), .val (.int n), .val (.ref u), .val (.ref v), .val (.ref ww), .val (.ref q), .val (.ref mm)] [])
    refine Go.on (fun _ k => XS.iconst X19.here hx rfl (hb hby at_138) k) ?_
    show Go _ _ _ _ _ _ _ _ (mkF m 139 #[.val (.int i0), .val (.int i1), .val (.int i2), .val (.int i3), .val (.int n), .val (.ref u), .val (.ref v), .val (.ref ww), .val (.ref q), .val (.ref mm)] [(.int (1 : Int32))])
    refine Go.on (fun _ k => XS.goto X19.here hx rfl (pc0 := 139) (pc' := 143) rfl (hb hby at_139) (by decide) (by decide) k) ?_
    show Go _ _ _ _ _ _ _ _ (mkF m 143 #[.val (.int i0), .val (.int i1), .val (.int i2), .val (.int i3), .val (.int n), .val (.ref u), .val (.ref v), .val (.ref ww), .val (.ref q), .val (.ref mm)] [(.int (1 : Int32))])
    refine Go.retN X19 hx (t := .boolean) Bd.returns (by simp) (hb hby at_143) ?_ (by rw [hK1]; decide) (by rw [hK2]; decide)
    rw [e19, ← hQQ]
    exact ⟨rfl, N19⟩
  · -- pc 48
    refine Go.on (fun _ k => XS.icmpNo X6.here hx rfl (hb hby at_48) rfl (flt hc7).1 k) ?_
    show Go _ _ _ _ _ _ _ _ (mkF m 51 #[.val (.int i0), .val (.int i1), .val (.int i2), .val (.int i3), .val (.int n), .val (.ref u), .val (.ref v), .val (.ref ww), .val (.ref q), .unset] [])
    refine Go.on (fun _ k => XS.aload X6.here hx rfl (hb hby at_51) rfl rfl k) ?_
    show Go _ _ _ _ _ _ _ _ (mkF m 53 #[.val (.int i0), .val (.int i1), .val (.int i2), .val (.int i3), .val (.int n), .val (.ref u), .val (.ref v), .val (.ref ww), .val (.ref q), .unset] [(.ref q)])
    refine Go.on (fun _ k => XS.aload X6.here hx rfl (hb hby at_53) rfl rfl k) ?_
    show Go _ _ _ _ _ _ _ _ (mkF m 55 #[.val (.int i0), .val (.int i1), .val (.int i2), .val (.int i3), .val (.int n), .val (.ref u), .val (.ref v), .val (.ref ww), .val (.ref q), .unset] [(.ref v), (.ref q)])
    obtain ⟨cq21, kq21, q21a, q21b, q21c⟩ := isOf hZ e6 E_q
    obtain ⟨_, _, ⟨T21, L21, k21, n21⟩, -, X21, ⟨Lc21, hQ21, l21, y21, z21⟩, st21⟩ := X6.virtualBack hx (y := (⟨"com/example/d2rank/d2rank/rerank/Centroid", "add", "([D)V"⟩ : MethodName)) (z := (⟨"com/example/d2rank/d2rank/rerank/Centroid", "add", "([D)V"⟩ : MethodName)) hown (mvT hZ (hw _ (List.mem_of_getElem? (i := 20) rfl))) (mvT hZ (hw _ (List.mem_of_getElem? (i := 21) rfl))) (notFace_of_selects (args := #[]) (mvT hZ (hw _ (List.mem_of_getElem? (i := 23) rfl)))) (mvT hZ (hw _ (List.mem_of_getElem? (i := 23) rfl))) (mvT hZ (hw _ (List.mem_of_getElem? (i := 22) rfl))) (by decide) (backOf (W := 0) (ca_3 l Z aw hw [] q v ar (1 : Int32) k_ar (FP.dadd (0 : UInt64) (FP.i2d (compV i0 (0 : Int32)))) (FP.dadd (0 : UInt64) (FP.i2d (compV i0 (1 : Int32)))) (FP.dadd (0 : UInt64) (FP.i2d (compV i0 (2 : Int32)))) k_v (FP.i2d (compV i1 (0 : Int32))) (FP.i2d (compV i1 (1 : Int32))) (FP.i2d (compV i1 (2 : Int32))) h6 n0 ZZ E_q F_sum_q F_count_q V_ar V_v g_q g_ar ne_q_ar ne_v_ar ne_v_q (own_s2 i0 i1 _).nn (own_s2 i0 i1 _).nn (own_s2 i0 i1 _).nn) hZ (hw _ (List.mem_of_getElem? (i := 24) rfl)) (hw _ (List.mem_of_getElem? (i := 11) rfl)) (by decide) (by decide)) q21a q21c (g := (mkF m 55 #[.val (.int i0), .val (.int i1), .val (.int i2), .val (.int i3), .val (.int n), .val (.ref u), .val (.ref v), .val (.ref ww), .val (.ref q), .unset] [(.ref v), (.ref q)])) rfl (by rw [hml]; rfl) (Steps.refl _) (argsL := [(.ref v)]) (rest := []) (lenOf pd_3 rfl) rfl (by show 2 * 0 + _ ≤ _; exact Nat.le_of_eq rfl) (hb hby at_55) (fun _ _ => ⟨rfl, e6, (by decide : 5 + 0 ≤ _), (by decide : 14 + 0 ≤ _)⟩)
    dsimp only [Pt.U, Pt.locs, Pt.cells, Pt.slots] at X21 l21 y21 z21 st21 hQ21
    subst l21 y21 z21
    obtain ⟨h21, e21⟩ : ∃ q, T21.heap = q := ⟨_, rfl⟩
    rw [e21] at hQ21
    obtain ⟨rfl, N21q, K21q, Eq21, F_sumq21, F_countq21, V_q21⟩ := hQ21
    have N21 := Fr.app N6 N21q
    have ZZ21p := ZZ
    have lt_u := V_u.lt
    have lt_v := V_v.lt
    have lt_ww := V_ww.lt
    have lt_q := E_q.lt
    have lt_ar := V_ar.lt
    replace V_u := V_u.keep K21q (ninS ne_u_q (ninS ne_u_ar nin0))
    replace V_v := V_v.keep K21q (ninS ne_v_q (ninS ne_v_ar nin0))
    replace V_ww := V_ww.keep K21q (ninS ne_ww_q (ninS ne_ww_ar nin0))
    replace E_q := E_q.keep K21q
    replace ZZ := Nat.le_trans ZZ K21q.1
    have F_sum_q := F_sumq21
    have F_count_q : Fld Z h21 q "com/example/d2rank/d2rank/rerank/Centroid" "count" "I" (.int (2 : Int32)) := F_countq21
    have V_ar := V_q21
    refine Go.on (fun _ k => st21.trans k) ?_
    show Go _ _ _ _ _ _ _ _ (mkF m 58 #[.val (.int i0), .val (.int i1), .val (.int i2), .val (.int i3), .val (.int n), .val (.ref u), .val (.ref v), .val (.ref ww), .val (.ref q), .unset] [])
    refine Go.on (fun _ k => XS.iload X21.here hx rfl (hb hby at_58) rfl k) ?_
    show Go _ _ _ _ _ _ _ _ (mkF m 60 #[.val (.int i0), .val (.int i1), .val (.int i2), .val (.int i3), .val (.int n), .val (.ref u), .val (.ref v), .val (.ref ww), .val (.ref q), .unset] [(.int n)])
    refine Go.on (fun _ k => XS.iconst X21.here hx rfl (hb hby at_60) k) ?_
    show Go _ _ _ _ _ _ _ _ (mkF m 61 #[.val (.int i0), .val (.int i1), .val (.int i2), .val (.int i3), .val (.int n), .val (.ref u), .val (.ref v), .val (.ref ww), .val (.ref q), .unset] [(.int (3 : Int32)), (.int n)])
    by_cases hc22 : n < (3 : Int32)
    · -- pc 61
      refine Go.on (fun _ k => XS.icmpYes X21.here hx rfl (pc0 := 61) (pc' := 71) rfl (hb hby at_61) rfl (tlt hc22).1 (by decide) (by decide) k) ?_
      show Go _ _ _ _ _ _ _ _ (mkF m 71 #[.val (.int i0), .val (.int i1), .val (.int i2), .val (.int i3), .val (.int n), .val (.ref u), .val (.ref v), .val (.ref ww), .val (.ref q), .unset] [])
      refine Go.on (fun _ k => XS.aload X21.here hx rfl (hb hby at_71) rfl rfl k) ?_
      show Go _ _ _ _ _ _ _ _ (mkF m 73 #[.val (.int i0), .val (.int i1), .val (.int i2), .val (.int i3), .val (.int n), .val (.ref u), .val (.ref v), .val (.ref ww), .val (.ref q), .unset] [(.ref q)])
      obtain ⟨cq23, kq23, q23a, q23b, q23c⟩ := isOf hZ e21 E_q
      obtain ⟨_, _, ⟨T23, L23, k23, n23⟩, -, X23, ⟨Lc23, hQ23, l23, y23, z23⟩, st23⟩ := X21.virtualBack hx (y := (⟨"com/example/d2rank/d2rank/rerank/Centroid", "mean", "()[D"⟩ : MethodName)) (z := (⟨"com/example/d2rank/d2rank/rerank/Centroid", "mean", "()[D"⟩ : MethodName)) hown (mvT hZ (hw _ (List.mem_of_getElem? (i := 27) rfl))) (mvT hZ (hw _ (List.mem_of_getElem? (i := 28) rfl))) (notFace_of_selects (args := #[]) (mvT hZ (hw _ (List.mem_of_getElem? (i := 30) rfl)))) (mvT hZ (hw _ (List.mem_of_getElem? (i := 30) rfl))) (mvT hZ (hw _ (List.mem_of_getElem? (i := 29) rfl))) (by decide) (backOf (W := 0) (cm_3 l Z aw hw [] q ar (2 : Int32) k_ar (FP.dadd (FP.dadd (0 : UInt64) (FP.i2d (compV i0 (0 : Int32)))) (FP.i2d (compV i1 (0 : Int32)))) (FP.dadd (FP.dadd (0 : UInt64) (FP.i2d (compV i0 (1 : Int32)))) (FP.i2d (compV i1 (1 : Int32)))) (FP.dadd (FP.dadd (0 : UInt64) (FP.i2d (compV i0 (2 : Int32)))) (FP.i2d (compV i1 (2 : Int32)))) h21 n0 ZZ F_sum_q F_count_q V_ar (own_nnd' (own_s2 i0 i1 _).1 _ (by decide)) (own_nnd' (own_s2 i0 i1 _).1 _ (by decide)) (own_nnd' (own_s2 i0 i1 _).1 _ (by decide))) hZ (hw _ (List.mem_of_getElem? (i := 31) rfl)) (hw _ (List.mem_of_getElem? (i := 11) rfl)) (by decide) (by decide)) q23a q23c (g := (mkF m 73 #[.val (.int i0), .val (.int i1), .val (.int i2), .val (.int i3), .val (.int n), .val (.ref u), .val (.ref v), .val (.ref ww), .val (.ref q), .unset] [(.ref q)])) rfl (by rw [hml]; rfl) (Steps.refl _) (argsL := []) (rest := []) (lenOf pd_4 rfl) rfl (by show 2 * 0 + _ ≤ _; exact Nat.le_of_eq rfl) (hb hby at_73) (fun _ _ => ⟨rfl, e21, (by decide : 5 + 1 ≤ _), (by decide : 14 + 3 ≤ _)⟩)
      dsimp only [Pt.U, Pt.locs, Pt.cells, Pt.slots] at X23 l23 y23 z23 st23 hQ23
      subst l23 y23 z23
      obtain ⟨h23, e23⟩ : ∃ q, T23.heap = q := ⟨_, rfl⟩
      rw [e23] at hQ23
      obtain ⟨mm, kq23, rfl, N23q, K23q, szq23, V_q23⟩ := hQ23
      have N23 := Fr.app N21 N23q
      have ZZ23p := ZZ
      replace V_u := V_u.keep K23q nin0
      replace V_v := V_v.keep K23q nin0
      replace V_ww := V_ww.keep K23q nin0
      replace E_q := E_q.keep K23q
      replace F_sum_q := F_sum_q.keep K23q nin0
      replace F_count_q := F_count_q.keep K23q nin0
      replace V_ar := V_ar.keep K23q nin0
      replace ZZ := Nat.le_trans ZZ K23q.1
      have g_mm : n0 ≤ mm := Nat.le_trans ZZ23p szq23
      have V_mm := V_q23
      obtain ⟨k_mm, hk_mm⟩ : ∃ z, z = kq23 := ⟨_, rfl⟩
      rw [← hk_mm] at V_mm
      refine Go.on (fun _ k => st23.trans k) ?_
      show Go _ _ _ _ _ _ _ _ (mkF m 76 #[.val (.int i0), .val (.int i1), .val (.int i2), .val (.int i3), .val (.int n), .val (.ref u), .val (.ref v), .val (.ref ww), .val (.ref q), .unset] [(.ref mm)])
      refine Go.on (fun _ k => XS.astore X23.here hx rfl (hb hby at_76) rfl rfl (l' := #[.val (.int i0), .val (.int i1), .val (.int i2), .val (.int i3), .val (.int n), .val (.ref u), .val (.ref v), .val (.ref ww), .val (.ref q), .val (.ref mm)]) rfl k) ?_
      show Go _ _ _ _ _ _ _ _ (mkF m 78 #[.val (.int i0), .val (.int i1), .val (.int i2), .val (.int i3), .val (.int n), .val (.ref u), .val (.ref v), .val (.ref ww), .val (.ref q), .val (.ref mm)] [])
      refine Go.on (fun _ k => XS.aload X23.here hx rfl (hb hby at_78) rfl rfl k) ?_
      show Go _ _ _ _ _ _ _ _ (mkF m 80 #[.val (.int i0), .val (.int i1), .val (.int i2), .val (.int i3), .val (.int n), .val (.ref u), .val (.ref v), .val (.ref ww), .val (.ref q), .val (.ref mm)] [(.ref mm)])
      obtain ⟨cl24, Ar24, -, S24, N24n, -, -⟩ := id V_mm
      refine Go.on (X23.arraylength hx (by rw [e23]; exact Ar24.1) (State.isArrayOf_alike hZ.alike Ar24.2.1) (g := (mkF m 80 #[.val (.int i0), .val (.int i1), .val (.int i2), .val (.int i3), .val (.int n), .val (.ref u), .val (.ref v), .val (.ref ww), .val (.ref q), .val (.ref mm)] [(.ref mm)])) rfl rfl (hb hby at_80)) ?_
      rw [len_of S24 N24n]
      show Go _ _ _ _ _ _ _ _ (mkF m 81 #[.val (.int i0), .val (.int i1), .val (.int i2), .val (.int i3), .val (.int n), .val (.ref u), .val (.ref v), .val (.ref ww), .val (.ref q), .val (.ref mm)] [(.int (3 : Int32))])
      refine Go.on (fun _ k => XS.iconst X23.here hx rfl (hb hby at_81) k) ?_
      show Go _ _ _ _ _ _ _ _ (mkF m 82 #[.val (.int i0), .val (.int i1), .val (.int i2), .val (.int i3), .val (.int n), .val (.ref u), .val (.ref v), .val (.ref ww), .val (.ref q), .val (.ref mm)] [(.int (3 : Int32)), (.int (3 : Int32))])
      have hc25 : (3 : Int32) = (3 : Int32) := by decide
      refine Go.on (fun _ k => XS.icmpYes X23.here hx rfl (pc0 := 82) (pc' := 87) rfl (hb hby at_82) rfl (teq hc25).1 (by decide) (by decide) k) ?_
      show Go _ _ _ _ _ _ _ _ (mkF m 87 #[.val (.int i0), .val (.int i1), .val (.int i2), .val (.int i3), .val (.int n), .val (.ref u), .val (.ref v), .val (.ref ww), .val (.ref q), .val (.ref mm)] [])
      refine Go.on (fun _ k => XS.aload X23.here hx rfl (hb hby at_87) rfl rfl k) ?_
      show Go _ _ _ _ _ _ _ _ (mkF m 89 #[.val (.int i0), .val (.int i1), .val (.int i2), .val (.int i3), .val (.int n), .val (.ref u), .val (.ref v), .val (.ref ww), .val (.ref q), .val (.ref mm)] [(.ref mm)])
      refine Go.on (fun _ k => XS.iconst X23.here hx rfl (hb hby at_89) k) ?_
      show Go _ _ _ _ _ _ _ _ (mkF m 90 #[.val (.int i0), .val (.int i1), .val (.int i2), .val (.int i3), .val (.int n), .val (.ref u), .val (.ref v), .val (.ref ww), .val (.ref q), .val (.ref mm)] [(.int (0 : Int32)), (.ref mm)])
      obtain ⟨cl26, Ar26, -, S26, -, H26, -⟩ := id V_mm
      have hin26 : ¬ ((0 : Int32) < 0 ∨ cl26.slots.size ≤ ((0 : Int32)).toNatClampNeg) := inb_of S26 ⟨by decide, by decide⟩
      refine Go.on (X23.daload hx (j := (0 : Int32)) (v := (.double (FP.ddiv (FP.dadd (FP.dadd (0 : UInt64) (FP.i2d (compV i0 (0 : Int32)))) (FP.i2d (compV i1 (0 : Int32)))) (FP.i2d (2 : Int32))))) (by rw [e23]; exact Ar26.1) (State.isArrayOf_alike hZ.alike Ar26.2.1) Ar26.2.2 hin26 (H26.at hin26 (rfl)) (g := (mkF m 90 #[.val (.int i0), .val (.int i1), .val (.int i2), .val (.int i3), .val (.int n), .val (.ref u), .val (.ref v), .val (.ref ww), .val (.ref q), .val (.ref mm)] [(.int (0 : Int32)), (.ref mm)])) rfl rfl (hb hby at_90)) ?_
      show Go _ _ _ _ _ _ _ _ (mkF m 91 #[.val (.int i0), .val (.int i1), .val (.int i2), .val (.int i3), .val (.int n), .val (.ref u), .val (.ref v), .val (.ref ww), .val (.ref q), .val (.ref mm)] [(.double (FP.ddiv (FP.dadd (FP.dadd (0 : UInt64) (FP.i2d (compV i0 (0 : Int32)))) (FP.i2d (compV i1 (0 : Int32)))) (FP.i2d (2 : Int32))))])
      refine Go.on (fun _ k => XS.iconst X23.here hx rfl (hb hby at_91) k) ?_
      show Go _ _ _ _ _ _ _ _ (mkF m 92 #[.val (.int i0), .val (.int i1), .val (.int i2), .val (.int i3), .val (.int n), .val (.ref u), .val (.ref v), .val (.ref ww), .val (.ref q), .val (.ref mm)] [(.int (0 : Int32)), (.double (FP.ddiv (FP.dadd (FP.dadd (0 : UInt64) (FP.i2d (compV i0 (0 : Int32)))) (FP.i2d (compV i1 (0 : Int32)))) (FP.i2d (2 : Int32))))])
      refine Go.on (fun _ k => XS.iloadN X23.here hx rfl (hb hby at_92) rfl k) ?_
      show Go _ _ _ _ _ _ _ _ (mkF m 93 #[.val (.int i0), .val (.int i1), .val (.int i2), .val (.int i3), .val (.int n), .val (.ref u), .val (.ref v), .val (.ref ww), .val (.ref q), .val (.ref mm)] [(.int i0), (.int (0 : Int32)), (.double (FP.ddiv (FP.dadd (FP.dadd (0 : UInt64) (FP.i2d (compV i0 (0 : Int32)))) (FP.i2d (compV i1 (0 : Int32)))) (FP.i2d (2 : Int32))))])
      refine Go.on (fun _ k => XS.iloadN X23.here hx rfl (hb hby at_93) rfl k) ?_
      show Go _ _ _ _ _ _ _ _ (mkF m 94 #[.val (.int i0), .val (.int i1), .val (.int i2), .val (.int i3), .val (.int n), .val (.ref u), .val (.ref v), .val (.ref ww), .val (.ref q), .val (.ref mm)] [(.int i1), (.int i0), (.int (0 : Int32)), (.double (FP.ddiv (FP.dadd (FP.dadd (0 : UInt64) (FP.i2d (compV i0 (0 : Int32)))) (FP.i2d (compV i1 (0 : Int32)))) (FP.i2d (2 : Int32))))])
      refine Go.on (fun _ k => XS.iloadN X23.here hx rfl (hb hby at_94) rfl k) ?_
      show Go _ _ _ _ _ _ _ _ (mkF m 95 #[.val (.int i0), .val (.int i1), .val (.int i2), .val (.int i3), .val (.int n), .val (.ref u), .val (.ref v), .val (.ref ww), .val (.ref q), .val (.ref mm)] [(.int i2), (.int i1), (.int i0), (.int (0 : Int32)), (.double (FP.ddiv (FP.dadd (FP.dadd (0 : UInt64) (FP.i2d (compV i0 (0 : Int32)))) (FP.i2d (compV i1 (0 : Int32)))) (FP.i2d (2 : Int32))))])
      refine Go.on (fun _ k => XS.iload X23.here hx rfl (hb hby at_95) rfl k) ?_
      show Go _ _ _ _ _ _ _ _ (mkF m 97 #[.val (.int i0), .val (.int i1), .val (.int i2), .val (.int i3), .val (.int n), .val (.ref u), .val (.ref v), .val (.ref ww), .val (.ref q), .val (.ref mm)] [(.int n), (.int i2), (.int i1), (.int i0), (.int (0 : Int32)), (.double (FP.ddiv (FP.dadd (FP.dadd (0 : UInt64) (FP.i2d (compV i0 (0 : Int32)))) (FP.i2d (compV i1 (0 : Int32)))) (FP.i2d (2 : Int32))))])
      obtain ⟨_, _, ⟨T27, L27, k27, n27⟩, -, X27, ⟨Lc27, hQ27, l27, y27, z27⟩, st27⟩ := Jvm.LawKit.callS X23 hx (y := (⟨"com/example/d2rank/d2rank/rerank/CentroidAddPinLaw", "expect", "(IIIII)D"⟩ : MethodName)) hown (mvT hZ (hw _ (List.mem_of_getElem? (i := 32) rfl))) (mvT hZ (hw _ (List.mem_of_getElem? (i := 33) rfl))) (mvT hZ (hw _ (List.mem_of_getElem? (i := 3) rfl))) (mvT hZ (hw _ (List.mem_of_getElem? (i := 34) rfl))) (by decide) (backOf (W := 2) (rm7 l Z aw hw [] (0 : Int32) i0 i1 i2 n  h23 n0 ZZ (own_n0 hn)) hZ (hw _ (List.mem_of_getElem? (i := 34) rfl)) (hw _ (List.mem_of_getElem? (i := 3) rfl)) (by decide) (by decide)) (g := (mkF m 97 #[.val (.int i0), .val (.int i1), .val (.int i2), .val (.int i3), .val (.int n), .val (.ref u), .val (.ref v), .val (.ref ww), .val (.ref q), .val (.ref mm)] [(.int n), (.int i2), (.int i1), (.int i0), (.int (0 : Int32)), (.double (FP.ddiv (FP.dadd (FP.dadd (0 : UInt64) (FP.i2d (compV i0 (0 : Int32)))) (FP.i2d (compV i1 (0 : Int32)))) (FP.i2d (2 : Int32))))])) rfl (by rw [hml]; rfl) (argsL := [(.int (0 : Int32)), (.int i0), (.int i1), (.int i2), (.int n)]) (rest := [(.double (FP.ddiv (FP.dadd (FP.dadd (0 : UInt64) (FP.i2d (compV i0 (0 : Int32)))) (FP.i2d (compV i1 (0 : Int32)))) (FP.i2d (2 : Int32))))]) (lenOf pd_5 rfl) rfl (by show 2 * 0 + _ ≤ _; exact Nat.le_of_eq rfl) (hb hby at_97) (fun _ _ => ⟨rfl, e23, (by decide : 6 + 0 ≤ _), (by decide : 17 + 0 ≤ _)⟩)
      dsimp only [Pt.U, Pt.locs, Pt.cells, Pt.slots] at X27 l27 y27 z27 st27 hQ27
      subst l27 y27 z27
      obtain ⟨rfl, N27q, e27⟩ := hQ27
      have N27 := Fr.app N23 N27q
      refine Go.on st27 ?_
      show Go _ _ _ _ _ _ _ _ (mkF m 100 #[.val (.int i0), .val (.int i1), .val (.int i2), .val (.int i3), .val (.int n), .val (.ref u), .val (.ref v), .val (.ref ww), .val (.ref q), .val (.ref mm)] [(.double (expV (0 : Int32) i0 i1 i2 n)), (.double (FP.ddiv (FP.dadd (FP.dadd (0 : UInt64) (FP.i2d (compV i0 (0 : Int32)))) (FP.i2d (compV i1 (0 : Int32)))) (FP.i2d (2 : Int32))))])
      refine Go.on (fun _ k => XS.dcmpS X27.here hx rfl (hb hby at_100) rfl rfl k) ?_
      show Go _ _ _ _ _ _ _ _ (mkF m 101 #[.val (.int i0), .val (.int i1), .val (.int i2), .val (.int i3), .val (.int n), .val (.ref u), .val (.ref v), .val (.ref ww), .val (.ref q), .val (.ref mm)] [(.int (cmpValue (FP.dcmp (FP.ddiv (FP.dadd (FP.dadd (0 : UInt64) (FP.i2d (compV i0 (0 : Int32)))) (FP.i2d (compV i1 (0 : Int32)))) (FP.i2d (2 : Int32))) (expV (0 : Int32) i0 i1 i2 n)) .l))])
      have hc28 : (cmpValue (FP.dcmp (FP.ddiv (FP.dadd (FP.dadd (0 : UInt64) (FP.i2d (compV i0 (0 : Int32)))) (FP.i2d (compV i1 (0 : Int32)))) (FP.i2d (2 : Int32))) (expV (0 : Int32) i0 i1 i2 n)) .l) = (0 : Int32) := own_fin2 i0 i1 i2 (0 : Int32) hn hc7 hc22
      refine Go.on (fun _ k => XS.ifNo X27.here hx rfl (hb hby at_101) rfl ((if0 _ _).trans (teq hc28).2) k) ?_
      show Go _ _ _ _ _ _ _ _ (mkF m 104 #[.val (.int i0), .val (.int i1), .val (.int i2), .val (.int i3), .val (.int n), .val (.ref u), .val (.ref v), .val (.ref ww), .val (.ref q), .val (.ref mm)] [])
      refine Go.on (fun _ k => XS.aload X27.here hx rfl (hb hby at_104) rfl rfl k) ?_
      show Go _ _ _ _ _ _ _ _ (mkF m 106 #[.val (.int i0), .val (.int i1), .val (.int i2), .val (.int i3), .val (.int n), .val (.ref u), .val (.ref v), .val (.ref ww), .val (.ref q), .val (.ref mm)] [(.ref mm)])
      refine Go.on (fun _ k => XS.iconst X27.here hx rfl (hb hby at_106) k) ?_
      show Go _ _ _ _ _ _ _ _ (mkF m 107 #[.val (.int i0), .val (.int i1), .val (.int i2), .val (.int i3), .val (.int n), .val (.ref u), .val (.ref v), .val (.ref ww), .val (.ref q), .val (.ref mm)] [(.int (1 : Int32)), (.ref mm)])
      obtain ⟨cl29, Ar29, -, S29, -, H29, -⟩ := id V_mm
      have hin29 : ¬ ((1 : Int32) < 0 ∨ cl29.slots.size ≤ ((1 : Int32)).toNatClampNeg) := inb_of S29 ⟨by decide, by decide⟩
      refine Go.on (X27.daload hx (j := (1 : Int32)) (v := (.double (FP.ddiv (FP.dadd (FP.dadd (0 : UInt64) (FP.i2d (compV i0 (1 : Int32)))) (FP.i2d (compV i1 (1 : Int32)))) (FP.i2d (2 : Int32))))) (by rw [e27]; exact Ar29.1) (State.isArrayOf_alike hZ.alike Ar29.2.1) Ar29.2.2 hin29 (H29.at hin29 (rfl)) (g := (mkF m 107 #[.val (.int i0), .val (.int i1), .val (.int i2), .val (.int i3), .val (.int n), .val (.ref u), .val (.ref v), .val (.ref ww), .val (.ref q), .val (.ref mm)] [(.int (1 : Int32)), (.ref mm)])) rfl rfl (hb hby at_107)) ?_
      show Go _ _ _ _ _ _ _ _ (mkF m 108 #[.val (.int i0), .val (.int i1), .val (.int i2), .val (.int i3), .val (.int n), .val (.ref u), .val (.ref v), .val (.ref ww), .val (.ref q), .val (.ref mm)] [(.double (FP.ddiv (FP.dadd (FP.dadd (0 : UInt64) (FP.i2d (compV i0 (1 : Int32)))) (FP.i2d (compV i1 (1 : Int32)))) (FP.i2d (2 : Int32))))])
      refine Go.on (fun _ k => XS.iconst X27.here hx rfl (hb hby at_108) k) ?_
      show Go _ _ _ _ _ _ _ _ (mkF m 109 #[.val (.int i0), .val (.int i1), .val (.int i2), .val (.int i3), .val (.int n), .val (.ref u), .val (.ref v), .val (.ref ww), .val (.ref q), .val (.ref mm)] [(.int (1 : Int32)), (.double (FP.ddiv (FP.dadd (FP.dadd (0 : UInt64) (FP.i2d (compV i0 (1 : Int32)))) (FP.i2d (compV i1 (1 : Int32)))) (FP.i2d (2 : Int32))))])
      refine Go.on (fun _ k => XS.iloadN X27.here hx rfl (hb hby at_109) rfl k) ?_
      show Go _ _ _ _ _ _ _ _ (mkF m 110 #[.val (.int i0), .val (.int i1), .val (.int i2), .val (.int i3), .val (.int n), .val (.ref u), .val (.ref v), .val (.ref ww), .val (.ref q), .val (.ref mm)] [(.int i0), (.int (1 : Int32)), (.double (FP.ddiv (FP.dadd (FP.dadd (0 : UInt64) (FP.i2d (compV i0 (1 : Int32)))) (FP.i2d (compV i1 (1 : Int32)))) (FP.i2d (2 : Int32))))])
      refine Go.on (fun _ k => XS.iloadN X27.here hx rfl (hb hby at_110) rfl k) ?_
      show Go _ _ _ _ _ _ _ _ (mkF m 111 #[.val (.int i0), .val (.int i1), .val (.int i2), .val (.int i3), .val (.int n), .val (.ref u), .val (.ref v), .val (.ref ww), .val (.ref q), .val (.ref mm)] [(.int i1), (.int i0), (.int (1 : Int32)), (.double (FP.ddiv (FP.dadd (FP.dadd (0 : UInt64) (FP.i2d (compV i0 (1 : Int32)))) (FP.i2d (compV i1 (1 : Int32)))) (FP.i2d (2 : Int32))))])
      refine Go.on (fun _ k => XS.iloadN X27.here hx rfl (hb hby at_111) rfl k) ?_
      show Go _ _ _ _ _ _ _ _ (mkF m 112 #[.val (.int i0), .val (.int i1), .val (.int i2), .val (.int i3), .val (.int n), .val (.ref u), .val (.ref v), .val (.ref ww), .val (.ref q), .val (.ref mm)] [(.int i2), (.int i1), (.int i0), (.int (1 : Int32)), (.double (FP.ddiv (FP.dadd (FP.dadd (0 : UInt64) (FP.i2d (compV i0 (1 : Int32)))) (FP.i2d (compV i1 (1 : Int32)))) (FP.i2d (2 : Int32))))])
      refine Go.on (fun _ k => XS.iload X27.here hx rfl (hb hby at_112) rfl k) ?_
      show Go _ _ _ _ _ _ _ _ (mkF m 114 #[.val (.int i0), .val (.int i1), .val (.int i2), .val (.int i3), .val (.int n), .val (.ref u), .val (.ref v), .val (.ref ww), .val (.ref q), .val (.ref mm)] [(.int n), (.int i2), (.int i1), (.int i0), (.int (1 : Int32)), (.double (FP.ddiv (FP.dadd (FP.dadd (0 : UInt64) (FP.i2d (compV i0 (1 : Int32)))) (FP.i2d (compV i1 (1 : Int32)))) (FP.i2d (2 : Int32))))])
      obtain ⟨_, _, ⟨T30, L30, k30, n30⟩, -, X30, ⟨Lc30, hQ30, l30, y30, z30⟩, st30⟩ := Jvm.LawKit.callS X27 hx (y := (⟨"com/example/d2rank/d2rank/rerank/CentroidAddPinLaw", "expect", "(IIIII)D"⟩ : MethodName)) hown (mvT hZ (hw _ (List.mem_of_getElem? (i := 32) rfl))) (mvT hZ (hw _ (List.mem_of_getElem? (i := 33) rfl))) (mvT hZ (hw _ (List.mem_of_getElem? (i := 3) rfl))) (mvT hZ (hw _ (List.mem_of_getElem? (i := 34) rfl))) (by decide) (backOf (W := 2) (rm7 l Z aw hw [] (1 : Int32) i0 i1 i2 n  h23 n0 ZZ (own_n0 hn)) hZ (hw _ (List.mem_of_getElem? (i := 34) rfl)) (hw _ (List.mem_of_getElem? (i := 3) rfl)) (by decide) (by decide)) (g := (mkF m 114 #[.val (.int i0), .val (.int i1), .val (.int i2), .val (.int i3), .val (.int n), .val (.ref u), .val (.ref v), .val (.ref ww), .val (.ref q), .val (.ref mm)] [(.int n), (.int i2), (.int i1), (.int i0), (.int (1 : Int32)), (.double (FP.ddiv (FP.dadd (FP.dadd (0 : UInt64) (FP.i2d (compV i0 (1 : Int32)))) (FP.i2d (compV i1 (1 : Int32)))) (FP.i2d (2 : Int32))))])) rfl (by rw [hml]; rfl) (argsL := [(.int (1 : Int32)), (.int i0), (.int i1), (.int i2), (.int n)]) (rest := [(.double (FP.ddiv (FP.dadd (FP.dadd (0 : UInt64) (FP.i2d (compV i0 (1 : Int32)))) (FP.i2d (compV i1 (1 : Int32)))) (FP.i2d (2 : Int32))))]) (lenOf pd_5 rfl) rfl (by show 2 * 0 + _ ≤ _; exact Nat.le_of_eq rfl) (hb hby at_114) (fun _ _ => ⟨rfl, e27, (by decide : 6 + 0 ≤ _), (by decide : 17 + 0 ≤ _)⟩)
      dsimp only [Pt.U, Pt.locs, Pt.cells, Pt.slots] at X30 l30 y30 z30 st30 hQ30
      subst l30 y30 z30
      obtain ⟨rfl, N30q, e30⟩ := hQ30
      have N30 := Fr.app N27 N30q
      refine Go.on st30 ?_
      show Go _ _ _ _ _ _ _ _ (mkF m 117 #[.val (.int i0), .val (.int i1), .val (.int i2), .val (.int i3), .val (.int n), .val (.ref u), .val (.ref v), .val (.ref ww), .val (.ref q), .val (.ref mm)] [(.double (expV (1 : Int32) i0 i1 i2 n)), (.double (FP.ddiv (FP.dadd (FP.dadd (0 : UInt64) (FP.i2d (compV i0 (1 : Int32)))) (FP.i2d (compV i1 (1 : Int32)))) (FP.i2d (2 : Int32))))])
      refine Go.on (fun _ k => XS.dcmpS X30.here hx rfl (hb hby at_117) rfl rfl k) ?_
      show Go _ _ _ _ _ _ _ _ (mkF m 118 #[.val (.int i0), .val (.int i1), .val (.int i2), .val (.int i3), .val (.int n), .val (.ref u), .val (.ref v), .val (.ref ww), .val (.ref q), .val (.ref mm)] [(.int (cmpValue (FP.dcmp (FP.ddiv (FP.dadd (FP.dadd (0 : UInt64) (FP.i2d (compV i0 (1 : Int32)))) (FP.i2d (compV i1 (1 : Int32)))) (FP.i2d (2 : Int32))) (expV (1 : Int32) i0 i1 i2 n)) .l))])
      have hc31 : (cmpValue (FP.dcmp (FP.ddiv (FP.dadd (FP.dadd (0 : UInt64) (FP.i2d (compV i0 (1 : Int32)))) (FP.i2d (compV i1 (1 : Int32)))) (FP.i2d (2 : Int32))) (expV (1 : Int32) i0 i1 i2 n)) .l) = (0 : Int32) := own_fin2 i0 i1 i2 (1 : Int32) hn hc7 hc22
      refine Go.on (fun _ k => XS.ifNo X30.here hx rfl (hb hby at_118) rfl ((if0 _ _).trans (teq hc31).2) k) ?_
      show Go _ _ _ _ _ _ _ _ (mkF m 121 #[.val (.int i0), .val (.int i1), .val (.int i2), .val (.int i3), .val (.int n), .val (.ref u), .val (.ref v), .val (.ref ww), .val (.ref q), .val (.ref mm)] [])
      refine Go.on (fun _ k => XS.aload X30.here hx rfl (hb hby at_121) rfl rfl k) ?_
      show Go _ _ _ _ _ _ _ _ (mkF m 123 #[.val (.int i0), .val (.int i1), .val (.int i2), .val (.int i3), .val (.int n), .val (.ref u), .val (.ref v), .val (.ref ww), .val (.ref q), .val (.ref mm)] [(.ref mm)])
      refine Go.on (fun _ k => XS.iconst X30.here hx rfl (hb hby at_123) k) ?_
      show Go _ _ _ _ _ _ _ _ (mkF m 124 #[.val (.int i0), .val (.int i1), .val (.int i2), .val (.int i3), .val (.int n), .val (.ref u), .val (.ref v), .val (.ref ww), .val (.ref q), .val (.ref mm)] [(.int (2 : Int32)), (.ref mm)])
      obtain ⟨cl32, Ar32, -, S32, -, H32, -⟩ := id V_mm
      have hin32 : ¬ ((2 : Int32) < 0 ∨ cl32.slots.size ≤ ((2 : Int32)).toNatClampNeg) := inb_of S32 ⟨by decide, by decide⟩
      refine Go.on (X30.daload hx (j := (2 : Int32)) (v := (.double (FP.ddiv (FP.dadd (FP.dadd (0 : UInt64) (FP.i2d (compV i0 (2 : Int32)))) (FP.i2d (compV i1 (2 : Int32)))) (FP.i2d (2 : Int32))))) (by rw [e30]; exact Ar32.1) (State.isArrayOf_alike hZ.alike Ar32.2.1) Ar32.2.2 hin32 (H32.at hin32 (rfl)) (g := (mkF m 124 #[.val (.int i0), .val (.int i1), .val (.int i2), .val (.int i3), .val (.int n), .val (.ref u), .val (.ref v), .val (.ref ww), .val (.ref q), .val (.ref mm)] [(.int (2 : Int32)), (.ref mm)])) rfl rfl (hb hby at_124)) ?_
      show Go _ _ _ _ _ _ _ _ (mkF m 125 #[.val (.int i0), .val (.int i1), .val (.int i2), .val (.int i3), .val (.int n), .val (.ref u), .val (.ref v), .val (.ref ww), .val (.ref q), .val (.ref mm)] [(.double (FP.ddiv (FP.dadd (FP.dadd (0 : UInt64) (FP.i2d (compV i0 (2 : Int32)))) (FP.i2d (compV i1 (2 : Int32)))) (FP.i2d (2 : Int32))))])
      refine Go.on (fun _ k => XS.iconst X30.here hx rfl (hb hby at_125) k) ?_
      show Go _ _ _ _ _ _ _ _ (mkF m 126 #[.val (.int i0), .val (.int i1), .val (.int i2), .val (.int i3), .val (.int n), .val (.ref u), .val (.ref v), .val (.ref ww), .val (.ref q), .val (.ref mm)] [(.int (2 : Int32)), (.double (FP.ddiv (FP.dadd (FP.dadd (0 : UInt64) (FP.i2d (compV i0 (2 : Int32)))) (FP.i2d (compV i1 (2 : Int32)))) (FP.i2d (2 : Int32))))])
      refine Go.on (fun _ k => XS.iloadN X30.here hx rfl (hb hby at_126) rfl k) ?_
      show Go _ _ _ _ _ _ _ _ (mkF m 127 #[.val (.int i0), .val (.int i1), .val (.int i2), .val (.int i3), .val (.int n), .val (.ref u), .val (.ref v), .val (.ref ww), .val (.ref q), .val (.ref mm)] [(.int i0), (.int (2 : Int32)), (.double (FP.ddiv (FP.dadd (FP.dadd (0 : UInt64) (FP.i2d (compV i0 (2 : Int32)))) (FP.i2d (compV i1 (2 : Int32)))) (FP.i2d (2 : Int32))))])
      refine Go.on (fun _ k => XS.iloadN X30.here hx rfl (hb hby at_127) rfl k) ?_
      show Go _ _ _ _ _ _ _ _ (mkF m 128 #[.val (.int i0), .val (.int i1), .val (.int i2), .val (.int i3), .val (.int n), .val (.ref u), .val (.ref v), .val (.ref ww), .val (.ref q), .val (.ref mm)] [(.int i1), (.int i0), (.int (2 : Int32)), (.double (FP.ddiv (FP.dadd (FP.dadd (0 : UInt64) (FP.i2d (compV i0 (2 : Int32)))) (FP.i2d (compV i1 (2 : Int32)))) (FP.i2d (2 : Int32))))])
      refine Go.on (fun _ k => XS.iloadN X30.here hx rfl (hb hby at_128) rfl k) ?_
      show Go _ _ _ _ _ _ _ _ (mkF m 129 #[.val (.int i0), .val (.int i1), .val (.int i2), .val (.int i3), .val (.int n), .val (.ref u), .val (.ref v), .val (.ref ww), .val (.ref q), .val (.ref mm)] [(.int i2), (.int i1), (.int i0), (.int (2 : Int32)), (.double (FP.ddiv (FP.dadd (FP.dadd (0 : UInt64) (FP.i2d (compV i0 (2 : Int32)))) (FP.i2d (compV i1 (2 : Int32)))) (FP.i2d (2 : Int32))))])
      refine Go.on (fun _ k => XS.iload X30.here hx rfl (hb hby at_129) rfl k) ?_
      show Go _ _ _ _ _ _ _ _ (mkF m 131 #[.val (.int i0), .val (.int i1), .val (.int i2), .val (.int i3), .val (.int n), .val (.ref u), .val (.ref v), .val (.ref ww), .val (.ref q), .val (.ref mm)] [(.int n), (.int i2), (.int i1), (.int i0), (.int (2 : Int32)), (.double (FP.ddiv (FP.dadd (FP.dadd (0 : UInt64) (FP.i2d (compV i0 (2 : Int32)))) (FP.i2d (compV i1 (2 : Int32)))) (FP.i2d (2 : Int32))))])
      obtain ⟨_, _, ⟨T33, L33, k33, n33⟩, -, X33, ⟨Lc33, hQ33, l33, y33, z33⟩, st33⟩ := Jvm.LawKit.callS X30 hx (y := (⟨"com/example/d2rank/d2rank/rerank/CentroidAddPinLaw", "expect", "(IIIII)D"⟩ : MethodName)) hown (mvT hZ (hw _ (List.mem_of_getElem? (i := 32) rfl))) (mvT hZ (hw _ (List.mem_of_getElem? (i := 33) rfl))) (mvT hZ (hw _ (List.mem_of_getElem? (i := 3) rfl))) (mvT hZ (hw _ (List.mem_of_getElem? (i := 34) rfl))) (by decide) (backOf (W := 2) (rm7 l Z aw hw [] (2 : Int32) i0 i1 i2 n  h23 n0 ZZ (own_n0 hn)) hZ (hw _ (List.mem_of_getElem? (i := 34) rfl)) (hw _ (List.mem_of_getElem? (i := 3) rfl)) (by decide) (by decide)) (g := (mkF m 131 #[.val (.int i0), .val (.int i1), .val (.int i2), .val (.int i3), .val (.int n), .val (.ref u), .val (.ref v), .val (.ref ww), .val (.ref q), .val (.ref mm)] [(.int n), (.int i2), (.int i1), (.int i0), (.int (2 : Int32)), (.double (FP.ddiv (FP.dadd (FP.dadd (0 : UInt64) (FP.i2d (compV i0 (2 : Int32)))) (FP.i2d (compV i1 (2 : Int32)))) (FP.i2d (2 : Int32))))])) rfl (by rw [hml]; rfl) (argsL := [(.int (2 : Int32)), (.int i0), (.int i1), (.int i2), (.int n)]) (rest := [(.double (FP.ddiv (FP.dadd (FP.dadd (0 : UInt64) (FP.i2d (compV i0 (2 : Int32)))) (FP.i2d (compV i1 (2 : Int32)))) (FP.i2d (2 : Int32))))]) (lenOf pd_5 rfl) rfl (by show 2 * 0 + _ ≤ _; exact Nat.le_of_eq rfl) (hb hby at_131) (fun _ _ => ⟨rfl, e30, (by decide : 6 + 0 ≤ _), (by decide : 17 + 0 ≤ _)⟩)
      dsimp only [Pt.U, Pt.locs, Pt.cells, Pt.slots] at X33 l33 y33 z33 st33 hQ33
      subst l33 y33 z33
      obtain ⟨rfl, N33q, e33⟩ := hQ33
      have N33 := Fr.app N30 N33q
      refine Go.on st33 ?_
      show Go _ _ _ _ _ _ _ _ (mkF m 134 #[.val (.int i0), .val (.int i1), .val (.int i2), .val (.int i3), .val (.int n), .val (.ref u), .val (.ref v), .val (.ref ww), .val (.ref q), .val (.ref mm)] [(.double (expV (2 : Int32) i0 i1 i2 n)), (.double (FP.ddiv (FP.dadd (FP.dadd (0 : UInt64) (FP.i2d (compV i0 (2 : Int32)))) (FP.i2d (compV i1 (2 : Int32)))) (FP.i2d (2 : Int32))))])
      refine Go.on (fun _ k => XS.dcmpS X33.here hx rfl (hb hby at_134) rfl rfl k) ?_
      show Go _ _ _ _ _ _ _ _ (mkF m 135 #[.val (.int i0), .val (.int i1), .val (.int i2), .val (.int i3), .val (.int n), .val (.ref u), .val (.ref v), .val (.ref ww), .val (.ref q), .val (.ref mm)] [(.int (cmpValue (FP.dcmp (FP.ddiv (FP.dadd (FP.dadd (0 : UInt64) (FP.i2d (compV i0 (2 : Int32)))) (FP.i2d (compV i1 (2 : Int32)))) (FP.i2d (2 : Int32))) (expV (2 : Int32) i0 i1 i2 n)) .l))])
      have hc34 : (cmpValue (FP.dcmp (FP.ddiv (FP.dadd (FP.dadd (0 : UInt64) (FP.i2d (compV i0 (2 : Int32)))) (FP.i2d (compV i1 (2 : Int32)))) (FP.i2d (2 : Int32))) (expV (2 : Int32) i0 i1 i2 n)) .l) = (0 : Int32) := own_fin2 i0 i1 i2 (2 : Int32) hn hc7 hc22
      refine Go.on (fun _ k => XS.ifNo X33.here hx rfl (hb hby at_135) rfl ((if0 _ _).trans (teq hc34).2) k) ?_
      show Go _ _ _ _ _ _ _ _ (mkF m 138 #[.val (.int i0), .val (.int i1), .val (.int i2), .val (.int i3), .val (.int n), .val (.ref u), .val (.ref v), .val (.ref ww), .val (.ref q), .val (.ref mm)] [])
      refine Go.on (fun _ k => XS.iconst X33.here hx rfl (hb hby at_138) k) ?_
      show Go _ _ _ _ _ _ _ _ (mkF m 139 #[.val (.int i0), .val (.int i1), .val (.int i2), .val (.int i3), .val (.int n), .val (.ref u), .val (.ref v), .val (.ref ww), .val (.ref q), .val (.ref mm)] [(.int (1 : Int32))])
      refine Go.on (fun _ k => XS.goto X33.here hx rfl (pc0 := 139) (pc' := 143) rfl (hb hby at_139) (by decide) (by decide) k) ?_
      show Go _ _ _ _ _ _ _ _ (mkF m 143 #[.val (.int i0), .val (.int i1), .val (.int i2), .val (.int i3), .val (.int n), .val (.ref u), .val (.ref v), .val (.ref ww), .val (.ref q), .val (.ref mm)] [(.int (1 : Int32))])
      refine Go.retN X33 hx (t := .boolean) Bd.returns (by simp) (hb hby at_143) ?_ (by rw [hK1]; decide) (by rw [hK2]; decide)
      rw [e33, ← hQQ]
      exact ⟨rfl, N33⟩
    · -- pc 61
      refine Go.on (fun _ k => XS.icmpNo X21.here hx rfl (hb hby at_61) rfl (flt hc22).1 k) ?_
      show Go _ _ _ _ _ _ _ _ (mkF m 64 #[.val (.int i0), .val (.int i1), .val (.int i2), .val (.int i3), .val (.int n), .val (.ref u), .val (.ref v), .val (.ref ww), .val (.ref q), .unset] [])
      refine Go.on (fun _ k => XS.aload X21.here hx rfl (hb hby at_64) rfl rfl k) ?_
      show Go _ _ _ _ _ _ _ _ (mkF m 66 #[.val (.int i0), .val (.int i1), .val (.int i2), .val (.int i3), .val (.int n), .val (.ref u), .val (.ref v), .val (.ref ww), .val (.ref q), .unset] [(.ref q)])
      refine Go.on (fun _ k => XS.aload X21.here hx rfl (hb hby at_66) rfl rfl k) ?_
      show Go _ _ _ _ _ _ _ _ (mkF m 68 #[.val (.int i0), .val (.int i1), .val (.int i2), .val (.int i3), .val (.int n), .val (.ref u), .val (.ref v), .val (.ref ww), .val (.ref q), .unset] [(.ref ww), (.ref q)])
      obtain ⟨cq35, kq35, q35a, q35b, q35c⟩ := isOf hZ e21 E_q
      obtain ⟨_, _, ⟨T35, L35, k35, n35⟩, -, X35, ⟨Lc35, hQ35, l35, y35, z35⟩, st35⟩ := X21.virtualBack hx (y := (⟨"com/example/d2rank/d2rank/rerank/Centroid", "add", "([D)V"⟩ : MethodName)) (z := (⟨"com/example/d2rank/d2rank/rerank/Centroid", "add", "([D)V"⟩ : MethodName)) hown (mvT hZ (hw _ (List.mem_of_getElem? (i := 20) rfl))) (mvT hZ (hw _ (List.mem_of_getElem? (i := 21) rfl))) (notFace_of_selects (args := #[]) (mvT hZ (hw _ (List.mem_of_getElem? (i := 23) rfl)))) (mvT hZ (hw _ (List.mem_of_getElem? (i := 23) rfl))) (mvT hZ (hw _ (List.mem_of_getElem? (i := 22) rfl))) (by decide) (backOf (W := 0) (ca_3 l Z aw hw [] q ww ar (2 : Int32) k_ar (FP.dadd (FP.dadd (0 : UInt64) (FP.i2d (compV i0 (0 : Int32)))) (FP.i2d (compV i1 (0 : Int32)))) (FP.dadd (FP.dadd (0 : UInt64) (FP.i2d (compV i0 (1 : Int32)))) (FP.i2d (compV i1 (1 : Int32)))) (FP.dadd (FP.dadd (0 : UInt64) (FP.i2d (compV i0 (2 : Int32)))) (FP.i2d (compV i1 (2 : Int32)))) k_ww (FP.i2d (compV i2 (0 : Int32))) (FP.i2d (compV i2 (1 : Int32))) (FP.i2d (compV i2 (2 : Int32))) h21 n0 ZZ E_q F_sum_q F_count_q V_ar V_ww g_q g_ar ne_q_ar ne_ww_ar ne_ww_q (own_s3 i0 i1 i2 _).nn (own_s3 i0 i1 i2 _).nn (own_s3 i0 i1 i2 _).nn) hZ (hw _ (List.mem_of_getElem? (i := 24) rfl)) (hw _ (List.mem_of_getElem? (i := 11) rfl)) (by decide) (by decide)) q35a q35c (g := (mkF m 68 #[.val (.int i0), .val (.int i1), .val (.int i2), .val (.int i3), .val (.int n), .val (.ref u), .val (.ref v), .val (.ref ww), .val (.ref q), .unset] [(.ref ww), (.ref q)])) rfl (by rw [hml]; rfl) (Steps.refl _) (argsL := [(.ref ww)]) (rest := []) (lenOf pd_3 rfl) rfl (by show 2 * 0 + _ ≤ _; exact Nat.le_of_eq rfl) (hb hby at_68) (fun _ _ => ⟨rfl, e21, (by decide : 5 + 0 ≤ _), (by decide : 14 + 0 ≤ _)⟩)
      dsimp only [Pt.U, Pt.locs, Pt.cells, Pt.slots] at X35 l35 y35 z35 st35 hQ35
      subst l35 y35 z35
      obtain ⟨h35, e35⟩ : ∃ q, T35.heap = q := ⟨_, rfl⟩
      rw [e35] at hQ35
      obtain ⟨rfl, N35q, K35q, Eq35, F_sumq35, F_countq35, V_q35⟩ := hQ35
      have N35 := Fr.app N21 N35q
      have ZZ35p := ZZ
      have lt_u := V_u.lt
      have lt_v := V_v.lt
      have lt_ww := V_ww.lt
      have lt_q := E_q.lt
      have lt_ar := V_ar.lt
      replace V_u := V_u.keep K35q (ninS ne_u_q (ninS ne_u_ar nin0))
      replace V_v := V_v.keep K35q (ninS ne_v_q (ninS ne_v_ar nin0))
      replace V_ww := V_ww.keep K35q (ninS ne_ww_q (ninS ne_ww_ar nin0))
      replace E_q := E_q.keep K35q
      replace ZZ := Nat.le_trans ZZ K35q.1
      have F_sum_q := F_sumq35
      have F_count_q : Fld Z h35 q "com/example/d2rank/d2rank/rerank/Centroid" "count" "I" (.int (3 : Int32)) := F_countq35
      have V_ar := V_q35
      refine Go.on (fun _ k => st35.trans k) ?_
      show Go _ _ _ _ _ _ _ _ (mkF m 71 #[.val (.int i0), .val (.int i1), .val (.int i2), .val (.int i3), .val (.int n), .val (.ref u), .val (.ref v), .val (.ref ww), .val (.ref q), .unset] [])
      refine Go.on (fun _ k => XS.aload X35.here hx rfl (hb hby at_71) rfl rfl k) ?_
      show Go _ _ _ _ _ _ _ _ (mkF m 73 #[.val (.int i0), .val (.int i1), .val (.int i2), .val (.int i3), .val (.int n), .val (.ref u), .val (.ref v), .val (.ref ww), .val (.ref q), .unset] [(.ref q)])
      obtain ⟨cq36, kq36, q36a, q36b, q36c⟩ := isOf hZ e35 E_q
      obtain ⟨_, _, ⟨T36, L36, k36, n36⟩, -, X36, ⟨Lc36, hQ36, l36, y36, z36⟩, st36⟩ := X35.virtualBack hx (y := (⟨"com/example/d2rank/d2rank/rerank/Centroid", "mean", "()[D"⟩ : MethodName)) (z := (⟨"com/example/d2rank/d2rank/rerank/Centroid", "mean", "()[D"⟩ : MethodName)) hown (mvT hZ (hw _ (List.mem_of_getElem? (i := 27) rfl))) (mvT hZ (hw _ (List.mem_of_getElem? (i := 28) rfl))) (notFace_of_selects (args := #[]) (mvT hZ (hw _ (List.mem_of_getElem? (i := 30) rfl)))) (mvT hZ (hw _ (List.mem_of_getElem? (i := 30) rfl))) (mvT hZ (hw _ (List.mem_of_getElem? (i := 29) rfl))) (by decide) (backOf (W := 0) (cm_3 l Z aw hw [] q ar (3 : Int32) k_ar (FP.dadd (FP.dadd (FP.dadd (0 : UInt64) (FP.i2d (compV i0 (0 : Int32)))) (FP.i2d (compV i1 (0 : Int32)))) (FP.i2d (compV i2 (0 : Int32)))) (FP.dadd (FP.dadd (FP.dadd (0 : UInt64) (FP.i2d (compV i0 (1 : Int32)))) (FP.i2d (compV i1 (1 : Int32)))) (FP.i2d (compV i2 (1 : Int32)))) (FP.dadd (FP.dadd (FP.dadd (0 : UInt64) (FP.i2d (compV i0 (2 : Int32)))) (FP.i2d (compV i1 (2 : Int32)))) (FP.i2d (compV i2 (2 : Int32)))) h35 n0 ZZ F_sum_q F_count_q V_ar (own_nnd' (own_s3 i0 i1 i2 _).1 _ (by decide)) (own_nnd' (own_s3 i0 i1 i2 _).1 _ (by decide)) (own_nnd' (own_s3 i0 i1 i2 _).1 _ (by decide))) hZ (hw _ (List.mem_of_getElem? (i := 31) rfl)) (hw _ (List.mem_of_getElem? (i := 11) rfl)) (by decide) (by decide)) q36a q36c (g := (mkF m 73 #[.val (.int i0), .val (.int i1), .val (.int i2), .val (.int i3), .val (.int n), .val (.ref u), .val (.ref v), .val (.ref ww), .val (.ref q), .unset] [(.ref q)])) rfl (by rw [hml]; rfl) (Steps.refl _) (argsL := []) (rest := []) (lenOf pd_4 rfl) rfl (by show 2 * 0 + _ ≤ _; exact Nat.le_of_eq rfl) (hb hby at_73) (fun _ _ => ⟨rfl, e35, (by decide : 5 + 1 ≤ _), (by decide : 14 + 3 ≤ _)⟩)
      dsimp only [Pt.U, Pt.locs, Pt.cells, Pt.slots] at X36 l36 y36 z36 st36 hQ36
      subst l36 y36 z36
      obtain ⟨h36, e36⟩ : ∃ q, T36.heap = q := ⟨_, rfl⟩
      rw [e36] at hQ36
      obtain ⟨mm, kq36, rfl, N36q, K36q, szq36, V_q36⟩ := hQ36
      have N36 := Fr.app N35 N36q
      have ZZ36p := ZZ
      replace V_u := V_u.keep K36q nin0
      replace V_v := V_v.keep K36q nin0
      replace V_ww := V_ww.keep K36q nin0
      replace E_q := E_q.keep K36q
      replace F_sum_q := F_sum_q.keep K36q nin0
      replace F_count_q := F_count_q.keep K36q nin0
      replace V_ar := V_ar.keep K36q nin0
      replace ZZ := Nat.le_trans ZZ K36q.1
      have g_mm : n0 ≤ mm := Nat.le_trans ZZ36p szq36
      have V_mm := V_q36
      obtain ⟨k_mm, hk_mm⟩ : ∃ z, z = kq36 := ⟨_, rfl⟩
      rw [← hk_mm] at V_mm
      refine Go.on (fun _ k => st36.trans k) ?_
      show Go _ _ _ _ _ _ _ _ (mkF m 76 #[.val (.int i0), .val (.int i1), .val (.int i2), .val (.int i3), .val (.int n), .val (.ref u), .val (.ref v), .val (.ref ww), .val (.ref q), .unset] [(.ref mm)])
      refine Go.on (fun _ k => XS.astore X36.here hx rfl (hb hby at_76) rfl rfl (l' := #[.val (.int i0), .val (.int i1), .val (.int i2), .val (.int i3), .val (.int n), .val (.ref u), .val (.ref v), .val (.ref ww), .val (.ref q), .val (.ref mm)]) rfl k) ?_
      show Go _ _ _ _ _ _ _ _ (mkF m 78 #[.val (.int i0), .val (.int i1), .val (.int i2), .val (.int i3), .val (.int n), .val (.ref u), .val (.ref v), .val (.ref ww), .val (.ref q), .val (.ref mm)] [])
      refine Go.on (fun _ k => XS.aload X36.here hx rfl (hb hby at_78) rfl rfl k) ?_
      show Go _ _ _ _ _ _ _ _ (mkF m 80 #[.val (.int i0), .val (.int i1), .val (.int i2), .val (.int i3), .val (.int n), .val (.ref u), .val (.ref v), .val (.ref ww), .val (.ref q), .val (.ref mm)] [(.ref mm)])
      obtain ⟨cl37, Ar37, -, S37, N37n, -, -⟩ := id V_mm
      refine Go.on (X36.arraylength hx (by rw [e36]; exact Ar37.1) (State.isArrayOf_alike hZ.alike Ar37.2.1) (g := (mkF m 80 #[.val (.int i0), .val (.int i1), .val (.int i2), .val (.int i3), .val (.int n), .val (.ref u), .val (.ref v), .val (.ref ww), .val (.ref q), .val (.ref mm)] [(.ref mm)])) rfl rfl (hb hby at_80)) ?_
      rw [len_of S37 N37n]
      show Go _ _ _ _ _ _ _ _ (mkF m 81 #[.val (.int i0), .val (.int i1), .val (.int i2), .val (.int i3), .val (.int n), .val (.ref u), .val (.ref v), .val (.ref ww), .val (.ref q), .val (.ref mm)] [(.int (3 : Int32))])
      refine Go.on (fun _ k => XS.iconst X36.here hx rfl (hb hby at_81) k) ?_
      show Go _ _ _ _ _ _ _ _ (mkF m 82 #[.val (.int i0), .val (.int i1), .val (.int i2), .val (.int i3), .val (.int n), .val (.ref u), .val (.ref v), .val (.ref ww), .val (.ref q), .val (.ref mm)] [(.int (3 : Int32)), (.int (3 : Int32))])
      have hc38 : (3 : Int32) = (3 : Int32) := by decide
      refine Go.on (fun _ k => XS.icmpYes X36.here hx rfl (pc0 := 82) (pc' := 87) rfl (hb hby at_82) rfl (teq hc38).1 (by decide) (by decide) k) ?_
      show Go _ _ _ _ _ _ _ _ (mkF m 87 #[.val (.int i0), .val (.int i1), .val (.int i2), .val (.int i3), .val (.int n), .val (.ref u), .val (.ref v), .val (.ref ww), .val (.ref q), .val (.ref mm)] [])
      refine Go.on (fun _ k => XS.aload X36.here hx rfl (hb hby at_87) rfl rfl k) ?_
      show Go _ _ _ _ _ _ _ _ (mkF m 89 #[.val (.int i0), .val (.int i1), .val (.int i2), .val (.int i3), .val (.int n), .val (.ref u), .val (.ref v), .val (.ref ww), .val (.ref q), .val (.ref mm)] [(.ref mm)])
      refine Go.on (fun _ k => XS.iconst X36.here hx rfl (hb hby at_89) k) ?_
      show Go _ _ _ _ _ _ _ _ (mkF m 90 #[.val (.int i0), .val (.int i1), .val (.int i2), .val (.int i3), .val (.int n), .val (.ref u), .val (.ref v), .val (.ref ww), .val (.ref q), .val (.ref mm)] [(.int (0 : Int32)), (.ref mm)])
      obtain ⟨cl39, Ar39, -, S39, -, H39, -⟩ := id V_mm
      have hin39 : ¬ ((0 : Int32) < 0 ∨ cl39.slots.size ≤ ((0 : Int32)).toNatClampNeg) := inb_of S39 ⟨by decide, by decide⟩
      refine Go.on (X36.daload hx (j := (0 : Int32)) (v := (.double (FP.ddiv (FP.dadd (FP.dadd (FP.dadd (0 : UInt64) (FP.i2d (compV i0 (0 : Int32)))) (FP.i2d (compV i1 (0 : Int32)))) (FP.i2d (compV i2 (0 : Int32)))) (FP.i2d (3 : Int32))))) (by rw [e36]; exact Ar39.1) (State.isArrayOf_alike hZ.alike Ar39.2.1) Ar39.2.2 hin39 (H39.at hin39 (rfl)) (g := (mkF m 90 #[.val (.int i0), .val (.int i1), .val (.int i2), .val (.int i3), .val (.int n), .val (.ref u), .val (.ref v), .val (.ref ww), .val (.ref q), .val (.ref mm)] [(.int (0 : Int32)), (.ref mm)])) rfl rfl (hb hby at_90)) ?_
      show Go _ _ _ _ _ _ _ _ (mkF m 91 #[.val (.int i0), .val (.int i1), .val (.int i2), .val (.int i3), .val (.int n), .val (.ref u), .val (.ref v), .val (.ref ww), .val (.ref q), .val (.ref mm)] [(.double (FP.ddiv (FP.dadd (FP.dadd (FP.dadd (0 : UInt64) (FP.i2d (compV i0 (0 : Int32)))) (FP.i2d (compV i1 (0 : Int32)))) (FP.i2d (compV i2 (0 : Int32)))) (FP.i2d (3 : Int32))))])
      refine Go.on (fun _ k => XS.iconst X36.here hx rfl (hb hby at_91) k) ?_
      show Go _ _ _ _ _ _ _ _ (mkF m 92 #[.val (.int i0), .val (.int i1), .val (.int i2), .val (.int i3), .val (.int n), .val (.ref u), .val (.ref v), .val (.ref ww), .val (.ref q), .val (.ref mm)] [(.int (0 : Int32)), (.double (FP.ddiv (FP.dadd (FP.dadd (FP.dadd (0 : UInt64) (FP.i2d (compV i0 (0 : Int32)))) (FP.i2d (compV i1 (0 : Int32)))) (FP.i2d (compV i2 (0 : Int32)))) (FP.i2d (3 : Int32))))])
      refine Go.on (fun _ k => XS.iloadN X36.here hx rfl (hb hby at_92) rfl k) ?_
      show Go _ _ _ _ _ _ _ _ (mkF m 93 #[.val (.int i0), .val (.int i1), .val (.int i2), .val (.int i3), .val (.int n), .val (.ref u), .val (.ref v), .val (.ref ww), .val (.ref q), .val (.ref mm)] [(.int i0), (.int (0 : Int32)), (.double (FP.ddiv (FP.dadd (FP.dadd (FP.dadd (0 : UInt64) (FP.i2d (compV i0 (0 : Int32)))) (FP.i2d (compV i1 (0 : Int32)))) (FP.i2d (compV i2 (0 : Int32)))) (FP.i2d (3 : Int32))))])
      refine Go.on (fun _ k => XS.iloadN X36.here hx rfl (hb hby at_93) rfl k) ?_
      show Go _ _ _ _ _ _ _ _ (mkF m 94 #[.val (.int i0), .val (.int i1), .val (.int i2), .val (.int i3), .val (.int n), .val (.ref u), .val (.ref v), .val (.ref ww), .val (.ref q), .val (.ref mm)] [(.int i1), (.int i0), (.int (0 : Int32)), (.double (FP.ddiv (FP.dadd (FP.dadd (FP.dadd (0 : UInt64) (FP.i2d (compV i0 (0 : Int32)))) (FP.i2d (compV i1 (0 : Int32)))) (FP.i2d (compV i2 (0 : Int32)))) (FP.i2d (3 : Int32))))])
      refine Go.on (fun _ k => XS.iloadN X36.here hx rfl (hb hby at_94) rfl k) ?_
      show Go _ _ _ _ _ _ _ _ (mkF m 95 #[.val (.int i0), .val (.int i1), .val (.int i2), .val (.int i3), .val (.int n), .val (.ref u), .val (.ref v), .val (.ref ww), .val (.ref q), .val (.ref mm)] [(.int i2), (.int i1), (.int i0), (.int (0 : Int32)), (.double (FP.ddiv (FP.dadd (FP.dadd (FP.dadd (0 : UInt64) (FP.i2d (compV i0 (0 : Int32)))) (FP.i2d (compV i1 (0 : Int32)))) (FP.i2d (compV i2 (0 : Int32)))) (FP.i2d (3 : Int32))))])
      refine Go.on (fun _ k => XS.iload X36.here hx rfl (hb hby at_95) rfl k) ?_
      show Go _ _ _ _ _ _ _ _ (mkF m 97 #[.val (.int i0), .val (.int i1), .val (.int i2), .val (.int i3), .val (.int n), .val (.ref u), .val (.ref v), .val (.ref ww), .val (.ref q), .val (.ref mm)] [(.int n), (.int i2), (.int i1), (.int i0), (.int (0 : Int32)), (.double (FP.ddiv (FP.dadd (FP.dadd (FP.dadd (0 : UInt64) (FP.i2d (compV i0 (0 : Int32)))) (FP.i2d (compV i1 (0 : Int32)))) (FP.i2d (compV i2 (0 : Int32)))) (FP.i2d (3 : Int32))))])
      obtain ⟨_, _, ⟨T40, L40, k40, n40⟩, -, X40, ⟨Lc40, hQ40, l40, y40, z40⟩, st40⟩ := Jvm.LawKit.callS X36 hx (y := (⟨"com/example/d2rank/d2rank/rerank/CentroidAddPinLaw", "expect", "(IIIII)D"⟩ : MethodName)) hown (mvT hZ (hw _ (List.mem_of_getElem? (i := 32) rfl))) (mvT hZ (hw _ (List.mem_of_getElem? (i := 33) rfl))) (mvT hZ (hw _ (List.mem_of_getElem? (i := 3) rfl))) (mvT hZ (hw _ (List.mem_of_getElem? (i := 34) rfl))) (by decide) (backOf (W := 2) (rm7 l Z aw hw [] (0 : Int32) i0 i1 i2 n  h36 n0 ZZ (own_n0 hn)) hZ (hw _ (List.mem_of_getElem? (i := 34) rfl)) (hw _ (List.mem_of_getElem? (i := 3) rfl)) (by decide) (by decide)) (g := (mkF m 97 #[.val (.int i0), .val (.int i1), .val (.int i2), .val (.int i3), .val (.int n), .val (.ref u), .val (.ref v), .val (.ref ww), .val (.ref q), .val (.ref mm)] [(.int n), (.int i2), (.int i1), (.int i0), (.int (0 : Int32)), (.double (FP.ddiv (FP.dadd (FP.dadd (FP.dadd (0 : UInt64) (FP.i2d (compV i0 (0 : Int32)))) (FP.i2d (compV i1 (0 : Int32)))) (FP.i2d (compV i2 (0 : Int32)))) (FP.i2d (3 : Int32))))])) rfl (by rw [hml]; rfl) (argsL := [(.int (0 : Int32)), (.int i0), (.int i1), (.int i2), (.int n)]) (rest := [(.double (FP.ddiv (FP.dadd (FP.dadd (FP.dadd (0 : UInt64) (FP.i2d (compV i0 (0 : Int32)))) (FP.i2d (compV i1 (0 : Int32)))) (FP.i2d (compV i2 (0 : Int32)))) (FP.i2d (3 : Int32))))]) (lenOf pd_5 rfl) rfl (by show 2 * 0 + _ ≤ _; exact Nat.le_of_eq rfl) (hb hby at_97) (fun _ _ => ⟨rfl, e36, (by decide : 6 + 0 ≤ _), (by decide : 17 + 0 ≤ _)⟩)
      dsimp only [Pt.U, Pt.locs, Pt.cells, Pt.slots] at X40 l40 y40 z40 st40 hQ40
      subst l40 y40 z40
      obtain ⟨rfl, N40q, e40⟩ := hQ40
      have N40 := Fr.app N36 N40q
      refine Go.on st40 ?_
      show Go _ _ _ _ _ _ _ _ (mkF m 100 #[.val (.int i0), .val (.int i1), .val (.int i2), .val (.int i3), .val (.int n), .val (.ref u), .val (.ref v), .val (.ref ww), .val (.ref q), .val (.ref mm)] [(.double (expV (0 : Int32) i0 i1 i2 n)), (.double (FP.ddiv (FP.dadd (FP.dadd (FP.dadd (0 : UInt64) (FP.i2d (compV i0 (0 : Int32)))) (FP.i2d (compV i1 (0 : Int32)))) (FP.i2d (compV i2 (0 : Int32)))) (FP.i2d (3 : Int32))))])
      refine Go.on (fun _ k => XS.dcmpS X40.here hx rfl (hb hby at_100) rfl rfl k) ?_
      show Go _ _ _ _ _ _ _ _ (mkF m 101 #[.val (.int i0), .val (.int i1), .val (.int i2), .val (.int i3), .val (.int n), .val (.ref u), .val (.ref v), .val (.ref ww), .val (.ref q), .val (.ref mm)] [(.int (cmpValue (FP.dcmp (FP.ddiv (FP.dadd (FP.dadd (FP.dadd (0 : UInt64) (FP.i2d (compV i0 (0 : Int32)))) (FP.i2d (compV i1 (0 : Int32)))) (FP.i2d (compV i2 (0 : Int32)))) (FP.i2d (3 : Int32))) (expV (0 : Int32) i0 i1 i2 n)) .l))])
      have hc41 : (cmpValue (FP.dcmp (FP.ddiv (FP.dadd (FP.dadd (FP.dadd (0 : UInt64) (FP.i2d (compV i0 (0 : Int32)))) (FP.i2d (compV i1 (0 : Int32)))) (FP.i2d (compV i2 (0 : Int32)))) (FP.i2d (3 : Int32))) (expV (0 : Int32) i0 i1 i2 n)) .l) = (0 : Int32) := own_fin3 i0 i1 i2 (0 : Int32) hn hc7 hc22
      refine Go.on (fun _ k => XS.ifNo X40.here hx rfl (hb hby at_101) rfl ((if0 _ _).trans (teq hc41).2) k) ?_
      show Go _ _ _ _ _ _ _ _ (mkF m 104 #[.val (.int i0), .val (.int i1), .val (.int i2), .val (.int i3), .val (.int n), .val (.ref u), .val (.ref v), .val (.ref ww), .val (.ref q), .val (.ref mm)] [])
      refine Go.on (fun _ k => XS.aload X40.here hx rfl (hb hby at_104) rfl rfl k) ?_
      show Go _ _ _ _ _ _ _ _ (mkF m 106 #[.val (.int i0), .val (.int i1), .val (.int i2), .val (.int i3), .val (.int n), .val (.ref u), .val (.ref v), .val (.ref ww), .val (.ref q), .val (.ref mm)] [(.ref mm)])
      refine Go.on (fun _ k => XS.iconst X40.here hx rfl (hb hby at_106) k) ?_
      show Go _ _ _ _ _ _ _ _ (mkF m 107 #[.val (.int i0), .val (.int i1), .val (.int i2), .val (.int i3), .val (.int n), .val (.ref u), .val (.ref v), .val (.ref ww), .val (.ref q), .val (.ref mm)] [(.int (1 : Int32)), (.ref mm)])
      obtain ⟨cl42, Ar42, -, S42, -, H42, -⟩ := id V_mm
      have hin42 : ¬ ((1 : Int32) < 0 ∨ cl42.slots.size ≤ ((1 : Int32)).toNatClampNeg) := inb_of S42 ⟨by decide, by decide⟩
      refine Go.on (X40.daload hx (j := (1 : Int32)) (v := (.double (FP.ddiv (FP.dadd (FP.dadd (FP.dadd (0 : UInt64) (FP.i2d (compV i0 (1 : Int32)))) (FP.i2d (compV i1 (1 : Int32)))) (FP.i2d (compV i2 (1 : Int32)))) (FP.i2d (3 : Int32))))) (by rw [e40]; exact Ar42.1) (State.isArrayOf_alike hZ.alike Ar42.2.1) Ar42.2.2 hin42 (H42.at hin42 (rfl)) (g := (mkF m 107 #[.val (.int i0), .val (.int i1), .val (.int i2), .val (.int i3), .val (.int n), .val (.ref u), .val (.ref v), .val (.ref ww), .val (.ref q), .val (.ref mm)] [(.int (1 : Int32)), (.ref mm)])) rfl rfl (hb hby at_107)) ?_
      show Go _ _ _ _ _ _ _ _ (mkF m 108 #[.val (.int i0), .val (.int i1), .val (.int i2), .val (.int i3), .val (.int n), .val (.ref u), .val (.ref v), .val (.ref ww), .val (.ref q), .val (.ref mm)] [(.double (FP.ddiv (FP.dadd (FP.dadd (FP.dadd (0 : UInt64) (FP.i2d (compV i0 (1 : Int32)))) (FP.i2d (compV i1 (1 : Int32)))) (FP.i2d (compV i2 (1 : Int32)))) (FP.i2d (3 : Int32))))])
      refine Go.on (fun _ k => XS.iconst X40.here hx rfl (hb hby at_108) k) ?_
      show Go _ _ _ _ _ _ _ _ (mkF m 109 #[.val (.int i0), .val (.int i1), .val (.int i2), .val (.int i3), .val (.int n), .val (.ref u), .val (.ref v), .val (.ref ww), .val (.ref q), .val (.ref mm)] [(.int (1 : Int32)), (.double (FP.ddiv (FP.dadd (FP.dadd (FP.dadd (0 : UInt64) (FP.i2d (compV i0 (1 : Int32)))) (FP.i2d (compV i1 (1 : Int32)))) (FP.i2d (compV i2 (1 : Int32)))) (FP.i2d (3 : Int32))))])
      refine Go.on (fun _ k => XS.iloadN X40.here hx rfl (hb hby at_109) rfl k) ?_
      show Go _ _ _ _ _ _ _ _ (mkF m 110 #[.val (.int i0), .val (.int i1), .val (.int i2), .val (.int i3), .val (.int n), .val (.ref u), .val (.ref v), .val (.ref ww), .val (.ref q), .val (.ref mm)] [(.int i0), (.int (1 : Int32)), (.double (FP.ddiv (FP.dadd (FP.dadd (FP.dadd (0 : UInt64) (FP.i2d (compV i0 (1 : Int32)))) (FP.i2d (compV i1 (1 : Int32)))) (FP.i2d (compV i2 (1 : Int32)))) (FP.i2d (3 : Int32))))])
      refine Go.on (fun _ k => XS.iloadN X40.here hx rfl (hb hby at_110) rfl k) ?_
      show Go _ _ _ _ _ _ _ _ (mkF m 111 #[.val (.int i0), .val (.int i1), .val (.int i2), .val (.int i3), .val (.int n), .val (.ref u), .val (.ref v), .val (.ref ww), .val (.ref q), .val (.ref mm)] [(.int i1), (.int i0), (.int (1 : Int32)), (.double (FP.ddiv (FP.dadd (FP.dadd (FP.dadd (0 : UInt64) (FP.i2d (compV i0 (1 : Int32)))) (FP.i2d (compV i1 (1 : Int32)))) (FP.i2d (compV i2 (1 : Int32)))) (FP.i2d (3 : Int32))))])
      refine Go.on (fun _ k => XS.iloadN X40.here hx rfl (hb hby at_111) rfl k) ?_
      show Go _ _ _ _ _ _ _ _ (mkF m 112 #[.val (.int i0), .val (.int i1), .val (.int i2), .val (.int i3), .val (.int n), .val (.ref u), .val (.ref v), .val (.ref ww), .val (.ref q), .val (.ref mm)] [(.int i2), (.int i1), (.int i0), (.int (1 : Int32)), (.double (FP.ddiv (FP.dadd (FP.dadd (FP.dadd (0 : UInt64) (FP.i2d (compV i0 (1 : Int32)))) (FP.i2d (compV i1 (1 : Int32)))) (FP.i2d (compV i2 (1 : Int32)))) (FP.i2d (3 : Int32))))])
      refine Go.on (fun _ k => XS.iload X40.here hx rfl (hb hby at_112) rfl k) ?_
      show Go _ _ _ _ _ _ _ _ (mkF m 114 #[.val (.int i0), .val (.int i1), .val (.int i2), .val (.int i3), .val (.int n), .val (.ref u), .val (.ref v), .val (.ref ww), .val (.ref q), .val (.ref mm)] [(.int n), (.int i2), (.int i1), (.int i0), (.int (1 : Int32)), (.double (FP.ddiv (FP.dadd (FP.dadd (FP.dadd (0 : UInt64) (FP.i2d (compV i0 (1 : Int32)))) (FP.i2d (compV i1 (1 : Int32)))) (FP.i2d (compV i2 (1 : Int32)))) (FP.i2d (3 : Int32))))])
      obtain ⟨_, _, ⟨T43, L43, k43, n43⟩, -, X43, ⟨Lc43, hQ43, l43, y43, z43⟩, st43⟩ := Jvm.LawKit.callS X40 hx (y := (⟨"com/example/d2rank/d2rank/rerank/CentroidAddPinLaw", "expect", "(IIIII)D"⟩ : MethodName)) hown (mvT hZ (hw _ (List.mem_of_getElem? (i := 32) rfl))) (mvT hZ (hw _ (List.mem_of_getElem? (i := 33) rfl))) (mvT hZ (hw _ (List.mem_of_getElem? (i := 3) rfl))) (mvT hZ (hw _ (List.mem_of_getElem? (i := 34) rfl))) (by decide) (backOf (W := 2) (rm7 l Z aw hw [] (1 : Int32) i0 i1 i2 n  h36 n0 ZZ (own_n0 hn)) hZ (hw _ (List.mem_of_getElem? (i := 34) rfl)) (hw _ (List.mem_of_getElem? (i := 3) rfl)) (by decide) (by decide)) (g := (mkF m 114 #[.val (.int i0), .val (.int i1), .val (.int i2), .val (.int i3), .val (.int n), .val (.ref u), .val (.ref v), .val (.ref ww), .val (.ref q), .val (.ref mm)] [(.int n), (.int i2), (.int i1), (.int i0), (.int (1 : Int32)), (.double (FP.ddiv (FP.dadd (FP.dadd (FP.dadd (0 : UInt64) (FP.i2d (compV i0 (1 : Int32)))) (FP.i2d (compV i1 (1 : Int32)))) (FP.i2d (compV i2 (1 : Int32)))) (FP.i2d (3 : Int32))))])) rfl (by rw [hml]; rfl) (argsL := [(.int (1 : Int32)), (.int i0), (.int i1), (.int i2), (.int n)]) (rest := [(.double (FP.ddiv (FP.dadd (FP.dadd (FP.dadd (0 : UInt64) (FP.i2d (compV i0 (1 : Int32)))) (FP.i2d (compV i1 (1 : Int32)))) (FP.i2d (compV i2 (1 : Int32)))) (FP.i2d (3 : Int32))))]) (lenOf pd_5 rfl) rfl (by show 2 * 0 + _ ≤ _; exact Nat.le_of_eq rfl) (hb hby at_114) (fun _ _ => ⟨rfl, e40, (by decide : 6 + 0 ≤ _), (by decide : 17 + 0 ≤ _)⟩)
      dsimp only [Pt.U, Pt.locs, Pt.cells, Pt.slots] at X43 l43 y43 z43 st43 hQ43
      subst l43 y43 z43
      obtain ⟨rfl, N43q, e43⟩ := hQ43
      have N43 := Fr.app N40 N43q
      refine Go.on st43 ?_
      show Go _ _ _ _ _ _ _ _ (mkF m 117 #[.val (.int i0), .val (.int i1), .val (.int i2), .val (.int i3), .val (.int n), .val (.ref u), .val (.ref v), .val (.ref ww), .val (.ref q), .val (.ref mm)] [(.double (expV (1 : Int32) i0 i1 i2 n)), (.double (FP.ddiv (FP.dadd (FP.dadd (FP.dadd (0 : UInt64) (FP.i2d (compV i0 (1 : Int32)))) (FP.i2d (compV i1 (1 : Int32)))) (FP.i2d (compV i2 (1 : Int32)))) (FP.i2d (3 : Int32))))])
      refine Go.on (fun _ k => XS.dcmpS X43.here hx rfl (hb hby at_117) rfl rfl k) ?_
      show Go _ _ _ _ _ _ _ _ (mkF m 118 #[.val (.int i0), .val (.int i1), .val (.int i2), .val (.int i3), .val (.int n), .val (.ref u), .val (.ref v), .val (.ref ww), .val (.ref q), .val (.ref mm)] [(.int (cmpValue (FP.dcmp (FP.ddiv (FP.dadd (FP.dadd (FP.dadd (0 : UInt64) (FP.i2d (compV i0 (1 : Int32)))) (FP.i2d (compV i1 (1 : Int32)))) (FP.i2d (compV i2 (1 : Int32)))) (FP.i2d (3 : Int32))) (expV (1 : Int32) i0 i1 i2 n)) .l))])
      have hc44 : (cmpValue (FP.dcmp (FP.ddiv (FP.dadd (FP.dadd (FP.dadd (0 : UInt64) (FP.i2d (compV i0 (1 : Int32)))) (FP.i2d (compV i1 (1 : Int32)))) (FP.i2d (compV i2 (1 : Int32)))) (FP.i2d (3 : Int32))) (expV (1 : Int32) i0 i1 i2 n)) .l) = (0 : Int32) := own_fin3 i0 i1 i2 (1 : Int32) hn hc7 hc22
      refine Go.on (fun _ k => XS.ifNo X43.here hx rfl (hb hby at_118) rfl ((if0 _ _).trans (teq hc44).2) k) ?_
      show Go _ _ _ _ _ _ _ _ (mkF m 121 #[.val (.int i0), .val (.int i1), .val (.int i2), .val (.int i3), .val (.int n), .val (.ref u), .val (.ref v), .val (.ref ww), .val (.ref q), .val (.ref mm)] [])
      refine Go.on (fun _ k => XS.aload X43.here hx rfl (hb hby at_121) rfl rfl k) ?_
      show Go _ _ _ _ _ _ _ _ (mkF m 123 #[.val (.int i0), .val (.int i1), .val (.int i2), .val (.int i3), .val (.int n), .val (.ref u), .val (.ref v), .val (.ref ww), .val (.ref q), .val (.ref mm)] [(.ref mm)])
      refine Go.on (fun _ k => XS.iconst X43.here hx rfl (hb hby at_123) k) ?_
      show Go _ _ _ _ _ _ _ _ (mkF m 124 #[.val (.int i0), .val (.int i1), .val (.int i2), .val (.int i3), .val (.int n), .val (.ref u), .val (.ref v), .val (.ref ww), .val (.ref q), .val (.ref mm)] [(.int (2 : Int32)), (.ref mm)])
      obtain ⟨cl45, Ar45, -, S45, -, H45, -⟩ := id V_mm
      have hin45 : ¬ ((2 : Int32) < 0 ∨ cl45.slots.size ≤ ((2 : Int32)).toNatClampNeg) := inb_of S45 ⟨by decide, by decide⟩
      refine Go.on (X43.daload hx (j := (2 : Int32)) (v := (.double (FP.ddiv (FP.dadd (FP.dadd (FP.dadd (0 : UInt64) (FP.i2d (compV i0 (2 : Int32)))) (FP.i2d (compV i1 (2 : Int32)))) (FP.i2d (compV i2 (2 : Int32)))) (FP.i2d (3 : Int32))))) (by rw [e43]; exact Ar45.1) (State.isArrayOf_alike hZ.alike Ar45.2.1) Ar45.2.2 hin45 (H45.at hin45 (rfl)) (g := (mkF m 124 #[.val (.int i0), .val (.int i1), .val (.int i2), .val (.int i3), .val (.int n), .val (.ref u), .val (.ref v), .val (.ref ww), .val (.ref q), .val (.ref mm)] [(.int (2 : Int32)), (.ref mm)])) rfl rfl (hb hby at_124)) ?_
      show Go _ _ _ _ _ _ _ _ (mkF m 125 #[.val (.int i0), .val (.int i1), .val (.int i2), .val (.int i3), .val (.int n), .val (.ref u), .val (.ref v), .val (.ref ww), .val (.ref q), .val (.ref mm)] [(.double (FP.ddiv (FP.dadd (FP.dadd (FP.dadd (0 : UInt64) (FP.i2d (compV i0 (2 : Int32)))) (FP.i2d (compV i1 (2 : Int32)))) (FP.i2d (compV i2 (2 : Int32)))) (FP.i2d (3 : Int32))))])
      refine Go.on (fun _ k => XS.iconst X43.here hx rfl (hb hby at_125) k) ?_
      show Go _ _ _ _ _ _ _ _ (mkF m 126 #[.val (.int i0), .val (.int i1), .val (.int i2), .val (.int i3), .val (.int n), .val (.ref u), .val (.ref v), .val (.ref ww), .val (.ref q), .val (.ref mm)] [(.int (2 : Int32)), (.double (FP.ddiv (FP.dadd (FP.dadd (FP.dadd (0 : UInt64) (FP.i2d (compV i0 (2 : Int32)))) (FP.i2d (compV i1 (2 : Int32)))) (FP.i2d (compV i2 (2 : Int32)))) (FP.i2d (3 : Int32))))])
      refine Go.on (fun _ k => XS.iloadN X43.here hx rfl (hb hby at_126) rfl k) ?_
      show Go _ _ _ _ _ _ _ _ (mkF m 127 #[.val (.int i0), .val (.int i1), .val (.int i2), .val (.int i3), .val (.int n), .val (.ref u), .val (.ref v), .val (.ref ww), .val (.ref q), .val (.ref mm)] [(.int i0), (.int (2 : Int32)), (.double (FP.ddiv (FP.dadd (FP.dadd (FP.dadd (0 : UInt64) (FP.i2d (compV i0 (2 : Int32)))) (FP.i2d (compV i1 (2 : Int32)))) (FP.i2d (compV i2 (2 : Int32)))) (FP.i2d (3 : Int32))))])
      refine Go.on (fun _ k => XS.iloadN X43.here hx rfl (hb hby at_127) rfl k) ?_
      show Go _ _ _ _ _ _ _ _ (mkF m 128 #[.val (.int i0), .val (.int i1), .val (.int i2), .val (.int i3), .val (.int n), .val (.ref u), .val (.ref v), .val (.ref ww), .val (.ref q), .val (.ref mm)] [(.int i1), (.int i0), (.int (2 : Int32)), (.double (FP.ddiv (FP.dadd (FP.dadd (FP.dadd (0 : UInt64) (FP.i2d (compV i0 (2 : Int32)))) (FP.i2d (compV i1 (2 : Int32)))) (FP.i2d (compV i2 (2 : Int32)))) (FP.i2d (3 : Int32))))])
      refine Go.on (fun _ k => XS.iloadN X43.here hx rfl (hb hby at_128) rfl k) ?_
      show Go _ _ _ _ _ _ _ _ (mkF m 129 #[.val (.int i0), .val (.int i1), .val (.int i2), .val (.int i3), .val (.int n), .val (.ref u), .val (.ref v), .val (.ref ww), .val (.ref q), .val (.ref mm)] [(.int i2), (.int i1), (.int i0), (.int (2 : Int32)), (.double (FP.ddiv (FP.dadd (FP.dadd (FP.dadd (0 : UInt64) (FP.i2d (compV i0 (2 : Int32)))) (FP.i2d (compV i1 (2 : Int32)))) (FP.i2d (compV i2 (2 : Int32)))) (FP.i2d (3 : Int32))))])
      refine Go.on (fun _ k => XS.iload X43.here hx rfl (hb hby at_129) rfl k) ?_
      show Go _ _ _ _ _ _ _ _ (mkF m 131 #[.val (.int i0), .val (.int i1), .val (.int i2), .val (.int i3), .val (.int n), .val (.ref u), .val (.ref v), .val (.ref ww), .val (.ref q), .val (.ref mm)] [(.int n), (.int i2), (.int i1), (.int i0), (.int (2 : Int32)), (.double (FP.ddiv (FP.dadd (FP.dadd (FP.dadd (0 : UInt64) (FP.i2d (compV i0 (2 : Int32)))) (FP.i2d (compV i1 (2 : Int32)))) (FP.i2d (compV i2 (2 : Int32)))) (FP.i2d (3 : Int32))))])
      obtain ⟨_, _, ⟨T46, L46, k46, n46⟩, -, X46, ⟨Lc46, hQ46, l46, y46, z46⟩, st46⟩ := Jvm.LawKit.callS X43 hx (y := (⟨"com/example/d2rank/d2rank/rerank/CentroidAddPinLaw", "expect", "(IIIII)D"⟩ : MethodName)) hown (mvT hZ (hw _ (List.mem_of_getElem? (i := 32) rfl))) (mvT hZ (hw _ (List.mem_of_getElem? (i := 33) rfl))) (mvT hZ (hw _ (List.mem_of_getElem? (i := 3) rfl))) (mvT hZ (hw _ (List.mem_of_getElem? (i := 34) rfl))) (by decide) (backOf (W := 2) (rm7 l Z aw hw [] (2 : Int32) i0 i1 i2 n  h36 n0 ZZ (own_n0 hn)) hZ (hw _ (List.mem_of_getElem? (i := 34) rfl)) (hw _ (List.mem_of_getElem? (i := 3) rfl)) (by decide) (by decide)) (g := (mkF m 131 #[.val (.int i0), .val (.int i1), .val (.int i2), .val (.int i3), .val (.int n), .val (.ref u), .val (.ref v), .val (.ref ww), .val (.ref q), .val (.ref mm)] [(.int n), (.int i2), (.int i1), (.int i0), (.int (2 : Int32)), (.double (FP.ddiv (FP.dadd (FP.dadd (FP.dadd (0 : UInt64) (FP.i2d (compV i0 (2 : Int32)))) (FP.i2d (compV i1 (2 : Int32)))) (FP.i2d (compV i2 (2 : Int32)))) (FP.i2d (3 : Int32))))])) rfl (by rw [hml]; rfl) (argsL := [(.int (2 : Int32)), (.int i0), (.int i1), (.int i2), (.int n)]) (rest := [(.double (FP.ddiv (FP.dadd (FP.dadd (FP.dadd (0 : UInt64) (FP.i2d (compV i0 (2 : Int32)))) (FP.i2d (compV i1 (2 : Int32)))) (FP.i2d (compV i2 (2 : Int32)))) (FP.i2d (3 : Int32))))]) (lenOf pd_5 rfl) rfl (by show 2 * 0 + _ ≤ _; exact Nat.le_of_eq rfl) (hb hby at_131) (fun _ _ => ⟨rfl, e43, (by decide : 6 + 0 ≤ _), (by decide : 17 + 0 ≤ _)⟩)
      dsimp only [Pt.U, Pt.locs, Pt.cells, Pt.slots] at X46 l46 y46 z46 st46 hQ46
      subst l46 y46 z46
      obtain ⟨rfl, N46q, e46⟩ := hQ46
      have N46 := Fr.app N43 N46q
      refine Go.on st46 ?_
      show Go _ _ _ _ _ _ _ _ (mkF m 134 #[.val (.int i0), .val (.int i1), .val (.int i2), .val (.int i3), .val (.int n), .val (.ref u), .val (.ref v), .val (.ref ww), .val (.ref q), .val (.ref mm)] [(.double (expV (2 : Int32) i0 i1 i2 n)), (.double (FP.ddiv (FP.dadd (FP.dadd (FP.dadd (0 : UInt64) (FP.i2d (compV i0 (2 : Int32)))) (FP.i2d (compV i1 (2 : Int32)))) (FP.i2d (compV i2 (2 : Int32)))) (FP.i2d (3 : Int32))))])
      refine Go.on (fun _ k => XS.dcmpS X46.here hx rfl (hb hby at_134) rfl rfl k) ?_
      show Go _ _ _ _ _ _ _ _ (mkF m 135 #[.val (.int i0), .val (.int i1), .val (.int i2), .val (.int i3), .val (.int n), .val (.ref u), .val (.ref v), .val (.ref ww), .val (.ref q), .val (.ref mm)] [(.int (cmpValue (FP.dcmp (FP.ddiv (FP.dadd (FP.dadd (FP.dadd (0 : UInt64) (FP.i2d (compV i0 (2 : Int32)))) (FP.i2d (compV i1 (2 : Int32)))) (FP.i2d (compV i2 (2 : Int32)))) (FP.i2d (3 : Int32))) (expV (2 : Int32) i0 i1 i2 n)) .l))])
      have hc47 : (cmpValue (FP.dcmp (FP.ddiv (FP.dadd (FP.dadd (FP.dadd (0 : UInt64) (FP.i2d (compV i0 (2 : Int32)))) (FP.i2d (compV i1 (2 : Int32)))) (FP.i2d (compV i2 (2 : Int32)))) (FP.i2d (3 : Int32))) (expV (2 : Int32) i0 i1 i2 n)) .l) = (0 : Int32) := own_fin3 i0 i1 i2 (2 : Int32) hn hc7 hc22
      refine Go.on (fun _ k => XS.ifNo X46.here hx rfl (hb hby at_135) rfl ((if0 _ _).trans (teq hc47).2) k) ?_
      show Go _ _ _ _ _ _ _ _ (mkF m 138 #[.val (.int i0), .val (.int i1), .val (.int i2), .val (.int i3), .val (.int n), .val (.ref u), .val (.ref v), .val (.ref ww), .val (.ref q), .val (.ref mm)] [])
      refine Go.on (fun _ k => XS.iconst X46.here hx rfl (hb hby at_138) k) ?_
      show Go _ _ _ _ _ _ _ _ (mkF m 139 #[.val (.int i0), .val (.int i1), .val (.int i2), .val (.int i3), .val (.int n), .val (.ref u), .val (.ref v), .val (.ref ww), .val (.ref q), .val (.ref mm)] [(.int (1 : Int32))])
      refine Go.on (fun _ k => XS.goto X46.here hx rfl (pc0 := 139) (pc' := 143) rfl (hb hby at_139) (by decide) (by decide) k) ?_
      show Go _ _ _ _ _ _ _ _ (mkF m 143 #[.val (.int i0), .val (.int i1), .val (.int i2), .val (.int i3), .val (.int n), .val (.ref u), .val (.ref v), .val (.ref ww), .val (.ref q), .val (.ref mm)] [(.int (1 : Int32))])
      refine Go.retN X46 hx (t := .boolean) Bd.returns (by simp) (hb hby at_143) ?_ (by rw [hK1]; decide) (by rw [hK2]; decide)
      rw [e46, ← hQQ]
      exact ⟨rfl, N46⟩
set_option maxRecDepth 65536 in
set_option maxHeartbeats 40000000 in
theorem comes_1 {Post : Tables → Env → Array Value → State → Outcome → State → Prop} (hpost : ∀ tb e args s v u, (limb_1_1.after args s (.returned v) u = true ∧ limb_1_2.after args s (.returned v) u = true ∧ True) → FrameEnd s (.returned v) u (Jvm.fieldLocs frame_1_writes args s ++ Jvm.arrayLocs frame_1_arrays args s ++ Jvm.staticLocs frame_1_statics s) 24 128 → Post tb e args s (.returned v) u) :
    ArmFor flags0 classFile x code maxLocals ret World_1 tables_1 room_1 Calls_1 rest_1 Pre_1 Post := by
  intro l hfl _ _ p e ha hc hk s m args below hf hA hF happ hP
  obtain ⟨hcalls, hrest, hpre⟩ := hP
  obtain ⟨-, -, -, hnamed, -, -, -, hat⟩ := (Spec.applies_iff hf).mp happ
  obtain ⟨hg, hn⟩ := and_e (Cond.before_iff.mp (show (Jvm.Cond.and given_1 narrow_1).before args s = true from hpre))
  obtain ⟨g0, r0⟩ := and_e hg
  obtain ⟨g1, r1⟩ := and_e r0
  obtain ⟨g2, r2⟩ := and_e r1
  obtain ⟨g3, g4⟩ := and_e r2
  obtain ⟨w0, w1, w2, w3, rfl⟩ : ∃ w0 w1 w2 w3 : Value, args = #[w0, w1, w2, w3] := by
    have hs : args.size = 4 := by simpa [Cond.value, given_1] using g0
    obtain ⟨L⟩ := args
    match L, hs with
    | [w0, w1, w2, w3], _ => exact ⟨w0, w1, w2, w3, rfl⟩
  have hw := fun d (hd : d ∈ tables_1) => atoms_spec (ws := Jvm.Cond.code x code maxLocals ret :: tables_1) hat d (List.mem_cons_of_mem _ hd)
  have hfit : Fit s := fun {y c} hc i hi => by
    obtain ⟨ha, rfl⟩ := Array.getElem?_eq_some_iff.mp hc
    have q := List.all_eq_true.mp ((Array.all_eq_true_iff_forall_mem.mp hF) _ (Array.getElem_mem ha)) i (List.mem_range.mpr hi)
    simpa [Array.getElem?_eq_getElem hi] using q
  obtain ⟨i0, ei0⟩ := is_v g1
  obtain rfl : w0 = (.int i0) := Option.some.inj ei0
  obtain ⟨i1, ei1⟩ := is_v g2
  obtain rfl : w1 = (.int i1) := Option.some.inj ei1
  obtain ⟨i2, ei2⟩ := is_v g3
  obtain rfl : w2 = (.int i2) := Option.some.inj ei2
  obtain ⟨i3, ei3⟩ := is_v g4
  obtain rfl : w3 = (.int i3) := Option.some.inj ei3
  obtain ⟨n, o, h1, h2, h3, _, L, rfl, ⟨rfl, N⟩, hq⟩ := rm0 l s _ hw tables_1 i0 i1 i2 i3 s.heap s.heap.size (Nat.le_refl _) p e ha hc hk s m _ below hf ((Spec.applies_iff_loose hf).mp happ).1 ⟨rfl, State.Warmed39.refl s, rfl⟩ trivial
  refine ⟨n, _, h1, h2, h3, hpost _ _ _ _ _ _ ⟨Cond.after_iff.mpr rfl, Cond.after_iff.mpr (eq_i res_at (Term.int_eval (1)) rfl), trivial⟩ ⟨hq.1, hq.2.1, (hq.2.2.sift fun y hy => Or.inr (N y hy)).mono (by decide) (by decide)⟩⟩
theorem main_1_1 : Claimed_1_1 := comes_1 fun _ _ _ _ _ _ h hF => ⟨h.1, hF⟩
theorem main_1_2 : Claimed_1_2 := comes_1 fun _ _ _ _ _ _ h hF => ⟨h.2.1, hF⟩
end Jvm.Pilot.@@N@@
namespace Jvm.Pilot.@@N@@
open Jvm Jvm.ClassFile Sem Op Lib Jvm.Free Jvm.Stand Jvm.Pilot.@@N@@.Jvm.D
/-! MADE BY PROGRAM (witnessworld.py) out of the Statement's table words and the real class files: 11 classes; the members and pool entries that the words name. The judged class is class 1, her method 1. -/
namespace start1
open Jvm.ClassFile
def u (s : String) : CpInfo := .utf8 (stringToUtf16 s)
/-- a pool by its gaps: so many unusable entries, then the entry; so many at the end -/
def gap : Nat → List CpInfo → List CpInfo
  | 0, r => r
  | n + 1, r => .unusable :: gap n r
def poolList (es : List (Nat × CpInfo)) (last : Nat) : List CpInfo := es.foldr (fun e r => gap e.1 (e.2 :: r)) (gap last [])
def pool (es : List (Nat × CpInfo)) (last : Nat) : Array CpInfo := ⟨poolList es last⟩
def fileOf (pool : Array CpInfo) (this : Nat) (attrs : Array Attribute := #[]) (ms : Array MethodInfo := #[]) (fl : Nat := 33) (sup : Nat := 0) (ifs : Array Nat := #[]) (fds : Array FieldInfo := #[]) : ClassFile where
  minorVersion := 0
  majorVersion := 65
  constantPool := pool
  accessFlags := fl
  thisClass := this
  superClass := sup
  interfaces := ifs
  fields := fds
  methods := ms
  attributes := attrs
def plain (name : String) (sup : Option ClassId) : Class where
  name := name
  kind := .ordinary
  loader := none
  accessFlags := 33
  super := sup
  interfaces := #[]
  cf := none
  fields := #[]
  methods := #[]
  instanceTypes := #[]
  staticTypes := #[]
  resolved := #[]
  callSites := []
  init := .initialized
  statics := none
  mirror := none

def pool0 : Array CpInfo := pool [(5, u "<init>"), (0, u "()V"), (1, .class_ 10), (1, u "java/lang/Object")] 113

def k0c0 : Code := { maxStack := 0, maxLocals := 1, code := object_method_1_code, exceptionTable := #[], attributes := #[] }
def k0m0 : Method := { name := "<init>", desc := "()V", sig := { parameters := [], returnType := none }, accessFlags := 1, code := some k0c0 }
/-- java/lang/Object -/
def k0 : Class := { plain "java/lang/Object" none with
  accessFlags := 33
  interfaces := #[]
  cf := some (fileOf pool0 8 #[] #[{ accessFlags := 1, nameIndex := 5, descriptorIndex := 6, attributes := #[] }] 33 0 #[] #[])
  fields := #[]
  methods := #[k0m0]
  instanceTypes := #[]
  staticTypes := #[]
  resolved := Array.replicate 124 none
  statics := none }

def pool1 : Array CpInfo := pool [(2, .class_ 4), (1, u "java/lang/Object"), (0, u "<init>"), (0, u "()V"), (0, .integer 2147483647), (0, .methodref 9 10), (0, .class_ 11), (0, .nameAndType 12 13), (0, u "com/example/d2rank/d2rank/rerank/CentroidAddPinLaw"), (0, u "axis"), (0, u "(I)[D"), (0, .class_ 15), (0, u "com/example/d2rank/d2rank/rerank/Centroid"), (0, .methodref 14 17), (0, .nameAndType 5 18), (0, u "(I)V"), (0, .methodref 14 20), (0, .nameAndType 21 22), (0, u "add"), (0, u "([D)V"), (0, .methodref 14 24), (0, .nameAndType 25 26), (0, u "mean"), (0, u "()[D"), (0, .methodref 9 28), (0, .nameAndType 29 30), (0, u "expect"), (0, u "(IIIII)D"), (0, .methodref 9 32), (0, .nameAndType 33 34), (0, u "comp"), (0, u "(II)I"), (2, u "law"), (0, u "(IIII)Z")] 5

def k1m0 : Method := { name := "<init>", desc := "()V", sig := { parameters := [], returnType := none }, accessFlags := 1, code := none }
def k1c1 : Code := { maxStack := 7, maxLocals := 10, code := code, exceptionTable := #[], attributes := #[] }
def k1m1 : Method := { name := "law", desc := "(IIII)Z", sig := { parameters := [.int, .int, .int, .int], returnType := some .boolean }, accessFlags := 9, code := some k1c1 }
def k1c2 : Code := { maxStack := 2, maxLocals := 3, code := method_3_code, exceptionTable := #[], attributes := #[] }
def k1m2 : Method := { name := "comp", desc := "(II)I", sig := { parameters := [.int, .int], returnType := some .int }, accessFlags := 10, code := some k1c2 }
def k1c3 : Code := { maxStack := 4, maxLocals := 2, code := method_4_code, exceptionTable := #[], attributes := #[] }
def k1m3 : Method := { name := "axis", desc := "(I)[D", sig := { parameters := [.int], returnType := some (.array .double) }, accessFlags := 10, code := some k1c3 }
def k1c4 : Code := { maxStack := 4, maxLocals := 6, code := method_5_code, exceptionTable := #[], attributes := #[] }
def k1m4 : Method := { name := "expect", desc := "(IIIII)D", sig := { parameters := [.int, .int, .int, .int, .int], returnType := some .double }, accessFlags := 10, code := some k1c4 }
/-- com/example/d2rank/d2rank/rerank/CentroidAddPinLaw -/
def k1 : Class := { plain "com/example/d2rank/d2rank/rerank/CentroidAddPinLaw" (some 0) with
  accessFlags := 49
  interfaces := #[]
  cf := some (fileOf pool1 9 #[] #[{ accessFlags := 1, nameIndex := 5, descriptorIndex := 6, attributes := #[] }, { accessFlags := 9, nameIndex := 37, descriptorIndex := 38, attributes := #[] }, { accessFlags := 10, nameIndex := 33, descriptorIndex := 34, attributes := #[] }, { accessFlags := 10, nameIndex := 12, descriptorIndex := 13, attributes := #[] }, { accessFlags := 10, nameIndex := 29, descriptorIndex := 30, attributes := #[] }] 49 2 #[] #[])
  fields := #[]
  methods := #[k1m0, k1m1, k1m2, k1m3, k1m4]
  instanceTypes := #[]
  staticTypes := #[]
  resolved := Array.replicate 44 none
  statics := none }

def pool2 : Array CpInfo := pool [(1, .methodref 2 3), (0, .class_ 4), (0, .nameAndType 5 6), (0, u "java/lang/Object"), (0, u "<init>"), (0, u "()V"), (0, .fieldref 8 9), (0, .class_ 10), (0, .nameAndType 11 12), (0, u "com/example/d2rank/d2rank/rerank/Centroid"), (0, u "sum"), (0, u "[D"), (0, .fieldref 8 14), (0, .nameAndType 15 16), (0, u "count"), (0, u "I"), (6, u "(I)V"), (2, u "add"), (0, u "([D)V"), (3, u "mean"), (0, u "()[D")] 3

def k2c0 : Code := { maxStack := 2, maxLocals := 2, code := prog_44_method_1_code, exceptionTable := #[], attributes := #[] }
def k2m0 : Method := { name := "<init>", desc := "(I)V", sig := { parameters := [.int], returnType := none }, accessFlags := 0, code := some k2c0 }
def k2c1 : Code := { maxStack := 6, maxLocals := 3, code := prog_44_method_2_code, exceptionTable := #[], attributes := #[] }
def k2m1 : Method := { name := "add", desc := "([D)V", sig := { parameters := [(.array .double)], returnType := none }, accessFlags := 0, code := some k2c1 }
def k2c2 : Code := { maxStack := 6, maxLocals := 3, code := prog_44_method_4_code, exceptionTable := #[], attributes := #[] }
def k2m2 : Method := { name := "mean", desc := "()[D", sig := { parameters := [], returnType := some (.array .double) }, accessFlags := 0, code := some k2c2 }
/-- com/example/d2rank/d2rank/rerank/Centroid -/
def k2 : Class := { plain "com/example/d2rank/d2rank/rerank/Centroid" (some 0) with
  accessFlags := 48
  interfaces := #[]
  cf := some (fileOf pool2 8 #[] #[{ accessFlags := 0, nameIndex := 5, descriptorIndex := 23, attributes := #[] }, { accessFlags := 0, nameIndex := 26, descriptorIndex := 27, attributes := #[] }, { accessFlags := 0, nameIndex := 31, descriptorIndex := 32, attributes := #[] }] 48 2 #[] #[{ accessFlags := 18, nameIndex := 11, descriptorIndex := 12, attributes := #[] }, { accessFlags := 2, nameIndex := 15, descriptorIndex := 16, attributes := #[] }])
  fields := #[{ name := "sum", type := (.array .double), accessFlags := 18, slot := 0, constantValue := 0 }, { name := "count", type := .int, accessFlags := 2, slot := 1, constantValue := 0 }]
  methods := #[k2m0, k2m1, k2m2]
  instanceTypes := #[(.array .double), .int]
  staticTypes := #[]
  resolved := Array.replicate 36 none
  statics := none }

def pool3 : Array CpInfo := pool [(1, u "java/lang/Cloneable"), (0, .class_ 1), (0, u "java/lang/Object"), (0, .class_ 3)] 3

/-- java/lang/Cloneable -/
def k3 : Class := { plain "java/lang/Cloneable" (some 0) with
  accessFlags := 1537
  interfaces := #[]
  cf := some (fileOf pool3 2 #[] #[] 1537 4 #[] #[])
  fields := #[]
  methods := #[]
  instanceTypes := #[]
  staticTypes := #[]
  resolved := Array.replicate 8 none
  statics := none }

def pool4 : Array CpInfo := pool [(1, u "java/io/Serializable"), (0, .class_ 1), (0, u "java/lang/Object"), (0, .class_ 3)] 3

/-- java/io/Serializable -/
def k4 : Class := { plain "java/io/Serializable" (some 0) with
  accessFlags := 1537
  interfaces := #[]
  cf := some (fileOf pool4 2 #[] #[] 1537 4 #[] #[])
  fields := #[]
  methods := #[]
  instanceTypes := #[]
  staticTypes := #[]
  resolved := Array.replicate 8 none
  statics := none }

/-- the primitive byte -/
def k5 : Class := { plain "byte" none with kind := .primitive 'B', accessFlags := 0x411 }
/-- [B -/
def k6 : Class := { plain "[B" (some 0) with kind := .array 5 .byte, interfaces := #[3, 4], accessFlags := 1041 }

/-- the primitive double -/
def k7 : Class := { plain "double" none with kind := .primitive 'D', accessFlags := 0x411 }
/-- [D -/
def k8 : Class := { plain "[D" (some 0) with kind := .array 7 .double, interfaces := #[3, 4], accessFlags := 1041 }

/-- the primitive int -/
def k9 : Class := { plain "int" none with kind := .primitive 'I', accessFlags := 0x411 }
/-- [I -/
def k10 : Class := { plain "[I" (some 0) with kind := .array 9 .int, interfaces := #[3, 4], accessFlags := 1041 }

def heap : Heap := #[]
def classes : Array Class := #[k0, k1, k2, k3, k4, k5, k6, k7, k8, k9, k10]
def interned : List (Array UInt16 × Addr) := []
def slotsUsed : Nat := 0
def theMethod : MethodId := ⟨1, 1⟩
def args0 : Array Value := #[.int 5, .int 300, .int 7, .int 300]
def aboutOver (below : List Frame) : State where
  vm := { classes := classes, interned := interned.toArray }
  heap := heap
  slotsUsed := slotsUsed
  threads := #[{ frames := .invoking theMethod args0 :: below }]
def below0 : List Frame := [.native { method := ⟨0, 0⟩, args := #[] }]
def about1 : State := aboutOver below0
def p0 : Program := .bare "" "" ""
def e0 : Env := launch0.env 0 0 0
theorem w_frames : about1.frames = Frame.invoking theMethod args0 :: below0 := rfl
set_option maxRecDepth 65536 in
theorem w_args : argsFit about1.vm theMethod args0 = true := by decide +kernel
set_option maxRecDepth 65536 in
theorem w_heap : heapFits about1 = true := by decide +kernel
set_option maxRecDepth 65536 in
theorem w_runnable : about1.curStatus? = some .runnable := by decide +kernel
set_option maxRecDepth 65536 in
theorem w_alone : about1.alone = true := by decide +kernel
set_option maxRecDepth 65536 in
theorem w_named : about1.methodNamed? x = some theMethod := by decide +kernel
set_option maxRecDepth 65536 in
theorem w_hears : about1.hears theMethod below0 = true := by decide +kernel
set_option maxRecDepth 65536 in
theorem w_ripe : about1.ripe theMethod args0 below0 = true := by decide +kernel
theorem w_running : about1.status = .running := rfl
set_option maxRecDepth 65536 in
theorem w_room : about1.hasRoom e0.platform room_1 = true :=
  launch0.hasRoom_least _ room_1 (by decide +kernel) (by decide +kernel) (by decide +kernel) (by decide +kernel) (by decide +kernel) (by decide +kernel)
theorem allAtoms_all (ts : List Jvm.Cond) (a : Array Jvm.Value) (st : Jvm.State) : (allAtoms ts).before a st = ts.all (fun c => c.before a st) := by
  induction ts with
  | nil => rfl
  | cons c t ih =>
    show (Jvm.Cond.and c (allAtoms t)).before a st = _
    rw [Jvm.Cond.before_and, ih, List.all_cons]
def words1 : List Jvm.Cond := Jvm.Cond.code x code maxLocals ret :: tables_1
/-- a 'code' word, met by the world's own term for the bytes: nothing is compared byte by byte -/
theorem code_word {y : MethodName} {bytes : ByteArray} {mx : Nat} {rt : Option FieldType} {a : Array Value} {s : State} {m : MethodId} {meth : Method} {c : Code} (h1 : s.methodNamed? y = some m) (h2 : s.vm.method? m = some meth) (h3 : meth.code = some c) (h4 : c.code = bytes)
    (h5 : (c.maxLocals == mx && c.exceptionTable.isEmpty && decide (c.maxStack ≤ mostOperands) && decide (meth.sig.returnType = rt) && !meth.locks && decide (parseMethodDescriptor y.desc = some meth.sig)) = true) : (Jvm.Cond.code y bytes mx rt).before a s = true := by
  simp only [Bool.and_eq_true, beq_iff_eq, Bool.not_eq_true', decide_eq_true_eq] at h5
  obtain ⟨⟨⟨⟨⟨g1, g2⟩, g3⟩, g4⟩, g5⟩, g6⟩ := h5
  simp [Cond.before, Cond.holds, Cond.value, h1, h2, h3, h4, g1, g2, g3, g4, g5, g6]
def isCode : Jvm.Cond → Bool
  | .code _ _ _ _ => true
  | _ => false
theorem all_split {L : List Jvm.Cond} {P : Jvm.Cond → Bool} (h1 : L.all (fun c => isCode c || P c) = true) (h2 : ∀ c ∈ L.filter isCode, P c = true) : L.all P = true := by
  refine List.all_eq_true.mpr fun c hc => ?_
  have h := List.all_eq_true.mp h1 c hc
  rcases Bool.eq_false_or_eq_true (isCode c) with hi | hi
  · exact h2 c (List.mem_filter.mpr ⟨hc, hi⟩)
  · simpa [hi] using h
set_option maxRecDepth 65536 in
theorem w_c0 : (Jvm.Cond.code x code maxLocals ret).before args0 about1 = true := code_word (m := ⟨1, 1⟩) (meth := k1m1) (c := k1c1) (by decide +kernel) rfl rfl rfl (by decide +kernel)
set_option maxRecDepth 65536 in
theorem w_c1 : (Jvm.Cond.code ({ cls := "com/example/d2rank/d2rank/rerank/CentroidAddPinLaw", name := "axis", desc := "(I)[D" } : Jvm.MethodName) method_4_code (2 : Nat) (Option.some (Jvm.ClassFile.FieldType.array Jvm.ClassFile.FieldType.double))).before args0 about1 = true := code_word (m := ⟨1, 3⟩) (meth := k1m3) (c := k1c3) (by decide +kernel) rfl rfl rfl (by decide +kernel)
set_option maxRecDepth 65536 in
theorem w_c2 : (Jvm.Cond.code ({ cls := "com/example/d2rank/d2rank/rerank/CentroidAddPinLaw", name := "comp", desc := "(II)I" } : Jvm.MethodName) method_3_code (3 : Nat) (Option.some Jvm.ClassFile.FieldType.int)).before args0 about1 = true := code_word (m := ⟨1, 2⟩) (meth := k1m2) (c := k1c2) (by decide +kernel) rfl rfl rfl (by decide +kernel)
set_option maxRecDepth 65536 in
theorem w_c3 : (Jvm.Cond.code ({ cls := "com/example/d2rank/d2rank/rerank/Centroid", name := "<init>", desc := "(I)V" } : Jvm.MethodName) prog_44_method_1_code (2 : Nat) (Option.none : Option Jvm.ClassFile.FieldType)).before args0 about1 = true := code_word (m := ⟨2, 0⟩) (meth := k2m0) (c := k2c0) (by decide +kernel) rfl rfl rfl (by decide +kernel)
set_option maxRecDepth 65536 in
theorem w_c4 : (Jvm.Cond.code ({ cls := "java/lang/Object", name := "<init>", desc := "()V" } : Jvm.MethodName) object_method_1_code (1 : Nat) (Option.none : Option Jvm.ClassFile.FieldType)).before args0 about1 = true := code_word (m := ⟨0, 0⟩) (meth := k0m0) (c := k0c0) (by decide +kernel) rfl rfl rfl (by decide +kernel)
set_option maxRecDepth 65536 in
theorem w_c5 : (Jvm.Cond.code ({ cls := "com/example/d2rank/d2rank/rerank/Centroid", name := "add", desc := "([D)V" } : Jvm.MethodName) prog_44_method_2_code (3 : Nat) (Option.none : Option Jvm.ClassFile.FieldType)).before args0 about1 = true := code_word (m := ⟨2, 1⟩) (meth := k2m1) (c := k2c1) (by decide +kernel) rfl rfl rfl (by decide +kernel)
set_option maxRecDepth 65536 in
theorem w_c6 : (Jvm.Cond.code ({ cls := "com/example/d2rank/d2rank/rerank/Centroid", name := "mean", desc := "()[D" } : Jvm.MethodName) prog_44_method_4_code (3 : Nat) (Option.some (Jvm.ClassFile.FieldType.array Jvm.ClassFile.FieldType.double))).before args0 about1 = true := code_word (m := ⟨2, 2⟩) (meth := k2m2) (c := k2c2) (by decide +kernel) rfl rfl rfl (by decide +kernel)
set_option maxRecDepth 65536 in
theorem w_c7 : (Jvm.Cond.code ({ cls := "com/example/d2rank/d2rank/rerank/CentroidAddPinLaw", name := "expect", desc := "(IIIII)D" } : Jvm.MethodName) method_5_code (6 : Nat) (Option.some Jvm.ClassFile.FieldType.double)).before args0 about1 = true := code_word (m := ⟨1, 4⟩) (meth := k1m4) (c := k1c4) (by decide +kernel) rfl rfl rfl (by decide +kernel)
def codes1 : List Jvm.Cond := [Jvm.Cond.code x code maxLocals ret, Jvm.Cond.code ({ cls := "com/example/d2rank/d2rank/rerank/CentroidAddPinLaw", name := "axis", desc := "(I)[D" } : Jvm.MethodName) method_4_code (2 : Nat) (Option.some (Jvm.ClassFile.FieldType.array Jvm.ClassFile.FieldType.double)), Jvm.Cond.code ({ cls := "com/example/d2rank/d2rank/rerank/CentroidAddPinLaw", name := "comp", desc := "(II)I" } : Jvm.MethodName) method_3_code (3 : Nat) (Option.some Jvm.ClassFile.FieldType.int), Jvm.Cond.code ({ cls := "com/example/d2rank/d2rank/rerank/Centroid", name := "<init>", desc := "(I)V" } : Jvm.MethodName) prog_44_method_1_code (2 : Nat) (Option.none : Option Jvm.ClassFile.FieldType), Jvm.Cond.code ({ cls := "java/lang/Object", name := "<init>", desc := "()V" } : Jvm.MethodName) object_method_1_code (1 : Nat) (Option.none : Option Jvm.ClassFile.FieldType), Jvm.Cond.code ({ cls := "com/example/d2rank/d2rank/rerank/Centroid", name := "add", desc := "([D)V" } : Jvm.MethodName) prog_44_method_2_code (3 : Nat) (Option.none : Option Jvm.ClassFile.FieldType), Jvm.Cond.code ({ cls := "com/example/d2rank/d2rank/rerank/Centroid", name := "mean", desc := "()[D" } : Jvm.MethodName) prog_44_method_4_code (3 : Nat) (Option.some (Jvm.ClassFile.FieldType.array Jvm.ClassFile.FieldType.double)), Jvm.Cond.code ({ cls := "com/example/d2rank/d2rank/rerank/CentroidAddPinLaw", name := "expect", desc := "(IIIII)D" } : Jvm.MethodName) method_5_code (6 : Nat) (Option.some Jvm.ClassFile.FieldType.double)]
set_option maxRecDepth 65536 in
theorem codes_eq : words1.filter isCode = codes1 := rfl
theorem w_codes : ∀ c ∈ words1.filter isCode, c.before args0 about1 = true := by
  rw [codes_eq]
  intro c hc
  simp only [codes1, List.mem_cons, List.not_mem_nil, or_false] at hc
  rcases hc with rfl | rfl | rfl | rfl | rfl | rfl | rfl | rfl
  · exact w_c0
  · exact w_c1
  · exact w_c2
  · exact w_c3
  · exact w_c4
  · exact w_c5
  · exact w_c6
  · exact w_c7
set_option maxRecDepth 65536 in
theorem w_t1 : (words1.take 24).all (fun c => isCode c || c.before args0 about1) = true := by decide +kernel
set_option maxRecDepth 65536 in
theorem w_t2 : (words1.drop 24).all (fun c => isCode c || c.before args0 about1) = true := by decide +kernel
theorem w_tables : (allAtoms (Jvm.Cond.code x code maxLocals ret :: tables_1)).before args0 about1 = true := by
  rw [allAtoms_all]
  show words1.all (fun c => c.before args0 about1) = true
  refine all_split ?_ w_codes
  rw [← List.take_append_drop 24 words1, List.all_append, w_t1, w_t2]
  rfl
set_option maxRecDepth 65536 in
theorem w_case : (Jvm.Cond.and given_1 narrow_1).before args0 about1 = true := by decide +kernel
theorem w_applies : (headSpec (Jvm.Cond.code x code maxLocals ret :: tables_1) room_1).applies x e0.platform about1 = true :=
  (Spec.applies_iff w_frames).mpr ⟨w_running, w_runnable, w_alone, w_named, w_hears, w_ripe, w_room, w_tables⟩
theorem atStart : AtStart classFile x code maxLocals ret World_1 tables_1 room_1 Calls_1 rest_1 Pre_1 launch0 p0 e0 about1 theMethod args0 below0 :=
  ⟨lists_1, trivial, launch0.admits_env _ _ _, launch0.least_env, fairChoices_fair.cas, fairChoices_fair.clock, w_frames, w_args, w_heap, w_applies, trivial, trivial, w_case⟩
end start1
theorem witness_1 : WitnessClaimed_1 := ⟨start1.p0, start1.e0, start1.about1, start1.theMethod, start1.args0, start1.below0, start1.atStart⟩
end Jvm.Pilot.@@N@@
