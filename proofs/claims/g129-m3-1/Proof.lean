import JvmDerived
import JvmDerived.Pilot.@@N@@Statement
import JvmDerived.Pilot.@@N@@Code
set_option linter.unusedVariables false
set_option linter.unusedSimpArgs false
@@BLOCK:NumsL.lean.txt@@
namespace Jvm.Pilot.@@N@@
open Jvm Jvm.ClassFile Sem Op Lib Jvm.Free Jvm.Stand Jvm.LawKit Jvm.RoadKit Bundle Jvm.Pilot.@@N@@.Jvm.D
section OwnGo
variable {p : Program} {l : Launch} {e : Env} {R : Room} {s : State} {m : MethodId} {args : Array Value} {below : List Frame} {meth : Method} {c : Code} {T T' : State} {locs : List Loc} {cells slots K1 K2 : Nat} {Q : Option Value → Heap → List Loc → Prop}
/-- from T at the frame f the run comes to an end that meets Q -/
def Go (p : Program) (e : Env) (below : List Frame) (s : State) (K1 K2 : Nat) (Q : Option Value → Heap → List Loc → Prop) (T : State) (f : JFrame) : Prop :=
  ∃ s₂ o, Steps p.tables e below (T.setTop f) s₂ ∧ s₂.status = .running ∧ Ended s₂ below o ∧ ∃ v L, o = .returned v ∧ Q v s₂.heap L ∧ FrameEnd s o s₂ L K1 K2
theorem Go.on {f f' : JFrame} (h : ∀ t, Steps p.tables e below (T'.setTop f') t → Steps p.tables e below (T.setTop f) t) (g : Go p e below s K1 K2 Q T' f') : Go p e below s K1 K2 Q T f := by
  obtain ⟨s₂, o, h1, r⟩ := g
  exact ⟨s₂, o, h _ h1, r⟩
theorem Go.cast {f f' : JFrame} (h : f = f') (g : Go p e below s K1 K2 Q T f') : Go p e below s K1 K2 Q T f := h ▸ g
theorem Go.gen {f : JFrame} (h : ∀ k1 k2 q, k1 = K1 → k2 = K2 → Q = q → Go p e below s k1 k2 q T f) : Go p e below s K1 K2 Q T f := h _ _ _ rfl rfl rfl
theorem Go.retV (X : Stand p l e R s m args below meth c T locs cells slots) (hx : p.tables.exec = Jvm.exec) {pc : Nat} {Ls : Array Slot} {w : Value} {t : FieldType} {i : Instr} {rest : List Value} (hret : meth.sig.returnType = some t) (hn : narrow t w = w)
    (hi : (i = .ireturn ∧ (t = .int ∨ t = .boolean ∨ t = .byte ∨ t = .char ∨ t = .short) ∧ ∃ z, w = .int z) ∨ (i = .lreturn ∧ t = .long ∧ ∃ z, w = .long z) ∨ (i = .dreturn ∧ t = .double ∧ ∃ z, w = .double z) ∨ (i = .freturn ∧ t = .float ∧ ∃ z, w = .float z) ∨ (i = .areturn ∧ t.isReference = true ∧ w.isRef = true))
    (hd : decode c.code pc = .ok (i, 1)) (hq : Q (some w) T.heap locs) (hc : cells ≤ K1) (hs : slots ≤ K2) (hlk : meth.locks = false := by assumption) : Go p e below s K1 K2 Q T (mkF m pc Ls (w :: rest)) := by
  obtain ⟨fs, hr, hrun, hended, hW, hsame⟩ := X.leave (v := some w) (fun h => by rw [hret] at h; cases h) hlk
  exact ⟨_, _, retOut X hx hret hn hi hd hr, hrun, hended, _, _, rfl, hq, ⟨_, rfl⟩, hW, hsame.mono hc hs⟩
theorem Go.retN (X : Stand p l e R s m args below meth c T locs cells slots) (hx : p.tables.exec = Jvm.exec) {pc : Nat} {Ls : Array Slot} {z : Int32} {t : FieldType} {rest : List Value} (hret : meth.sig.returnType = some t) (ht : t = .boolean ∨ t = .byte ∨ t = .char ∨ t = .short)
    (hd : decode c.code pc = .ok (.ireturn, 1)) (hq : Q (some (.int (nar t z))) T.heap locs) (hc : cells ≤ K1) (hs : slots ≤ K2) (hlk : meth.locks = false := by assumption) : Go p e below s K1 K2 Q T (mkF m pc Ls (.int z :: rest)) := by
  obtain ⟨fs, hr, hrun, hended, hW, hsame⟩ := X.leave (v := some (.int (nar t z))) (fun h => by rw [hret] at h; cases h) hlk
  exact ⟨_, _, Jvm.RoadKit.retN X hx hret ht hd hr, hrun, hended, _, _, rfl, hq, ⟨_, rfl⟩, hW, hsame.mono hc hs⟩
theorem Go.ret0 (X : Stand p l e R s m args below meth c T locs cells slots) (hx : p.tables.exec = Jvm.exec) {pc : Nat} {Ls : Array Slot} (hret : meth.sig.returnType = none)
    (hd : decode c.code pc = .ok (.return_, 1)) (hq : Q none T.heap locs) (hc : cells ≤ K1) (hs : slots ≤ K2) (hlk : meth.locks = false := by assumption) : Go p e below s K1 K2 Q T (mkF m pc Ls []) := by
  obtain ⟨fs, hr, hrun, hended, hW, hsame⟩ := X.leave (v := none) (fun _ => rfl) hlk
  exact ⟨_, _, X.returnOut hx hret hd hr, hrun, hended, _, _, rfl, hq, ⟨_, rfl⟩, hW, hsame.mono hc hs⟩
theorem own_lc_lt {a b : Int64} : lcmpW a b < 0 ↔ a < b := by rw [lcW]; exact lc_lt a b
theorem own_lc_gt {a b : Int64} : 0 < lcmpW a b ↔ b < a := by rw [lcW]; exact lc_gt a b
theorem own_lc_eq {a b : Int64} : lcmpW a b = 0 ↔ a = b := by rw [lcW]; exact lc_eq a b
theorem own_lremM {g : JFrame} {target : State} (X : Stand p l e R s m args below meth c T locs cells slots) (hx : p.tables.exec = Jvm.exec) (hg : g.method = m) {x y : Int64} {rest : List Value} (hd : decode c.code g.pc = .ok (.lrem, 1)) (hs : g.stack = .long y :: .long x :: rest) (hy : y ≠ 0)
    (hr : Steps p.tables e below (T.setTop { g with pc := g.pc + 1, stack := .long (x % y) :: rest }) target) : Steps p.tables e below (T.setTop g) target := by
  have q : x - x / y * y = x % y := by
    apply Int64.toInt_inj.mp
    have h1 := Int64.le_toInt (x % y)
    have h2 := Int64.toInt_lt (x % y)
    rw [Int64.toInt_sub, Int64.toInt_mul, Int64.toInt_div, Int.bmod_mul_bmod, Int.sub_bmod_bmod, Int.mul_comm (x.toInt.tdiv y.toInt), ← Int.tmod_def, ← Int64.toInt_mod]
    exact Int.bmod_eq_of_le_mul_two (by omega) (by omega)
  exact XS.lrem X.here hx hg hd hs hy (by rw [q]; exact hr)
theorem own_cl_gt {o : Option Ordering} : 0 < cmpValue o .l ↔ o = some .gt := by rcases o with _ | (_ | _ | _) <;> decide
theorem own_cl_lt {o : Option Ordering} : cmpValue o .l < 0 ↔ ¬ (o = some .gt ∨ o = some .eq) := by rcases o with _ | (_ | _ | _) <;> decide
theorem own_cg_lt {o : Option Ordering} : cmpValue o .g < 0 ↔ o = some .lt := by rcases o with _ | (_ | _ | _) <;> decide
theorem own_cg_gt {o : Option Ordering} : 0 < cmpValue o .g ↔ ¬ (o = some .lt ∨ o = some .eq) := by rcases o with _ | (_ | _ | _) <;> decide
theorem own_c_eq {o : Option Ordering} {k : CmpOp} : cmpValue o k = 0 ↔ o = some .eq := by cases k <;> rcases o with _ | (_ | _ | _) <;> decide
end OwnGo
section OwnFp
open Jvm.FP.Core
variable {a b V : UInt64} {x y z v : Int}
/-- the double a is finite and worth x units of 2^-1074 -/
def ZV (a : UInt64) (x : Int) : Prop := DFin a ∧ zval b64 (val64 a) = x
theorem ZV.ne (h : ZV a x) : val64 a ≠ .nan := h.1.ne_nan
theorem ZV.nn (h : ZV a x) : Jvm.Free.Fl.NoNaN64 a := Jvm.Free.Fl.noNaN64_no.mpr h.1.notNaN
theorem ZV.cmp (ha : ZV a x) (hb : ZV b y) : FP.dcmp a b = some (compare x y) := by
  show FP.Core.dcmp a b = _
  rw [dcmp_zval ha.ne hb.ne, ha.2, hb.2]
theorem ZV.uniq (ha : ZV a x) (hb : ZV a y) : x = y := ha.2.symm.trans hb.2
theorem own_fin_of {W : UInt64} (hn : val64 a ≠ .nan) (hW : DFin W) (h : zmag b64 (val64 a) ≤ zmag b64 (val64 W)) : DFin a := by
  cases h2 : val64 a with
  | nan => exact absurd h2 hn
  | inf s =>
    rw [h2] at h
    have := hW.zval_lt
    have e : zmag b64 (.inf s) = b64.tails * 2 ^ (b64.exps - 2) := rfl
    rw [e] at h
    omega
  | fin s c q => exact ⟨s, c, q, h2⟩
theorem own_natAbs (d : Datum) : (zval b64 d).natAbs = zmag b64 d := natAbs_signed _ _
theorem own_fin_of_z {W : UInt64} (hn : val64 a ≠ .nan) (hW : DFin W) (h : (zval b64 (val64 a)).natAbs ≤ (zval b64 (val64 W)).natAbs) : DFin a := by
  rw [own_natAbs, own_natAbs] at h; exact own_fin_of hn hW h
theorem ZV.add (ha : ZV a x) (hb : ZV b y) (hv : ZV V (x + y)) : ZV (FP.dadd a b) (x + y) := by
  have hn : val64 (FP.Core.dadd a b) ≠ .nan := (notNaN_iff _).mp (FP.Core.dadd_out ha.1.notNaN hb.1)
  have e : zval b64 (val64 (FP.Core.dadd a b)) = x + y := by
    have h1 := sum_le good_b64 ha.1 hb.1 (val64_fits a) (val64_fits b) (val64_fits V) hv.ne (by rw [ha.2, hb.2, hv.2]; exact Int.le_refl _)
    have h2 := sum_ge good_b64 ha.1 hb.1 (val64_fits a) (val64_fits b) (val64_fits V) hv.ne (by rw [ha.2, hb.2, hv.2]; exact Int.le_refl _)
    rw [← val64_dadd, hv.2] at h1 h2
    exact Int.le_antisymm h1 h2
  exact ⟨own_fin_of_z hn hv.1 (by rw [e, hv.2]; exact Nat.le_refl _), e⟩
theorem own_neg_fin {d : Datum} (h : ∃ s c q, d = .fin s c q) : ∃ s c q, negate d = .fin s c q := by
  obtain ⟨s, c, q, rfl⟩ := h; exact ⟨_, _, _, rfl⟩
theorem ZV.sub (ha : ZV a x) (hb : ZV b y) (hv : ZV V (x - y)) : ZV (FP.dsub a b) (x - y) := by
  have hn : val64 (FP.Core.dsub a b) ≠ .nan := (notNaN_iff _).mp (FP.Core.dsub_out ha.1.notNaN hb.1)
  have e : zval b64 (val64 (FP.Core.dsub a b)) = x - y := by
    have h1 := sum_le good_b64 ha.1 (own_neg_fin hb.1) (val64_fits a) (negate_fits (val64_fits b)) (val64_fits V) hv.ne (by rw [ha.2, zval_negate, hb.2, hv.2]; omega)
    have h2 := sum_ge good_b64 ha.1 (own_neg_fin hb.1) (val64_fits a) (negate_fits (val64_fits b)) (val64_fits V) hv.ne (by rw [ha.2, zval_negate, hb.2, hv.2]; omega)
    rw [← val64_dsub, hv.2] at h1 h2
    exact Int.le_antisymm h1 h2
  exact ⟨own_fin_of_z hn hv.1 (by rw [e, hv.2]; exact Nat.le_refl _), e⟩
/-- a sum or a difference lies between what bounds it -/
theorem ZV.add_le (ha : ZV a x) (hb : ZV b y) (hv : ZV V v) (h : x + y ≤ v) : zval b64 (val64 (FP.dadd a b)) ≤ v := by
  have h1 := sum_le good_b64 ha.1 hb.1 (val64_fits a) (val64_fits b) (val64_fits V) hv.ne (by rw [ha.2, hb.2, hv.2]; exact h)
  rw [← val64_dadd, hv.2] at h1; exact h1
theorem ZV.add_ge (ha : ZV a x) (hb : ZV b y) (hv : ZV V v) (h : v ≤ x + y) : v ≤ zval b64 (val64 (FP.dadd a b)) := by
  have h1 := sum_ge good_b64 ha.1 hb.1 (val64_fits a) (val64_fits b) (val64_fits V) hv.ne (by rw [ha.2, hb.2, hv.2]; exact h)
  rw [← val64_dadd, hv.2] at h1; exact h1
theorem ZV.sub_le (ha : ZV a x) (hb : ZV b y) (hv : ZV V v) (h : x - y ≤ v) : zval b64 (val64 (FP.dsub a b)) ≤ v := by
  have h1 := sum_le good_b64 ha.1 (own_neg_fin hb.1) (val64_fits a) (negate_fits (val64_fits b)) (val64_fits V) hv.ne (by rw [ha.2, zval_negate, hb.2, hv.2]; omega)
  rw [← val64_dsub, hv.2] at h1; exact h1
theorem ZV.sub_ge (ha : ZV a x) (hb : ZV b y) (hv : ZV V v) (h : v ≤ x - y) : v ≤ zval b64 (val64 (FP.dsub a b)) := by
  have h1 := sum_ge good_b64 ha.1 (own_neg_fin hb.1) (val64_fits a) (negate_fits (val64_fits b)) (val64_fits V) hv.ne (by rw [ha.2, zval_negate, hb.2, hv.2]; omega)
  rw [← val64_dsub, hv.2] at h1; exact h1
/-- the product's bounds -/
theorem own_mul_le (ha : ZV a x) (hb : ZV b y) (hv : ZV V v) (h : x * y ≤ v * (one64 : Int)) : zval b64 (val64 (FP.dmul a b)) ≤ v := by
  obtain ⟨⟨s, c, q, h1⟩, ex⟩ := ha
  obtain ⟨⟨t, d, r, h2⟩, ey⟩ := hb
  have f1 := val64_fits a; have f2 := val64_fits b
  rw [h1] at f1 ex; rw [h2] at f2 ey
  obtain ⟨p1, p2, p3⟩ := product_units f1 f2
  show zval b64 (val64 (FP.Core.dmul a b)) ≤ v
  rw [val64_dmul, h1, h2, p1, ← hv.2]
  refine zval_round_le good_b64 (val64_fits V) hv.ne (e0 := 2 * b64.qmin) (by decide) p2 ?_
  rw [p3, show (b64.qmin - 2 * b64.qmin).toNat = (-b64.qmin).toNat from by decide, pow_qmin64, hv.2, signed_xor]
  have : zval b64 (.fin s c q) * zval b64 (.fin t d r) ≤ v * (one64 : Int) := by rw [ex, ey]; exact h
  exact this
theorem own_mul_ge (ha : ZV a x) (hb : ZV b y) (hv : ZV V v) (h : v * (one64 : Int) ≤ x * y) : v ≤ zval b64 (val64 (FP.dmul a b)) := by
  obtain ⟨⟨s, c, q, h1⟩, ex⟩ := ha
  obtain ⟨⟨t, d, r, h2⟩, ey⟩ := hb
  have f1 := val64_fits a; have f2 := val64_fits b
  rw [h1] at f1 ex; rw [h2] at f2 ey
  obtain ⟨p1, p2, p3⟩ := product_units f1 f2
  show v ≤ zval b64 (val64 (FP.Core.dmul a b))
  rw [val64_dmul, h1, h2, p1, ← hv.2]
  refine zval_round_ge good_b64 (val64_fits V) hv.ne (e0 := 2 * b64.qmin) (by decide) p2 ?_
  rw [p3, show (b64.qmin - 2 * b64.qmin).toNat = (-b64.qmin).toNat from by decide, pow_qmin64, hv.2, signed_xor]
  have : v * (one64 : Int) ≤ zval b64 (.fin s c q) * zval b64 (.fin t d r) := by rw [ex, ey]; exact h
  exact this
theorem ZV.mul (ha : ZV a x) (hb : ZV b y) (hv : ZV V z) (h : x * y = z * (one64 : Int)) : ZV (FP.dmul a b) z := by
  have hn : val64 (FP.Core.dmul a b) ≠ .nan := (notNaN_iff _).mp (FP.Core.dmul_out ha.1 hb.1)
  have e : zval b64 (val64 (FP.Core.dmul a b)) = z := Int.le_antisymm (own_mul_le ha hb hv (Int.le_of_eq h)) (own_mul_ge ha hb hv (Int.le_of_eq h.symm))
  exact ⟨own_fin_of_z hn hv.1 (by rw [e, hv.2]; exact Nat.le_refl _), e⟩
/-- the quotient of finite doubles, the divisor not nought: its datum -/
theorem own_quot (ha : ZV a x) (hb : ZV b y) (hy : y ≠ 0) : ∃ s c q t d r, val64 a = .fin s c q ∧ val64 b = .fin t d r ∧ 0 < d ∧ val64 (FP.ddiv a b) = roundRatio b64 (s != t) c d (q - r) ∧ FP.Core.fits b64 (.fin s c q) ∧ FP.Core.fits b64 (.fin t d r) := by
  obtain ⟨⟨s, c, q, h1⟩, ex⟩ := ha
  obtain ⟨⟨t, d, r, h2⟩, ey⟩ := hb
  have f1 := val64_fits a; have f2 := val64_fits b
  rw [h1] at f1; rw [h2] at f2
  have hd : d ≠ 0 := fun q => by
    subst q
    rw [h2] at ey
    apply hy; rw [← ey]; show signed t (inUnits 0 r _) = 0
    unfold inUnits; rw [Nat.zero_mul, signed_zero]
  refine ⟨s, c, q, t, d, r, h1, h2, Nat.pos_of_ne_zero hd, ?_, f1, f2⟩
  show val64 (FP.Core.ddiv a b) = _
  rw [val64_ddiv, h1, h2]
  show (if d = 0 then _ else _) = _
  rw [if_neg hd]
theorem own_div_mag_le {c d : Nat} {q r : Int} {s t sg : Bool} (f1 : FP.Core.fits b64 (.fin s c q)) (f2 : FP.Core.fits b64 (.fin t d r)) (hd : 0 < d) {W : Datum} (fW : FP.Core.fits b64 W) (hW : W ≠ .nan)
    (h : inUnits c q b64.qmin * one64 ≤ zmag b64 W * inUnits d r b64.qmin) : zmag b64 (roundRatio b64 sg c d (q - r)) ≤ zmag b64 W := by
  have h1 := f1.2.1
  have h2 := f2.2.1
  have hq : b64.qmin < 0 := by decide
  refine zmag_roundRatio_le good_b64 hd fW hW (e0 := 2 * b64.qmin - r) (by omega) (by omega) ?_
  have e1 : (b64.qmin - (2 * b64.qmin - r)).toNat = (r - b64.qmin).toNat := by congr 1; omega
  rw [e1]
  have e2 : inUnits c (q - r) (2 * b64.qmin - r) = inUnits c q b64.qmin * one64 := by
    unfold inUnits
    rw [← pow_qmin64, Nat.mul_assoc, ← Nat.pow_add]
    congr 2; omega
  rw [e2]
  refine Nat.le_trans h (Nat.le_of_eq ?_)
  unfold inUnits
  rw [Nat.mul_comm d, Nat.mul_assoc]
theorem own_div_mag_ge {c d : Nat} {q r : Int} {s t sg : Bool} (f1 : FP.Core.fits b64 (.fin s c q)) (f2 : FP.Core.fits b64 (.fin t d r)) (hd : 0 < d) {W : Datum} (fW : FP.Core.fits b64 W)
    (h : zmag b64 W * inUnits d r b64.qmin ≤ inUnits c q b64.qmin * one64) : zmag b64 W ≤ zmag b64 (roundRatio b64 sg c d (q - r)) := by
  have h1 := f1.2.1
  have h2 := f2.2.1
  have hq : b64.qmin < 0 := by decide
  refine zmag_roundRatio_ge good_b64 hd fW (e0 := 2 * b64.qmin - r) (by omega) (by omega) ?_
  have e1 : (b64.qmin - (2 * b64.qmin - r)).toNat = (r - b64.qmin).toNat := by congr 1; omega
  rw [e1]
  have e2 : inUnits c (q - r) (2 * b64.qmin - r) = inUnits c q b64.qmin * one64 := by
    unfold inUnits
    rw [← pow_qmin64, Nat.mul_assoc, ← Nat.pow_add]
    congr 2; omega
  rw [e2]
  refine Nat.le_trans (Nat.le_of_eq ?_) h
  unfold inUnits
  rw [Nat.mul_comm d, Nat.mul_assoc]
/-- what is said of a quotient: r its units -/
def Quo (x y r : Int) : Prop := ∀ (V : UInt64) (v : Int), ZV V v → (x * (one64 : Int) ≤ v * y → r ≤ v) ∧ (v * y ≤ x * (one64 : Int) → v ≤ r)
theorem own_sgn_z (s : Bool) (m : Nat) : signed s m = if s then -(m : Int) else m := rfl
theorem ZV.neg_ex (h : ZV a x) : ∃ V, ZV V (-x) := by
  refine ⟨FP.Core.dneg a, ?_, ?_⟩
  · obtain ⟨⟨s, c, q, h1⟩, -⟩ := h; exact ⟨!s, c, q, by rw [val64_dneg, h1]; rfl⟩
  · rw [val64_dneg, zval_negate, h.2]
theorem own_mag {s : Bool} {c : Nat} {q : Int} : zval b64 (.fin s c q) = signed s (inUnits c q b64.qmin) := rfl
/-- the quotient by a positive double of at least one -/
theorem ZV.div (ha : ZV a x) (hb : ZV b y) (hy : (one64 : Int) ≤ y) : ∃ r, ZV (FP.ddiv a b) r ∧ Quo x y r := by
  have o1 := one64_pos
  obtain ⟨s, c, q, t, d, r, h1, h2, hd, h3, f1, f2⟩ := own_quot ha hb (by omega)
  have ey := hb.2; rw [h2, own_mag] at ey
  have ex := ha.2; rw [h1, own_mag] at ex
  have t0 : t = false := by
    cases t
    · rfl
    · simp only [own_sgn_z, if_true] at ey; omega
  subst t0
  have hy0 : (0 : Int) < y := by omega
  have ey' : ((inUnits d r b64.qmin : Nat) : Int) = y := ey
  generalize hu : inUnits d r b64.qmin = u at *
  generalize hc : inUnits c q b64.qmin = k at *
  have hsg : sgn (val64 (FP.ddiv a b)) = s := by rw [h3, sgn_roundRatio]; cases s <;> rfl
  have hne : val64 (FP.ddiv a b) ≠ .nan := by rw [h3]; exact roundRatio_ne_nan _ _ _ _ _
  have hz : zval b64 (val64 (FP.ddiv a b)) = signed s (zmag b64 (val64 (FP.ddiv a b))) := by rw [zval, hsg]
  have up : ∀ W : UInt64, val64 W ≠ .nan → k * one64 ≤ zmag b64 (val64 W) * u → zmag b64 (val64 (FP.ddiv a b)) ≤ zmag b64 (val64 W) := fun W hW h => by
    rw [h3]; exact own_div_mag_le f1 f2 hd (val64_fits W) hW (by rw [hu, hc]; exact h)
  have dn : ∀ W : UInt64, zmag b64 (val64 W) * u ≤ k * one64 → zmag b64 (val64 W) ≤ zmag b64 (val64 (FP.ddiv a b)) := fun W h => by
    rw [h3]; exact own_div_mag_ge f1 f2 hd (val64_fits W) (by rw [hu, hc]; exact h)
  have hk : k = zmag b64 (val64 a) := by rw [h1]; exact hc.symm
  have hfin : DFin (FP.ddiv a b) := own_fin_of hne ha.1 (up a ha.ne (by rw [← hk]; exact Nat.mul_le_mul_left _ (by omega)))
  refine ⟨_, ⟨hfin, rfl⟩, fun V v hv => ?_⟩
  rw [hz]
  generalize hm : zmag b64 (val64 (FP.ddiv a b)) = m at *
  have hV := own_natAbs (val64 V)
  rw [hv.2] at hV
  have upV := up V hv.ne
  have dnV := dn V
  rw [← hV] at upV dnV
  clear up dn
  have cast : ∀ p q : Nat, ((p * q : Nat) : Int) = (p : Int) * q := fun p q => by simp
  cases s
  · have ex' : (k : Int) = x := ex
    have em : signed false m = (m : Int) := rfl
    rw [em]
    constructor
    · intro h
      by_cases hv0 : 0 ≤ v
      · have e1 : (v.natAbs : Int) = v := Int.natAbs_of_nonneg hv0
        have : k * one64 ≤ v.natAbs * u := by apply Int.ofNat_le.mp; rw [cast, cast, ex', e1, ey']; exact h
        have := upV this; omega
      · exfalso
        have h5 : v * y < 0 := Int.mul_neg_of_neg_of_pos (by omega) hy0
        have h6 : 0 ≤ x * (one64 : Int) := Int.mul_nonneg (by omega) (by omega)
        omega
    · intro h
      by_cases hv0 : 0 ≤ v
      · have e1 : (v.natAbs : Int) = v := Int.natAbs_of_nonneg hv0
        have : v.natAbs * u ≤ k * one64 := by apply Int.ofNat_le.mp; rw [cast, cast, ex', e1, ey']; exact h
        have := dnV this; omega
      · omega
  · have ex' : -(k : Int) = x := ex
    have em : signed true m = -(m : Int) := rfl
    rw [em]
    have ek : (k : Int) = -x := by omega
    constructor
    · intro h
      by_cases hv0 : 0 ≤ v
      · omega
      · have e1 : (v.natAbs : Int) = -v := by omega
        have : v.natAbs * u ≤ k * one64 := by
          apply Int.ofNat_le.mp; rw [cast, cast, ek, e1, ey', Int.neg_mul, Int.neg_mul]; omega
        have := dnV this; omega
    · intro h
      by_cases hv0 : v ≤ 0
      · have e1 : (v.natAbs : Int) = -v := by omega
        have : k * one64 ≤ v.natAbs * u := by
          apply Int.ofNat_le.mp; rw [cast, cast, ek, e1, ey', Int.neg_mul, Int.neg_mul]; omega
        have := upV this; omega
      · exfalso
        have h5 : 0 < v * y := Int.mul_pos (by omega) hy0
        have h6 : x * (one64 : Int) ≤ 0 := by
          have : 0 ≤ (k : Int) * (one64 : Int) := Int.mul_nonneg (by omega) (by omega)
          rw [ek, Int.neg_mul] at this; omega
        omega
theorem ZV.div_exact (ha : ZV a x) (hb : ZV b y) (hy : (one64 : Int) ≤ y) (hv : ZV V z) (h : x * (one64 : Int) = z * y) : ZV (FP.ddiv a b) z := by
  obtain ⟨r, h1, h2⟩ := ha.div hb hy
  have h3 := h2 V z hv
  have : r = z := Int.le_antisymm (h3.1 (Int.le_of_eq h)) (h3.2 (Int.le_of_eq h.symm))
  exact this ▸ h1
/-- i * 2^k units are a double -/
theorem own_rep (i : Int) (k : Nat) (hi : i.natAbs < 2 ^ 53) (hk : k ≤ 2045) : ∃ V, ZV V (i * ((2 ^ k : Nat) : Int)) := by
  obtain ⟨c', q', h1, h2⟩ := round_exact good_b64 (decide (i < 0)) (c := i.natAbs) (q := (k : Int) + b64.qmin) hi (by omega) (by rw [show b64.qmax = 971 from by decide, qmin_b64]; omega)
  have hf : FP.Core.fits b64 (.fin (decide (i < 0)) c' q') := by rw [← h1]; exact round_fits good_b64 _
  refine ⟨of64 (.fin (decide (i < 0)) c' q'), ⟨_, _, _, val64_of64 hf⟩, ?_⟩
  rw [val64_of64 hf, own_mag, h2]
  unfold inUnits
  rw [show ((k : Int) + b64.qmin - b64.qmin).toNat = k from by omega, signed_mul, own_sgn_z]
  congr 1
  by_cases h : i < 0
  · simp only [h, decide_true, if_true]; omega
  · simp only [h, decide_false]; simp only [Bool.false_eq_true, if_false]; omega
theorem own_one64 : (one64 : Int) = ((2 ^ 1074 : Nat) : Int) := rfl
theorem ZV.of_int {i : Int} (h : DInt i a) : ZV a (i * (one64 : Int)) := by
  refine ⟨?_, DInt_zval h⟩
  unfold DInt at h
  cases h2 : val64 a with
  | nan => rw [h2] at h; exact h.elim
  | inf s => rw [h2] at h; exact h.elim
  | fin s c q => exact ⟨s, c, q, h2⟩
theorem own_i2d (n : Int32) : ZV (FP.i2d n) (n.toInt * (one64 : Int)) := ZV.of_int (i2d_int n)
theorem own_l2d {n : Int64} (h : n.toInt.natAbs ≤ 2 ^ 53) : ZV (FP.l2d n) (n.toInt * (one64 : Int)) := ZV.of_int (l2d_int h)
theorem own_ddiv_nn (ha : DFin a) (hb : DFin b) : FP.ddiv (FP.Core.dneg a) (FP.Core.dneg b) = FP.ddiv a b ∨ val64 (FP.ddiv a b) = .nan := by
  by_cases hn : val64 (FP.ddiv a b) = .nan
  · exact Or.inr hn
  · refine Or.inl (val64_inj hn ?_).symm
    obtain ⟨s, c, q, h1⟩ := ha
    obtain ⟨t, d, r, h2⟩ := hb
    show val64 (FP.Core.ddiv a b) = val64 (FP.Core.ddiv _ _)
    rw [val64_ddiv, val64_ddiv, val64_dneg, val64_dneg, h1, h2]
    show quotient b64 (.fin s c q) (.fin t d r) = quotient b64 (.fin (!s) c q) (.fin (!t) d r)
    simp only [quotient]
    have : ((!s) != (!t)) = (s != t) := by cases s <;> cases t <;> rfl
    rw [this]
theorem ZV.dneg (h : ZV a x) : ZV (FP.Core.dneg a) (-x) := by
  refine ⟨?_, by rw [val64_dneg, zval_negate, h.2]⟩
  obtain ⟨⟨s, c, q, h1⟩, -⟩ := h; exact ⟨!s, c, q, by rw [val64_dneg, h1]; rfl⟩
/-- the quotient by a negative double of at most minus one -/
theorem ZV.div_neg (ha : ZV a x) (hb : ZV b y) (hy : y ≤ -(one64 : Int)) : ∃ r, ZV (FP.ddiv a b) r ∧ Quo (-x) (-y) r := by
  obtain ⟨r, h1, h2⟩ := ha.dneg.div hb.dneg (by omega)
  have o1 := one64_pos
  obtain ⟨s, c, q, t, d, r', -, -, -, h3, -⟩ := own_quot ha hb (by omega)
  rcases own_ddiv_nn ha.1 hb.1 with h | h
  · exact ⟨r, h ▸ h1, h2⟩
  · rw [h3] at h; exact absurd h (roundRatio_ne_nan _ _ _ _ _)
/-- n / D against i / 2^j -/
theorem own_quo_int {n D r : Int} (h : Quo (n * (one64 : Int)) (D * (one64 : Int)) r) (i : Int) (j : Nat) (hj : j ≤ 1074) (hi : i.natAbs < 2 ^ 53) :
    (n * ((2 ^ j : Nat) : Int) ≤ i * D → r ≤ i * ((2 ^ (1074 - j) : Nat) : Int)) ∧ (i * D ≤ n * ((2 ^ j : Nat) : Int) → i * ((2 ^ (1074 - j) : Nat) : Int) ≤ r) := by
  obtain ⟨V, hV⟩ := own_rep i (1074 - j) hi (by omega)
  have q := h V _ hV
  have e : (one64 : Int) = ((2 ^ j : Nat) : Int) * ((2 ^ (1074 - j) : Nat) : Int) := by
    rw [own_one64, ← Int.natCast_mul, ← Nat.pow_add]; congr 2; omega
  have hu : (0 : Int) ≤ ((2 ^ (1074 - j) : Nat) : Int) * (one64 : Int) := Int.mul_nonneg (Int.natCast_nonneg _) (Int.natCast_nonneg _)
  have e1 : n * (one64 : Int) * (one64 : Int) = n * ((2 ^ j : Nat) : Int) * (((2 ^ (1074 - j) : Nat) : Int) * (one64 : Int)) := by
    conv => lhs; arg 1; rw [e]
    rw [← Int.mul_assoc n, Int.mul_assoc (n * _)]
  have e2 : i * ((2 ^ (1074 - j) : Nat) : Int) * (D * (one64 : Int)) = i * D * (((2 ^ (1074 - j) : Nat) : Int) * (one64 : Int)) := by rw [Int.mul_assoc i, Int.mul_left_comm _ D, ← Int.mul_assoc i D]
  rw [e1, e2] at q
  exact ⟨fun z => q.1 (Int.mul_le_mul_of_nonneg_right z hu), fun z => q.2 (Int.mul_le_mul_of_nonneg_right z hu)⟩
theorem own_zero : ZV (0 : UInt64) 0 := ⟨⟨_, _, _, val64_zero⟩, zval64_zero⟩
theorem own_one : ZV (4607182418800017408 : UInt64) (one64 : Int) := by
  have := ZV.of_int dint_one; rwa [Int.one_mul] at this
theorem own_cmp_gt {x y : Int} : some (compare x y) = some Ordering.gt ↔ y < x := by rw [Option.some.injEq]; exact compare_gt_iff x y
theorem own_cmp_lt {x y : Int} : some (compare x y) = some Ordering.lt ↔ x < y := by rw [Option.some.injEq]; exact compare_lt_iff x y
theorem own_cmp_eq {x y : Int} : some (compare x y) = some Ordering.eq ↔ x = y := by rw [Option.some.injEq]; exact compare_eq_iff x y
theorem own_dnn {i : Int} {a : UInt64} (h : DInt i a) : Jvm.Free.Fl.NoNaN64 a := (ZV.of_int h).nn
theorem own_nnd' {a : UInt64} (ha : DFin a) (n : Int32) (hn : n ≠ 0) : Jvm.Free.Fl.NoNaN64 (FP.ddiv a (FP.i2d n)) :=
  Jvm.Free.Fl.noNaN64_no.mpr (FP.Core.ddiv_out ha.notNaN (i2d_fin n) (fun q => i2d_ne_zero hn (by rwa [zero_bits2] at q)))
theorem own_nnd (s : Int64) (n : Int32) (hn : n ≠ 0) : Jvm.Free.Fl.NoNaN64 (FP.ddiv (FP.l2d s) (FP.i2d n)) := own_nnd' (l2d_fin s) n hn
theorem own_dz : DInt 0 (0 : UInt64) := by
  have : (0 : UInt64) = FP.l2d 0 := FP.Core.l2d_zero.symm
  rw [this]; exact l2d_int (a := 0) (by decide)
theorem own_div_eq {S S' : UInt64} {s : Int} (h : DInt s S) (h' : DInt s S') (n : Int32) (hn : 1 ≤ n.toInt) : FP.dcmp (FP.ddiv S (FP.i2d n)) (FP.ddiv S' (FP.i2d n)) = some .eq := by
  have hy : (one64 : Int) ≤ n.toInt * (one64 : Int) := by
    have := Int.mul_le_mul_of_nonneg_right hn (show (0 : Int) ≤ (one64 : Int) by omega)
    rwa [Int.one_mul] at this
  by_cases hs : s = 0
  · subst hs
    have z1 := ZV.of_int h
    have z2 := ZV.of_int h'
    rw [Int.zero_mul] at z1 z2
    have q1 := z1.div_exact (own_i2d n) hy own_zero (by rw [Int.zero_mul, Int.zero_mul])
    have q2 := z2.div_exact (own_i2d n) hy own_zero (by rw [Int.zero_mul, Int.zero_mul])
    rw [q1.cmp q2, own_cmp_eq]
  · have e := dint_unique hs h h'
    subst e
    have hz : n ≠ 0 := fun q => by subst q; revert hn; decide
    exact dcmp_refl (Jvm.Free.Fl.noNaN64_no.mp (own_nnd' (ZV.of_int h).1 n hz))
theorem own_ib (x : Int32) : x.toInt.natAbs ≤ 2147483648 := by have := x.le_toInt; have := x.toInt_lt; omega
end OwnFp
section PureOne
open Jvm.FP.Core
def safeV (i0 : Int32) : UInt64 := if (2 : Int32) < i0 then FP.ddiv (FP.l2d (((((200 : Int64) * ((i0.toInt64 - (1 : Int64)) - (1 : Int64))) + (i0.toInt64 - (1 : Int64))) / ((2 : Int64) * (i0.toInt64 - (1 : Int64)))) + (1 : Int64))) (4636737291354636288 : UInt64) else (4602678819172646912 : UInt64)
theorem own_nn100 (x : Int64) : Jvm.Free.Fl.NoNaN64 (FP.ddiv (FP.l2d x) (4636737291354636288 : UInt64)) := by
  refine Jvm.Free.Fl.noNaN64_no.mpr (FP.Core.ddiv_out (l2d_fin x).notNaN ?_ ?_)
  · rw [fin_bits]; decide
  · rw [zero_bits2]; decide
theorem own_o {m : Int32} {o : Int64} (h : (2 : Int32) < m) (ho : m.toInt64 - (1 : Int64) = o) : o.toInt = m.toInt - 1 ∧ 2 ≤ o.toInt ∧ o.toInt ≤ 2147483646 := by
  have h1 := m.toInt_lt
  rw [Int32.lt_iff_toInt_lt, show (2 : Int32).toInt = 2 from by decide] at h
  have e1 : m.toInt64.toInt = m.toInt := Int32.toInt_toInt64 m
  have e2 : (1 : Int64).toInt = 1 := by decide
  have e : (m.toInt64 - 1).toInt = m.toInt - 1 := by rw [Jvm.Kit.i64_sub (by rw [e1, e2]; omega) (by rw [e1, e2]; omega), e1, e2]
  rw [← ho, e]; omega
theorem own_two {o : Int64} (h : 2 ≤ o.toInt ∧ o.toInt ≤ 2147483646) : ((2 : Int64) * o).toInt = 2 * o.toInt := by
  have e2 : (2 : Int64).toInt = 2 := by decide
  rw [Jvm.Kit.i64_mul (by rw [e2]; omega) (by rw [e2]; omega), e2]
theorem own_nz2 {m : Int32} {o : Int64} (h : (2 : Int32) < m) (ho : m.toInt64 - (1 : Int64) = o) : (2 : Int64) * o ≠ 0 := by
  have b := own_o h ho
  intro q
  have := own_two b.2
  rw [q, show (0 : Int64).toInt = 0 from by decide] at this
  omega
end PureOne

theorem d1_0 : decode prog_25_method_5_code 0 = .ok (.iload_n 0, 1) := by decide +kernel
theorem d1_1 : decode prog_25_method_5_code 1 = .ok (.iconst 2, 1) := by decide +kernel
theorem d1_2 : decode prog_25_method_5_code 2 = .ok (.if_icmp .gt 7, 3) := by decide +kernel
theorem d1_5 : decode prog_25_method_5_code 5 = .ok (.ldc2_w 37, 3) := by decide +kernel
theorem d1_8 : decode prog_25_method_5_code 8 = .ok (.dreturn, 1) := by decide +kernel
theorem d1_9 : decode prog_25_method_5_code 9 = .ok (.iload_n 0, 1) := by decide +kernel
theorem d1_10 : decode prog_25_method_5_code 10 = .ok (.i2l, 1) := by decide +kernel
theorem d1_11 : decode prog_25_method_5_code 11 = .ok (.lconst 1, 1) := by decide +kernel
theorem d1_12 : decode prog_25_method_5_code 12 = .ok (.lsub, 1) := by decide +kernel
theorem d1_13 : decode prog_25_method_5_code 13 = .ok (.lstore_n 1, 1) := by decide +kernel
theorem d1_14 : decode prog_25_method_5_code 14 = .ok (.ldc2_w 39, 3) := by decide +kernel
theorem d1_17 : decode prog_25_method_5_code 17 = .ok (.lload_n 1, 1) := by decide +kernel
theorem d1_18 : decode prog_25_method_5_code 18 = .ok (.lconst 1, 1) := by decide +kernel
theorem d1_19 : decode prog_25_method_5_code 19 = .ok (.lsub, 1) := by decide +kernel
theorem d1_20 : decode prog_25_method_5_code 20 = .ok (.lmul, 1) := by decide +kernel
theorem d1_21 : decode prog_25_method_5_code 21 = .ok (.lload_n 1, 1) := by decide +kernel
theorem d1_22 : decode prog_25_method_5_code 22 = .ok (.ladd, 1) := by decide +kernel
theorem d1_23 : decode prog_25_method_5_code 23 = .ok (.ldc2_w 41, 3) := by decide +kernel
theorem d1_26 : decode prog_25_method_5_code 26 = .ok (.lload_n 1, 1) := by decide +kernel
theorem d1_27 : decode prog_25_method_5_code 27 = .ok (.lmul, 1) := by decide +kernel
theorem d1_28 : decode prog_25_method_5_code 28 = .ok (.ldiv, 1) := by decide +kernel
theorem d1_29 : decode prog_25_method_5_code 29 = .ok (.lstore_n 3, 1) := by decide +kernel
theorem d1_30 : decode prog_25_method_5_code 30 = .ok (.lload_n 3, 1) := by decide +kernel
theorem d1_31 : decode prog_25_method_5_code 31 = .ok (.lconst 1, 1) := by decide +kernel
theorem d1_32 : decode prog_25_method_5_code 32 = .ok (.ladd, 1) := by decide +kernel
theorem d1_33 : decode prog_25_method_5_code 33 = .ok (.l2d, 1) := by decide +kernel
theorem d1_34 : decode prog_25_method_5_code 34 = .ok (.ldc2_w 43, 3) := by decide +kernel
theorem d1_37 : decode prog_25_method_5_code 37 = .ok (.ddiv, 1) := by decide +kernel
theorem d1_38 : decode prog_25_method_5_code 38 = .ok (.dreturn, 1) := by decide +kernel
theorem pn_0 : plainName "com/example/d2rank/d2rank/eval/Alpha" = true := by first | (simp [plainName, overriddenIn]; done) | decide +kernel
theorem ef_rm1 (m : MethodId) (i0 : Int32) : entryFrame m #[(.int i0)] 5 = mkF m 0 #[.val (.int i0), .unset, .unset, .unset, .unset] [] := by first | (simp [entryFrame, mkF, argsToLocals, Value.category]; done) | rfl
def Q_rm1 (Z : State) (i0 : Int32) (h0 : Heap) (n0 : Nat) (v : Option Value) (h : Heap) (L : List Loc) : Prop := v = some (.double (safeV i0)) ∧ Fr n0 L ∧ h = h0
set_option maxRecDepth 65536 in
set_option maxHeartbeats 40000000 in
theorem rm1 (l : Launch) (Z : State) (aw : Array Value) (hw : ∀ d ∈ tables_1, d.before aw Z = true) (ws : List Jvm.Cond) (i0 : Int32) (h0 : Heap) (n0 : Nat) (Z0 : n0 ≤ h0.size) :
    MetFree l (⟨"com/example/d2rank/d2rank/eval/Alpha", "safeThreshold", "(I)D"⟩ : MethodName) (head1 (Jvm.Cond.code (⟨"com/example/d2rank/d2rank/eval/Alpha", "safeThreshold", "(I)D"⟩ : MethodName) prog_25_method_5_code 5 (some .double) :: ws) ({ frames := 0, cells := 0, slots := 0, locals := 0 } : Room)) (fun a U => a = #[(.int i0)] ∧ Z.Warmed39 U.vm ∧ U.heap = h0) (fun _ _ _ _ _ => True) (fun _ U o U' => ∃ v L, o = .returned v ∧ Q_rm1 Z i0 h0 n0 v U'.heap L ∧ FrameEnd U o U' L ({ frames := 0, cells := 0, slots := 0, locals := 0 } : Room).cells ({ frames := 0, cells := 0, slots := 0, locals := 0 } : Room).slots) := by
  refine MetFree.of_bodySF (plainFor_of_name pn_0) hisR ?_
  intro p e s m args below meth c s₁ Bd hml0 hP hK
  obtain ⟨rfl, hZ, hh⟩ := hP
  have hx := Bd.exec
  have hby := Bd.bytes
  have hml : c.maxLocals = 5 := hml0
  have hown : s.vm.findClass "com/example/d2rank/d2rank/eval/Alpha" = some m.cls := findClass_of_methodNamed Bd.named
  have hnm := (name_of_methodNamed Bd.named Bd.method).1
  have hlk : meth.locks = false := BodyLoose.notSynchronized Bd
  have X0 : Stand p l e ({ frames := 0, cells := 0, slots := 0, locals := 0 } : Room) s m #[(.int i0)] below meth c s₁ [] 0 0 := Stand.of_body Bd
  have e0 : s₁.heap = h0 := by rw [← hh, Bd.state]; rfl
  have N0 := Fr.nil n0
  have ZZ := Z0
  show Go p e below s ({ frames := 0, cells := 0, slots := 0, locals := 0 } : Room).cells ({ frames := 0, cells := 0, slots := 0, locals := 0 } : Room).slots (fun v h L => Q_rm1 Z i0 h0 n0 v h L) s₁ (entryFrame m #[(.int i0)] 5)
  refine Go.cast (ef_rm1 m i0) ?_
  refine Go.gen ?_
  intro K1 K2 QQ hK1 hK2 hQQ
  refine Go.on (fun _ k => XS.iloadN X0.here hx rfl (hb hby d1_0) rfl k) ?_
  show Go _ _ _ _ _ _ _ _ (mkF m 1 #[.val (.int i0), .unset, .unset, .unset, .unset] [(.int i0)])
  refine Go.on (fun _ k => XS.iconst X0.here hx rfl (hb hby d1_1) k) ?_
  show Go _ _ _ _ _ _ _ _ (mkF m 2 #[.val (.int i0), .unset, .unset, .unset, .unset] [(.int (2 : Int32)), (.int i0)])
  by_cases hc1 : (2 : Int32) < i0
  · -- pc 2 yes
    refine Go.on (fun _ k => XS.icmpYes X0.here hx rfl (pc0 := 2) (pc' := 9) rfl (hb hby d1_2) rfl (tlt hc1).2.2.1 (by decide) (by decide) k) ?_
    show Go _ _ _ _ _ _ _ _ (mkF m 9 #[.val (.int i0), .unset, .unset, .unset, .unset] [])
    refine Go.on (fun _ k => XS.iloadN X0.here hx rfl (hb hby d1_9) rfl k) ?_
    show Go _ _ _ _ _ _ _ _ (mkF m 10 #[.val (.int i0), .unset, .unset, .unset, .unset] [(.int i0)])
    refine Go.on (fun _ k => XS.i2l X0.here hx rfl (hb hby d1_10) rfl k) ?_
    show Go _ _ _ _ _ _ _ _ (mkF m 11 #[.val (.int i0), .unset, .unset, .unset, .unset] [(.long (i0.toInt64))])
    refine Go.on (fun _ k => XS.lconst X0.here hx rfl (hb hby d1_11) k) ?_
    show Go _ _ _ _ _ _ _ _ (mkF m 12 #[.val (.int i0), .unset, .unset, .unset, .unset] [(.long (1 : Int64)), (.long (i0.toInt64))])
    refine Go.on (fun _ k => XS.lsub X0.here hx rfl (hb hby d1_12) rfl k) ?_
    show Go _ _ _ _ _ _ _ _ (mkF m 13 #[.val (.int i0), .unset, .unset, .unset, .unset] [(.long ((i0.toInt64) - (1 : Int64)))])
    refine Go.on (fun _ k => XS.lstoreN X0.here hx rfl (hb hby d1_13) rfl (l' := #[.val (.int i0), .val (.long ((i0.toInt64) - (1 : Int64))), .second, .unset, .unset]) rfl k) ?_
    show Go _ _ _ _ _ _ _ _ (mkF m 14 #[.val (.int i0), .val (.long ((i0.toInt64) - (1 : Int64))), .second, .unset, .unset] [])
    generalize ho : ((i0.toInt64) - (1 : Int64)) = o
    show Go _ _ _ _ _ _ _ _ (mkF m 14 #[.val (.int i0), .val (.long o), .second, .unset, .unset] [])
    refine Go.on (fun _ k => X0.ldc2J hx hown (mvT hZ (hw _ (List.mem_of_getElem? (i := 6) rfl))) rfl (hb hby d1_14) k) ?_
    show Go _ _ _ _ _ _ _ _ (mkF m 17 #[.val (.int i0), .val (.long o), .second, .unset, .unset] [(.long (200 : Int64))])
    refine Go.on (fun _ k => XS.lloadN X0.here hx rfl (hb hby d1_17) rfl k) ?_
    show Go _ _ _ _ _ _ _ _ (mkF m 18 #[.val (.int i0), .val (.long o), .second, .unset, .unset] [(.long o), (.long (200 : Int64))])
    refine Go.on (fun _ k => XS.lconst X0.here hx rfl (hb hby d1_18) k) ?_
    show Go _ _ _ _ _ _ _ _ (mkF m 19 #[.val (.int i0), .val (.long o), .second, .unset, .unset] [(.long (1 : Int64)), (.long o), (.long (200 : Int64))])
    refine Go.on (fun _ k => XS.lsub X0.here hx rfl (hb hby d1_19) rfl k) ?_
    show Go _ _ _ _ _ _ _ _ (mkF m 20 #[.val (.int i0), .val (.long o), .second, .unset, .unset] [(.long (o - (1 : Int64))), (.long (200 : Int64))])
    refine Go.on (fun _ k => XS.lmul X0.here hx rfl (hb hby d1_20) rfl k) ?_
    show Go _ _ _ _ _ _ _ _ (mkF m 21 #[.val (.int i0), .val (.long o), .second, .unset, .unset] [(.long ((200 : Int64) * (o - (1 : Int64))))])
    refine Go.on (fun _ k => XS.lloadN X0.here hx rfl (hb hby d1_21) rfl k) ?_
    show Go _ _ _ _ _ _ _ _ (mkF m 22 #[.val (.int i0), .val (.long o), .second, .unset, .unset] [(.long o), (.long ((200 : Int64) * (o - (1 : Int64))))])
    refine Go.on (fun _ k => XS.ladd X0.here hx rfl (hb hby d1_22) rfl k) ?_
    show Go _ _ _ _ _ _ _ _ (mkF m 23 #[.val (.int i0), .val (.long o), .second, .unset, .unset] [(.long (((200 : Int64) * (o - (1 : Int64))) + o))])
    refine Go.on (fun _ k => X0.ldc2J hx hown (mvT hZ (hw _ (List.mem_of_getElem? (i := 7) rfl))) rfl (hb hby d1_23) k) ?_
    show Go _ _ _ _ _ _ _ _ (mkF m 26 #[.val (.int i0), .val (.long o), .second, .unset, .unset] [(.long (2 : Int64)), (.long (((200 : Int64) * (o - (1 : Int64))) + o))])
    refine Go.on (fun _ k => XS.lloadN X0.here hx rfl (hb hby d1_26) rfl k) ?_
    show Go _ _ _ _ _ _ _ _ (mkF m 27 #[.val (.int i0), .val (.long o), .second, .unset, .unset] [(.long o), (.long (2 : Int64)), (.long (((200 : Int64) * (o - (1 : Int64))) + o))])
    refine Go.on (fun _ k => XS.lmul X0.here hx rfl (hb hby d1_27) rfl k) ?_
    show Go _ _ _ _ _ _ _ _ (mkF m 28 #[.val (.int i0), .val (.long o), .second, .unset, .unset] [(.long ((2 : Int64) * o)), (.long (((200 : Int64) * (o - (1 : Int64))) + o))])
    refine Go.on (fun _ k => XS.ldiv X0.here hx rfl (hb hby d1_28) rfl (own_nz2 hc1 ho) k) ?_
    show Go _ _ _ _ _ _ _ _ (mkF m 29 #[.val (.int i0), .val (.long o), .second, .unset, .unset] [(.long ((((200 : Int64) * (o - (1 : Int64))) + o) / ((2 : Int64) * o)))])
    refine Go.on (fun _ k => XS.lstoreN X0.here hx rfl (hb hby d1_29) rfl (l' := #[.val (.int i0), .val (.long o), .second, .val (.long ((((200 : Int64) * (o - (1 : Int64))) + o) / ((2 : Int64) * o))), .second]) rfl k) ?_
    show Go _ _ _ _ _ _ _ _ (mkF m 30 #[.val (.int i0), .val (.long o), .second, .val (.long ((((200 : Int64) * (o - (1 : Int64))) + o) / ((2 : Int64) * o))), .second] [])
    generalize hpc : ((((200 : Int64) * (o - (1 : Int64))) + o) / ((2 : Int64) * o)) = pc
    show Go _ _ _ _ _ _ _ _ (mkF m 30 #[.val (.int i0), .val (.long o), .second, .val (.long pc), .second] [])
    refine Go.on (fun _ k => XS.lloadN X0.here hx rfl (hb hby d1_30) rfl k) ?_
    show Go _ _ _ _ _ _ _ _ (mkF m 31 #[.val (.int i0), .val (.long o), .second, .val (.long pc), .second] [(.long pc)])
    refine Go.on (fun _ k => XS.lconst X0.here hx rfl (hb hby d1_31) k) ?_
    show Go _ _ _ _ _ _ _ _ (mkF m 32 #[.val (.int i0), .val (.long o), .second, .val (.long pc), .second] [(.long (1 : Int64)), (.long pc)])
    refine Go.on (fun _ k => XS.ladd X0.here hx rfl (hb hby d1_32) rfl k) ?_
    show Go _ _ _ _ _ _ _ _ (mkF m 33 #[.val (.int i0), .val (.long o), .second, .val (.long pc), .second] [(.long (pc + (1 : Int64)))])
    refine Go.on (fun _ k => XS.l2dS X0.here hx rfl (hb hby d1_33) rfl rfl k) ?_
    show Go _ _ _ _ _ _ _ _ (mkF m 34 #[.val (.int i0), .val (.long o), .second, .val (.long pc), .second] [(.double (FP.l2d (pc + (1 : Int64))))])
    refine Go.on (X0.ldc2DoubleC hx hown (mvT hZ (hw _ (List.mem_of_getElem? (i := 8) rfl))) (g := (mkF m 34 #[.val (.int i0), .val (.long o), .second, .val (.long pc), .second] [(.double (FP.l2d (pc + (1 : Int64))))])) rfl (hb hby d1_34)) ?_
    show Go _ _ _ _ _ _ _ _ (mkF m 37 #[.val (.int i0), .val (.long o), .second, .val (.long pc), .second] [(.double (4636737291354636288 : UInt64)), (.double (FP.l2d (pc + (1 : Int64))))])
    refine Go.on (fun _ k => XS.ddivS X0.here hx rfl (hb hby d1_37) rfl (own_nn100 _) rfl k) ?_
    show Go _ _ _ _ _ _ _ _ (mkF m 38 #[.val (.int i0), .val (.long o), .second, .val (.long pc), .second] [(.double (FP.ddiv (FP.l2d (pc + (1 : Int64))) (4636737291354636288 : UInt64)))])
    refine Go.retV X0 hx Bd.returns rfl (Or.inr (Or.inr (Or.inl ⟨rfl, rfl, _, rfl⟩))) (hb hby d1_38) ?_ (by rw [hK1]; decide) (by rw [hK2]; decide)
    rw [e0, ← hQQ]
    refine ⟨?_, N0, rfl⟩
    show _ = some (Value.double (safeV i0))
    unfold safeV; rw [if_pos hc1, ← hpc, ← ho]
  · -- pc 2 no
    refine Go.on (fun _ k => XS.icmpNo X0.here hx rfl (hb hby d1_2) rfl (flt hc1).2.2.1 k) ?_
    show Go _ _ _ _ _ _ _ _ (mkF m 5 #[.val (.int i0), .unset, .unset, .unset, .unset] [])
    refine Go.on (X0.ldc2DoubleC hx hown (mvT hZ (hw _ (List.mem_of_getElem? (i := 4) rfl))) (g := (mkF m 5 #[.val (.int i0), .unset, .unset, .unset, .unset] [])) rfl (hb hby d1_5)) ?_
    show Go _ _ _ _ _ _ _ _ (mkF m 8 #[.val (.int i0), .unset, .unset, .unset, .unset] [(.double (4602678819172646912 : UInt64))])
    refine Go.retV X0 hx Bd.returns rfl (Or.inr (Or.inr (Or.inl ⟨rfl, rfl, _, rfl⟩))) (hb hby d1_8) ?_ (by rw [hK1]; decide) (by rw [hK2]; decide)
    rw [e0, ← hQQ]
    refine ⟨?_, N0, rfl⟩
    show _ = some (Value.double (safeV i0))
    unfold safeV; rw [if_neg hc1]
section PureTwo
open Jvm.FP.Core
theorem own_pure0 {m : Int32} {r : UInt64} {v : Int32} (h : ¬ (2 : Int32) < m) (hr : safeV m = r) (hv : v = (if (cmpValue (FP.dcmp r (4602678819172646912 : UInt64)) .l) = (0 : Int32) then (1 : Int32) else (0 : Int32))) : v = 1 := by
  unfold safeV at hr
  rw [if_neg h] at hr
  rw [hv, ← hr]; decide +kernel
/-- the percents are one -/
theorem own_percent {O : Int} (h : 2 ≤ O) : (200 * (O - 1) + O) / (2 * O) = if O < 200 then 100 - (199 + O) / (2 * O) else 100 := by
  have h2 : 0 < 2 * O := by omega
  have key : ∀ k : Int, k * (2 * O) ≤ 200 * (O - 1) + O → 200 * (O - 1) + O < (k + 1) * (2 * O) → (200 * (O - 1) + O) / (2 * O) = k := fun k a b => by
    apply Int.le_antisymm
    · exact Int.lt_add_one_iff.mp (Int.ediv_lt_of_lt_mul h2 b)
    · exact (Int.le_ediv_iff_mul_le h2).mpr a
  split
  · have a := Int.ediv_mul_le (199 + O) (b := 2 * O) (by omega)
    have b := Int.lt_ediv_add_one_mul_self (199 + O) h2
    generalize (199 + O) / (2 * O) = t at *
    have e1 : (t + 1) * (2 * O) = t * (2 * O) + 2 * O := by rw [Int.add_mul, Int.one_mul]
    have e2 : (100 - t) * (2 * O) = 100 * (2 * O) - t * (2 * O) := Int.sub_mul _ _ _
    have e3 : (100 - t + 1) * (2 * O) = (100 - t) * (2 * O) + 2 * O := by rw [Int.add_mul, Int.one_mul]
    rw [e1] at b
    refine key _ ?_ ?_
    · rw [e2]; omega
    · rw [e3, e2]; omega
  · exact key 100 (by omega) (by omega)
theorem own_pure {m : Int32} {o kk tg : Int64} {rounds v : Int32} {r : UInt64} (h : (2 : Int32) < m) (ho : m.toInt64 - (1 : Int64) = o)
    (hkk : kk = (if o < (200 : Int64) then ((100 : Int64) - (((199 : Int64) + o) / ((2 : Int64) * o))) else (100 : Int64))) (htg : ((200 : Int64) * (o - (1 : Int64))) = tg)
    (hrounds : rounds = (if tg < ((((2 : Int64) * kk) * o) - o) then (0 : Int32) else (if tg < ((((2 : Int64) * kk) * o) + o) then (1 : Int32) else (0 : Int32)))) (hr : safeV m = r)
    (hv : v = (if rounds = (0 : Int32) then (0 : Int32) else (if (cmpValue (FP.dcmp r (FP.ddiv (FP.l2d (kk + (1 : Int64))) (4636737291354636288 : UInt64))) .l) = (0 : Int32) then (1 : Int32) else (0 : Int32)))) : v = 1 := by
  have bo := own_o h ho
  have e2o := own_two bo.2
  have l1 : (1 : Int64).toInt = 1 := by decide
  have l2 : (2 : Int64).toInt = 2 := by decide
  have l100 : (100 : Int64).toInt = 100 := by decide
  have l199 : (199 : Int64).toInt = 199 := by decide
  have l200 : (200 : Int64).toInt = 200 := by decide
  have eo1 : (o - 1).toInt = o.toInt - 1 := by rw [Jvm.Kit.i64_sub (by rw [l1]; omega) (by rw [l1]; omega), l1]
  have etg : tg.toInt = 200 * (o.toInt - 1) := by rw [← htg, Jvm.Kit.i64_mul (by rw [l200, eo1]; omega) (by rw [l200, eo1]; omega), l200, eo1]
  have esum : ((200 : Int64) * (o - 1) + o).toInt = 200 * (o.toInt - 1) + o.toInt := by
    rw [htg, Jvm.Kit.i64_add (by rw [etg]; omega) (by rw [etg]; omega), etg]
  have e199 : ((199 : Int64) + o).toInt = 199 + o.toInt := by rw [Jvm.Kit.i64_add (by rw [l199]; omega) (by rw [l199]; omega), l199]
  have ep : (((200 : Int64) * (o - 1) + o) / ((2 : Int64) * o)).toInt = (200 * (o.toInt - 1) + o.toInt) / (2 * o.toInt) := by
    rw [Jvm.Kit.i64_div (by rw [e2o]; omega), esum, e2o, Int.tdiv_eq_ediv_of_nonneg (by omega)]
  have et : (((199 : Int64) + o) / ((2 : Int64) * o)).toInt = (199 + o.toInt) / (2 * o.toInt) := by
    rw [Jvm.Kit.i64_div (by rw [e2o]; omega), e199, e2o, Int.tdiv_eq_ediv_of_nonneg (by omega)]
  have hper := own_percent bo.2.1
  have h2 : 0 < 2 * o.toInt := by omega
  have ta := Int.ediv_mul_le (199 + o.toInt) (b := 2 * o.toInt) (by omega)
  have tb := Int.lt_ediv_add_one_mul_self (199 + o.toInt) h2
  have t0 : 0 ≤ (199 + o.toInt) / (2 * o.toInt) := Int.ediv_nonneg (by omega) (by omega)
  have t1 : (199 + o.toInt) / (2 * o.toInt) ≤ 100 := by
    apply Int.le_of_lt_add_one; exact Int.ediv_lt_of_lt_mul h2 (by omega)
  have ek : kk.toInt = if o.toInt < 200 then 100 - (199 + o.toInt) / (2 * o.toInt) else 100 := by
    rw [hkk]
    simp only [Int64.lt_iff_toInt_lt, l200]
    split
    · rw [Jvm.Kit.i64_sub (by rw [l100, et]; omega) (by rw [l100, et]; omega), l100, et]
    · exact l100
  have epk : ((200 : Int64) * (o - 1) + o) / ((2 : Int64) * o) = kk := Int64.toInt_inj.mp (by rw [ep, ek, hper])
  -- the bounds of the rounding
  have pa := Int.ediv_mul_le (200 * (o.toInt - 1) + o.toInt) (b := 2 * o.toInt) (by omega)
  have pb := Int.lt_ediv_add_one_mul_self (200 * (o.toInt - 1) + o.toInt) h2
  rw [hper, ← ek] at pa pb
  have kb : 0 ≤ kk.toInt ∧ kk.toInt ≤ 100 := by rw [ek]; split <;> omega
  have e2k : ((2 : Int64) * kk).toInt = 2 * kk.toInt := by rw [Jvm.Kit.i64_mul (by rw [l2]; omega) (by rw [l2]; omega), l2]
  have c1 : 0 ≤ 2 * kk.toInt * o.toInt := Int.mul_nonneg (by omega) (by omega)
  have c2 : 2 * kk.toInt * o.toInt ≤ 200 * o.toInt := Int.mul_le_mul_of_nonneg_right (by omega) (by omega)
  have e2ko : ((2 : Int64) * kk * o).toInt = 2 * kk.toInt * o.toInt := by rw [Jvm.Kit.i64_mul (by rw [e2k]; omega) (by rw [e2k]; omega), e2k]
  have c3 : kk.toInt * (2 * o.toInt) = 2 * kk.toInt * o.toInt := by ac_rfl
  have c4 : (kk.toInt + 1) * (2 * o.toInt) = 2 * kk.toInt * o.toInt + 2 * o.toInt := by rw [Int.add_mul, Int.one_mul, c3]
  rw [c3] at pa
  rw [c4] at pb
  have em : ((2 : Int64) * kk * o - o).toInt = 2 * kk.toInt * o.toInt - o.toInt := by rw [Jvm.Kit.i64_sub (by rw [e2ko]; omega) (by rw [e2ko]; omega), e2ko]
  have ea : ((2 : Int64) * kk * o + o).toInt = 2 * kk.toInt * o.toInt + o.toInt := by rw [Jvm.Kit.i64_add (by rw [e2ko]; omega) (by rw [e2ko]; omega), e2ko]
  have r1 : rounds = 1 := by
    rw [hrounds, if_neg, if_pos]
    · rw [Int64.lt_iff_toInt_lt, etg, ea]; omega
    · rw [Int64.lt_iff_toInt_lt, etg, em]; omega
  have hr2 : r = FP.ddiv (FP.l2d (kk + (1 : Int64))) (4636737291354636288 : UInt64) := by
    unfold safeV at hr
    rw [if_pos h, ho, epk] at hr
    exact hr.symm
  have nz := own_nn100 (kk + 1)
  rw [hv, r1, if_neg (by decide), hr2]
  have : FP.dcmp (FP.ddiv (FP.l2d (kk + (1 : Int64))) (4636737291354636288 : UInt64)) (FP.ddiv (FP.l2d (kk + (1 : Int64))) (4636737291354636288 : UInt64)) = some .eq := dcmp_refl (Jvm.Free.Fl.noNaN64_no.mp nz)
  rw [this]; decide
end PureTwo

theorem pd_0 : parseMethodDescriptor "(I)D" = some ⟨[.int], some .double⟩ := by decide +kernel
theorem pn_1 : plainName "com/example/d2rank/d2rank/eval/AlphaSafeThresholdPinLaw" = true := by first | (simp [plainName, overriddenIn]; done) | decide +kernel
theorem ef_rm0 (m : MethodId) (i0 : Int32) (i1 : Int32) : entryFrame m #[(.int i0), (.int i1)] maxLocals = mkF m 0 #[.val (.int i0), .val (.int i1), .unset, .unset, .unset, .unset, .unset, .unset, .unset, .unset, .unset, .unset] [] := by first | (simp [entryFrame, mkF, argsToLocals, Value.category, maxLocals]; done) | rfl
def Q_rm0 (Z : State) (i0 : Int32) (i1 : Int32) (h0 : Heap) (n0 : Nat) (v : Option Value) (h : Heap) (L : List Loc) : Prop := v = some (.int 1) ∧ Fr n0 L
set_option maxRecDepth 65536 in
set_option maxHeartbeats 40000000 in
theorem rm0 (l : Launch) (Z : State) (aw : Array Value) (hw : ∀ d ∈ tables_1, d.before aw Z = true) (ws : List Jvm.Cond) (i0 : Int32) (i1 : Int32) (h0 : Heap) (n0 : Nat) (Z0 : n0 ≤ h0.size) :
    MetFree l x (head1 (Jvm.Cond.code x code maxLocals ret :: ws) room_1) (fun a U => a = #[(.int i0), (.int i1)] ∧ Z.Warmed39 U.vm ∧ U.heap = h0) (fun _ _ _ _ _ => True) (fun _ U o U' => ∃ v L, o = .returned v ∧ Q_rm0 Z i0 i1 h0 n0 v U'.heap L ∧ FrameEnd U o U' L 0 0) := by
  refine MetFree.of_bodySF (plainFor_of_name pn_1) hisR ?_
  intro p e s m args below meth c s₁ Bd hml0 hP hK
  obtain ⟨rfl, hZ, hh⟩ := hP
  have hx := Bd.exec
  have hby := Bd.bytes
  have hml : c.maxLocals = 12 := hml0
  have hown : s.vm.findClass "com/example/d2rank/d2rank/eval/AlphaSafeThresholdPinLaw" = some m.cls := findClass_of_methodNamed Bd.named
  have hnm := (name_of_methodNamed Bd.named Bd.method).1
  have hlk : meth.locks = false := BodyLoose.notSynchronized Bd
  have X0 : Stand p l e room_1 s m #[(.int i0), (.int i1)] below meth c s₁ [] 0 0 := Stand.of_body Bd
  have e0 : s₁.heap = h0 := by rw [← hh, Bd.state]; rfl
  have N0 := Fr.nil n0
  have ZZ := Z0
  show Go p e below s 0 0 (fun v h L => Q_rm0 Z i0 i1 h0 n0 v h L) s₁ (entryFrame m #[(.int i0), (.int i1)] maxLocals)
  refine Go.cast (ef_rm0 m i0 i1) ?_
  refine Go.gen ?_
  intro K1 K2 QQ hK1 hK2 hQQ
  refine Go.on (fun _ k => XS.iloadN X0.here hx rfl (hb hby at_0) rfl k) ?_
  show Go _ _ _ _ _ _ _ _ (mkF m 1 #[.val (.int i0), .val (.int i1), .unset, .unset, .unset, .unset, .unset, .unset, .unset, .unset, .unset, .unset] [(.int i1)])
  refine Go.on (fun _ k => XS.iconst X0.here hx rfl (hb hby at_1) k) ?_
  show Go _ _ _ _ _ _ _ _ (mkF m 2 #[.val (.int i0), .val (.int i1), .unset, .unset, .unset, .unset, .unset, .unset, .unset, .unset, .unset, .unset] [(.int (1 : Int32)), (.int i1)])
  refine Go.on (fun _ k => XS.iand X0.here hx rfl (hb hby at_2) rfl k) ?_
  show Go _ _ _ _ _ _ _ _ (mkF m 3 #[.val (.int i0), .val (.int i1), .unset, .unset, .unset, .unset, .unset, .unset, .unset, .unset, .unset, .unset] [(.int (i1 &&& (1 : Int32)))])
  suffices hJ1 : ∀ (m0 : Int32), m0 = (if (i1 &&& (1 : Int32)) = (0 : Int32) then (i0 % (256 : Int32)) else i0) → Go p e below s K1 K2 QQ s₁ (mkF m 15 #[.val (.int i0), .val (.int i1), .unset, .unset, .unset, .unset, .unset, .unset, .unset, .unset, .unset, .unset] [(.int m0)]) by
    by_cases hc2 : (i1 &&& (1 : Int32)) = (0 : Int32)
    · -- pc 3 yes
      refine Go.on (fun _ k => XS.ifYes X0.here hx rfl (pc0 := 3) (pc' := 10) rfl (hb hby at_3) rfl ((if0 _ _).trans (teq hc2).1) (by decide) (by decide) k) ?_
      show Go _ _ _ _ _ _ _ _ (mkF m 10 #[.val (.int i0), .val (.int i1), .unset, .unset, .unset, .unset, .unset, .unset, .unset, .unset, .unset, .unset] [])
      refine Go.on (fun _ k => XS.iloadN X0.here hx rfl (hb hby at_10) rfl k) ?_
      show Go _ _ _ _ _ _ _ _ (mkF m 11 #[.val (.int i0), .val (.int i1), .unset, .unset, .unset, .unset, .unset, .unset, .unset, .unset, .unset, .unset] [(.int i0)])
      refine Go.on (fun _ k => XS.sipush X0.here hx rfl (hb hby at_11) k) ?_
      show Go _ _ _ _ _ _ _ _ (mkF m 14 #[.val (.int i0), .val (.int i1), .unset, .unset, .unset, .unset, .unset, .unset, .unset, .unset, .unset, .unset] [(.int (256 : Int32)), (.int i0)])
      refine Go.on (fun _ k => iremM X0 hx rfl (hb hby at_14) rfl (by decide) k) ?_
      show Go _ _ _ _ _ _ _ _ (mkF m 15 #[.val (.int i0), .val (.int i1), .unset, .unset, .unset, .unset, .unset, .unset, .unset, .unset, .unset, .unset] [(.int (i0 % (256 : Int32)))])
      exact hJ1 _ (by rw [if_pos hc2])
    · -- pc 3 no
      refine Go.on (fun _ k => XS.ifNo X0.here hx rfl (hb hby at_3) rfl ((if0 _ _).trans (feq hc2).1) k) ?_
      show Go _ _ _ _ _ _ _ _ (mkF m 6 #[.val (.int i0), .val (.int i1), .unset, .unset, .unset, .unset, .unset, .unset, .unset, .unset, .unset, .unset] [])
      refine Go.on (fun _ k => XS.iloadN X0.here hx rfl (hb hby at_6) rfl k) ?_
      show Go _ _ _ _ _ _ _ _ (mkF m 7 #[.val (.int i0), .val (.int i1), .unset, .unset, .unset, .unset, .unset, .unset, .unset, .unset, .unset, .unset] [(.int i0)])
      refine Go.on (fun _ k => XS.goto X0.here hx rfl (pc0 := 7) (pc' := 15) rfl (hb hby at_7) (by decide) (by decide) k) ?_
      show Go _ _ _ _ _ _ _ _ (mkF m 15 #[.val (.int i0), .val (.int i1), .unset, .unset, .unset, .unset, .unset, .unset, .unset, .unset, .unset, .unset] [(.int i0)])
      exact hJ1 _ (by rw [if_neg hc2])
  intro m0 hm0
  refine Go.on (fun _ k => XS.istoreN X0.here hx rfl (hb hby at_15) rfl (l' := #[.val (.int i0), .val (.int i1), .val (.int m0), .unset, .unset, .unset, .unset, .unset, .unset, .unset, .unset, .unset]) rfl k) ?_
  show Go _ _ _ _ _ _ _ _ (mkF m 16 #[.val (.int i0), .val (.int i1), .val (.int m0), .unset, .unset, .unset, .unset, .unset, .unset, .unset, .unset, .unset] [])
  refine Go.on (fun _ k => XS.iloadN X0.here hx rfl (hb hby at_16) rfl k) ?_
  show Go _ _ _ _ _ _ _ _ (mkF m 17 #[.val (.int i0), .val (.int i1), .val (.int m0), .unset, .unset, .unset, .unset, .unset, .unset, .unset, .unset, .unset] [(.int m0)])
  obtain ⟨_, _, ⟨T3, L3, k3, n3⟩, -, X3, ⟨Lc3, hQ3, l3, y3, z3⟩, st3⟩ := Jvm.LawKit.callS X0 hx (y := (⟨"com/example/d2rank/d2rank/eval/Alpha", "safeThreshold", "(I)D"⟩ : MethodName)) hown (mvT hZ (hw _ (List.mem_of_getElem? (i := 0) rfl))) (mvT hZ (hw _ (List.mem_of_getElem? (i := 1) rfl))) (mvT hZ (hw _ (List.mem_of_getElem? (i := 2) rfl))) (mvT hZ (hw _ (List.mem_of_getElem? (i := 3) rfl))) (by decide) (backOf (W := 0) (rm1 l Z aw hw [] m0  h0 n0 ZZ ) hZ (hw _ (List.mem_of_getElem? (i := 3) rfl)) (hw _ (List.mem_of_getElem? (i := 2) rfl)) (by decide) (by decide)) (g := (mkF m 17 #[.val (.int i0), .val (.int i1), .val (.int m0), .unset, .unset, .unset, .unset, .unset, .unset, .unset, .unset, .unset] [(.int m0)])) rfl (by rw [hml]; rfl) (argsL := [(.int m0)]) (rest := []) (lenOf pd_0 rfl) rfl (by show 2 * 0 + _ ≤ _; exact Nat.le_of_eq rfl) (hb hby at_17) (fun _ _ => ⟨rfl, e0, (by decide : 0 + 0 ≤ _), (by decide : 0 + 0 ≤ _)⟩)
  dsimp only [Pt.U, Pt.locs, Pt.cells, Pt.slots] at X3 l3 y3 z3 st3 hQ3
  subst l3 y3 z3
  obtain ⟨rfl, N3q, e3⟩ := hQ3
  have N3 := Fr.app N0 N3q
  refine Go.on st3 ?_
  show Go _ _ _ _ _ _ _ _ (mkF m 20 #[.val (.int i0), .val (.int i1), .val (.int m0), .unset, .unset, .unset, .unset, .unset, .unset, .unset, .unset, .unset] [(.double (safeV m0))])
  generalize hr : (safeV m0) = r
  show Go _ _ _ _ _ _ _ _ (mkF m 20 #[.val (.int i0), .val (.int i1), .val (.int m0), .unset, .unset, .unset, .unset, .unset, .unset, .unset, .unset, .unset] [(.double r)])
  refine Go.on (fun _ k => XS.dstoreN X3.here hx rfl (hb hby at_20) rfl (l' := #[.val (.int i0), .val (.int i1), .val (.int m0), .val (.double r), .second, .unset, .unset, .unset, .unset, .unset, .unset, .unset]) rfl k) ?_
  show Go _ _ _ _ _ _ _ _ (mkF m 21 #[.val (.int i0), .val (.int i1), .val (.int m0), .val (.double r), .second, .unset, .unset, .unset, .unset, .unset, .unset, .unset] [])
  refine Go.on (fun _ k => XS.iloadN X3.here hx rfl (hb hby at_21) rfl k) ?_
  show Go _ _ _ _ _ _ _ _ (mkF m 22 #[.val (.int i0), .val (.int i1), .val (.int m0), .val (.double r), .second, .unset, .unset, .unset, .unset, .unset, .unset, .unset] [(.int m0)])
  refine Go.on (fun _ k => XS.iconst X3.here hx rfl (hb hby at_22) k) ?_
  show Go _ _ _ _ _ _ _ _ (mkF m 23 #[.val (.int i0), .val (.int i1), .val (.int m0), .val (.double r), .second, .unset, .unset, .unset, .unset, .unset, .unset, .unset] [(.int (2 : Int32)), (.int m0)])
  by_cases hc4 : (2 : Int32) < m0
  · -- pc 23 yes
    refine Go.on (fun _ k => XS.icmpYes X3.here hx rfl (pc0 := 23) (pc' := 40) rfl (hb hby at_23) rfl (tlt hc4).2.2.1 (by decide) (by decide) k) ?_
    show Go _ _ _ _ _ _ _ _ (mkF m 40 #[.val (.int i0), .val (.int i1), .val (.int m0), .val (.double r), .second, .unset, .unset, .unset, .unset, .unset, .unset, .unset] [])
    refine Go.on (fun _ k => XS.iloadN X3.here hx rfl (hb hby at_40) rfl k) ?_
    show Go _ _ _ _ _ _ _ _ (mkF m 41 #[.val (.int i0), .val (.int i1), .val (.int m0), .val (.double r), .second, .unset, .unset, .unset, .unset, .unset, .unset, .unset] [(.int m0)])
    refine Go.on (fun _ k => XS.i2l X3.here hx rfl (hb hby at_41) rfl k) ?_
    show Go _ _ _ _ _ _ _ _ (mkF m 42 #[.val (.int i0), .val (.int i1), .val (.int m0), .val (.double r), .second, .unset, .unset, .unset, .unset, .unset, .unset, .unset] [(.long (m0.toInt64))])
    refine Go.on (fun _ k => XS.lconst X3.here hx rfl (hb hby at_42) k) ?_
    show Go _ _ _ _ _ _ _ _ (mkF m 43 #[.val (.int i0), .val (.int i1), .val (.int m0), .val (.double r), .second, .unset, .unset, .unset, .unset, .unset, .unset, .unset] [(.long (1 : Int64)), (.long (m0.toInt64))])
    refine Go.on (fun _ k => XS.lsub X3.here hx rfl (hb hby at_43) rfl k) ?_
    show Go _ _ _ _ _ _ _ _ (mkF m 44 #[.val (.int i0), .val (.int i1), .val (.int m0), .val (.double r), .second, .unset, .unset, .unset, .unset, .unset, .unset, .unset] [(.long ((m0.toInt64) - (1 : Int64)))])
    refine Go.on (fun _ k => XS.lstore X3.here hx rfl (hb hby at_44) rfl (l' := #[.val (.int i0), .val (.int i1), .val (.int m0), .val (.double r), .second, .val (.long ((m0.toInt64) - (1 : Int64))), .second, .unset, .unset, .unset, .unset, .unset]) rfl k) ?_
    show Go _ _ _ _ _ _ _ _ (mkF m 46 #[.val (.int i0), .val (.int i1), .val (.int m0), .val (.double r), .second, .val (.long ((m0.toInt64) - (1 : Int64))), .second, .unset, .unset, .unset, .unset, .unset] [])
    generalize ho : ((m0.toInt64) - (1 : Int64)) = o
    show Go _ _ _ _ _ _ _ _ (mkF m 46 #[.val (.int i0), .val (.int i1), .val (.int m0), .val (.double r), .second, .val (.long o), .second, .unset, .unset, .unset, .unset, .unset] [])
    refine Go.on (fun _ k => XS.lload X3.here hx rfl (hb hby at_46) rfl k) ?_
    show Go _ _ _ _ _ _ _ _ (mkF m 48 #[.val (.int i0), .val (.int i1), .val (.int m0), .val (.double r), .second, .val (.long o), .second, .unset, .unset, .unset, .unset, .unset] [(.long o)])
    refine Go.on (fun _ k => X3.ldc2J hx hown (mvT hZ (hw _ (List.mem_of_getElem? (i := 9) rfl))) rfl (hb hby at_48) k) ?_
    show Go _ _ _ _ _ _ _ _ (mkF m 51 #[.val (.int i0), .val (.int i1), .val (.int m0), .val (.double r), .second, .val (.long o), .second, .unset, .unset, .unset, .unset, .unset] [(.long (200 : Int64)), (.long o)])
    refine Go.on (fun _ k => XS.lcmp X3.here hx rfl (hb hby at_51) rfl k) ?_
    show Go _ _ _ _ _ _ _ _ (mkF m 52 #[.val (.int i0), .val (.int i1), .val (.int m0), .val (.double r), .second, .val (.long o), .second, .unset, .unset, .unset, .unset, .unset] [(.int (lcmpW o (200 : Int64)))])
    suffices hJ5 : ∀ (kk : Int64), kk = (if o < (200 : Int64) then ((100 : Int64) - (((199 : Int64) + o) / ((2 : Int64) * o))) else (100 : Int64)) → Go p e below s K1 K2 QQ T3 (mkF m 82 #[.val (.int i0), .val (.int i1), .val (.int m0), .val (.double r), .second, .val (.long o), .second, .val (.long kk), .second, .unset, .unset, .unset] []) by
      by_cases hc6 : o < (200 : Int64)
      · -- pc 52 yes
        refine Go.on (fun _ k => XS.ifYes X3.here hx rfl (pc0 := 52) (pc' := 63) rfl (hb hby at_52) rfl ((if0 _ _).trans (tlt (own_lc_lt.mpr hc6)).1) (by decide) (by decide) k) ?_
        show Go _ _ _ _ _ _ _ _ (mkF m 63 #[.val (.int i0), .val (.int i1), .val (.int m0), .val (.double r), .second, .val (.long o), .second, .unset, .unset, .unset, .unset, .unset] [])
        refine Go.on (fun _ k => X3.ldc2J hx hown (mvT hZ (hw _ (List.mem_of_getElem? (i := 10) rfl))) rfl (hb hby at_63) k) ?_
        show Go _ _ _ _ _ _ _ _ (mkF m 66 #[.val (.int i0), .val (.int i1), .val (.int m0), .val (.double r), .second, .val (.long o), .second, .unset, .unset, .unset, .unset, .unset] [(.long (100 : Int64))])
        refine Go.on (fun _ k => X3.ldc2J hx hown (mvT hZ (hw _ (List.mem_of_getElem? (i := 11) rfl))) rfl (hb hby at_66) k) ?_
        show Go _ _ _ _ _ _ _ _ (mkF m 69 #[.val (.int i0), .val (.int i1), .val (.int m0), .val (.double r), .second, .val (.long o), .second, .unset, .unset, .unset, .unset, .unset] [(.long (199 : Int64)), (.long (100 : Int64))])
        refine Go.on (fun _ k => XS.lload X3.here hx rfl (hb hby at_69) rfl k) ?_
        show Go _ _ _ _ _ _ _ _ (mkF m 71 #[.val (.int i0), .val (.int i1), .val (.int m0), .val (.double r), .second, .val (.long o), .second, .unset, .unset, .unset, .unset, .unset] [(.long o), (.long (199 : Int64)), (.long (100 : Int64))])
        refine Go.on (fun _ k => XS.ladd X3.here hx rfl (hb hby at_71) rfl k) ?_
        show Go _ _ _ _ _ _ _ _ (mkF m 72 #[.val (.int i0), .val (.int i1), .val (.int m0), .val (.double r), .second, .val (.long o), .second, .unset, .unset, .unset, .unset, .unset] [(.long ((199 : Int64) + o)), (.long (100 : Int64))])
        refine Go.on (fun _ k => X3.ldc2J hx hown (mvT hZ (hw _ (List.mem_of_getElem? (i := 12) rfl))) rfl (hb hby at_72) k) ?_
        show Go _ _ _ _ _ _ _ _ (mkF m 75 #[.val (.int i0), .val (.int i1), .val (.int m0), .val (.double r), .second, .val (.long o), .second, .unset, .unset, .unset, .unset, .unset] [(.long (2 : Int64)), (.long ((199 : Int64) + o)), (.long (100 : Int64))])
        refine Go.on (fun _ k => XS.lload X3.here hx rfl (hb hby at_75) rfl k) ?_
        show Go _ _ _ _ _ _ _ _ (mkF m 77 #[.val (.int i0), .val (.int i1), .val (.int m0), .val (.double r), .second, .val (.long o), .second, .unset, .unset, .unset, .unset, .unset] [(.long o), (.long (2 : Int64)), (.long ((199 : Int64) + o)), (.long (100 : Int64))])
        refine Go.on (fun _ k => XS.lmul X3.here hx rfl (hb hby at_77) rfl k) ?_
        show Go _ _ _ _ _ _ _ _ (mkF m 78 #[.val (.int i0), .val (.int i1), .val (.int m0), .val (.double r), .second, .val (.long o), .second, .unset, .unset, .unset, .unset, .unset] [(.long ((2 : Int64) * o)), (.long ((199 : Int64) + o)), (.long (100 : Int64))])
        refine Go.on (fun _ k => XS.ldiv X3.here hx rfl (hb hby at_78) rfl (own_nz2 hc4 ho) k) ?_
        show Go _ _ _ _ _ _ _ _ (mkF m 79 #[.val (.int i0), .val (.int i1), .val (.int m0), .val (.double r), .second, .val (.long o), .second, .unset, .unset, .unset, .unset, .unset] [(.long (((199 : Int64) + o) / ((2 : Int64) * o))), (.long (100 : Int64))])
        refine Go.on (fun _ k => XS.lsub X3.here hx rfl (hb hby at_79) rfl k) ?_
        show Go _ _ _ _ _ _ _ _ (mkF m 80 #[.val (.int i0), .val (.int i1), .val (.int m0), .val (.double r), .second, .val (.long o), .second, .unset, .unset, .unset, .unset, .unset] [(.long ((100 : Int64) - (((199 : Int64) + o) / ((2 : Int64) * o))))])
        refine Go.on (fun _ k => XS.lstore X3.here hx rfl (hb hby at_80) rfl (l' := #[.val (.int i0), .val (.int i1), .val (.int m0), .val (.double r), .second, .val (.long o), .second, .val (.long ((100 : Int64) - (((199 : Int64) + o) / ((2 : Int64) * o)))), .second, .unset, .unset, .unset]) rfl k) ?_
        show Go _ _ _ _ _ _ _ _ (mkF m 82 #[.val (.int i0), .val (.int i1), .val (.int m0), .val (.double r), .second, .val (.long o), .second, .val (.long ((100 : Int64) - (((199 : Int64) + o) / ((2 : Int64) * o)))), .second, .unset, .unset, .unset] [])
        exact hJ5 _ (by rw [if_pos hc6])
      · -- pc 52 no
        refine Go.on (fun _ k => XS.ifNo X3.here hx rfl (hb hby at_52) rfl ((if0 _ _).trans (flt (fun q => hc6 (own_lc_lt.mp q))).1) k) ?_
        show Go _ _ _ _ _ _ _ _ (mkF m 55 #[.val (.int i0), .val (.int i1), .val (.int m0), .val (.double r), .second, .val (.long o), .second, .unset, .unset, .unset, .unset, .unset] [])
        refine Go.on (fun _ k => X3.ldc2J hx hown (mvT hZ (hw _ (List.mem_of_getElem? (i := 10) rfl))) rfl (hb hby at_55) k) ?_
        show Go _ _ _ _ _ _ _ _ (mkF m 58 #[.val (.int i0), .val (.int i1), .val (.int m0), .val (.double r), .second, .val (.long o), .second, .unset, .unset, .unset, .unset, .unset] [(.long (100 : Int64))])
        refine Go.on (fun _ k => XS.lstore X3.here hx rfl (hb hby at_58) rfl (l' := #[.val (.int i0), .val (.int i1), .val (.int m0), .val (.double r), .second, .val (.long o), .second, .val (.long (100 : Int64)), .second, .unset, .unset, .unset]) rfl k) ?_
        show Go _ _ _ _ _ _ _ _ (mkF m 60 #[.val (.int i0), .val (.int i1), .val (.int m0), .val (.double r), .second, .val (.long o), .second, .val (.long (100 : Int64)), .second, .unset, .unset, .unset] [])
        refine Go.on (fun _ k => XS.goto X3.here hx rfl (pc0 := 60) (pc' := 82) rfl (hb hby at_60) (by decide) (by decide) k) ?_
        show Go _ _ _ _ _ _ _ _ (mkF m 82 #[.val (.int i0), .val (.int i1), .val (.int m0), .val (.double r), .second, .val (.long o), .second, .val (.long (100 : Int64)), .second, .unset, .unset, .unset] [])
        exact hJ5 _ (by rw [if_neg hc6])
    intro kk hkk
    refine Go.on (fun _ k => X3.ldc2J hx hown (mvT hZ (hw _ (List.mem_of_getElem? (i := 9) rfl))) rfl (hb hby at_82) k) ?_
    show Go _ _ _ _ _ _ _ _ (mkF m 85 #[.val (.int i0), .val (.int i1), .val (.int m0), .val (.double r), .second, .val (.long o), .second, .val (.long kk), .second, .unset, .unset, .unset] [(.long (200 : Int64))])
    refine Go.on (fun _ k => XS.lload X3.here hx rfl (hb hby at_85) rfl k) ?_
    show Go _ _ _ _ _ _ _ _ (mkF m 87 #[.val (.int i0), .val (.int i1), .val (.int m0), .val (.double r), .second, .val (.long o), .second, .val (.long kk), .second, .unset, .unset, .unset] [(.long o), (.long (200 : Int64))])
    refine Go.on (fun _ k => XS.lconst X3.here hx rfl (hb hby at_87) k) ?_
    show Go _ _ _ _ _ _ _ _ (mkF m 88 #[.val (.int i0), .val (.int i1), .val (.int m0), .val (.double r), .second, .val (.long o), .second, .val (.long kk), .second, .unset, .unset, .unset] [(.long (1 : Int64)), (.long o), (.long (200 : Int64))])
    refine Go.on (fun _ k => XS.lsub X3.here hx rfl (hb hby at_88) rfl k) ?_
    show Go _ _ _ _ _ _ _ _ (mkF m 89 #[.val (.int i0), .val (.int i1), .val (.int m0), .val (.double r), .second, .val (.long o), .second, .val (.long kk), .second, .unset, .unset, .unset] [(.long (o - (1 : Int64))), (.long (200 : Int64))])
    refine Go.on (fun _ k => XS.lmul X3.here hx rfl (hb hby at_89) rfl k) ?_
    show Go _ _ _ _ _ _ _ _ (mkF m 90 #[.val (.int i0), .val (.int i1), .val (.int m0), .val (.double r), .second, .val (.long o), .second, .val (.long kk), .second, .unset, .unset, .unset] [(.long ((200 : Int64) * (o - (1 : Int64))))])
    refine Go.on (fun _ k => XS.lstore X3.here hx rfl (hb hby at_90) rfl (l' := #[.val (.int i0), .val (.int i1), .val (.int m0), .val (.double r), .second, .val (.long o), .second, .val (.long kk), .second, .val (.long ((200 : Int64) * (o - (1 : Int64)))), .second, .unset]) rfl k) ?_
    show Go _ _ _ _ _ _ _ _ (mkF m 92 #[.val (.int i0), .val (.int i1), .val (.int m0), .val (.double r), .second, .val (.long o), .second, .val (.long kk), .second, .val (.long ((200 : Int64) * (o - (1 : Int64)))), .second, .unset] [])
    generalize htg : ((200 : Int64) * (o - (1 : Int64))) = tg
    show Go _ _ _ _ _ _ _ _ (mkF m 92 #[.val (.int i0), .val (.int i1), .val (.int m0), .val (.double r), .second, .val (.long o), .second, .val (.long kk), .second, .val (.long tg), .second, .unset] [])
    refine Go.on (fun _ k => X3.ldc2J hx hown (mvT hZ (hw _ (List.mem_of_getElem? (i := 12) rfl))) rfl (hb hby at_92) k) ?_
    show Go _ _ _ _ _ _ _ _ (mkF m 95 #[.val (.int i0), .val (.int i1), .val (.int m0), .val (.double r), .second, .val (.long o), .second, .val (.long kk), .second, .val (.long tg), .second, .unset] [(.long (2 : Int64))])
    refine Go.on (fun _ k => XS.lload X3.here hx rfl (hb hby at_95) rfl k) ?_
    show Go _ _ _ _ _ _ _ _ (mkF m 97 #[.val (.int i0), .val (.int i1), .val (.int m0), .val (.double r), .second, .val (.long o), .second, .val (.long kk), .second, .val (.long tg), .second, .unset] [(.long kk), (.long (2 : Int64))])
    refine Go.on (fun _ k => XS.lmul X3.here hx rfl (hb hby at_97) rfl k) ?_
    show Go _ _ _ _ _ _ _ _ (mkF m 98 #[.val (.int i0), .val (.int i1), .val (.int m0), .val (.double r), .second, .val (.long o), .second, .val (.long kk), .second, .val (.long tg), .second, .unset] [(.long ((2 : Int64) * kk))])
    refine Go.on (fun _ k => XS.lload X3.here hx rfl (hb hby at_98) rfl k) ?_
    show Go _ _ _ _ _ _ _ _ (mkF m 100 #[.val (.int i0), .val (.int i1), .val (.int m0), .val (.double r), .second, .val (.long o), .second, .val (.long kk), .second, .val (.long tg), .second, .unset] [(.long o), (.long ((2 : Int64) * kk))])
    refine Go.on (fun _ k => XS.lmul X3.here hx rfl (hb hby at_100) rfl k) ?_
    show Go _ _ _ _ _ _ _ _ (mkF m 101 #[.val (.int i0), .val (.int i1), .val (.int m0), .val (.double r), .second, .val (.long o), .second, .val (.long kk), .second, .val (.long tg), .second, .unset] [(.long (((2 : Int64) * kk) * o))])
    refine Go.on (fun _ k => XS.lload X3.here hx rfl (hb hby at_101) rfl k) ?_
    show Go _ _ _ _ _ _ _ _ (mkF m 103 #[.val (.int i0), .val (.int i1), .val (.int m0), .val (.double r), .second, .val (.long o), .second, .val (.long kk), .second, .val (.long tg), .second, .unset] [(.long o), (.long (((2 : Int64) * kk) * o))])
    refine Go.on (fun _ k => XS.lsub X3.here hx rfl (hb hby at_103) rfl k) ?_
    show Go _ _ _ _ _ _ _ _ (mkF m 104 #[.val (.int i0), .val (.int i1), .val (.int m0), .val (.double r), .second, .val (.long o), .second, .val (.long kk), .second, .val (.long tg), .second, .unset] [(.long ((((2 : Int64) * kk) * o) - o))])
    refine Go.on (fun _ k => XS.lload X3.here hx rfl (hb hby at_104) rfl k) ?_
    show Go _ _ _ _ _ _ _ _ (mkF m 106 #[.val (.int i0), .val (.int i1), .val (.int m0), .val (.double r), .second, .val (.long o), .second, .val (.long kk), .second, .val (.long tg), .second, .unset] [(.long tg), (.long ((((2 : Int64) * kk) * o) - o))])
    refine Go.on (fun _ k => XS.lcmp X3.here hx rfl (hb hby at_106) rfl k) ?_
    show Go _ _ _ _ _ _ _ _ (mkF m 107 #[.val (.int i0), .val (.int i1), .val (.int m0), .val (.double r), .second, .val (.long o), .second, .val (.long kk), .second, .val (.long tg), .second, .unset] [(.int (lcmpW ((((2 : Int64) * kk) * o) - o) tg))])
    suffices hJ7 : ∀ (rounds : Int32), rounds = (if tg < ((((2 : Int64) * kk) * o) - o) then (0 : Int32) else (if tg < ((((2 : Int64) * kk) * o) + o) then (1 : Int32) else (0 : Int32))) → Go p e below s K1 K2 QQ T3 (mkF m 133 #[.val (.int i0), .val (.int i1), .val (.int m0), .val (.double r), .second, .val (.long o), .second, .val (.long kk), .second, .val (.long tg), .second, .unset] [(.int rounds)]) by
      by_cases hc8 : tg < ((((2 : Int64) * kk) * o) - o)
      · -- pc 107 yes
        refine Go.on (fun _ k => XS.ifYes X3.here hx rfl (pc0 := 107) (pc' := 132) rfl (hb hby at_107) rfl ((if0 _ _).trans (tlt (own_lc_gt.mpr hc8)).2.2.1) (by decide) (by decide) k) ?_
        show Go _ _ _ _ _ _ _ _ (mkF m 132 #[.val (.int i0), .val (.int i1), .val (.int m0), .val (.double r), .second, .val (.long o), .second, .val (.long kk), .second, .val (.long tg), .second, .unset] [])
        refine Go.on (fun _ k => XS.iconst X3.here hx rfl (hb hby at_132) k) ?_
        show Go _ _ _ _ _ _ _ _ (mkF m 133 #[.val (.int i0), .val (.int i1), .val (.int m0), .val (.double r), .second, .val (.long o), .second, .val (.long kk), .second, .val (.long tg), .second, .unset] [(.int (0 : Int32))])
        exact hJ7 _ (by rw [if_pos hc8])
      · -- pc 107 no
        refine Go.on (fun _ k => XS.ifNo X3.here hx rfl (hb hby at_107) rfl ((if0 _ _).trans (flt (fun q => hc8 (own_lc_gt.mp q))).2.2.1) k) ?_
        show Go _ _ _ _ _ _ _ _ (mkF m 110 #[.val (.int i0), .val (.int i1), .val (.int m0), .val (.double r), .second, .val (.long o), .second, .val (.long kk), .second, .val (.long tg), .second, .unset] [])
        refine Go.on (fun _ k => XS.lload X3.here hx rfl (hb hby at_110) rfl k) ?_
        show Go _ _ _ _ _ _ _ _ (mkF m 112 #[.val (.int i0), .val (.int i1), .val (.int m0), .val (.double r), .second, .val (.long o), .second, .val (.long kk), .second, .val (.long tg), .second, .unset] [(.long tg)])
        refine Go.on (fun _ k => X3.ldc2J hx hown (mvT hZ (hw _ (List.mem_of_getElem? (i := 12) rfl))) rfl (hb hby at_112) k) ?_
        show Go _ _ _ _ _ _ _ _ (mkF m 115 #[.val (.int i0), .val (.int i1), .val (.int m0), .val (.double r), .second, .val (.long o), .second, .val (.long kk), .second, .val (.long tg), .second, .unset] [(.long (2 : Int64)), (.long tg)])
        refine Go.on (fun _ k => XS.lload X3.here hx rfl (hb hby at_115) rfl k) ?_
        show Go _ _ _ _ _ _ _ _ (mkF m 117 #[.val (.int i0), .val (.int i1), .val (.int m0), .val (.double r), .second, .val (.long o), .second, .val (.long kk), .second, .val (.long tg), .second, .unset] [(.long kk), (.long (2 : Int64)), (.long tg)])
        refine Go.on (fun _ k => XS.lmul X3.here hx rfl (hb hby at_117) rfl k) ?_
        show Go _ _ _ _ _ _ _ _ (mkF m 118 #[.val (.int i0), .val (.int i1), .val (.int m0), .val (.double r), .second, .val (.long o), .second, .val (.long kk), .second, .val (.long tg), .second, .unset] [(.long ((2 : Int64) * kk)), (.long tg)])
        refine Go.on (fun _ k => XS.lload X3.here hx rfl (hb hby at_118) rfl k) ?_
        show Go _ _ _ _ _ _ _ _ (mkF m 120 #[.val (.int i0), .val (.int i1), .val (.int m0), .val (.double r), .second, .val (.long o), .second, .val (.long kk), .second, .val (.long tg), .second, .unset] [(.long o), (.long ((2 : Int64) * kk)), (.long tg)])
        refine Go.on (fun _ k => XS.lmul X3.here hx rfl (hb hby at_120) rfl k) ?_
        show Go _ _ _ _ _ _ _ _ (mkF m 121 #[.val (.int i0), .val (.int i1), .val (.int m0), .val (.double r), .second, .val (.long o), .second, .val (.long kk), .second, .val (.long tg), .second, .unset] [(.long (((2 : Int64) * kk) * o)), (.long tg)])
        refine Go.on (fun _ k => XS.lload X3.here hx rfl (hb hby at_121) rfl k) ?_
        show Go _ _ _ _ _ _ _ _ (mkF m 123 #[.val (.int i0), .val (.int i1), .val (.int m0), .val (.double r), .second, .val (.long o), .second, .val (.long kk), .second, .val (.long tg), .second, .unset] [(.long o), (.long (((2 : Int64) * kk) * o)), (.long tg)])
        refine Go.on (fun _ k => XS.ladd X3.here hx rfl (hb hby at_123) rfl k) ?_
        show Go _ _ _ _ _ _ _ _ (mkF m 124 #[.val (.int i0), .val (.int i1), .val (.int m0), .val (.double r), .second, .val (.long o), .second, .val (.long kk), .second, .val (.long tg), .second, .unset] [(.long ((((2 : Int64) * kk) * o) + o)), (.long tg)])
        refine Go.on (fun _ k => XS.lcmp X3.here hx rfl (hb hby at_124) rfl k) ?_
        show Go _ _ _ _ _ _ _ _ (mkF m 125 #[.val (.int i0), .val (.int i1), .val (.int m0), .val (.double r), .second, .val (.long o), .second, .val (.long kk), .second, .val (.long tg), .second, .unset] [(.int (lcmpW tg ((((2 : Int64) * kk) * o) + o)))])
        by_cases hc9 : tg < ((((2 : Int64) * kk) * o) + o)
        · -- pc 125 yes
          refine Go.on (fun _ k => XS.ifNo X3.here hx rfl (hb hby at_125) rfl ((if0 _ _).trans (tlt (own_lc_lt.mpr hc9)).2.1) k) ?_
          show Go _ _ _ _ _ _ _ _ (mkF m 128 #[.val (.int i0), .val (.int i1), .val (.int m0), .val (.double r), .second, .val (.long o), .second, .val (.long kk), .second, .val (.long tg), .second, .unset] [])
          refine Go.on (fun _ k => XS.iconst X3.here hx rfl (hb hby at_128) k) ?_
          show Go _ _ _ _ _ _ _ _ (mkF m 129 #[.val (.int i0), .val (.int i1), .val (.int m0), .val (.double r), .second, .val (.long o), .second, .val (.long kk), .second, .val (.long tg), .second, .unset] [(.int (1 : Int32))])
          refine Go.on (fun _ k => XS.goto X3.here hx rfl (pc0 := 129) (pc' := 133) rfl (hb hby at_129) (by decide) (by decide) k) ?_
          show Go _ _ _ _ _ _ _ _ (mkF m 133 #[.val (.int i0), .val (.int i1), .val (.int m0), .val (.double r), .second, .val (.long o), .second, .val (.long kk), .second, .val (.long tg), .second, .unset] [(.int (1 : Int32))])
          exact hJ7 _ (by rw [if_neg hc8, if_pos hc9])
        · -- pc 125 no
          refine Go.on (fun _ k => XS.ifYes X3.here hx rfl (pc0 := 125) (pc' := 132) rfl (hb hby at_125) rfl ((if0 _ _).trans (flt (fun q => hc9 (own_lc_lt.mp q))).2.1) (by decide) (by decide) k) ?_
          show Go _ _ _ _ _ _ _ _ (mkF m 132 #[.val (.int i0), .val (.int i1), .val (.int m0), .val (.double r), .second, .val (.long o), .second, .val (.long kk), .second, .val (.long tg), .second, .unset] [])
          refine Go.on (fun _ k => XS.iconst X3.here hx rfl (hb hby at_132) k) ?_
          show Go _ _ _ _ _ _ _ _ (mkF m 133 #[.val (.int i0), .val (.int i1), .val (.int m0), .val (.double r), .second, .val (.long o), .second, .val (.long kk), .second, .val (.long tg), .second, .unset] [(.int (0 : Int32))])
          exact hJ7 _ (by rw [if_neg hc8, if_neg hc9])
    intro rounds hrounds
    refine Go.on (fun _ k => XS.istore X3.here hx rfl (hb hby at_133) rfl (l' := #[.val (.int i0), .val (.int i1), .val (.int m0), .val (.double r), .second, .val (.long o), .second, .val (.long kk), .second, .val (.long tg), .second, .val (.int rounds)]) rfl k) ?_
    show Go _ _ _ _ _ _ _ _ (mkF m 135 #[.val (.int i0), .val (.int i1), .val (.int m0), .val (.double r), .second, .val (.long o), .second, .val (.long kk), .second, .val (.long tg), .second, .val (.int rounds)] [])
    refine Go.on (fun _ k => XS.iload X3.here hx rfl (hb hby at_135) rfl k) ?_
    show Go _ _ _ _ _ _ _ _ (mkF m 137 #[.val (.int i0), .val (.int i1), .val (.int m0), .val (.double r), .second, .val (.long o), .second, .val (.long kk), .second, .val (.long tg), .second, .val (.int rounds)] [(.int rounds)])
    suffices hJ11 : ∀ (v10 : Int32), v10 = (if rounds = (0 : Int32) then (0 : Int32) else (if (cmpValue (FP.dcmp r (FP.ddiv (FP.l2d (kk + (1 : Int64))) (4636737291354636288 : UInt64))) .l) = (0 : Int32) then (1 : Int32) else (0 : Int32))) → Go p e below s K1 K2 QQ T3 (mkF m 159 #[.val (.int i0), .val (.int i1), .val (.int m0), .val (.double r), .second, .val (.long o), .second, .val (.long kk), .second, .val (.long tg), .second, .val (.int rounds)] [(.int v10)]) by
      by_cases hc12 : rounds = (0 : Int32)
      · -- pc 137 yes
        refine Go.on (fun _ k => XS.ifYes X3.here hx rfl (pc0 := 137) (pc' := 158) rfl (hb hby at_137) rfl ((if0 _ _).trans (teq hc12).1) (by decide) (by decide) k) ?_
        show Go _ _ _ _ _ _ _ _ (mkF m 158 #[.val (.int i0), .val (.int i1), .val (.int m0), .val (.double r), .second, .val (.long o), .second, .val (.long kk), .second, .val (.long tg), .second, .val (.int rounds)] [])
        refine Go.on (fun _ k => XS.iconst X3.here hx rfl (hb hby at_158) k) ?_
        show Go _ _ _ _ _ _ _ _ (mkF m 159 #[.val (.int i0), .val (.int i1), .val (.int m0), .val (.double r), .second, .val (.long o), .second, .val (.long kk), .second, .val (.long tg), .second, .val (.int rounds)] [(.int (0 : Int32))])
        exact hJ11 _ (by rw [if_pos hc12])
      · -- pc 137 no
        refine Go.on (fun _ k => XS.ifNo X3.here hx rfl (hb hby at_137) rfl ((if0 _ _).trans (feq hc12).1) k) ?_
        show Go _ _ _ _ _ _ _ _ (mkF m 140 #[.val (.int i0), .val (.int i1), .val (.int m0), .val (.double r), .second, .val (.long o), .second, .val (.long kk), .second, .val (.long tg), .second, .val (.int rounds)] [])
        refine Go.on (fun _ k => XS.dloadN X3.here hx rfl (hb hby at_140) rfl k) ?_
        show Go _ _ _ _ _ _ _ _ (mkF m 141 #[.val (.int i0), .val (.int i1), .val (.int m0), .val (.double r), .second, .val (.long o), .second, .val (.long kk), .second, .val (.long tg), .second, .val (.int rounds)] [(.double r)])
        refine Go.on (fun _ k => XS.lload X3.here hx rfl (hb hby at_141) rfl k) ?_
        show Go _ _ _ _ _ _ _ _ (mkF m 143 #[.val (.int i0), .val (.int i1), .val (.int m0), .val (.double r), .second, .val (.long o), .second, .val (.long kk), .second, .val (.long tg), .second, .val (.int rounds)] [(.long kk), (.double r)])
        refine Go.on (fun _ k => XS.lconst X3.here hx rfl (hb hby at_143) k) ?_
        show Go _ _ _ _ _ _ _ _ (mkF m 144 #[.val (.int i0), .val (.int i1), .val (.int m0), .val (.double r), .second, .val (.long o), .second, .val (.long kk), .second, .val (.long tg), .second, .val (.int rounds)] [(.long (1 : Int64)), (.long kk), (.double r)])
        refine Go.on (fun _ k => XS.ladd X3.here hx rfl (hb hby at_144) rfl k) ?_
        show Go _ _ _ _ _ _ _ _ (mkF m 145 #[.val (.int i0), .val (.int i1), .val (.int m0), .val (.double r), .second, .val (.long o), .second, .val (.long kk), .second, .val (.long tg), .second, .val (.int rounds)] [(.long (kk + (1 : Int64))), (.double r)])
        refine Go.on (fun _ k => XS.l2dS X3.here hx rfl (hb hby at_145) rfl rfl k) ?_
        show Go _ _ _ _ _ _ _ _ (mkF m 146 #[.val (.int i0), .val (.int i1), .val (.int m0), .val (.double r), .second, .val (.long o), .second, .val (.long kk), .second, .val (.long tg), .second, .val (.int rounds)] [(.double (FP.l2d (kk + (1 : Int64)))), (.double r)])
        refine Go.on (X3.ldc2DoubleC hx hown (mvT hZ (hw _ (List.mem_of_getElem? (i := 13) rfl))) (g := (mkF m 146 #[.val (.int i0), .val (.int i1), .val (.int m0), .val (.double r), .second, .val (.long o), .second, .val (.long kk), .second, .val (.long tg), .second, .val (.int rounds)] [(.double (FP.l2d (kk + (1 : Int64)))), (.double r)])) rfl (hb hby at_146)) ?_
        show Go _ _ _ _ _ _ _ _ (mkF m 149 #[.val (.int i0), .val (.int i1), .val (.int m0), .val (.double r), .second, .val (.long o), .second, .val (.long kk), .second, .val (.long tg), .second, .val (.int rounds)] [(.double (4636737291354636288 : UInt64)), (.double (FP.l2d (kk + (1 : Int64)))), (.double r)])
        refine Go.on (fun _ k => XS.ddivS X3.here hx rfl (hb hby at_149) rfl (own_nn100 _) rfl k) ?_
        show Go _ _ _ _ _ _ _ _ (mkF m 150 #[.val (.int i0), .val (.int i1), .val (.int m0), .val (.double r), .second, .val (.long o), .second, .val (.long kk), .second, .val (.long tg), .second, .val (.int rounds)] [(.double (FP.ddiv (FP.l2d (kk + (1 : Int64))) (4636737291354636288 : UInt64))), (.double r)])
        refine Go.on (fun _ k => XS.dcmpS X3.here hx rfl (hb hby at_150) rfl rfl k) ?_
        show Go _ _ _ _ _ _ _ _ (mkF m 151 #[.val (.int i0), .val (.int i1), .val (.int m0), .val (.double r), .second, .val (.long o), .second, .val (.long kk), .second, .val (.long tg), .second, .val (.int rounds)] [(.int (cmpValue (FP.dcmp r (FP.ddiv (FP.l2d (kk + (1 : Int64))) (4636737291354636288 : UInt64))) .l))])
        by_cases hc13 : (cmpValue (FP.dcmp r (FP.ddiv (FP.l2d (kk + (1 : Int64))) (4636737291354636288 : UInt64))) .l) = (0 : Int32)
        · -- pc 151 yes
          refine Go.on (fun _ k => XS.ifNo X3.here hx rfl (hb hby at_151) rfl ((if0 _ _).trans (teq hc13).2) k) ?_
          show Go _ _ _ _ _ _ _ _ (mkF m 154 #[.val (.int i0), .val (.int i1), .val (.int m0), .val (.double r), .second, .val (.long o), .second, .val (.long kk), .second, .val (.long tg), .second, .val (.int rounds)] [])
          refine Go.on (fun _ k => XS.iconst X3.here hx rfl (hb hby at_154) k) ?_
          show Go _ _ _ _ _ _ _ _ (mkF m 155 #[.val (.int i0), .val (.int i1), .val (.int m0), .val (.double r), .second, .val (.long o), .second, .val (.long kk), .second, .val (.long tg), .second, .val (.int rounds)] [(.int (1 : Int32))])
          refine Go.on (fun _ k => XS.goto X3.here hx rfl (pc0 := 155) (pc' := 159) rfl (hb hby at_155) (by decide) (by decide) k) ?_
          show Go _ _ _ _ _ _ _ _ (mkF m 159 #[.val (.int i0), .val (.int i1), .val (.int m0), .val (.double r), .second, .val (.long o), .second, .val (.long kk), .second, .val (.long tg), .second, .val (.int rounds)] [(.int (1 : Int32))])
          exact hJ11 _ (by rw [if_neg hc12, if_pos hc13])
        · -- pc 151 no
          refine Go.on (fun _ k => XS.ifYes X3.here hx rfl (pc0 := 151) (pc' := 158) rfl (hb hby at_151) rfl ((if0 _ _).trans (feq hc13).2) (by decide) (by decide) k) ?_
          show Go _ _ _ _ _ _ _ _ (mkF m 158 #[.val (.int i0), .val (.int i1), .val (.int m0), .val (.double r), .second, .val (.long o), .second, .val (.long kk), .second, .val (.long tg), .second, .val (.int rounds)] [])
          refine Go.on (fun _ k => XS.iconst X3.here hx rfl (hb hby at_158) k) ?_
          show Go _ _ _ _ _ _ _ _ (mkF m 159 #[.val (.int i0), .val (.int i1), .val (.int m0), .val (.double r), .second, .val (.long o), .second, .val (.long kk), .second, .val (.long tg), .second, .val (.int rounds)] [(.int (0 : Int32))])
          exact hJ11 _ (by rw [if_neg hc12, if_neg hc13])
    intro v10 hv10
    refine Go.retN X3 hx (t := .boolean) Bd.returns (by simp) (hb hby at_159) ?_ (by rw [hK1]; decide) (by rw [hK2]; decide)
    rw [e3, ← hQQ]
    have hres : v10 = 1 := own_pure hc4 ho hkk htg hrounds hr hv10
    rw [hres]
    exact ⟨rfl, N3⟩
  · -- pc 23 no
    refine Go.on (fun _ k => XS.icmpNo X3.here hx rfl (hb hby at_23) rfl (flt hc4).2.2.1 k) ?_
    show Go _ _ _ _ _ _ _ _ (mkF m 26 #[.val (.int i0), .val (.int i1), .val (.int m0), .val (.double r), .second, .unset, .unset, .unset, .unset, .unset, .unset, .unset] [])
    refine Go.on (fun _ k => XS.dloadN X3.here hx rfl (hb hby at_26) rfl k) ?_
    show Go _ _ _ _ _ _ _ _ (mkF m 27 #[.val (.int i0), .val (.int i1), .val (.int m0), .val (.double r), .second, .unset, .unset, .unset, .unset, .unset, .unset, .unset] [(.double r)])
    refine Go.on (X3.ldc2DoubleC hx hown (mvT hZ (hw _ (List.mem_of_getElem? (i := 5) rfl))) (g := (mkF m 27 #[.val (.int i0), .val (.int i1), .val (.int m0), .val (.double r), .second, .unset, .unset, .unset, .unset, .unset, .unset, .unset] [(.double r)])) rfl (hb hby at_27)) ?_
    show Go _ _ _ _ _ _ _ _ (mkF m 30 #[.val (.int i0), .val (.int i1), .val (.int m0), .val (.double r), .second, .unset, .unset, .unset, .unset, .unset, .unset, .unset] [(.double (4602678819172646912 : UInt64)), (.double r)])
    refine Go.on (fun _ k => XS.dcmpS X3.here hx rfl (hb hby at_30) rfl rfl k) ?_
    show Go _ _ _ _ _ _ _ _ (mkF m 31 #[.val (.int i0), .val (.int i1), .val (.int m0), .val (.double r), .second, .unset, .unset, .unset, .unset, .unset, .unset, .unset] [(.int (cmpValue (FP.dcmp r (4602678819172646912 : UInt64)) .l))])
    suffices hJ15 : ∀ (v14 : Int32), v14 = (if (cmpValue (FP.dcmp r (4602678819172646912 : UInt64)) .l) = (0 : Int32) then (1 : Int32) else (0 : Int32)) → Go p e below s K1 K2 QQ T3 (mkF m 39 #[.val (.int i0), .val (.int i1), .val (.int m0), .val (.double r), .second, .unset, .unset, .unset, .unset, .unset, .unset, .unset] [(.int v14)]) by
      by_cases hc16 : (cmpValue (FP.dcmp r (4602678819172646912 : UInt64)) .l) = (0 : Int32)
      · -- pc 31 yes
        refine Go.on (fun _ k => XS.ifNo X3.here hx rfl (hb hby at_31) rfl ((if0 _ _).trans (teq hc16).2) k) ?_
        show Go _ _ _ _ _ _ _ _ (mkF m 34 #[.val (.int i0), .val (.int i1), .val (.int m0), .val (.double r), .second, .unset, .unset, .unset, .unset, .unset, .unset, .unset] [])
        refine Go.on (fun _ k => XS.iconst X3.here hx rfl (hb hby at_34) k) ?_
        show Go _ _ _ _ _ _ _ _ (mkF m 35 #[.val (.int i0), .val (.int i1), .val (.int m0), .val (.double r), .second, .unset, .unset, .unset, .unset, .unset, .unset, .unset] [(.int (1 : Int32))])
        refine Go.on (fun _ k => XS.goto X3.here hx rfl (pc0 := 35) (pc' := 39) rfl (hb hby at_35) (by decide) (by decide) k) ?_
        show Go _ _ _ _ _ _ _ _ (mkF m 39 #[.val (.int i0), .val (.int i1), .val (.int m0), .val (.double r), .second, .unset, .unset, .unset, .unset, .unset, .unset, .unset] [(.int (1 : Int32))])
        exact hJ15 _ (by rw [if_pos hc16])
      · -- pc 31 no
        refine Go.on (fun _ k => XS.ifYes X3.here hx rfl (pc0 := 31) (pc' := 38) rfl (hb hby at_31) rfl ((if0 _ _).trans (feq hc16).2) (by decide) (by decide) k) ?_
        show Go _ _ _ _ _ _ _ _ (mkF m 38 #[.val (.int i0), .val (.int i1), .val (.int m0), .val (.double r), .second, .unset, .unset, .unset, .unset, .unset, .unset, .unset] [])
        refine Go.on (fun _ k => XS.iconst X3.here hx rfl (hb hby at_38) k) ?_
        show Go _ _ _ _ _ _ _ _ (mkF m 39 #[.val (.int i0), .val (.int i1), .val (.int m0), .val (.double r), .second, .unset, .unset, .unset, .unset, .unset, .unset, .unset] [(.int (0 : Int32))])
        exact hJ15 _ (by rw [if_neg hc16])
    intro v14 hv14
    refine Go.retN X3 hx (t := .boolean) Bd.returns (by simp) (hb hby at_39) ?_ (by rw [hK1]; decide) (by rw [hK2]; decide)
    rw [e3, ← hQQ]
    have hres : v14 = 1 := own_pure0 hc4 hr hv14
    rw [hres]
    exact ⟨rfl, N3⟩
set_option maxRecDepth 65536 in
set_option maxHeartbeats 40000000 in
theorem comes_1 {Post : Tables → Env → Array Value → State → Outcome → State → Prop} (hpost : ∀ tb e args s v u, (limb_1_1.after args s (.returned v) u = true ∧ limb_1_2.after args s (.returned v) u = true ∧ True) → FrameEnd s (.returned v) u (Jvm.fieldLocs frame_1_writes args s ++ Jvm.arrayLocs frame_1_arrays args s ++ Jvm.staticLocs frame_1_statics s) 0 0 → Post tb e args s (.returned v) u) :
    ArmFor flags0 classFile x code maxLocals ret World_1 tables_1 room_1 Calls_1 rest_1 Pre_1 Post := by
  intro l hfl _ _ p e ha hc hk s m args below hf hA hF happ hP
  obtain ⟨hcalls, hrest, hpre⟩ := hP
  obtain ⟨-, -, -, hnamed, -, -, -, hat⟩ := (Spec.applies_iff hf).mp happ
  obtain ⟨hg, hn⟩ := and_e (Cond.before_iff.mp (show (Jvm.Cond.and given_1 narrow_1).before args s = true from hpre))
  obtain ⟨g0, r0⟩ := and_e hg
  obtain ⟨g1, g2⟩ := and_e r0
  obtain ⟨w0, w1, rfl⟩ : ∃ w0 w1 : Value, args = #[w0, w1] := by
    have hs : args.size = 2 := by simpa [Cond.value, given_1] using g0
    obtain ⟨L⟩ := args
    match L, hs with
    | [w0, w1], _ => exact ⟨w0, w1, rfl⟩
  have hw := fun d (hd : d ∈ tables_1) => atoms_spec (ws := Jvm.Cond.code x code maxLocals ret :: tables_1) hat d (List.mem_cons_of_mem _ hd)
  have hfit : Fit s := fun {y c} hc i hi => by
    obtain ⟨ha, rfl⟩ := Array.getElem?_eq_some_iff.mp hc
    have q := List.all_eq_true.mp ((Array.all_eq_true_iff_forall_mem.mp hF) _ (Array.getElem_mem ha)) i (List.mem_range.mpr hi)
    simpa [Array.getElem?_eq_getElem hi] using q
  obtain ⟨i0, ei0⟩ := is_v g1
  obtain rfl : w0 = (.int i0) := Option.some.inj ei0
  obtain ⟨i1, ei1⟩ := is_v g2
  obtain rfl : w1 = (.int i1) := Option.some.inj ei1
  obtain ⟨n, o, h1, h2, h3, _, L, rfl, ⟨rfl, N⟩, hq⟩ := rm0 l s _ hw tables_1 i0 i1 s.heap s.heap.size (Nat.le_refl _) p e ha hc hk s m _ below hf ((Spec.applies_iff_loose hf).mp happ).1 ⟨rfl, State.Warmed39.refl s, rfl⟩ trivial
  refine ⟨n, _, h1, h2, h3, hpost _ _ _ _ _ _ ⟨Cond.after_iff.mpr rfl, Cond.after_iff.mpr (eq_i res_at (Term.int_eval (1)) rfl), trivial⟩ ⟨hq.1, hq.2.1, (hq.2.2.sift fun y hy => Or.inr (N y hy)).mono (by decide) (by decide)⟩⟩
theorem main_1_1 : Claimed_1_1 := comes_1 fun _ _ _ _ _ _ h hF => ⟨h.1, hF⟩
theorem main_1_2 : Claimed_1_2 := comes_1 fun _ _ _ _ _ _ h hF => ⟨h.2.1, hF⟩
end Jvm.Pilot.@@N@@
namespace Jvm.Pilot.@@N@@
open Jvm Jvm.ClassFile Sem Op Lib Jvm.Free Jvm.Stand Jvm.Pilot.@@N@@.Jvm.D
/-! MADE BY PROGRAM (witnessworld.py) out of the Statement's table words and the real class files: 9 classes; the members and pool entries that the words name. The judged class is class 1, her method 1. -/
namespace start1
open Jvm.ClassFile
def u (s : String) : CpInfo := .utf8 (stringToUtf16 s)
/-- a pool by its gaps: so many unusable entries, then the entry; so many at the end -/
def gap : Nat → List CpInfo → List CpInfo
  | 0, r => r
  | n + 1, r => .unusable :: gap n r
def poolList (es : List (Nat × CpInfo)) (last : Nat) : List CpInfo := es.foldr (fun e r => gap e.1 (e.2 :: r)) (gap last [])
def pool (es : List (Nat × CpInfo)) (last : Nat) : Array CpInfo := ⟨poolList es last⟩
def fileOf (pool : Array CpInfo) (this : Nat) (attrs : Array Attribute := #[]) (ms : Array MethodInfo := #[]) (fl : Nat := 33) (sup : Nat := 0) (ifs : Array Nat := #[]) (fds : Array FieldInfo := #[]) : ClassFile where
  minorVersion := 0
  majorVersion := 65
  constantPool := pool
  accessFlags := fl
  thisClass := this
  superClass := sup
  interfaces := ifs
  fields := fds
  methods := ms
  attributes := attrs
def plain (name : String) (sup : Option ClassId) : Class where
  name := name
  kind := .ordinary
  loader := none
  accessFlags := 33
  super := sup
  interfaces := #[]
  cf := none
  fields := #[]
  methods := #[]
  instanceTypes := #[]
  staticTypes := #[]
  resolved := #[]
  callSites := []
  init := .initialized
  statics := none
  mirror := none

def pool0 : Array CpInfo := pool [(5, u "<init>"), (0, u "()V"), (1, .class_ 10), (1, u "java/lang/Object")] 113

def k0m0 : Method := { name := "<init>", desc := "()V", sig := { parameters := [], returnType := none }, accessFlags := 1, code := none }
/-- java/lang/Object -/
def k0 : Class := { plain "java/lang/Object" none with
  accessFlags := 33
  interfaces := #[]
  cf := some (fileOf pool0 8 #[] #[{ accessFlags := 1, nameIndex := 5, descriptorIndex := 6, attributes := #[] }] 33 0 #[] #[])
  fields := #[]
  methods := #[k0m0]
  instanceTypes := #[]
  staticTypes := #[]
  resolved := Array.replicate 124 none
  statics := none }

def pool1 : Array CpInfo := pool [(2, .class_ 4), (1, u "java/lang/Object"), (0, u "<init>"), (0, u "()V"), (0, .methodref 8 9), (0, .class_ 10), (0, .nameAndType 11 12), (0, u "com/example/d2rank/d2rank/eval/Alpha"), (0, u "safeThreshold"), (0, u "(I)D"), (0, .double 4602678819172646912), (1, .long 200), (1, .long 100), (1, .long 199), (1, .long 2), (1, .double 4636737291354636288), (1, .class_ 26), (0, u "com/example/d2rank/d2rank/eval/AlphaSafeThresholdPinLaw"), (2, u "law"), (0, u "(II)Z")] 3

def k1m0 : Method := { name := "<init>", desc := "()V", sig := { parameters := [], returnType := none }, accessFlags := 1, code := none }
def k1c1 : Code := { maxStack := 8, maxLocals := 12, code := code, exceptionTable := #[], attributes := #[] }
def k1m1 : Method := { name := "law", desc := "(II)Z", sig := { parameters := [.int, .int], returnType := some .boolean }, accessFlags := 9, code := some k1c1 }
/-- com/example/d2rank/d2rank/eval/AlphaSafeThresholdPinLaw -/
def k1 : Class := { plain "com/example/d2rank/d2rank/eval/AlphaSafeThresholdPinLaw" (some 0) with
  accessFlags := 49
  interfaces := #[]
  cf := some (fileOf pool1 25 #[] #[{ accessFlags := 1, nameIndex := 5, descriptorIndex := 6, attributes := #[] }, { accessFlags := 9, nameIndex := 29, descriptorIndex := 30, attributes := #[] }] 49 2 #[] #[])
  fields := #[]
  methods := #[k1m0, k1m1]
  instanceTypes := #[]
  staticTypes := #[]
  resolved := Array.replicate 34 none
  statics := none }

def pool2 : Array CpInfo := pool [(4, .class_ 6), (1, u "java/lang/Object"), (3, .class_ 12), (1, u "com/example/d2rank/d2rank/eval/Alpha"), (0, u "value"), (0, u "D"), (20, u "safeThreshold"), (0, u "(I)D"), (0, .double 4602678819172646912), (1, .long 200), (1, .long 2), (1, .double 4636737291354636288), (1, u "SAFE")] 25

def k2c0 : Code := { maxStack := 6, maxLocals := 5, code := prog_25_method_5_code, exceptionTable := #[], attributes := #[] }
def k2m0 : Method := { name := "safeThreshold", desc := "(I)D", sig := { parameters := [.int], returnType := some .double }, accessFlags := 8, code := some k2c0 }
/-- com/example/d2rank/d2rank/eval/Alpha -/
def k2 : Class := { plain "com/example/d2rank/d2rank/eval/Alpha" (some 0) with
  accessFlags := 49
  interfaces := #[]
  cf := some (fileOf pool2 10 #[] #[{ accessFlags := 8, nameIndex := 35, descriptorIndex := 36, attributes := #[] }] 49 4 #[] #[{ accessFlags := 26, nameIndex := 45, descriptorIndex := 14, attributes := #[] }, { accessFlags := 18, nameIndex := 13, descriptorIndex := 14, attributes := #[] }])
  fields := #[{ name := "SAFE", type := .double, accessFlags := 26, slot := 0, constantValue := 0 }, { name := "value", type := .double, accessFlags := 18, slot := 0, constantValue := 0 }]
  methods := #[k2m0]
  instanceTypes := #[.double]
  staticTypes := #[.double]
  resolved := Array.replicate 71 none
  statics := none }

def pool3 : Array CpInfo := pool [(1, u "java/lang/Cloneable"), (0, .class_ 1), (0, u "java/lang/Object"), (0, .class_ 3)] 3

/-- java/lang/Cloneable -/
def k3 : Class := { plain "java/lang/Cloneable" (some 0) with
  accessFlags := 1537
  interfaces := #[]
  cf := some (fileOf pool3 2 #[] #[] 1537 4 #[] #[])
  fields := #[]
  methods := #[]
  instanceTypes := #[]
  staticTypes := #[]
  resolved := Array.replicate 8 none
  statics := none }

def pool4 : Array CpInfo := pool [(1, u "java/io/Serializable"), (0, .class_ 1), (0, u "java/lang/Object"), (0, .class_ 3)] 3

/-- java/io/Serializable -/
def k4 : Class := { plain "java/io/Serializable" (some 0) with
  accessFlags := 1537
  interfaces := #[]
  cf := some (fileOf pool4 2 #[] #[] 1537 4 #[] #[])
  fields := #[]
  methods := #[]
  instanceTypes := #[]
  staticTypes := #[]
  resolved := Array.replicate 8 none
  statics := none }

/-- the primitive byte -/
def k5 : Class := { plain "byte" none with kind := .primitive 'B', accessFlags := 0x411 }
/-- [B -/
def k6 : Class := { plain "[B" (some 0) with kind := .array 5 .byte, interfaces := #[3, 4], accessFlags := 1041 }

/-- the primitive int -/
def k7 : Class := { plain "int" none with kind := .primitive 'I', accessFlags := 0x411 }
/-- [I -/
def k8 : Class := { plain "[I" (some 0) with kind := .array 7 .int, interfaces := #[3, 4], accessFlags := 1041 }

def heap : Heap := #[]
def classes : Array Class := #[k0, k1, k2, k3, k4, k5, k6, k7, k8]
def interned : List (Array UInt16 × Addr) := []
def slotsUsed : Nat := 0
def theMethod : MethodId := ⟨1, 1⟩
def args0 : Array Value := #[.int 5, .int 300]
def aboutOver (below : List Frame) : State where
  vm := { classes := classes, interned := interned.toArray }
  heap := heap
  slotsUsed := slotsUsed
  threads := #[{ frames := .invoking theMethod args0 :: below }]
def below0 : List Frame := [.native { method := ⟨0, 0⟩, args := #[] }]
def about1 : State := aboutOver below0
def p0 : Program := .bare "" "" ""
def e0 : Env := launch0.env 0 0 0
theorem w_frames : about1.frames = Frame.invoking theMethod args0 :: below0 := rfl
set_option maxRecDepth 65536 in
theorem w_args : argsFit about1.vm theMethod args0 = true := by decide +kernel
set_option maxRecDepth 65536 in
theorem w_heap : heapFits about1 = true := by decide +kernel
set_option maxRecDepth 65536 in
theorem w_runnable : about1.curStatus? = some .runnable := by decide +kernel
set_option maxRecDepth 65536 in
theorem w_alone : about1.alone = true := by decide +kernel
set_option maxRecDepth 65536 in
theorem w_named : about1.methodNamed? x = some theMethod := by decide +kernel
set_option maxRecDepth 65536 in
theorem w_hears : about1.hears theMethod below0 = true := by decide +kernel
set_option maxRecDepth 65536 in
theorem w_ripe : about1.ripe theMethod args0 below0 = true := by decide +kernel
theorem w_running : about1.status = .running := rfl
set_option maxRecDepth 65536 in
theorem w_room : about1.hasRoom e0.platform room_1 = true :=
  launch0.hasRoom_least _ room_1 (by decide +kernel) (by decide +kernel) (by decide +kernel) (by decide +kernel) (by decide +kernel) (by decide +kernel)
theorem allAtoms_all (ts : List Jvm.Cond) (a : Array Jvm.Value) (st : Jvm.State) : (allAtoms ts).before a st = ts.all (fun c => c.before a st) := by
  induction ts with
  | nil => rfl
  | cons c t ih =>
    show (Jvm.Cond.and c (allAtoms t)).before a st = _
    rw [Jvm.Cond.before_and, ih, List.all_cons]
def words1 : List Jvm.Cond := Jvm.Cond.code x code maxLocals ret :: tables_1
/-- a 'code' word, met by the world's own term for the bytes: nothing is compared byte by byte -/
theorem code_word {y : MethodName} {bytes : ByteArray} {mx : Nat} {rt : Option FieldType} {a : Array Value} {s : State} {m : MethodId} {meth : Method} {c : Code} (h1 : s.methodNamed? y = some m) (h2 : s.vm.method? m = some meth) (h3 : meth.code = some c) (h4 : c.code = bytes)
    (h5 : (c.maxLocals == mx && c.exceptionTable.isEmpty && decide (c.maxStack ≤ mostOperands) && decide (meth.sig.returnType = rt) && !meth.locks && decide (parseMethodDescriptor y.desc = some meth.sig)) = true) : (Jvm.Cond.code y bytes mx rt).before a s = true := by
  simp only [Bool.and_eq_true, beq_iff_eq, Bool.not_eq_true', decide_eq_true_eq] at h5
  obtain ⟨⟨⟨⟨⟨g1, g2⟩, g3⟩, g4⟩, g5⟩, g6⟩ := h5
  simp [Cond.before, Cond.holds, Cond.value, h1, h2, h3, h4, g1, g2, g3, g4, g5, g6]
def isCode : Jvm.Cond → Bool
  | .code _ _ _ _ => true
  | _ => false
theorem all_split {L : List Jvm.Cond} {P : Jvm.Cond → Bool} (h1 : L.all (fun c => isCode c || P c) = true) (h2 : ∀ c ∈ L.filter isCode, P c = true) : L.all P = true := by
  refine List.all_eq_true.mpr fun c hc => ?_
  have h := List.all_eq_true.mp h1 c hc
  rcases Bool.eq_false_or_eq_true (isCode c) with hi | hi
  · exact h2 c (List.mem_filter.mpr ⟨hc, hi⟩)
  · simpa [hi] using h
set_option maxRecDepth 65536 in
theorem w_c0 : (Jvm.Cond.code x code maxLocals ret).before args0 about1 = true := code_word (m := ⟨1, 1⟩) (meth := k1m1) (c := k1c1) (by decide +kernel) rfl rfl rfl (by decide +kernel)
set_option maxRecDepth 65536 in
theorem w_c1 : (Jvm.Cond.code ({ cls := "com/example/d2rank/d2rank/eval/Alpha", name := "safeThreshold", desc := "(I)D" } : Jvm.MethodName) prog_25_method_5_code (5 : Nat) (Option.some Jvm.ClassFile.FieldType.double)).before args0 about1 = true := code_word (m := ⟨2, 0⟩) (meth := k2m0) (c := k2c0) (by decide +kernel) rfl rfl rfl (by decide +kernel)
def codes1 : List Jvm.Cond := [Jvm.Cond.code x code maxLocals ret, Jvm.Cond.code ({ cls := "com/example/d2rank/d2rank/eval/Alpha", name := "safeThreshold", desc := "(I)D" } : Jvm.MethodName) prog_25_method_5_code (5 : Nat) (Option.some Jvm.ClassFile.FieldType.double)]
set_option maxRecDepth 65536 in
theorem codes_eq : words1.filter isCode = codes1 := rfl
theorem w_codes : ∀ c ∈ words1.filter isCode, c.before args0 about1 = true := by
  rw [codes_eq]
  intro c hc
  simp only [codes1, List.mem_cons, List.not_mem_nil, or_false] at hc
  rcases hc with rfl | rfl
  · exact w_c0
  · exact w_c1
set_option maxRecDepth 65536 in
theorem w_t1 : words1.all (fun c => isCode c || c.before args0 about1) = true := by decide +kernel
theorem w_tables : (allAtoms (Jvm.Cond.code x code maxLocals ret :: tables_1)).before args0 about1 = true := by
  rw [allAtoms_all]
  show words1.all (fun c => c.before args0 about1) = true
  refine all_split ?_ w_codes
  rw [w_t1]
set_option maxRecDepth 65536 in
theorem w_case : (Jvm.Cond.and given_1 narrow_1).before args0 about1 = true := by decide +kernel
theorem w_applies : (headSpec (Jvm.Cond.code x code maxLocals ret :: tables_1) room_1).applies x e0.platform about1 = true :=
  (Spec.applies_iff w_frames).mpr ⟨w_running, w_runnable, w_alone, w_named, w_hears, w_ripe, w_room, w_tables⟩
theorem atStart : AtStart classFile x code maxLocals ret World_1 tables_1 room_1 Calls_1 rest_1 Pre_1 launch0 p0 e0 about1 theMethod args0 below0 :=
  ⟨lists_1, trivial, launch0.admits_env _ _ _, launch0.least_env, fairChoices_fair.cas, fairChoices_fair.clock, w_frames, w_args, w_heap, w_applies, trivial, trivial, w_case⟩
end start1
theorem witness_1 : WitnessClaimed_1 := ⟨start1.p0, start1.e0, start1.about1, start1.theMethod, start1.args0, start1.below0, start1.atStart⟩
end Jvm.Pilot.@@N@@
