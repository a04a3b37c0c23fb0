import JvmDerived
import JvmDerived.Pilot.@@N@@Statement
import JvmDerived.Pilot.@@N@@Code
set_option linter.unusedVariables false
set_option linter.unusedSimpArgs false
@@BLOCK:NumsL.lean.txt@@
namespace Jvm.Pilot.@@N@@
open Jvm Jvm.ClassFile Sem Op Lib Jvm.Free Jvm.Stand Jvm.LawKit Jvm.RoadKit Bundle Jvm.Pilot.@@N@@.Jvm.D
section OwnGo
variable {p : Program} {l : Launch} {e : Env} {R : Room} {s : State} {m : MethodId} {args : Array Value} {below : List Frame} {meth : Method} {c : Code} {T T' : State} {locs : List Loc} {cells slots K1 K2 : Nat} {Q : Option Value → Heap → List Loc → Prop}
/-- from T at the frame f the run comes to an end that meets Q -/
def Go (p : Program) (e : Env) (below : List Frame) (s : State) (K1 K2 : Nat) (Q : Option Value → Heap → List Loc → Prop) (T : State) (f : JFrame) : Prop :=
  ∃ s₂ o, Steps p.tables e below (T.setTop f) s₂ ∧ s₂.status = .running ∧ Ended s₂ below o ∧ ∃ v L, o = .returned v ∧ Q v s₂.heap L ∧ FrameEnd s o s₂ L K1 K2
theorem Go.on {f f' : JFrame} (h : ∀ t, Steps p.tables e below (T'.setTop f') t → Steps p.tables e below (T.setTop f) t) (g : Go p e below s K1 K2 Q T' f') : Go p e below s K1 K2 Q T f := by
  obtain ⟨s₂, o, h1, r⟩ := g
  exact ⟨s₂, o, h _ h1, r⟩
theorem Go.cast {f f' : JFrame} (h : f = f') (g : Go p e below s K1 K2 Q T f') : Go p e below s K1 K2 Q T f := h ▸ g
theorem Go.gen {f : JFrame} (h : ∀ k1 k2 q, k1 = K1 → k2 = K2 → Q = q → Go p e below s k1 k2 q T f) : Go p e below s K1 K2 Q T f := h _ _ _ rfl rfl rfl
theorem Go.retV (X : Stand p l e R s m args below meth c T locs cells slots) (hx : p.tables.exec = Jvm.exec) {pc : Nat} {Ls : Array Slot} {w : Value} {t : FieldType} {i : Instr} {rest : List Value} (hret : meth.sig.returnType = some t) (hn : narrow t w = w)
    (hi : (i = .ireturn ∧ (t = .int ∨ t = .boolean ∨ t = .byte ∨ t = .char ∨ t = .short) ∧ ∃ z, w = .int z) ∨ (i = .lreturn ∧ t = .long ∧ ∃ z, w = .long z) ∨ (i = .dreturn ∧ t = .double ∧ ∃ z, w = .double z) ∨ (i = .freturn ∧ t = .float ∧ ∃ z, w = .float z) ∨ (i = .areturn ∧ t.isReference = true ∧ w.isRef = true))
    (hd : decode c.code pc = .ok (i, 1)) (hq : Q (some w) T.heap locs) (hc : cells ≤ K1) (hs : slots ≤ K2) (hlk : meth.locks = false := by assumption) : Go p e below s K1 K2 Q T (mkF m pc Ls (w :: rest)) := by
  obtain ⟨fs, hr, hrun, hended, hW, hsame⟩ := X.leave (v := some w) (fun h => by rw [hret] at h; cases h) hlk
  exact ⟨_, _, retOut X hx hret hn hi hd hr, hrun, hended, _, _, rfl, hq, ⟨_, rfl⟩, hW, hsame.mono hc hs⟩
theorem Go.retN (X : Stand p l e R s m args below meth c T locs cells slots) (hx : p.tables.exec = Jvm.exec) {pc : Nat} {Ls : Array Slot} {z : Int32} {t : FieldType} {rest : List Value} (hret : meth.sig.returnType = some t) (ht : t = .boolean ∨ t = .byte ∨ t = .char ∨ t = .short)
    (hd : decode c.code pc = .ok (.ireturn, 1)) (hq : Q (some (.int (nar t z))) T.heap locs) (hc : cells ≤ K1) (hs : slots ≤ K2) (hlk : meth.locks = false := by assumption) : Go p e below s K1 K2 Q T (mkF m pc Ls (.int z :: rest)) := by
  obtain ⟨fs, hr, hrun, hended, hW, hsame⟩ := X.leave (v := some (.int (nar t z))) (fun h => by rw [hret] at h; cases h) hlk
  exact ⟨_, _, Jvm.RoadKit.retN X hx hret ht hd hr, hrun, hended, _, _, rfl, hq, ⟨_, rfl⟩, hW, hsame.mono hc hs⟩
theorem Go.ret0 (X : Stand p l e R s m args below meth c T locs cells slots) (hx : p.tables.exec = Jvm.exec) {pc : Nat} {Ls : Array Slot} (hret : meth.sig.returnType = none)
    (hd : decode c.code pc = .ok (.return_, 1)) (hq : Q none T.heap locs) (hc : cells ≤ K1) (hs : slots ≤ K2) (hlk : meth.locks = false := by assumption) : Go p e below s K1 K2 Q T (mkF m pc Ls []) := by
  obtain ⟨fs, hr, hrun, hended, hW, hsame⟩ := X.leave (v := none) (fun _ => rfl) hlk
  exact ⟨_, _, X.returnOut hx hret hd hr, hrun, hended, _, _, rfl, hq, ⟨_, rfl⟩, hW, hsame.mono hc hs⟩
theorem own_lc_lt {a b : Int64} : lcmpW a b < 0 ↔ a < b := by rw [lcW]; exact lc_lt a b
theorem own_lc_gt {a b : Int64} : 0 < lcmpW a b ↔ b < a := by rw [lcW]; exact lc_gt a b
theorem own_lc_eq {a b : Int64} : lcmpW a b = 0 ↔ a = b := by rw [lcW]; exact lc_eq a b
theorem own_lremM {g : JFrame} {target : State} (X : Stand p l e R s m args below meth c T locs cells slots) (hx : p.tables.exec = Jvm.exec) (hg : g.method = m) {x y : Int64} {rest : List Value} (hd : decode c.code g.pc = .ok (.lrem, 1)) (hs : g.stack = .long y :: .long x :: rest) (hy : y ≠ 0)
    (hr : Steps p.tables e below (T.setTop { g with pc := g.pc + 1, stack := .long (x % y) :: rest }) target) : Steps p.tables e below (T.setTop g) target := by
  have q : x - x / y * y = x % y := by
    apply Int64.toInt_inj.mp
    have h1 := Int64.le_toInt (x % y)
    have h2 := Int64.toInt_lt (x % y)
    rw [Int64.toInt_sub, Int64.toInt_mul, Int64.toInt_div, Int.bmod_mul_bmod, Int.sub_bmod_bmod, Int.mul_comm (x.toInt.tdiv y.toInt), ← Int.tmod_def, ← Int64.toInt_mod]
    exact Int.bmod_eq_of_le_mul_two (by omega) (by omega)
  exact XS.lrem X.here hx hg hd hs hy (by rw [q]; exact hr)
theorem own_cl_gt {o : Option Ordering} : 0 < cmpValue o .l ↔ o = some .gt := by rcases o with _ | (_ | _ | _) <;> decide
theorem own_cl_lt {o : Option Ordering} : cmpValue o .l < 0 ↔ ¬ (o = some .gt ∨ o = some .eq) := by rcases o with _ | (_ | _ | _) <;> decide
theorem own_cg_lt {o : Option Ordering} : cmpValue o .g < 0 ↔ o = some .lt := by rcases o with _ | (_ | _ | _) <;> decide
theorem own_cg_gt {o : Option Ordering} : 0 < cmpValue o .g ↔ ¬ (o = some .lt ∨ o = some .eq) := by rcases o with _ | (_ | _ | _) <;> decide
theorem own_c_eq {o : Option Ordering} {k : CmpOp} : cmpValue o k = 0 ↔ o = some .eq := by cases k <;> rcases o with _ | (_ | _ | _) <;> decide
end OwnGo
section OwnFp
open Jvm.FP.Core
variable {a b V : UInt64} {x y z v : Int}
/-- the double a is finite and worth x units of 2^-1074 -/
def ZV (a : UInt64) (x : Int) : Prop := DFin a ∧ zval b64 (val64 a) = x
theorem ZV.ne (h : ZV a x) : val64 a ≠ .nan := h.1.ne_nan
theorem ZV.nn (h : ZV a x) : Jvm.Free.Fl.NoNaN64 a := Jvm.Free.Fl.noNaN64_no.mpr h.1.notNaN
theorem ZV.cmp (ha : ZV a x) (hb : ZV b y) : FP.dcmp a b = some (compare x y) := by
  show FP.Core.dcmp a b = _
  rw [dcmp_zval ha.ne hb.ne, ha.2, hb.2]
theorem ZV.uniq (ha : ZV a x) (hb : ZV a y) : x = y := ha.2.symm.trans hb.2
theorem own_fin_of {W : UInt64} (hn : val64 a ≠ .nan) (hW : DFin W) (h : zmag b64 (val64 a) ≤ zmag b64 (val64 W)) : DFin a := by
  cases h2 : val64 a with
  | nan => exact absurd h2 hn
  | inf s =>
    rw [h2] at h
    have := hW.zval_lt
    have e : zmag b64 (.inf s) = b64.tails * 2 ^ (b64.exps - 2) := rfl
    rw [e] at h
    omega
  | fin s c q => exact ⟨s, c, q, h2⟩
theorem own_natAbs (d : Datum) : (zval b64 d).natAbs = zmag b64 d := natAbs_signed _ _
theorem own_fin_of_z {W : UInt64} (hn : val64 a ≠ .nan) (hW : DFin W) (h : (zval b64 (val64 a)).natAbs ≤ (zval b64 (val64 W)).natAbs) : DFin a := by
  rw [own_natAbs, own_natAbs] at h; exact own_fin_of hn hW h
theorem ZV.add (ha : ZV a x) (hb : ZV b y) (hv : ZV V (x + y)) : ZV (FP.dadd a b) (x + y) := by
  have hn : val64 (FP.Core.dadd a b) ≠ .nan := (notNaN_iff _).mp (FP.Core.dadd_out ha.1.notNaN hb.1)
  have e : zval b64 (val64 (FP.Core.dadd a b)) = x + y := by
    have h1 := sum_le good_b64 ha.1 hb.1 (val64_fits a) (val64_fits b) (val64_fits V) hv.ne (by rw [ha.2, hb.2, hv.2]; exact Int.le_refl _)
    have h2 := sum_ge good_b64 ha.1 hb.1 (val64_fits a) (val64_fits b) (val64_fits V) hv.ne (by rw [ha.2, hb.2, hv.2]; exact Int.le_refl _)
    rw [← val64_dadd, hv.2] at h1 h2
    exact Int.le_antisymm h1 h2
  exact ⟨own_fin_of_z hn hv.1 (by rw [e, hv.2]; exact Nat.le_refl _), e⟩
theorem own_neg_fin {d : Datum} (h : ∃ s c q, d = .fin s c q) : ∃ s c q, negate d = .fin s c q := by
  obtain ⟨s, c, q, rfl⟩ := h; exact ⟨_, _, _, rfl⟩
theorem ZV.sub (ha : ZV a x) (hb : ZV b y) (hv : ZV V (x - y)) : ZV (FP.dsub a b) (x - y) := by
  have hn : val64 (FP.Core.dsub a b) ≠ .nan := (notNaN_iff _).mp (FP.Core.dsub_out ha.1.notNaN hb.1)
  have e : zval b64 (val64 (FP.Core.dsub a b)) = x - y := by
    have h1 := sum_le good_b64 ha.1 (own_neg_fin hb.1) (val64_fits a) (negate_fits (val64_fits b)) (val64_fits V) hv.ne (by rw [ha.2, zval_negate, hb.2, hv.2]; omega)
    have h2 := sum_ge good_b64 ha.1 (own_neg_fin hb.1) (val64_fits a) (negate_fits (val64_fits b)) (val64_fits V) hv.ne (by rw [ha.2, zval_negate, hb.2, hv.2]; omega)
    rw [← val64_dsub, hv.2] at h1 h2
    exact Int.le_antisymm h1 h2
  exact ⟨own_fin_of_z hn hv.1 (by rw [e, hv.2]; exact Nat.le_refl _), e⟩
/-- a sum or a difference lies between what bounds it -/
theorem ZV.add_le (ha : ZV a x) (hb : ZV b y) (hv : ZV V v) (h : x + y ≤ v) : zval b64 (val64 (FP.dadd a b)) ≤ v := by
  have h1 := sum_le good_b64 ha.1 hb.1 (val64_fits a) (val64_fits b) (val64_fits V) hv.ne (by rw [ha.2, hb.2, hv.2]; exact h)
  rw [← val64_dadd, hv.2] at h1; exact h1
theorem ZV.add_ge (ha : ZV a x) (hb : ZV b y) (hv : ZV V v) (h : v ≤ x + y) : v ≤ zval b64 (val64 (FP.dadd a b)) := by
  have h1 := sum_ge good_b64 ha.1 hb.1 (val64_fits a) (val64_fits b) (val64_fits V) hv.ne (by rw [ha.2, hb.2, hv.2]; exact h)
  rw [← val64_dadd, hv.2] at h1; exact h1
theorem ZV.sub_le (ha : ZV a x) (hb : ZV b y) (hv : ZV V v) (h : x - y ≤ v) : zval b64 (val64 (FP.dsub a b)) ≤ v := by
  have h1 := sum_le good_b64 ha.1 (own_neg_fin hb.1) (val64_fits a) (negate_fits (val64_fits b)) (val64_fits V) hv.ne (by rw [ha.2, zval_negate, hb.2, hv.2]; omega)
  rw [← val64_dsub, hv.2] at h1; exact h1
theorem ZV.sub_ge (ha : ZV a x) (hb : ZV b y) (hv : ZV V v) (h : v ≤ x - y) : v ≤ zval b64 (val64 (FP.dsub a b)) := by
  have h1 := sum_ge good_b64 ha.1 (own_neg_fin hb.1) (val64_fits a) (negate_fits (val64_fits b)) (val64_fits V) hv.ne (by rw [ha.2, zval_negate, hb.2, hv.2]; omega)
  rw [← val64_dsub, hv.2] at h1; exact h1
/-- the product's bounds -/
theorem own_mul_le (ha : ZV a x) (hb : ZV b y) (hv : ZV V v) (h : x * y ≤ v * (one64 : Int)) : zval b64 (val64 (FP.dmul a b)) ≤ v := by
  obtain ⟨⟨s, c, q, h1⟩, ex⟩ := ha
  obtain ⟨⟨t, d, r, h2⟩, ey⟩ := hb
  have f1 := val64_fits a; have f2 := val64_fits b
  rw [h1] at f1 ex; rw [h2] at f2 ey
  obtain ⟨p1, p2, p3⟩ := product_units f1 f2
  show zval b64 (val64 (FP.Core.dmul a b)) ≤ v
  rw [val64_dmul, h1, h2, p1, ← hv.2]
  refine zval_round_le good_b64 (val64_fits V) hv.ne (e0 := 2 * b64.qmin) (by decide) p2 ?_
  rw [p3, show (b64.qmin - 2 * b64.qmin).toNat = (-b64.qmin).toNat from by decide, pow_qmin64, hv.2, signed_xor]
  have : zval b64 (.fin s c q) * zval b64 (.fin t d r) ≤ v * (one64 : Int) := by rw [ex, ey]; exact h
  exact this
theorem own_mul_ge (ha : ZV a x) (hb : ZV b y) (hv : ZV V v) (h : v * (one64 : Int) ≤ x * y) : v ≤ zval b64 (val64 (FP.dmul a b)) := by
  obtain ⟨⟨s, c, q, h1⟩, ex⟩ := ha
  obtain ⟨⟨t, d, r, h2⟩, ey⟩ := hb
  have f1 := val64_fits a; have f2 := val64_fits b
  rw [h1] at f1 ex; rw [h2] at f2 ey
  obtain ⟨p1, p2, p3⟩ := product_units f1 f2
  show v ≤ zval b64 (val64 (FP.Core.dmul a b))
  rw [val64_dmul, h1, h2, p1, ← hv.2]
  refine zval_round_ge good_b64 (val64_fits V) hv.ne (e0 := 2 * b64.qmin) (by decide) p2 ?_
  rw [p3, show (b64.qmin - 2 * b64.qmin).toNat = (-b64.qmin).toNat from by decide, pow_qmin64, hv.2, signed_xor]
  have : v * (one64 : Int) ≤ zval b64 (.fin s c q) * zval b64 (.fin t d r) := by rw [ex, ey]; exact h
  exact this
theorem ZV.mul (ha : ZV a x) (hb : ZV b y) (hv : ZV V z) (h : x * y = z * (one64 : Int)) : ZV (FP.dmul a b) z := by
  have hn : val64 (FP.Core.dmul a b) ≠ .nan := (notNaN_iff _).mp (FP.Core.dmul_out ha.1 hb.1)
  have e : zval b64 (val64 (FP.Core.dmul a b)) = z := Int.le_antisymm (own_mul_le ha hb hv (Int.le_of_eq h)) (own_mul_ge ha hb hv (Int.le_of_eq h.symm))
  exact ⟨own_fin_of_z hn hv.1 (by rw [e, hv.2]; exact Nat.le_refl _), e⟩
/-- the quotient of finite doubles, the divisor not nought: its datum -/
theorem own_quot (ha : ZV a x) (hb : ZV b y) (hy : y ≠ 0) : ∃ s c q t d r, val64 a = .fin s c q ∧ val64 b = .fin t d r ∧ 0 < d ∧ val64 (FP.ddiv a b) = roundRatio b64 (s != t) c d (q - r) ∧ FP.Core.fits b64 (.fin s c q) ∧ FP.Core.fits b64 (.fin t d r) := by
  obtain ⟨⟨s, c, q, h1⟩, ex⟩ := ha
  obtain ⟨⟨t, d, r, h2⟩, ey⟩ := hb
  have f1 := val64_fits a; have f2 := val64_fits b
  rw [h1] at f1; rw [h2] at f2
  have hd : d ≠ 0 := fun q => by
    subst q
    rw [h2] at ey
    apply hy; rw [← ey]; show signed t (inUnits 0 r _) = 0
    unfold inUnits; rw [Nat.zero_mul, signed_zero]
  refine ⟨s, c, q, t, d, r, h1, h2, Nat.pos_of_ne_zero hd, ?_, f1, f2⟩
  show val64 (FP.Core.ddiv a b) = _
  rw [val64_ddiv, h1, h2]
  show (if d = 0 then _ else _) = _
  rw [if_neg hd]
theorem own_div_mag_le {c d : Nat} {q r : Int} {s t sg : Bool} (f1 : FP.Core.fits b64 (.fin s c q)) (f2 : FP.Core.fits b64 (.fin t d r)) (hd : 0 < d) {W : Datum} (fW : FP.Core.fits b64 W) (hW : W ≠ .nan)
    (h : inUnits c q b64.qmin * one64 ≤ zmag b64 W * inUnits d r b64.qmin) : zmag b64 (roundRatio b64 sg c d (q - r)) ≤ zmag b64 W := by
  have h1 := f1.2.1
  have h2 := f2.2.1
  have hq : b64.qmin < 0 := by decide
  refine zmag_roundRatio_le good_b64 hd fW hW (e0 := 2 * b64.qmin - r) (by omega) (by omega) ?_
  have e1 : (b64.qmin - (2 * b64.qmin - r)).toNat = (r - b64.qmin).toNat := by congr 1; omega
  rw [e1]
  have e2 : inUnits c (q - r) (2 * b64.qmin - r) = inUnits c q b64.qmin * one64 := by
    unfold inUnits
    rw [← pow_qmin64, Nat.mul_assoc, ← Nat.pow_add]
    congr 2; omega
  rw [e2]
  refine Nat.le_trans h (Nat.le_of_eq ?_)
  unfold inUnits
  rw [Nat.mul_comm d, Nat.mul_assoc]
theorem own_div_mag_ge {c d : Nat} {q r : Int} {s t sg : Bool} (f1 : FP.Core.fits b64 (.fin s c q)) (f2 : FP.Core.fits b64 (.fin t d r)) (hd : 0 < d) {W : Datum} (fW : FP.Core.fits b64 W)
    (h : zmag b64 W * inUnits d r b64.qmin ≤ inUnits c q b64.qmin * one64) : zmag b64 W ≤ zmag b64 (roundRatio b64 sg c d (q - r)) := by
  have h1 := f1.2.1
  have h2 := f2.2.1
  have hq : b64.qmin < 0 := by decide
  refine zmag_roundRatio_ge good_b64 hd fW (e0 := 2 * b64.qmin - r) (by omega) (by omega) ?_
  have e1 : (b64.qmin - (2 * b64.qmin - r)).toNat = (r - b64.qmin).toNat := by congr 1; omega
  rw [e1]
  have e2 : inUnits c (q - r) (2 * b64.qmin - r) = inUnits c q b64.qmin * one64 := by
    unfold inUnits
    rw [← pow_qmin64, Nat.mul_assoc, ← Nat.pow_add]
    congr 2; omega
  rw [e2]
  refine Nat.le_trans (Nat.le_of_eq ?_) h
  unfold inUnits
  rw [Nat.mul_comm d, Nat.mul_assoc]
/-- what is said of a quotient: r its units -/
def Quo (x y r : Int) : Prop := ∀ (V : UInt64) (v : Int), ZV V v → (x * (one64 : Int) ≤ v * y → r ≤ v) ∧ (v * y ≤ x * (one64 : Int) → v ≤ r)
theorem own_sgn_z (s : Bool) (m : Nat) : signed s m = if s then -(m : Int) else m := rfl
theorem ZV.neg_ex (h : ZV a x) : ∃ V, ZV V (-x) := by
  refine ⟨FP.Core.dneg a, ?_, ?_⟩
  · obtain ⟨⟨s, c, q, h1⟩, -⟩ := h; exact ⟨!s, c, q, by rw [val64_dneg, h1]; rfl⟩
  · rw [val64_dneg, zval_negate, h.2]
theorem own_mag {s : Bool} {c : Nat} {q : Int} : zval b64 (.fin s c q) = signed s (inUnits c q b64.qmin) := rfl
/-- the quotient by a positive double of at least one -/
theorem ZV.div (ha : ZV a x) (hb : ZV b y) (hy : (one64 : Int) ≤ y) : ∃ r, ZV (FP.ddiv a b) r ∧ Quo x y r := by
  have o1 := one64_pos
  obtain ⟨s, c, q, t, d, r, h1, h2, hd, h3, f1, f2⟩ := own_quot ha hb (by omega)
  have ey := hb.2; rw [h2, own_mag] at ey
  have ex := ha.2; rw [h1, own_mag] at ex
  have t0 : t = false := by
    cases t
    · rfl
    · simp only [own_sgn_z, if_true] at ey; omega
  subst t0
  have hy0 : (0 : Int) < y := by omega
  have ey' : ((inUnits d r b64.qmin : Nat) : Int) = y := ey
  generalize hu : inUnits d r b64.qmin = u at *
  generalize hc : inUnits c q b64.qmin = k at *
  have hsg : sgn (val64 (FP.ddiv a b)) = s := by rw [h3, sgn_roundRatio]; cases s <;> rfl
  have hne : val64 (FP.ddiv a b) ≠ .nan := by rw [h3]; exact roundRatio_ne_nan _ _ _ _ _
  have hz : zval b64 (val64 (FP.ddiv a b)) = signed s (zmag b64 (val64 (FP.ddiv a b))) := by rw [zval, hsg]
  have up : ∀ W : UInt64, val64 W ≠ .nan → k * one64 ≤ zmag b64 (val64 W) * u → zmag b64 (val64 (FP.ddiv a b)) ≤ zmag b64 (val64 W) := fun W hW h => by
    rw [h3]; exact own_div_mag_le f1 f2 hd (val64_fits W) hW (by rw [hu, hc]; exact h)
  have dn : ∀ W : UInt64, zmag b64 (val64 W) * u ≤ k * one64 → zmag b64 (val64 W) ≤ zmag b64 (val64 (FP.ddiv a b)) := fun W h => by
    rw [h3]; exact own_div_mag_ge f1 f2 hd (val64_fits W) (by rw [hu, hc]; exact h)
  have hk : k = zmag b64 (val64 a) := by rw [h1]; exact hc.symm
  have hfin : DFin (FP.ddiv a b) := own_fin_of hne ha.1 (up a ha.ne (by rw [← hk]; exact Nat.mul_le_mul_left _ (by omega)))
  refine ⟨_, ⟨hfin, rfl⟩, fun V v hv => ?_⟩
  rw [hz]
  generalize hm : zmag b64 (val64 (FP.ddiv a b)) = m at *
  have hV := own_natAbs (val64 V)
  rw [hv.2] at hV
  have upV := up V hv.ne
  have dnV := dn V
  rw [← hV] at upV dnV
  clear up dn
  have cast : ∀ p q : Nat, ((p * q : Nat) : Int) = (p : Int) * q := fun p q => by simp
  cases s
  · have ex' : (k : Int) = x := ex
    have em : signed false m = (m : Int) := rfl
    rw [em]
    constructor
    · intro h
      by_cases hv0 : 0 ≤ v
      · have e1 : (v.natAbs : Int) = v := Int.natAbs_of_nonneg hv0
        have : k * one64 ≤ v.natAbs * u := by apply Int.ofNat_le.mp; rw [cast, cast, ex', e1, ey']; exact h
        have := upV this; omega
      · exfalso
        have h5 : v * y < 0 := Int.mul_neg_of_neg_of_pos (by omega) hy0
        have h6 : 0 ≤ x * (one64 : Int) := Int.mul_nonneg (by omega) (by omega)
        omega
    · intro h
      by_cases hv0 : 0 ≤ v
      · have e1 : (v.natAbs : Int) = v := Int.natAbs_of_nonneg hv0
        have : v.natAbs * u ≤ k * one64 := by apply Int.ofNat_le.mp; rw [cast, cast, ex', e1, ey']; exact h
        have := dnV this; omega
      · omega
  · have ex' : -(k : Int) = x := ex
    have em : signed true m = -(m : Int) := rfl
    rw [em]
    have ek : (k : Int) = -x := by omega
    constructor
    · intro h
      by_cases hv0 : 0 ≤ v
      · omega
      · have e1 : (v.natAbs : Int) = -v := by omega
        have : v.natAbs * u ≤ k * one64 := by
          apply Int.ofNat_le.mp; rw [cast, cast, ek, e1, ey', Int.neg_mul, Int.neg_mul]; omega
        have := dnV this; omega
    · intro h
      by_cases hv0 : v ≤ 0
      · have e1 : (v.natAbs : Int) = -v := by omega
        have : k * one64 ≤ v.natAbs * u := by
          apply Int.ofNat_le.mp; rw [cast, cast, ek, e1, ey', Int.neg_mul, Int.neg_mul]; omega
        have := upV this; omega
      · exfalso
        have h5 : 0 < v * y := Int.mul_pos (by omega) hy0
        have h6 : x * (one64 : Int) ≤ 0 := by
          have : 0 ≤ (k : Int) * (one64 : Int) := Int.mul_nonneg (by omega) (by omega)
          rw [ek, Int.neg_mul] at this; omega
        omega
theorem ZV.div_exact (ha : ZV a x) (hb : ZV b y) (hy : (one64 : Int) ≤ y) (hv : ZV V z) (h : x * (one64 : Int) = z * y) : ZV (FP.ddiv a b) z := by
  obtain ⟨r, h1, h2⟩ := ha.div hb hy
  have h3 := h2 V z hv
  have : r = z := Int.le_antisymm (h3.1 (Int.le_of_eq h)) (h3.2 (Int.le_of_eq h.symm))
  exact this ▸ h1
/-- i * 2^k units are a double -/
theorem own_rep (i : Int) (k : Nat) (hi : i.natAbs < 2 ^ 53) (hk : k ≤ 2045) : ∃ V, ZV V (i * ((2 ^ k : Nat) : Int)) := by
  obtain ⟨c', q', h1, h2⟩ := round_exact good_b64 (decide (i < 0)) (c := i.natAbs) (q := (k : Int) + b64.qmin) hi (by omega) (by rw [show b64.qmax = 971 from by decide, qmin_b64]; omega)
  have hf : FP.Core.fits b64 (.fin (decide (i < 0)) c' q') := by rw [← h1]; exact round_fits good_b64 _
  refine ⟨of64 (.fin (decide (i < 0)) c' q'), ⟨_, _, _, val64_of64 hf⟩, ?_⟩
  rw [val64_of64 hf, own_mag, h2]
  unfold inUnits
  rw [show ((k : Int) + b64.qmin - b64.qmin).toNat = k from by omega, signed_mul, own_sgn_z]
  congr 1
  by_cases h : i < 0
  · simp only [h, decide_true, if_true]; omega
  · simp only [h, decide_false]; simp only [Bool.false_eq_true, if_false]; omega
theorem own_one64 : (one64 : Int) = ((2 ^ 1074 : Nat) : Int) := rfl
theorem ZV.of_int {i : Int} (h : DInt i a) : ZV a (i * (one64 : Int)) := by
  refine ⟨?_, DInt_zval h⟩
  unfold DInt at h
  cases h2 : val64 a with
  | nan => rw [h2] at h; exact h.elim
  | inf s => rw [h2] at h; exact h.elim
  | fin s c q => exact ⟨s, c, q, h2⟩
theorem own_i2d (n : Int32) : ZV (FP.i2d n) (n.toInt * (one64 : Int)) := ZV.of_int (i2d_int n)
theorem own_l2d {n : Int64} (h : n.toInt.natAbs ≤ 2 ^ 53) : ZV (FP.l2d n) (n.toInt * (one64 : Int)) := ZV.of_int (l2d_int h)
theorem own_ddiv_nn (ha : DFin a) (hb : DFin b) : FP.ddiv (FP.Core.dneg a) (FP.Core.dneg b) = FP.ddiv a b ∨ val64 (FP.ddiv a b) = .nan := by
  by_cases hn : val64 (FP.ddiv a b) = .nan
  · exact Or.inr hn
  · refine Or.inl (val64_inj hn ?_).symm
    obtain ⟨s, c, q, h1⟩ := ha
    obtain ⟨t, d, r, h2⟩ := hb
    show val64 (FP.Core.ddiv a b) = val64 (FP.Core.ddiv _ _)
    rw [val64_ddiv, val64_ddiv, val64_dneg, val64_dneg, h1, h2]
    show quotient b64 (.fin s c q) (.fin t d r) = quotient b64 (.fin (!s) c q) (.fin (!t) d r)
    simp only [quotient]
    have : ((!s) != (!t)) = (s != t) := by cases s <;> cases t <;> rfl
    rw [this]
theorem ZV.dneg (h : ZV a x) : ZV (FP.Core.dneg a) (-x) := by
  refine ⟨?_, by rw [val64_dneg, zval_negate, h.2]⟩
  obtain ⟨⟨s, c, q, h1⟩, -⟩ := h; exact ⟨!s, c, q, by rw [val64_dneg, h1]; rfl⟩
/-- the quotient by a negative double of at most minus one -/
theorem ZV.div_neg (ha : ZV a x) (hb : ZV b y) (hy : y ≤ -(one64 : Int)) : ∃ r, ZV (FP.ddiv a b) r ∧ Quo (-x) (-y) r := by
  obtain ⟨r, h1, h2⟩ := ha.dneg.div hb.dneg (by omega)
  have o1 := one64_pos
  obtain ⟨s, c, q, t, d, r', -, -, -, h3, -⟩ := own_quot ha hb (by omega)
  rcases own_ddiv_nn ha.1 hb.1 with h | h
  · exact ⟨r, h ▸ h1, h2⟩
  · rw [h3] at h; exact absurd h (roundRatio_ne_nan _ _ _ _ _)
/-- n / D against i / 2^j -/
theorem own_quo_int {n D r : Int} (h : Quo (n * (one64 : Int)) (D * (one64 : Int)) r) (i : Int) (j : Nat) (hj : j ≤ 1074) (hi : i.natAbs < 2 ^ 53) :
    (n * ((2 ^ j : Nat) : Int) ≤ i * D → r ≤ i * ((2 ^ (1074 - j) : Nat) : Int)) ∧ (i * D ≤ n * ((2 ^ j : Nat) : Int) → i * ((2 ^ (1074 - j) : Nat) : Int) ≤ r) := by
  obtain ⟨V, hV⟩ := own_rep i (1074 - j) hi (by omega)
  have q := h V _ hV
  have e : (one64 : Int) = ((2 ^ j : Nat) : Int) * ((2 ^ (1074 - j) : Nat) : Int) := by
    rw [own_one64, ← Int.natCast_mul, ← Nat.pow_add]; congr 2; omega
  have hu : (0 : Int) ≤ ((2 ^ (1074 - j) : Nat) : Int) * (one64 : Int) := Int.mul_nonneg (Int.natCast_nonneg _) (Int.natCast_nonneg _)
  have e1 : n * (one64 : Int) * (one64 : Int) = n * ((2 ^ j : Nat) : Int) * (((2 ^ (1074 - j) : Nat) : Int) * (one64 : Int)) := by
    conv => lhs; arg 1; rw [e]
    rw [← Int.mul_assoc n, Int.mul_assoc (n * _)]
  have e2 : i * ((2 ^ (1074 - j) : Nat) : Int) * (D * (one64 : Int)) = i * D * (((2 ^ (1074 - j) : Nat) : Int) * (one64 : Int)) := by rw [Int.mul_assoc i, Int.mul_left_comm _ D, ← Int.mul_assoc i D]
  rw [e1, e2] at q
  exact ⟨fun z => q.1 (Int.mul_le_mul_of_nonneg_right z hu), fun z => q.2 (Int.mul_le_mul_of_nonneg_right z hu)⟩
theorem own_zero : ZV (0 : UInt64) 0 := ⟨⟨_, _, _, val64_zero⟩, zval64_zero⟩
theorem own_one : ZV (4607182418800017408 : UInt64) (one64 : Int) := by
  have := ZV.of_int dint_one; rwa [Int.one_mul] at this
theorem own_cmp_gt {x y : Int} : some (compare x y) = some Ordering.gt ↔ y < x := by rw [Option.some.injEq]; exact compare_gt_iff x y
theorem own_cmp_lt {x y : Int} : some (compare x y) = some Ordering.lt ↔ x < y := by rw [Option.some.injEq]; exact compare_lt_iff x y
theorem own_cmp_eq {x y : Int} : some (compare x y) = some Ordering.eq ↔ x = y := by rw [Option.some.injEq]; exact compare_eq_iff x y
theorem own_dnn {i : Int} {a : UInt64} (h : DInt i a) : Jvm.Free.Fl.NoNaN64 a := (ZV.of_int h).nn
theorem own_nnd' {a : UInt64} (ha : DFin a) (n : Int32) (hn : n ≠ 0) : Jvm.Free.Fl.NoNaN64 (FP.ddiv a (FP.i2d n)) :=
  Jvm.Free.Fl.noNaN64_no.mpr (FP.Core.ddiv_out ha.notNaN (i2d_fin n) (fun q => i2d_ne_zero hn (by rwa [zero_bits2] at q)))
theorem own_nnd (s : Int64) (n : Int32) (hn : n ≠ 0) : Jvm.Free.Fl.NoNaN64 (FP.ddiv (FP.l2d s) (FP.i2d n)) := own_nnd' (l2d_fin s) n hn
theorem own_dz : DInt 0 (0 : UInt64) := by
  have : (0 : UInt64) = FP.l2d 0 := FP.Core.l2d_zero.symm
  rw [this]; exact l2d_int (a := 0) (by decide)
theorem own_div_eq {S S' : UInt64} {s : Int} (h : DInt s S) (h' : DInt s S') (n : Int32) (hn : 1 ≤ n.toInt) : FP.dcmp (FP.ddiv S (FP.i2d n)) (FP.ddiv S' (FP.i2d n)) = some .eq := by
  have hy : (one64 : Int) ≤ n.toInt * (one64 : Int) := by
    have := Int.mul_le_mul_of_nonneg_right hn (show (0 : Int) ≤ (one64 : Int) by omega)
    rwa [Int.one_mul] at this
  by_cases hs : s = 0
  · subst hs
    have z1 := ZV.of_int h
    have z2 := ZV.of_int h'
    rw [Int.zero_mul] at z1 z2
    have q1 := z1.div_exact (own_i2d n) hy own_zero (by rw [Int.zero_mul, Int.zero_mul])
    have q2 := z2.div_exact (own_i2d n) hy own_zero (by rw [Int.zero_mul, Int.zero_mul])
    rw [q1.cmp q2, own_cmp_eq]
  · have e := dint_unique hs h h'
    subst e
    have hz : n ≠ 0 := fun q => by subst q; revert hn; decide
    exact dcmp_refl (Jvm.Free.Fl.noNaN64_no.mp (own_nnd' (ZV.of_int h).1 n hz))
theorem own_ib (x : Int32) : x.toInt.natAbs ≤ 2147483648 := by have := x.le_toInt; have := x.toInt_lt; omega
end OwnFp
section OwnGoW
variable {p : Program} {l : Launch} {e : Env} {R : Room} {s : State} {vm₁ : Vm} {k0 : Nat} {m : MethodId} {args : Array Value} {below : List Frame} {meth : Method} {c : Code} {T T' : State} {locs : List Loc} {cells slots K1 K2 : Nat} {Q : Option Value → Heap → List Loc → Prop}
/-- as Go, for a run that may load String literals -/
def GoW (p : Program) (e : Env) (below : List Frame) (s : State) (K1 K2 : Nat) (Q : Option Value → Heap → List Loc → Prop) (T : State) (f : JFrame) : Prop :=
  ∃ s₂ o, Steps p.tables e below (T.setTop f) s₂ ∧ s₂.status = .running ∧ Ended s₂ below o ∧ ∃ v L, o = .returned v ∧ Q v s₂.heap L ∧ ReturnedEndW s o s₂ L K1 K2
theorem GoW.on {f f' : JFrame} (h : ∀ t, Steps p.tables e below (T'.setTop f') t → Steps p.tables e below (T.setTop f) t) (g : GoW p e below s K1 K2 Q T' f') : GoW p e below s K1 K2 Q T f := by
  obtain ⟨s₂, o, h1, r⟩ := g
  exact ⟨s₂, o, h _ h1, r⟩
theorem GoW.cast {f f' : JFrame} (h : f = f') (g : GoW p e below s K1 K2 Q T f') : GoW p e below s K1 K2 Q T f := h ▸ g
theorem GoW.gen {f : JFrame} (h : ∀ k1 k2 q, k1 = K1 → k2 = K2 → Q = q → GoW p e below s k1 k2 q T f) : GoW p e below s K1 K2 Q T f := h _ _ _ rfl rfl rfl
theorem own_moreW {o : Outcome} {t : State} {L : List Loc} {k n k' n' : Nat} (h : ReturnedEndW s o t L k n) (h1 : k ≤ k') (h2 : n ≤ n') : ReturnedEndW s o t L k' n' := ⟨h.1, h.2.1, h.2.2.1, h.2.2.2.mono h1 h2⟩
theorem GoW.retV (X : Stand p l e R (s.setVm vm₁) m args below meth c T locs cells slots) (hx : p.tables.exec = Jvm.exec) (hS : s.Since vm₁ k0) (hk : k0 ≤ T.heap.size) {pc : Nat} {Ls : Array Slot} {w : Value} {t : FieldType} {i : Instr} {rest : List Value} (hret : meth.sig.returnType = some t) (hn : narrow t w = w)
    (hi : (i = .ireturn ∧ (t = .int ∨ t = .boolean ∨ t = .byte ∨ t = .char ∨ t = .short) ∧ ∃ z, w = .int z) ∨ (i = .lreturn ∧ t = .long ∧ ∃ z, w = .long z) ∨ (i = .dreturn ∧ t = .double ∧ ∃ z, w = .double z) ∨ (i = .freturn ∧ t = .float ∧ ∃ z, w = .float z) ∨ (i = .areturn ∧ t.isReference = true ∧ w.isRef = true))
    (hd : decode c.code pc = .ok (i, 1)) (hq : Q (some w) T.heap locs) (hc : cells ≤ K1) (hs : slots ≤ K2) (hlk : meth.locks = false := by assumption) : GoW p e below s K1 K2 Q T (mkF m pc Ls (w :: rest)) := by
  obtain ⟨fs, hr, hrun, hended, hE⟩ := X.leaveW hS hk (v := some w) (fun h => by rw [hret] at h; cases h) hlk
  exact ⟨_, _, retOut X hx hret hn hi hd hr, hrun, hended, _, _, rfl, hq, own_moreW hE hc hs⟩
theorem GoW.retN (X : Stand p l e R (s.setVm vm₁) m args below meth c T locs cells slots) (hx : p.tables.exec = Jvm.exec) (hS : s.Since vm₁ k0) (hk : k0 ≤ T.heap.size) {pc : Nat} {Ls : Array Slot} {z : Int32} {t : FieldType} {rest : List Value} (hret : meth.sig.returnType = some t) (ht : t = .boolean ∨ t = .byte ∨ t = .char ∨ t = .short)
    (hd : decode c.code pc = .ok (.ireturn, 1)) (hq : Q (some (.int (nar t z))) T.heap locs) (hc : cells ≤ K1) (hs : slots ≤ K2) (hlk : meth.locks = false := by assumption) : GoW p e below s K1 K2 Q T (mkF m pc Ls (.int z :: rest)) := by
  obtain ⟨fs, hr, hrun, hended, hE⟩ := X.leaveW hS hk (v := some (.int (nar t z))) (fun h => by rw [hret] at h; cases h) hlk
  exact ⟨_, _, Jvm.RoadKit.retN X hx hret ht hd hr, hrun, hended, _, _, rfl, hq, own_moreW hE hc hs⟩
theorem GoW.ret0 (X : Stand p l e R (s.setVm vm₁) m args below meth c T locs cells slots) (hx : p.tables.exec = Jvm.exec) (hS : s.Since vm₁ k0) (hk : k0 ≤ T.heap.size) {pc : Nat} {Ls : Array Slot} (hret : meth.sig.returnType = none)
    (hd : decode c.code pc = .ok (.return_, 1)) (hq : Q none T.heap locs) (hc : cells ≤ K1) (hs : slots ≤ K2) (hlk : meth.locks = false := by assumption) : GoW p e below s K1 K2 Q T (mkF m pc Ls []) := by
  obtain ⟨fs, hr, hrun, hended, hE⟩ := X.leaveW hS hk (v := none) (fun _ => rfl) hlk
  exact ⟨_, _, X.returnOut hx hret hd hr, hrun, hended, _, _, rfl, hq, own_moreW hE hc hs⟩
end OwnGoW
theorem own_wS {Z : State} {aw : Array Value} (hw : ∀ d ∈ tables_1, d.before aw Z = true) : ∀ a ∈ Bundle.stringAtoms, a.before aw Z = true := fun d hd => by
  simp only [Bundle.stringAtoms, List.mem_cons, List.not_mem_nil, or_false] at hd
  rcases hd with rfl | rfl | rfl | rfl | rfl | rfl | rfl
  · exact hw _ (List.mem_of_getElem? (i := 13) rfl)
  · exact hw _ (List.mem_of_getElem? (i := 14) rfl)
  · exact hw _ (List.mem_of_getElem? (i := 15) rfl)
  · exact hw _ (List.mem_of_getElem? (i := 16) rfl)
  · exact hw _ (List.mem_of_getElem? (i := 17) rfl)
  · exact hw _ (List.mem_of_getElem? (i := 18) rfl)
  · exact hw _ (List.mem_of_getElem? (i := 19) rfl)
section OwnPV
open Jvm.FP.Core
theorem own_split (j : Nat) (hj : j ≤ 1074) : (one64 : Int) = ((2 ^ j : Nat) : Int) * ((2 ^ (1074 - j) : Nat) : Int) := by
  rw [own_one64, ← Int.natCast_mul, ← Nat.pow_add]; congr 2; omega
/-- a double worth n * 2^-k -/
def PV (k : Nat) (a : UInt64) (n : Int) : Prop := ZV a (n * ((2 ^ (1074 - k) : Nat) : Int))
variable {k : Nat} {a b : UInt64} {n r z : Int}
theorem PV.ex (k : Nat) (n : Int) (h : n.natAbs < 2 ^ 53) : ∃ V, PV k V n := own_rep n (1074 - k) h (by omega)
theorem PV.add (ha : PV k a n) (hb : PV k b r) (h : (n + r).natAbs < 2 ^ 53) : PV k (FP.dadd a b) (n + r) := by
  obtain ⟨V, hV⟩ := PV.ex k _ h
  unfold PV at *
  rw [Int.add_mul] at *
  exact ZV.add ha hb hV
theorem PV.nn (h : PV k a n) : Jvm.Free.Fl.NoNaN64 a := ZV.nn h
theorem PV.of_int {c : UInt64} {i : Int} (h : ZV c (i * (one64 : Int))) : PV 0 c i := by
  unfold PV
  have e : ((2 ^ (1074 - 0) : Nat) : Int) = (one64 : Int) := own_one64.symm
  rw [e]; exact h
/-- over a power of two -/
theorem PV.div (ha : PV k a n) {c : UInt64} {j : Nat} (hc : ZV c (((2 ^ j : Nat) : Int) * (one64 : Int))) (hj : k + j ≤ 1074) (h : n.natAbs < 2 ^ 53) : PV (k + j) (FP.ddiv a c) n := by
  obtain ⟨V, hV⟩ := PV.ex (k + j) n h
  unfold PV at *
  have op : (0 : Int) < (one64 : Int) := by have := one64_pos; omega
  have p1 : (1 : Int) ≤ ((2 ^ j : Nat) : Int) := by have := Nat.two_pow_pos j; omega
  have hy : (one64 : Int) ≤ ((2 ^ j : Nat) : Int) * (one64 : Int) := by
    have := Int.mul_le_mul_of_nonneg_right p1 (Int.le_of_lt op)
    rwa [Int.one_mul] at this
  refine ZV.div_exact ha hc hy hV ?_
  have e : ((2 ^ (1074 - k) : Nat) : Int) = ((2 ^ (1074 - (k + j)) : Nat) : Int) * ((2 ^ j : Nat) : Int) := by
    rw [← Int.natCast_mul, ← Nat.pow_add]; congr 2; omega
  rw [e]
  generalize ((2 ^ (1074 - (k + j)) : Nat) : Int) = H
  generalize ((2 ^ j : Nat) : Int) = J
  generalize (one64 : Int) = o
  ac_rfl
theorem PV.eq (h : PV k a n) (h' : PV k b r) (e : n = r) : (cmpValue (FP.dcmp a b) .l) = (0 : Int32) := by
  subst e
  rw [own_c_eq, ZV.cmp h h', own_cmp_eq]
theorem PV.sub (ha : PV k a n) (hb : PV k b r) (h : (n - r).natAbs < 2 ^ 53) : PV k (FP.dsub a b) (n - r) := by
  obtain ⟨V, hV⟩ := PV.ex k _ h
  unfold PV at *
  rw [Int.sub_mul] at *
  exact ZV.sub ha hb hV
theorem PV.mul {j : Nat} (ha : PV k a n) (hb : PV j b r) (hj : k + j ≤ 1074) (h : (n * r).natAbs < 2 ^ 53) : PV (k + j) (FP.dmul a b) (n * r) := by
  obtain ⟨V, hV⟩ := PV.ex (k + j) _ h
  unfold PV at *
  refine ZV.mul ha hb hV ?_
  have e : ((2 ^ (1074 - k) : Nat) : Int) * ((2 ^ (1074 - j) : Nat) : Int) = ((2 ^ (1074 - (k + j)) : Nat) : Int) * (one64 : Int) := by
    rw [own_one64, ← Int.natCast_mul, ← Int.natCast_mul, ← Nat.pow_add, ← Nat.pow_add]; congr 2; omega
  generalize ((2 ^ (1074 - (k + j)) : Nat) : Int) = H at *
  generalize ((2 ^ (1074 - k) : Nat) : Int) = I at *
  generalize ((2 ^ (1074 - j) : Nat) : Int) = J at *
  generalize (one64 : Int) = o at *
  calc n * I * (r * J) = n * r * (I * J) := by ac_rfl
    _ = n * r * H * o := by rw [e]; ac_rfl
theorem PV.up (ha : PV k a n) (j : Nat) (hj : k + j ≤ 1074) : PV (k + j) a (n * ((2 ^ j : Nat) : Int)) := by
  unfold PV at *
  have e : ((2 ^ (1074 - k) : Nat) : Int) = ((2 ^ j : Nat) : Int) * ((2 ^ (1074 - (k + j)) : Nat) : Int) := by
    rw [← Int.natCast_mul, ← Nat.pow_add]; congr 2; omega
  rw [e, ← Int.mul_assoc] at ha
  exact ha
theorem PV.neg (ha : PV k a n) : PV k (FP.dneg a) (-n) := by
  have h1 := ha.1.notNaN
  unfold PV at *
  rw [Jvm.FP.dneg_core h1, Int.neg_mul]
  exact ZV.dneg ha
end OwnPV

def sV (t : UInt64) : UInt64 := FP.dmul (FP.dmul t t) (FP.dsub (4613937818241073152 : UInt64) (FP.dmul (4611686018427387904 : UInt64) t))
def uV (t : UInt64) : UInt64 := FP.dsub (4607182418800017408 : UInt64) t
def pV (al t : UInt64) : UInt64 := FP.dmul (FP.dmul (FP.dmul al t) (uV t)) (uV t)
def qV (al t : UInt64) : UInt64 := FP.dmul (FP.dmul (FP.dmul al t) t) (uV t)
section PureLaw
open Jvm.FP.Core
abbrev kD (j : Int64) : UInt64 := FP.ddiv (FP.l2d j) (4652218415073722368 : UInt64)
theorem own_mb {x y X Y : Int} (h1 : 0 ≤ x ∧ x ≤ X) (h2 : 0 ≤ y ∧ y ≤ Y) : 0 ≤ x * y ∧ x * y ≤ X * Y := ⟨Int.mul_nonneg h1.1 h2.1, Int.mul_le_mul h1.2 h2.2 h2.1 (Int.le_trans h1.1 h1.2)⟩
def Kb (j : Int64) : Prop := 0 ≤ j.toInt ∧ j.toInt ≤ 1024
variable {ja jk : Int64}
theorem own_rem {i : Int32} {j : Int64} (h : ((i &&& (2147483647 : Int32)) % (1025 : Int32)).toInt64 = j) : Kb j := by
  have e1 : (i &&& 2147483647).toInt = i.toInt % 2 ^ 31 := Jvm.Kit.i32_mask i 2147483647 (k := 31) (by decide) (by decide)
  have l3 : (1025 : Int32).toInt = 1025 := by decide
  unfold Kb
  rw [← h, Int32.toInt_toInt64, Int32.toInt_mod, e1, l3, Int.tmod_eq_emod_of_nonneg (by omega)]; omega
theorem own_c1024 : ZV (4652218415073722368 : UInt64) (((2 ^ 10 : Nat) : Int) * (one64 : Int)) := by
  have h : (4652218415073722368 : UInt64) = FP.l2d 1024 := by decide +kernel
  rw [h]; exact own_l2d (n := 1024) (by decide)
theorem own_scale : ZV (4787326403894837248 : UInt64) (((2 ^ 40 : Nat) : Int) * (one64 : Int)) := by
  have h : (4787326403894837248 : UInt64) = FP.l2d 1099511627776 := by decide +kernel
  rw [h]; exact own_l2d (n := 1099511627776) (by decide)
theorem own_p1 : PV 0 (4607182418800017408 : UInt64) 1 := PV.of_int (by rw [Int.one_mul]; exact own_one)
theorem own_p2 : PV 0 (4611686018427387904 : UInt64) 2 := by
  have h : (4611686018427387904 : UInt64) = FP.l2d 2 := by decide +kernel
  rw [h]; exact PV.of_int (own_l2d (n := 2) (by decide))
theorem own_p3 : PV 0 (4613937818241073152 : UInt64) 3 := by
  have h : (4613937818241073152 : UInt64) = FP.l2d 3 := by decide +kernel
  rw [h]; exact PV.of_int (own_l2d (n := 3) (by decide))
theorem own_kd (h : Kb jk) : PV 10 (kD jk) jk.toInt := by
  unfold Kb at h
  have := (PV.of_int (own_l2d (n := jk) (by omega))).div own_c1024 (by omega) (by omega)
  rwa [Nat.zero_add] at this
theorem own_cast {k k' : Nat} {a : UInt64} {n n' : Int} (h : PV k a n) (e : k = k') (e' : n = n') : PV k' a n' := e ▸ e' ▸ h
theorem own_one10 : PV 10 (4607182418800017408 : UInt64) 1024 := own_cast (own_p1.up 10 (by omega)) rfl (by decide)
theorem own_u (h : Kb jk) : PV 10 (uV (kD jk)) (1024 - jk.toInt) := by
  have q := own_kd h
  unfold Kb at h
  exact own_one10.sub q (by omega)
theorem own_s (h : Kb jk) : Jvm.Free.Fl.NoNaN64 (FP.dmul (kD jk) (kD jk)) ∧ Jvm.Free.Fl.NoNaN64 (FP.dmul (4611686018427387904 : UInt64) (kD jk)) ∧ Jvm.Free.Fl.NoNaN64 (FP.dsub (4613937818241073152 : UInt64) (FP.dmul (4611686018427387904 : UInt64) (kD jk))) ∧ PV 30 (sV (kD jk)) (jk.toInt * jk.toInt * (3072 - 2 * jk.toInt)) := by
  have q := own_kd h
  unfold Kb at h
  have b1 := own_mb h h
  have b2 := own_mb b1 (show 0 ≤ 3072 - 2 * jk.toInt ∧ 3072 - 2 * jk.toInt ≤ 3072 by omega)
  have m1 := own_cast (q.mul q (by omega) (by omega)) (show 10 + 10 = 20 from rfl) rfl
  have m2 := own_cast (own_p2.mul q (by omega) (by omega)) (show 0 + 10 = 10 from rfl) rfl
  have m3 := (own_cast (own_p3.up 10 (by omega)) (show 0 + 10 = 10 from rfl) (show (3 : Int) * ((2 ^ 10 : Nat) : Int) = 3072 from rfl)).sub m2 (by omega)
  have m4 := own_cast (m1.mul m3 (by omega) (by omega)) (show 20 + 10 = 30 from rfl) rfl
  exact ⟨m1.nn, m2.nn, m3.nn, m4⟩
theorem own_p (ha : Kb ja) (h : Kb jk) : Jvm.Free.Fl.NoNaN64 (FP.dmul (kD ja) (kD jk)) ∧ Jvm.Free.Fl.NoNaN64 (FP.dmul (FP.dmul (kD ja) (kD jk)) (uV (kD jk))) ∧ PV 40 (pV (kD ja) (kD jk)) (ja.toInt * jk.toInt * (1024 - jk.toInt) * (1024 - jk.toInt)) := by
  have q := own_kd h
  have qa := own_kd ha
  have u := own_u h
  unfold Kb at h ha
  have bu : 0 ≤ 1024 - jk.toInt ∧ 1024 - jk.toInt ≤ 1024 := by omega
  have b1 := own_mb ha h
  have b2 := own_mb b1 bu
  have b3 := own_mb b2 bu
  have m1 := own_cast (qa.mul q (by omega) (by omega)) (show 10 + 10 = 20 from rfl) rfl
  have m2 := own_cast (m1.mul u (by omega) (by omega)) (show 20 + 10 = 30 from rfl) rfl
  have m3 := own_cast (m2.mul u (by omega) (by omega)) (show 30 + 10 = 40 from rfl) rfl
  exact ⟨m1.nn, m2.nn, m3⟩
theorem own_qq (ha : Kb ja) (h : Kb jk) : Jvm.Free.Fl.NoNaN64 (FP.dmul (FP.dmul (kD ja) (kD jk)) (kD jk)) ∧ PV 40 (qV (kD ja) (kD jk)) (ja.toInt * jk.toInt * jk.toInt * (1024 - jk.toInt)) := by
  have q := own_kd h
  have qa := own_kd ha
  have u := own_u h
  unfold Kb at h ha
  have bu : 0 ≤ 1024 - jk.toInt ∧ 1024 - jk.toInt ≤ 1024 := by omega
  have b1 := own_mb ha h
  have b2 := own_mb b1 h
  have b3 := own_mb b2 bu
  have m1 := own_cast (qa.mul q (by omega) (by omega)) (show 10 + 10 = 20 from rfl) rfl
  have m2 := own_cast (m1.mul q (by omega) (by omega)) (show 20 + 10 = 30 from rfl) rfl
  have m3 := own_cast (m2.mul u (by omega) (by omega)) (show 30 + 10 = 40 from rfl) rfl
  exact ⟨m2.nn, m3⟩
theorem own_bs (ha : Kb ja) (h : Kb jk) : (0 ≤ jk.toInt * jk.toInt * (3072 - 2 * jk.toInt) ∧ jk.toInt * jk.toInt * (3072 - 2 * jk.toInt) ≤ 3221225472) ∧ (0 ≤ ja.toInt * jk.toInt * (1024 - jk.toInt) * (1024 - jk.toInt) ∧ ja.toInt * jk.toInt * (1024 - jk.toInt) * (1024 - jk.toInt) ≤ 1099511627776) ∧ (0 ≤ ja.toInt * jk.toInt * jk.toInt * (1024 - jk.toInt) ∧ ja.toInt * jk.toInt * jk.toInt * (1024 - jk.toInt) ≤ 1099511627776) := by
  unfold Kb at h ha
  have bu : 0 ≤ 1024 - jk.toInt ∧ 1024 - jk.toInt ≤ 1024 := by omega
  have b1 := own_mb ha h
  exact ⟨own_mb (own_mb h h) (show 0 ≤ 3072 - 2 * jk.toInt ∧ 3072 - 2 * jk.toInt ≤ 3072 by omega), own_mb (own_mb b1 bu) bu, own_mb (own_mb b1 h) bu⟩
theorem own_w1 (ha : Kb ja) (h : Kb jk) : Jvm.Free.Fl.NoNaN64 (FP.dsub (4607182418800017408 : UInt64) (sV (kD jk))) ∧ PV 40 (FP.dadd (FP.dsub (4607182418800017408 : UInt64) (sV (kD jk))) (qV (kD ja) (kD jk))) ((1073741824 - jk.toInt * jk.toInt * (3072 - 2 * jk.toInt)) * 1024 + ja.toInt * jk.toInt * jk.toInt * (1024 - jk.toInt)) := by
  obtain ⟨b1, b2, b3⟩ := own_bs ha h
  have o30 := own_cast (own_p1.up 30 (by omega)) (show 0 + 30 = 30 from rfl) (show (1 : Int) * ((2 ^ 30 : Nat) : Int) = 1073741824 from rfl)
  have m1 := o30.sub (own_s h).2.2.2 (by omega)
  have m2 := own_cast (m1.up 10 (by omega)) (show 30 + 10 = 40 from rfl) (show _ * ((2 ^ 10 : Nat) : Int) = (1073741824 - jk.toInt * jk.toInt * (3072 - 2 * jk.toInt)) * 1024 from rfl)
  exact ⟨m1.nn, m2.add (own_qq ha h).2 (by omega)⟩
theorem own_w2 (ha : Kb ja) (h : Kb jk) : PV 40 (FP.dadd (sV (kD jk)) (pV (kD ja) (kD jk))) (jk.toInt * jk.toInt * (3072 - 2 * jk.toInt) * 1024 + ja.toInt * jk.toInt * (1024 - jk.toInt) * (1024 - jk.toInt)) := by
  obtain ⟨b1, b2, b3⟩ := own_bs ha h
  have m2 := own_cast ((own_s h).2.2.2.up 10 (by omega)) (show 30 + 10 = 40 from rfl) (show _ * ((2 ^ 10 : Nat) : Int) = jk.toInt * jk.toInt * (3072 - 2 * jk.toInt) * 1024 from rfl)
  exact m2.add (own_p ha h).2.2 (by omega)
/-- times 2^40 -/
theorem own_sc {a : UInt64} {n : Int} (h : PV 40 a n) (hb : n.natAbs < 2 ^ 53) : PV 0 (FP.dmul a (4787326403894837248 : UInt64)) n := by
  obtain ⟨V, hV⟩ := PV.ex 0 n hb
  unfold PV at *
  refine ZV.mul h own_scale hV ?_
  have e : ((2 ^ (1074 - 40) : Nat) : Int) * ((2 ^ 40 : Nat) : Int) = ((2 ^ (1074 - 0) : Nat) : Int) := by
    rw [← Int.natCast_mul, ← Nat.pow_add]
  rw [← e]
  generalize ((2 ^ (1074 - 40) : Nat) : Int) = H
  generalize ((2 ^ 40 : Nat) : Int) = J
  generalize (one64 : Int) = o
  ac_rfl
theorem own_cmp {a : UInt64} {n : Int} {r : Int64} (h : PV 40 a n) (e : r = Int64.ofInt n) (hb : n.natAbs < 2 ^ 53) : (cmpValue (FP.dcmp (FP.dmul a (4787326403894837248 : UInt64)) (FP.l2d r)) .l) = (0 : Int32) := by
  have e2 : r.toInt = n := by rw [e, Int64.toInt_ofInt_of_le (by omega) (by omega)]
  have q := PV.of_int (own_l2d (n := r) (by rw [e2]; omega))
  exact PV.eq (own_sc h hb) q e2.symm
theorem own_of (x : Int64) : x = Int64.ofInt x.toInt := (Int64.ofInt_toInt x).symm
variable {kb kc r0 r1 r2 r3 : Int64}
theorem own_r0 (hb : (jk * jk) = kb) (hc : (kb * jk) = kc) (hr : ((((-ja) * kc) + ((((2 : Int64) * ja) * kb) * (1024 : Int64))) - ((ja * jk) * (1048576 : Int64))) = r0) : r0 = Int64.ofInt (-(ja.toInt * jk.toInt * (1024 - jk.toInt) * (1024 - jk.toInt))) := by
  have e : -(ja.toInt * jk.toInt * (1024 - jk.toInt) * (1024 - jk.toInt)) = (((-ja.toInt) * (jk.toInt * jk.toInt * jk.toInt)) + (((2 * ja.toInt) * (jk.toInt * jk.toInt)) * 1024)) - ((ja.toInt * jk.toInt) * 1048576) := by grind
  rw [e, ← hr, ← hc, ← hb]
  simp only [Int64.ofInt_add, Int64.ofInt_sub, Int64.ofInt_mul, Int64.ofInt_neg, Int64.ofInt_toInt]
  rfl
theorem own_r1 (hb : (jk * jk) = kb) (hc : (kb * jk) = kc) (hr : (((((2048 : Int64) - ja) * kc) + (((ja - (3072 : Int64)) * kb) * (1024 : Int64))) + (1099511627776 : Int64)) = r1) : r1 = Int64.ofInt ((1073741824 - jk.toInt * jk.toInt * (3072 - 2 * jk.toInt)) * 1024 + ja.toInt * jk.toInt * jk.toInt * (1024 - jk.toInt)) := by
  have e : (1073741824 - jk.toInt * jk.toInt * (3072 - 2 * jk.toInt)) * 1024 + ja.toInt * jk.toInt * jk.toInt * (1024 - jk.toInt) = (((2048 - ja.toInt) * (jk.toInt * jk.toInt * jk.toInt)) + (((ja.toInt - 3072) * (jk.toInt * jk.toInt)) * 1024)) + 1099511627776 := by grind
  rw [e, ← hr, ← hc, ← hb]
  simp only [Int64.ofInt_add, Int64.ofInt_sub, Int64.ofInt_mul, Int64.ofInt_neg, Int64.ofInt_toInt]
  rfl
theorem own_r2 (hb : (jk * jk) = kb) (hc : (kb * jk) = kc) (hr : ((((ja - (2048 : Int64)) * kc) + ((((3072 : Int64) - ((2 : Int64) * ja)) * kb) * (1024 : Int64))) + ((ja * jk) * (1048576 : Int64))) = r2) : r2 = Int64.ofInt (jk.toInt * jk.toInt * (3072 - 2 * jk.toInt) * 1024 + ja.toInt * jk.toInt * (1024 - jk.toInt) * (1024 - jk.toInt)) := by
  have e : jk.toInt * jk.toInt * (3072 - 2 * jk.toInt) * 1024 + ja.toInt * jk.toInt * (1024 - jk.toInt) * (1024 - jk.toInt) = (((ja.toInt - 2048) * (jk.toInt * jk.toInt * jk.toInt)) + (((3072 - (2 * ja.toInt)) * (jk.toInt * jk.toInt)) * 1024)) + ((ja.toInt * jk.toInt) * 1048576) := by grind
  rw [e, ← hr, ← hc, ← hb]
  simp only [Int64.ofInt_add, Int64.ofInt_sub, Int64.ofInt_mul, Int64.ofInt_neg, Int64.ofInt_toInt]
  rfl
theorem own_r3 (hb : (jk * jk) = kb) (hc : (kb * jk) = kc) (hr : ((ja * kc) - ((ja * kb) * (1024 : Int64))) = r3) : r3 = Int64.ofInt (-(ja.toInt * jk.toInt * jk.toInt * (1024 - jk.toInt))) := by
  have e : -(ja.toInt * jk.toInt * jk.toInt * (1024 - jk.toInt)) = (ja.toInt * (jk.toInt * jk.toInt * jk.toInt)) - ((ja.toInt * (jk.toInt * jk.toInt)) * 1024) := by grind
  rw [e, ← hr, ← hc, ← hb]
  simp only [Int64.ofInt_add, Int64.ofInt_sub, Int64.ofInt_mul, Int64.ofInt_neg, Int64.ofInt_toInt]
  rfl
theorem own_lo (h : Kb jk) : ¬ ((cmpValue (FP.dcmp (kD jk) (0 : UInt64)) .l) < (0 : Int32)) := by
  have q := own_kd h
  unfold Kb at h
  unfold PV at q
  rw [own_cl_lt, q.cmp own_zero, own_cmp_gt, own_cmp_eq]
  have := Int.mul_nonneg h.1 (Int.natCast_nonneg (2 ^ (1074 - 10)))
  generalize jk.toInt * ((2 ^ (1074 - 10) : Nat) : Int) = y at *
  omega
theorem own_hi (h : Kb jk) : ¬ ((0 : Int32) < (cmpValue (FP.dcmp (kD jk) (4607182418800017408 : UInt64)) .g)) := by
  have q := own_kd h
  unfold Kb at h
  unfold PV at q
  rw [own_cg_gt, q.cmp own_one, own_cmp_lt, own_cmp_eq, own_split 10 (by omega)]
  have h3 := Int.mul_le_mul_of_nonneg_right h.2 (Int.natCast_nonneg (2 ^ (1074 - 10)))
  rw [show ((2 ^ 10 : Nat) : Int) = 1024 from rfl]
  generalize ((2 ^ (1074 - 10) : Nat) : Int) = y at *
  generalize jk.toInt * y = u at *
  omega
end PureLaw

theorem d3_0 : decode prog_22_method_4_code 0 = .ok (.dload_n 1, 1) := by decide +kernel
theorem d3_1 : decode prog_22_method_4_code 1 = .ok (.dconst 0, 1) := by decide +kernel
theorem d3_2 : decode prog_22_method_4_code 2 = .ok (.dcmp .l, 1) := by decide +kernel
theorem d3_3 : decode prog_22_method_4_code 3 = .ok (.ifCond .lt 9, 3) := by decide +kernel
theorem d3_6 : decode prog_22_method_4_code 6 = .ok (.dload_n 1, 1) := by decide +kernel
theorem d3_7 : decode prog_22_method_4_code 7 = .ok (.dconst 1, 1) := by decide +kernel
theorem d3_8 : decode prog_22_method_4_code 8 = .ok (.dcmp .g, 1) := by decide +kernel
theorem d3_9 : decode prog_22_method_4_code 9 = .ok (.ifCond .le 18, 3) := by decide +kernel
theorem d3_27 : decode prog_22_method_4_code 27 = .ok (.dload_n 1, 1) := by decide +kernel
theorem d3_28 : decode prog_22_method_4_code 28 = .ok (.dreturn, 1) := by decide +kernel
theorem pn_0 : plainName "hermitage/Numbers" = true := by first | (simp [plainName, overriddenIn]; done) | decide +kernel
theorem ef_rm3 (m : MethodId) (a0 : Addr) (d1 : UInt64) : entryFrame m #[(.ref a0), (.double d1)] 3 = mkF m 0 #[.val (.ref a0), .val (.double d1), .second] [] := by first | (simp [entryFrame, mkF, argsToLocals, Value.category]; done) | rfl
def Q_rm3 (Z : State) (a0 : Addr) (d1 : UInt64) (h0 : Heap) (n0 : Nat) (v : Option Value) (h : Heap) (L : List Loc) : Prop := v = some (.double d1) ∧ Fr n0 L ∧ h = h0
set_option maxRecDepth 65536 in
set_option maxHeartbeats 40000000 in
theorem rm3 (l : Launch) (Z : State) (aw : Array Value) (hw : ∀ d ∈ tables_1, d.before aw Z = true) (ws : List Jvm.Cond) (a0 : Addr) (d1 : UInt64) (h0 : Heap) (n0 : Nat) (Z0 : n0 ≤ h0.size) (h1 : ¬ ((cmpValue (FP.dcmp d1 (0 : UInt64)) .l) < (0 : Int32))) (h2 : ¬ ((0 : Int32) < (cmpValue (FP.dcmp d1 (4607182418800017408 : UInt64)) .g))) :
    MetFree l (⟨"hermitage/Numbers", "requireUnit", "(Ljava/lang/String;D)D"⟩ : MethodName) (head1 (Jvm.Cond.code (⟨"hermitage/Numbers", "requireUnit", "(Ljava/lang/String;D)D"⟩ : MethodName) prog_22_method_4_code 3 (some .double) :: ws) ({ frames := 0, cells := 0, slots := 0, locals := 0 } : Room)) (fun a U => a = #[(.ref a0), (.double d1)] ∧ Z.Warmed39 U.vm ∧ U.heap = h0) (fun _ _ _ _ _ => True) (fun _ U o U' => ∃ v L, o = .returned v ∧ Q_rm3 Z a0 d1 h0 n0 v U'.heap L ∧ FrameEnd U o U' L ({ frames := 0, cells := 0, slots := 0, locals := 0 } : Room).cells ({ frames := 0, cells := 0, slots := 0, locals := 0 } : Room).slots) := by
  refine MetFree.of_bodySF (plainFor_of_name pn_0) hisR ?_
  intro p e s m args below meth c s₁ Bd hml0 hP hK
  obtain ⟨rfl, hZ, hh⟩ := hP
  have hx := Bd.exec
  have hby := Bd.bytes
  have hml : c.maxLocals = 3 := hml0
  have hown : s.vm.findClass "hermitage/Numbers" = some m.cls := findClass_of_methodNamed Bd.named
  have hnm := (name_of_methodNamed Bd.named Bd.method).1
  have hlk : meth.locks = false := BodyLoose.notSynchronized Bd
  have X0 : Stand p l e ({ frames := 0, cells := 0, slots := 0, locals := 0 } : Room) s m #[(.ref a0), (.double d1)] below meth c s₁ [] 0 0 := Stand.of_body Bd
  have e0 : s₁.heap = h0 := by rw [← hh, Bd.state]; rfl
  have N0 := Fr.nil n0
  have ZZ := Z0
  show Go p e below s ({ frames := 0, cells := 0, slots := 0, locals := 0 } : Room).cells ({ frames := 0, cells := 0, slots := 0, locals := 0 } : Room).slots (fun v h L => Q_rm3 Z a0 d1 h0 n0 v h L) s₁ (entryFrame m #[(.ref a0), (.double d1)] 3)
  refine Go.cast (ef_rm3 m a0 d1) ?_
  refine Go.gen ?_
  intro K1 K2 QQ hK1 hK2 hQQ
  refine Go.on (fun _ k => XS.dloadN X0.here hx rfl (hb hby d3_0) rfl k) ?_
  show Go _ _ _ _ _ _ _ _ (mkF m 1 #[.val (.ref a0), .val (.double d1), .second] [(.double d1)])
  refine Go.on (fun _ k => XS.dconst0 X0.here hx rfl (v := (0 : UInt64)) (hb hby d3_1) rfl k) ?_
  show Go _ _ _ _ _ _ _ _ (mkF m 2 #[.val (.ref a0), .val (.double d1), .second] [(.double (0 : UInt64)), (.double d1)])
  refine Go.on (fun _ k => XS.dcmpS X0.here hx rfl (hb hby d3_2) rfl rfl k) ?_
  show Go _ _ _ _ _ _ _ _ (mkF m 3 #[.val (.ref a0), .val (.double d1), .second] [(.int (cmpValue (FP.dcmp d1 (0 : UInt64)) .l))])
  have hc1 : ¬ ((cmpValue (FP.dcmp d1 (0 : UInt64)) .l) < (0 : Int32)) := h1
  refine Go.on (fun _ k => XS.ifNo X0.here hx rfl (hb hby d3_3) rfl ((if0 _ _).trans (flt hc1).1) k) ?_
  show Go _ _ _ _ _ _ _ _ (mkF m 6 #[.val (.ref a0), .val (.double d1), .second] [])
  refine Go.on (fun _ k => XS.dloadN X0.here hx rfl (hb hby d3_6) rfl k) ?_
  show Go _ _ _ _ _ _ _ _ (mkF m 7 #[.val (.ref a0), .val (.double d1), .second] [(.double d1)])
  refine Go.on (fun _ k => XS.dconst1 X0.here hx rfl (v := (4607182418800017408 : UInt64)) (hb hby d3_7) rfl k) ?_
  show Go _ _ _ _ _ _ _ _ (mkF m 8 #[.val (.ref a0), .val (.double d1), .second] [(.double (4607182418800017408 : UInt64)), (.double d1)])
  refine Go.on (fun _ k => XS.dcmpS X0.here hx rfl (hb hby d3_8) rfl rfl k) ?_
  show Go _ _ _ _ _ _ _ _ (mkF m 9 #[.val (.ref a0), .val (.double d1), .second] [(.int (cmpValue (FP.dcmp d1 (4607182418800017408 : UInt64)) .g))])
  have hc2 : ¬ ((0 : Int32) < (cmpValue (FP.dcmp d1 (4607182418800017408 : UInt64)) .g)) := h2
  refine Go.on (fun _ k => XS.ifYes X0.here hx rfl (pc0 := 9) (pc' := 27) rfl (hb hby d3_9) rfl ((if0 _ _).trans (flt hc2).2.2.2) (by decide) (by decide) k) ?_
  show Go _ _ _ _ _ _ _ _ (mkF m 27 #[.val (.ref a0), .val (.double d1), .second] [])
  refine Go.on (fun _ k => XS.dloadN X0.here hx rfl (hb hby d3_27) rfl k) ?_
  show Go _ _ _ _ _ _ _ _ (mkF m 28 #[.val (.ref a0), .val (.double d1), .second] [(.double d1)])
  refine Go.retV X0 hx Bd.returns rfl (Or.inr (Or.inr (Or.inl ⟨rfl, rfl, _, rfl⟩))) (hb hby d3_28) ?_ (by rw [hK1]; decide) (by rw [hK2]; decide)
  rw [e0, ← hQQ]
  exact ⟨rfl, N0, rfl⟩
theorem pd_0 : parseMethodDescriptor "(Ljava/lang/String;D)D" = some ⟨[(.object "java/lang/String"), .double], some .double⟩ := by decide +kernel
theorem d1_0 : decode prog_6_method_1_code 0 = .ok (.aload_n 0, 1) := by decide +kernel
theorem d1_1 : decode prog_6_method_1_code 1 = .ok (.invokespecial 1, 3) := by decide +kernel
theorem d1_4 : decode prog_6_method_1_code 4 = .ok (.aload_n 0, 1) := by decide +kernel
theorem d1_5 : decode prog_6_method_1_code 5 = .ok (.ldc 7, 2) := by decide +kernel
theorem d1_7 : decode prog_6_method_1_code 7 = .ok (.dload_n 1, 1) := by decide +kernel
theorem d1_8 : decode prog_6_method_1_code 8 = .ok (.invokestatic 9, 3) := by decide +kernel
theorem d1_11 : decode prog_6_method_1_code 11 = .ok (.putfield 15, 3) := by decide +kernel
theorem d1_14 : decode prog_6_method_1_code 14 = .ok (.return_, 1) := by decide +kernel
theorem pn_1 : plainName "hermitage/Cubic" = true := by first | (simp [plainName, overriddenIn]; done) | decide +kernel
theorem ef_rm1 (m : MethodId) (a0 : Addr) (d1 : UInt64) : entryFrame m #[(.ref a0), (.double d1)] 3 = mkF m 0 #[.val (.ref a0), .val (.double d1), .second] [] := by first | (simp [entryFrame, mkF, argsToLocals, Value.category]; done) | rfl
def Q_rm1 (Z : State) (a0 : Addr) (d1 : UInt64) (h0 : Heap) (n0 : Nat) (v : Option Value) (h : Heap) (L : List Loc) : Prop := v = none ∧ Fr n0 L ∧ Keep h0 h [a0] ∧ Exa Z h a0 "hermitage/Cubic" ∧ Fld Z h a0 "hermitage/Cubic" "alpha" "D" (.double d1)
set_option maxRecDepth 65536 in
set_option maxHeartbeats 40000000 in
theorem rm1 (l : Launch) (Z : State) (aw : Array Value) (hw : ∀ d ∈ tables_1, d.before aw Z = true) (ws : List Jvm.Cond) (a0 : Addr) (d1 : UInt64) (h0 : Heap) (n0 : Nat) (Z0 : n0 ≤ h0.size) (E_a0 : Exa Z h0 a0 "hermitage/Cubic") (F_alpha_a0 : Fld Z h0 a0 "hermitage/Cubic" "alpha" "D" (.double (0 : UInt64))) (g_a0 : n0 ≤ a0) (l1 : ¬ ((cmpValue (FP.dcmp d1 (0 : UInt64)) .l) < (0 : Int32))) (u1 : ¬ ((0 : Int32) < (cmpValue (FP.dcmp d1 (4607182418800017408 : UInt64)) .g))) :
    MetFree l (⟨"hermitage/Cubic", "<init>", "(D)V"⟩ : MethodName) (head1 (Jvm.Cond.code (⟨"hermitage/Cubic", "<init>", "(D)V"⟩ : MethodName) prog_6_method_1_code 3 none :: ws) ({ frames := 1, cells := 2, slots := 24, locals := 15 } : Room)) (fun a U => a = #[(.ref a0), (.double d1)] ∧ Z.Warmed39 U.vm ∧ U.heap = h0) (fun _ _ _ _ _ => True) (fun _ U o U' => ∃ v L, o = .returned v ∧ Q_rm1 Z a0 d1 h0 n0 v U'.heap L ∧ ReturnedEndW U o U' L ({ frames := 1, cells := 2, slots := 24, locals := 15 } : Room).cells ({ frames := 1, cells := 2, slots := 24, locals := 15 } : Room).slots) := by
  refine MetFree.of_bodySF (plainFor_of_name pn_1) hisR ?_
  intro p e s m args below meth c s₁ Bd hml0 hP hK
  obtain ⟨rfl, hZ, hh⟩ := hP
  have hx := Bd.exec
  have hby := Bd.bytes
  have hml : c.maxLocals = 3 := hml0
  have hown : s.vm.findClass "hermitage/Cubic" = some m.cls := findClass_of_methodNamed Bd.named
  have hnm := (name_of_methodNamed Bd.named Bd.method).1
  have hlk : meth.locks = false := BodyLoose.notSynchronized Bd
  have X0 : Stand p l e ({ frames := 1, cells := 2, slots := 24, locals := 15 } : Room) (s.setVm s.vm) m #[(.ref a0), (.double d1)] below meth c s₁ [] 0 0 := Stand.of_body Bd
  have e0 : s₁.heap = h0 := by rw [← hh, Bd.state]; rfl
  have N0 := Fr.nil n0
  have ZZ := Z0
  show GoW p e below s ({ frames := 1, cells := 2, slots := 24, locals := 15 } : Room).cells ({ frames := 1, cells := 2, slots := 24, locals := 15 } : Room).slots (fun v h L => Q_rm1 Z a0 d1 h0 n0 v h L) s₁ (entryFrame m #[(.ref a0), (.double d1)] 3)
  refine GoW.cast (ef_rm1 m a0 d1) ?_
  refine GoW.gen ?_
  intro K1 K2 QQ hK1 hK2 hQQ
  have HS : s.Since s.vm s.heap.size := (State.WarmedH.refl s).since _
  have HK : s.heap.size ≤ h0.size := by rw [hh]; exact Nat.le_refl _
  replace hZ : Z.Warmed39 (s.setVm s.vm).vm := hZ
  replace hown : (s.setVm s.vm).vm.findClass "hermitage/Cubic" = some m.cls := hown
  have KP : Keep h0 h0 [a0] := Keep.refl _ _
  refine GoW.on (fun _ k => XS.aloadN X0.here hx rfl (hb hby d1_0) rfl rfl k) ?_
  show GoW _ _ _ _ _ _ _ _ (mkF m 1 #[.val (.ref a0), .val (.double d1), .second] [(.ref a0)])
  obtain ⟨T1, X1, e1, st1⟩ := initO X0 hx hZ hown (hw _ (List.mem_of_getElem? (i := 9) rfl)) (hw _ (List.mem_of_getElem? (i := 10) rfl)) (hw _ (List.mem_of_getElem? (i := 11) rfl)) e0 (g := (mkF m 1 #[.val (.ref a0), .val (.double d1), .second] [(.ref a0)])) rfl (by rw [hml]; rfl) rfl (hb hby d1_1) (by decide) (W := 0) (by show 2 * 0 + _ ≤ _; exact Nat.le_of_eq rfl) (by decide)
  refine GoW.on st1 ?_
  show GoW _ _ _ _ _ _ _ _ (mkF m 4 #[.val (.ref a0), .val (.double d1), .second] [])
  refine GoW.on (fun _ k => XS.aloadN X1.here hx rfl (hb hby d1_4) rfl rfl k) ?_
  show GoW _ _ _ _ _ _ _ _ (mkF m 5 #[.val (.ref a0), .val (.double d1), .second] [(.ref a0)])
  obtain ⟨sa2, T2, h2, kk2, X2, e2, E2, HS2, HK2, hZ2, hown2, st2⟩ := Jvm.RoadKit.ldcS X1 hx hZ hown (hw _ (List.mem_of_getElem? (i := 12) rfl)) (own_wS hw) e1 HS HK (g := (mkF m 5 #[.val (.ref a0), .val (.double d1), .second] [(.ref a0)])) rfl (hb hby d1_5) (n := 20) (by decide) (by decide) (by decide) (by decide)
  replace E_a0 := E_a0.ext E2
  replace F_alpha_a0 := F_alpha_a0.ext E2
  replace ZZ := Nat.le_trans ZZ E2.1
  replace KP := KP.ext E2
  replace HS := HS2
  replace HK := HK2
  replace hZ := hZ2
  replace hown := hown2
  refine GoW.on st2 ?_
  show GoW _ _ _ _ _ _ _ _ (mkF m 7 #[.val (.ref a0), .val (.double d1), .second] [(.ref sa2), (.ref a0)])
  refine GoW.on (fun _ k => XS.dloadN X2.here hx rfl (hb hby d1_7) rfl k) ?_
  show GoW _ _ _ _ _ _ _ _ (mkF m 8 #[.val (.ref a0), .val (.double d1), .second] [(.double d1), (.ref sa2), (.ref a0)])
  obtain ⟨_, _, ⟨T3, L3, k3, n3⟩, -, X3, ⟨Lc3, hQ3, l3, y3, z3⟩, st3⟩ := Jvm.LawKit.callS X2 hx (y := (⟨"hermitage/Numbers", "requireUnit", "(Ljava/lang/String;D)D"⟩ : MethodName)) hown (mvT hZ (hw _ (List.mem_of_getElem? (i := 20) rfl))) (mvT hZ (hw _ (List.mem_of_getElem? (i := 21) rfl))) (mvT hZ (hw _ (List.mem_of_getElem? (i := 22) rfl))) (mvT hZ (hw _ (List.mem_of_getElem? (i := 23) rfl))) (by decide) (backOf (W := 1) (rm3 l Z aw hw [] sa2 d1  h2 n0 ZZ l1 u1) hZ (hw _ (List.mem_of_getElem? (i := 23) rfl)) (hw _ (List.mem_of_getElem? (i := 22) rfl)) (by decide) (by decide)) (g := (mkF m 8 #[.val (.ref a0), .val (.double d1), .second] [(.double d1), (.ref sa2), (.ref a0)])) rfl (by rw [hml]; rfl) (argsL := [(.ref sa2), (.double d1)]) (rest := [(.ref a0)]) (lenOf pd_0 rfl) rfl (by show 2 * 0 + _ ≤ _; exact Nat.le_of_eq rfl) (hb hby d1_8) (fun _ _ => ⟨rfl, e2, (by decide : 2 + 0 ≤ _), (by decide : 24 + 0 ≤ _)⟩)
  dsimp only [Pt.U, Pt.locs, Pt.cells, Pt.slots] at X3 l3 y3 z3 st3 hQ3
  subst l3 y3 z3
  obtain ⟨rfl, N3q, e3⟩ := hQ3
  have N3 := Fr.app N0 N3q
  refine GoW.on st3 ?_
  show GoW _ _ _ _ _ _ _ _ (mkF m 11 #[.val (.ref a0), .val (.double d1), .second] [(.double d1), (.ref a0)])
  obtain ⟨T4, h4, X4, e4, W4, st4⟩ := putF X3 hx hZ hown (host := "") (Or.inl (hw _ (List.mem_of_getElem? (i := 24) rfl))) Via.refl e3 F_alpha_a0 E_a0 (Or.inr ⟨(hw _ (List.mem_of_getElem? (i := 25) rfl)), rfl, hnm⟩) (hw _ (List.mem_of_getElem? (i := 3) rfl)) (ty := .double) (by decide) rfl rfl (g := (mkF m 11 #[.val (.ref a0), .val (.double d1), .second] [(.double d1), (.ref a0)])) rfl rfl (hb hby d1_11)
  refine GoW.on st4 ?_
  replace F_alpha_a0 := F_alpha_a0.same W4
  replace E_a0 := E_a0.wr W4
  have N4 := Fr.snoc X4 N3 g_a0
  replace ZZ := Nat.le_trans ZZ (Keep.of_wr W4).1
  replace HK := Nat.le_trans HK (Keep.of_wr W4).1
  replace KP := KP.wr W4 (Or.inl (List.mem_of_getElem? (i := 0) rfl))
  show GoW _ _ _ _ _ _ _ _ (mkF m 14 #[.val (.ref a0), .val (.double d1), .second] [])
  refine GoW.ret0 X4 hx HS (by rw [e4]; exact HK) Bd.returns (hb hby d1_14) ?_ (by rw [hK1]; decide) (by rw [hK2]; decide)
  rw [e4, ← hQQ]
  exact ⟨rfl, N4, KP, E_a0, F_alpha_a0⟩
theorem d4_0 : decode prog_6_method_9_code 0 = .ok (.dconst 1, 1) := by decide +kernel
theorem d4_1 : decode prog_6_method_9_code 1 = .ok (.dload_n 1, 1) := by decide +kernel
theorem d4_2 : decode prog_6_method_9_code 2 = .ok (.dsub, 1) := by decide +kernel
theorem d4_3 : decode prog_6_method_9_code 3 = .ok (.dstore_n 3, 1) := by decide +kernel
theorem d4_4 : decode prog_6_method_9_code 4 = .ok (.dload_n 1, 1) := by decide +kernel
theorem d4_5 : decode prog_6_method_9_code 5 = .ok (.dload_n 1, 1) := by decide +kernel
theorem d4_6 : decode prog_6_method_9_code 6 = .ok (.dmul, 1) := by decide +kernel
theorem d4_7 : decode prog_6_method_9_code 7 = .ok (.ldc2_w 145, 3) := by decide +kernel
theorem d4_10 : decode prog_6_method_9_code 10 = .ok (.ldc2_w 147, 3) := by decide +kernel
theorem d4_13 : decode prog_6_method_9_code 13 = .ok (.dload_n 1, 1) := by decide +kernel
theorem d4_14 : decode prog_6_method_9_code 14 = .ok (.dmul, 1) := by decide +kernel
theorem d4_15 : decode prog_6_method_9_code 15 = .ok (.dsub, 1) := by decide +kernel
theorem d4_16 : decode prog_6_method_9_code 16 = .ok (.dmul, 1) := by decide +kernel
theorem d4_17 : decode prog_6_method_9_code 17 = .ok (.dstore 5, 2) := by decide +kernel
theorem d4_19 : decode prog_6_method_9_code 19 = .ok (.aload_n 0, 1) := by decide +kernel
theorem d4_20 : decode prog_6_method_9_code 20 = .ok (.getfield 15, 3) := by decide +kernel
theorem d4_23 : decode prog_6_method_9_code 23 = .ok (.dload_n 1, 1) := by decide +kernel
theorem d4_24 : decode prog_6_method_9_code 24 = .ok (.dmul, 1) := by decide +kernel
theorem d4_25 : decode prog_6_method_9_code 25 = .ok (.dload_n 3, 1) := by decide +kernel
theorem d4_26 : decode prog_6_method_9_code 26 = .ok (.dmul, 1) := by decide +kernel
theorem d4_27 : decode prog_6_method_9_code 27 = .ok (.dload_n 3, 1) := by decide +kernel
theorem d4_28 : decode prog_6_method_9_code 28 = .ok (.dmul, 1) := by decide +kernel
theorem d4_29 : decode prog_6_method_9_code 29 = .ok (.dstore 7, 2) := by decide +kernel
theorem d4_31 : decode prog_6_method_9_code 31 = .ok (.aload_n 0, 1) := by decide +kernel
theorem d4_32 : decode prog_6_method_9_code 32 = .ok (.getfield 15, 3) := by decide +kernel
theorem d4_35 : decode prog_6_method_9_code 35 = .ok (.dload_n 1, 1) := by decide +kernel
theorem d4_36 : decode prog_6_method_9_code 36 = .ok (.dmul, 1) := by decide +kernel
theorem d4_37 : decode prog_6_method_9_code 37 = .ok (.dload_n 1, 1) := by decide +kernel
theorem d4_38 : decode prog_6_method_9_code 38 = .ok (.dmul, 1) := by decide +kernel
theorem d4_39 : decode prog_6_method_9_code 39 = .ok (.dload_n 3, 1) := by decide +kernel
theorem d4_40 : decode prog_6_method_9_code 40 = .ok (.dmul, 1) := by decide +kernel
theorem d4_41 : decode prog_6_method_9_code 41 = .ok (.dstore 9, 2) := by decide +kernel
theorem d4_43 : decode prog_6_method_9_code 43 = .ok (.iconst 4, 1) := by decide +kernel
theorem d4_44 : decode prog_6_method_9_code 44 = .ok (.newarray .double, 2) := by decide +kernel
theorem d4_46 : decode prog_6_method_9_code 46 = .ok (.dup, 1) := by decide +kernel
theorem d4_47 : decode prog_6_method_9_code 47 = .ok (.iconst 0, 1) := by decide +kernel
theorem d4_48 : decode prog_6_method_9_code 48 = .ok (.dload 7, 2) := by decide +kernel
theorem d4_50 : decode prog_6_method_9_code 50 = .ok (.dneg, 1) := by decide +kernel
theorem d4_51 : decode prog_6_method_9_code 51 = .ok (.dastore, 1) := by decide +kernel
theorem d4_52 : decode prog_6_method_9_code 52 = .ok (.dup, 1) := by decide +kernel
theorem d4_53 : decode prog_6_method_9_code 53 = .ok (.iconst 1, 1) := by decide +kernel
theorem d4_54 : decode prog_6_method_9_code 54 = .ok (.dconst 1, 1) := by decide +kernel
theorem d4_55 : decode prog_6_method_9_code 55 = .ok (.dload 5, 2) := by decide +kernel
theorem d4_57 : decode prog_6_method_9_code 57 = .ok (.dsub, 1) := by decide +kernel
theorem d4_58 : decode prog_6_method_9_code 58 = .ok (.dload 9, 2) := by decide +kernel
theorem d4_60 : decode prog_6_method_9_code 60 = .ok (.dadd, 1) := by decide +kernel
theorem d4_61 : decode prog_6_method_9_code 61 = .ok (.dastore, 1) := by decide +kernel
theorem d4_62 : decode prog_6_method_9_code 62 = .ok (.dup, 1) := by decide +kernel
theorem d4_63 : decode prog_6_method_9_code 63 = .ok (.iconst 2, 1) := by decide +kernel
theorem d4_64 : decode prog_6_method_9_code 64 = .ok (.dload 5, 2) := by decide +kernel
theorem d4_66 : decode prog_6_method_9_code 66 = .ok (.dload 7, 2) := by decide +kernel
theorem d4_68 : decode prog_6_method_9_code 68 = .ok (.dadd, 1) := by decide +kernel
theorem d4_69 : decode prog_6_method_9_code 69 = .ok (.dastore, 1) := by decide +kernel
theorem d4_70 : decode prog_6_method_9_code 70 = .ok (.dup, 1) := by decide +kernel
theorem d4_71 : decode prog_6_method_9_code 71 = .ok (.iconst 3, 1) := by decide +kernel
theorem d4_72 : decode prog_6_method_9_code 72 = .ok (.dload 9, 2) := by decide +kernel
theorem d4_74 : decode prog_6_method_9_code 74 = .ok (.dneg, 1) := by decide +kernel
theorem d4_75 : decode prog_6_method_9_code 75 = .ok (.dastore, 1) := by decide +kernel
theorem d4_76 : decode prog_6_method_9_code 76 = .ok (.areturn, 1) := by decide +kernel
theorem ef_rm4 (m : MethodId) (a0 : Addr) (d1 : UInt64) : entryFrame m #[(.ref a0), (.double d1)] 11 = mkF m 0 #[.val (.ref a0), .val (.double d1), .second, .unset, .unset, .unset, .unset, .unset, .unset, .unset, .unset] [] := by first | (simp [entryFrame, mkF, argsToLocals, Value.category]; done) | rfl
def Q_rm4 (Z : State) (a0 : Addr) (d1 : UInt64) (al : UInt64) (h0 : Heap) (n0 : Nat) (v : Option Value) (h : Heap) (L : List Loc) : Prop := ∃ (ar : Addr) (k_ar : ClassId), v = some (.ref ar) ∧ Fr n0 L ∧ Keep h0 h [] ∧ h0.size ≤ ar ∧ Arv Z h ar k_ar .double (4 : Int32) [(.double (FP.dneg (pV al d1))), (.double (FP.dadd (FP.dsub (4607182418800017408 : UInt64) (sV d1)) (qV al d1))), (.double (FP.dadd (sV d1) (pV al d1))), (.double (FP.dneg (qV al d1)))] (.double (0 : UInt64))
set_option maxRecDepth 65536 in
set_option maxHeartbeats 40000000 in
theorem rm4 (l : Launch) (Z : State) (aw : Array Value) (hw : ∀ d ∈ tables_1, d.before aw Z = true) (ws : List Jvm.Cond) (a0 : Addr) (d1 : UInt64) (al : UInt64) (h0 : Heap) (n0 : Nat) (Z0 : n0 ≤ h0.size) (F_alpha_a0 : Fld Z h0 a0 "hermitage/Cubic" "alpha" "D" (.double al)) (hu_ : Jvm.Free.Fl.NoNaN64 (uV d1)) (ht_ : Jvm.Free.Fl.NoNaN64 (FP.dmul d1 d1)) (h2_ : Jvm.Free.Fl.NoNaN64 (FP.dmul (4611686018427387904 : UInt64) d1)) (h3_ : Jvm.Free.Fl.NoNaN64 (FP.dsub (4613937818241073152 : UInt64) (FP.dmul (4611686018427387904 : UInt64) d1))) (hs_ : Jvm.Free.Fl.NoNaN64 (sV d1)) (ha_ : Jvm.Free.Fl.NoNaN64 (FP.dmul al d1)) (hau_ : Jvm.Free.Fl.NoNaN64 (FP.dmul (FP.dmul al d1) (uV d1))) (hp_ : Jvm.Free.Fl.NoNaN64 (pV al d1)) (hat_ : Jvm.Free.Fl.NoNaN64 (FP.dmul (FP.dmul al d1) d1)) (hq_ : Jvm.Free.Fl.NoNaN64 (qV al d1)) (h1s_ : Jvm.Free.Fl.NoNaN64 (FP.dsub (4607182418800017408 : UInt64) (sV d1))) (hw1_ : Jvm.Free.Fl.NoNaN64 (FP.dadd (FP.dsub (4607182418800017408 : UInt64) (sV d1)) (qV al d1))) (hw2_ : Jvm.Free.Fl.NoNaN64 (FP.dadd (sV d1) (pV al d1))) :
    MetFree l (⟨"hermitage/Cubic", "weights", "(D)[D"⟩ : MethodName) (head1 (Jvm.Cond.code (⟨"hermitage/Cubic", "weights", "(D)[D"⟩ : MethodName) prog_6_method_9_code 11 (some (.array .double)) :: ws) ({ frames := 0, cells := 1, slots := 4, locals := 0 } : Room)) (fun a U => a = #[(.ref a0), (.double d1)] ∧ Z.Warmed39 U.vm ∧ U.heap = h0) (fun _ _ _ _ _ => True) (fun _ U o U' => ∃ v L, o = .returned v ∧ Q_rm4 Z a0 d1 al h0 n0 v U'.heap L ∧ FrameEnd U o U' L ({ frames := 0, cells := 1, slots := 4, locals := 0 } : Room).cells ({ frames := 0, cells := 1, slots := 4, locals := 0 } : Room).slots) := by
  refine MetFree.of_bodySF (plainFor_of_name pn_1) hisR ?_
  intro p e s m args below meth c s₁ Bd hml0 hP hK
  obtain ⟨rfl, hZ, hh⟩ := hP
  have hx := Bd.exec
  have hby := Bd.bytes
  have hml : c.maxLocals = 11 := hml0
  have hown : s.vm.findClass "hermitage/Cubic" = some m.cls := findClass_of_methodNamed Bd.named
  have hnm := (name_of_methodNamed Bd.named Bd.method).1
  have hlk : meth.locks = false := BodyLoose.notSynchronized Bd
  have X0 : Stand p l e ({ frames := 0, cells := 1, slots := 4, locals := 0 } : Room) s m #[(.ref a0), (.double d1)] below meth c s₁ [] 0 0 := Stand.of_body Bd
  have e0 : s₁.heap = h0 := by rw [← hh, Bd.state]; rfl
  have N0 := Fr.nil n0
  have ZZ := Z0
  show Go p e below s ({ frames := 0, cells := 1, slots := 4, locals := 0 } : Room).cells ({ frames := 0, cells := 1, slots := 4, locals := 0 } : Room).slots (fun v h L => Q_rm4 Z a0 d1 al h0 n0 v h L) s₁ (entryFrame m #[(.ref a0), (.double d1)] 11)
  refine Go.cast (ef_rm4 m a0 d1) ?_
  refine Go.gen ?_
  intro K1 K2 QQ hK1 hK2 hQQ
  have KP : Keep h0 h0 [] := Keep.refl _ _
  refine Go.on (fun _ k => XS.dconst1 X0.here hx rfl (v := (4607182418800017408 : UInt64)) (hb hby d4_0) rfl k) ?_
  show Go _ _ _ _ _ _ _ _ (mkF m 1 #[.val (.ref a0), .val (.double d1), .second, .unset, .unset, .unset, .unset, .unset, .unset, .unset, .unset] [(.double (4607182418800017408 : UInt64))])
  refine Go.on (fun _ k => XS.dloadN X0.here hx rfl (hb hby d4_1) rfl k) ?_
  show Go _ _ _ _ _ _ _ _ (mkF m 2 #[.val (.ref a0), .val (.double d1), .second, .unset, .unset, .unset, .unset, .unset, .unset, .unset, .unset] [(.double d1), (.double (4607182418800017408 : UInt64))])
  refine Go.on (fun _ k => XS.dsubS X0.here hx rfl (hb hby d4_2) rfl (hu_) rfl k) ?_
  show Go _ _ _ _ _ _ _ _ (mkF m 3 #[.val (.ref a0), .val (.double d1), .second, .unset, .unset, .unset, .unset, .unset, .unset, .unset, .unset] [(.double (FP.dsub (4607182418800017408 : UInt64) d1))])
  refine Go.on (fun _ k => XS.dstoreN X0.here hx rfl (hb hby d4_3) rfl (l' := #[.val (.ref a0), .val (.double d1), .second, .val (.double (FP.dsub (4607182418800017408 : UInt64) d1)), .second, .unset, .unset, .unset, .unset, .unset, .unset]) rfl k) ?_
  show Go _ _ _ _ _ _ _ _ (mkF m 4 #[.val (.ref a0), .val (.double d1), .second, .val (.double (FP.dsub (4607182418800017408 : UInt64) d1)), .second, .unset, .unset, .unset, .unset, .unset, .unset] [])
  refine Go.on (fun _ k => XS.dloadN X0.here hx rfl (hb hby d4_4) rfl k) ?_
  show Go _ _ _ _ _ _ _ _ (mkF m 5 #[.val (.ref a0), .val (.double d1), .second, .val (.double (FP.dsub (4607182418800017408 : UInt64) d1)), .second, .unset, .unset, .unset, .unset, .unset, .unset] [(.double d1)])
  refine Go.on (fun _ k => XS.dloadN X0.here hx rfl (hb hby d4_5) rfl k) ?_
  show Go _ _ _ _ _ _ _ _ (mkF m 6 #[.val (.ref a0), .val (.double d1), .second, .val (.double (FP.dsub (4607182418800017408 : UInt64) d1)), .second, .unset, .unset, .unset, .unset, .unset, .unset] [(.double d1), (.double d1)])
  refine Go.on (fun _ k => XS.dmulS X0.here hx rfl (hb hby d4_6) rfl (ht_) rfl k) ?_
  show Go _ _ _ _ _ _ _ _ (mkF m 7 #[.val (.ref a0), .val (.double d1), .second, .val (.double (FP.dsub (4607182418800017408 : UInt64) d1)), .second, .unset, .unset, .unset, .unset, .unset, .unset] [(.double (FP.dmul d1 d1))])
  refine Go.on (X0.ldc2DoubleC hx hown (mvT hZ (hw _ (List.mem_of_getElem? (i := 31) rfl))) (g := (mkF m 7 #[.val (.ref a0), .val (.double d1), .second, .val (.double (FP.dsub (4607182418800017408 : UInt64) d1)), .second, .unset, .unset, .unset, .unset, .unset, .unset] [(.double (FP.dmul d1 d1))])) rfl (hb hby d4_7)) ?_
  show Go _ _ _ _ _ _ _ _ (mkF m 10 #[.val (.ref a0), .val (.double d1), .second, .val (.double (FP.dsub (4607182418800017408 : UInt64) d1)), .second, .unset, .unset, .unset, .unset, .unset, .unset] [(.double (4613937818241073152 : UInt64)), (.double (FP.dmul d1 d1))])
  refine Go.on (X0.ldc2DoubleC hx hown (mvT hZ (hw _ (List.mem_of_getElem? (i := 32) rfl))) (g := (mkF m 10 #[.val (.ref a0), .val (.double d1), .second, .val (.double (FP.dsub (4607182418800017408 : UInt64) d1)), .second, .unset, .unset, .unset, .unset, .unset, .unset] [(.double (4613937818241073152 : UInt64)), (.double (FP.dmul d1 d1))])) rfl (hb hby d4_10)) ?_
  show Go _ _ _ _ _ _ _ _ (mkF m 13 #[.val (.ref a0), .val (.double d1), .second, .val (.double (FP.dsub (4607182418800017408 : UInt64) d1)), .second, .unset, .unset, .unset, .unset, .unset, .unset] [(.double (4611686018427387904 : UInt64)), (.double (4613937818241073152 : UInt64)), (.double (FP.dmul d1 d1))])
  refine Go.on (fun _ k => XS.dloadN X0.here hx rfl (hb hby d4_13) rfl k) ?_
  show Go _ _ _ _ _ _ _ _ (mkF m 14 #[.val (.ref a0), .val (.double d1), .second, .val (.double (FP.dsub (4607182418800017408 : UInt64) d1)), .second, .unset, .unset, .unset, .unset, .unset, .unset] [(.double d1), (.double (4611686018427387904 : UInt64)), (.double (4613937818241073152 : UInt64)), (.double (FP.dmul d1 d1))])
  refine Go.on (fun _ k => XS.dmulS X0.here hx rfl (hb hby d4_14) rfl (h2_) rfl k) ?_
  show Go _ _ _ _ _ _ _ _ (mkF m 15 #[.val (.ref a0), .val (.double d1), .second, .val (.double (FP.dsub (4607182418800017408 : UInt64) d1)), .second, .unset, .unset, .unset, .unset, .unset, .unset] [(.double (FP.dmul (4611686018427387904 : UInt64) d1)), (.double (4613937818241073152 : UInt64)), (.double (FP.dmul d1 d1))])
  refine Go.on (fun _ k => XS.dsubS X0.here hx rfl (hb hby d4_15) rfl (h3_) rfl k) ?_
  show Go _ _ _ _ _ _ _ _ (mkF m 16 #[.val (.ref a0), .val (.double d1), .second, .val (.double (FP.dsub (4607182418800017408 : UInt64) d1)), .second, .unset, .unset, .unset, .unset, .unset, .unset] [(.double (FP.dsub (4613937818241073152 : UInt64) (FP.dmul (4611686018427387904 : UInt64) d1))), (.double (FP.dmul d1 d1))])
  refine Go.on (fun _ k => XS.dmulS X0.here hx rfl (hb hby d4_16) rfl (hs_) rfl k) ?_
  show Go _ _ _ _ _ _ _ _ (mkF m 17 #[.val (.ref a0), .val (.double d1), .second, .val (.double (FP.dsub (4607182418800017408 : UInt64) d1)), .second, .unset, .unset, .unset, .unset, .unset, .unset] [(.double (FP.dmul (FP.dmul d1 d1) (FP.dsub (4613937818241073152 : UInt64) (FP.dmul (4611686018427387904 : UInt64) d1))))])
  refine Go.on (fun _ k => XS.dstore X0.here hx rfl (hb hby d4_17) rfl (l' := #[.val (.ref a0), .val (.double d1), .second, .val (.double (FP.dsub (4607182418800017408 : UInt64) d1)), .second, .val (.double (FP.dmul (FP.dmul d1 d1) (FP.dsub (4613937818241073152 : UInt64) (FP.dmul (4611686018427387904 : UInt64) d1)))), .second, .unset, .unset, .unset, .unset]) rfl k) ?_
  show Go _ _ _ _ _ _ _ _ (mkF m 19 #[.val (.ref a0), .val (.double d1), .second, .val (.double (FP.dsub (4607182418800017408 : UInt64) d1)), .second, .val (.double (FP.dmul (FP.dmul d1 d1) (FP.dsub (4613937818241073152 : UInt64) (FP.dmul (4611686018427387904 : UInt64) d1)))), .second, .unset, .unset, .unset, .unset] [])
  refine Go.on (fun _ k => XS.aloadN X0.here hx rfl (hb hby d4_19) rfl rfl k) ?_
  show Go _ _ _ _ _ _ _ _ (mkF m 20 #[.val (.ref a0), .val (.double d1), .second, .val (.double (FP.dsub (4607182418800017408 : UInt64) d1)), .second, .val (.double (FP.dmul (FP.dmul d1 d1) (FP.dsub (4613937818241073152 : UInt64) (FP.dmul (4611686018427387904 : UInt64) d1)))), .second, .unset, .unset, .unset, .unset] [(.ref a0)])
  obtain ⟨T1, X1, e1, st1⟩ := getF X0 hx hZ hown (host := "") (Or.inl (hw _ (List.mem_of_getElem? (i := 24) rfl))) Via.refl e0 F_alpha_a0 (g := (mkF m 20 #[.val (.ref a0), .val (.double d1), .second, .val (.double (FP.dsub (4607182418800017408 : UInt64) d1)), .second, .val (.double (FP.dmul (FP.dmul d1 d1) (FP.dsub (4613937818241073152 : UInt64) (FP.dmul (4611686018427387904 : UInt64) d1)))), .second, .unset, .unset, .unset, .unset] [(.ref a0)])) rfl rfl (hb hby d4_20)
  refine Go.on st1 ?_
  show Go _ _ _ _ _ _ _ _ (mkF m 23 #[.val (.ref a0), .val (.double d1), .second, .val (.double (FP.dsub (4607182418800017408 : UInt64) d1)), .second, .val (.double (FP.dmul (FP.dmul d1 d1) (FP.dsub (4613937818241073152 : UInt64) (FP.dmul (4611686018427387904 : UInt64) d1)))), .second, .unset, .unset, .unset, .unset] [(.double al)])
  refine Go.on (fun _ k => XS.dloadN X1.here hx rfl (hb hby d4_23) rfl k) ?_
  show Go _ _ _ _ _ _ _ _ (mkF m 24 #[.val (.ref a0), .val (.double d1), .second, .val (.double (FP.dsub (4607182418800017408 : UInt64) d1)), .second, .val (.double (FP.dmul (FP.dmul d1 d1) (FP.dsub (4613937818241073152 : UInt64) (FP.dmul (4611686018427387904 : UInt64) d1)))), .second, .unset, .unset, .unset, .unset] [(.double d1), (.double al)])
  refine Go.on (fun _ k => XS.dmulS X1.here hx rfl (hb hby d4_24) rfl (ha_) rfl k) ?_
  show Go _ _ _ _ _ _ _ _ (mkF m 25 #[.val (.ref a0), .val (.double d1), .second, .val (.double (FP.dsub (4607182418800017408 : UInt64) d1)), .second, .val (.double (FP.dmul (FP.dmul d1 d1) (FP.dsub (4613937818241073152 : UInt64) (FP.dmul (4611686018427387904 : UInt64) d1)))), .second, .unset, .unset, .unset, .unset] [(.double (FP.dmul al d1))])
  refine Go.on (fun _ k => XS.dloadN X1.here hx rfl (hb hby d4_25) rfl k) ?_
  show Go _ _ _ _ _ _ _ _ (mkF m 26 #[.val (.ref a0), .val (.double d1), .second, .val (.double (FP.dsub (4607182418800017408 : UInt64) d1)), .second, .val (.double (FP.dmul (FP.dmul d1 d1) (FP.dsub (4613937818241073152 : UInt64) (FP.dmul (4611686018427387904 : UInt64) d1)))), .second, .unset, .unset, .unset, .unset] [(.double (FP.dsub (4607182418800017408 : UInt64) d1)), (.double (FP.dmul al d1))])
  refine Go.on (fun _ k => XS.dmulS X1.here hx rfl (hb hby d4_26) rfl (hau_) rfl k) ?_
  show Go _ _ _ _ _ _ _ _ (mkF m 27 #[.val (.ref a0), .val (.double d1), .second, .val (.double (FP.dsub (4607182418800017408 : UInt64) d1)), .second, .val (.double (FP.dmul (FP.dmul d1 d1) (FP.dsub (4613937818241073152 : UInt64) (FP.dmul (4611686018427387904 : UInt64) d1)))), .second, .unset, .unset, .unset, .unset] [(.double (FP.dmul (FP.dmul al d1) (FP.dsub (4607182418800017408 : UInt64) d1)))])
  refine Go.on (fun _ k => XS.dloadN X1.here hx rfl (hb hby d4_27) rfl k) ?_
  show Go _ _ _ _ _ _ _ _ (mkF m 28 #[.val (.ref a0), .val (.double d1), .second, .val (.double (FP.dsub (4607182418800017408 : UInt64) d1)), .second, .val (.double (FP.dmul (FP.dmul d1 d1) (FP.dsub (4613937818241073152 : UInt64) (FP.dmul (4611686018427387904 : UInt64) d1)))), .second, .unset, .unset, .unset, .unset] [(.double (FP.dsub (4607182418800017408 : UInt64) d1)), (.double (FP.dmul (FP.dmul al d1) (FP.dsub (4607182418800017408 : UInt64) d1)))])
  refine Go.on (fun _ k => XS.dmulS X1.here hx rfl (hb hby d4_28) rfl (hp_) rfl k) ?_
  show Go _ _ _ _ _ _ _ _ (mkF m 29 #[.val (.ref a0), .val (.double d1), .second, .val (.double (FP.dsub (4607182418800017408 : UInt64) d1)), .second, .val (.double (FP.dmul (FP.dmul d1 d1) (FP.dsub (4613937818241073152 : UInt64) (FP.dmul (4611686018427387904 : UInt64) d1)))), .second, .unset, .unset, .unset, .unset] [(.double (FP.dmul (FP.dmul (FP.dmul al d1) (FP.dsub (4607182418800017408 : UInt64) d1)) (FP.dsub (4607182418800017408 : UInt64) d1)))])
  refine Go.on (fun _ k => XS.dstore X1.here hx rfl (hb hby d4_29) rfl (l' := #[.val (.ref a0), .val (.double d1), .second, .val (.double (FP.dsub (4607182418800017408 : UInt64) d1)), .second, .val (.double (FP.dmul (FP.dmul d1 d1) (FP.dsub (4613937818241073152 : UInt64) (FP.dmul (4611686018427387904 : UInt64) d1)))), .second, .val (.double (FP.dmul (FP.dmul (FP.dmul al d1) (FP.dsub (4607182418800017408 : UInt64) d1)) (FP.dsub (4607182418800017408 : UInt64) d1))), .second, .unset, .unset]) rfl k) ?_
  show Go _ _ _ _ _ _ _ _ (mkF m 31 #[.val (.ref a0), .val (.double d1), .second, .val (.double (FP.dsub (4607182418800017408 : UInt64) d1)), .second, .val (.double (FP.dmul (FP.dmul d1 d1) (FP.dsub (4613937818241073152 : UInt64) (FP.dmul (4611686018427387904 : UInt64) d1)))), .second, .val (.double (FP.dmul (FP.dmul (FP.dmul al d1) (FP.dsub (4607182418800017408 : UInt64) d1)) (FP.dsub (4607182418800017408 : UInt64) d1))), .second, .unset, .unset] [])
  refine Go.on (fun _ k => XS.aloadN X1.here hx rfl (hb hby d4_31) rfl rfl k) ?_
  show Go _ _ _ _ _ _ _ _ (mkF m 32 #[.val (.ref a0), .val (.double d1), .second, .val (.double (FP.dsub (4607182418800017408 : UInt64) d1)), .second, .val (.double (FP.dmul (FP.dmul d1 d1) (FP.dsub (4613937818241073152 : UInt64) (FP.dmul (4611686018427387904 : UInt64) d1)))), .second, .val (.double (FP.dmul (FP.dmul (FP.dmul al d1) (FP.dsub (4607182418800017408 : UInt64) d1)) (FP.dsub (4607182418800017408 : UInt64) d1))), .second, .unset, .unset] [(.ref a0)])
  obtain ⟨T2, X2, e2, st2⟩ := getF X1 hx hZ hown (host := "") (Or.inl (hw _ (List.mem_of_getElem? (i := 24) rfl))) Via.refl e1 F_alpha_a0 (g := (mkF m 32 #[.val (.ref a0), .val (.double d1), .second, .val (.double (FP.dsub (4607182418800017408 : UInt64) d1)), .second, .val (.double (FP.dmul (FP.dmul d1 d1) (FP.dsub (4613937818241073152 : UInt64) (FP.dmul (4611686018427387904 : UInt64) d1)))), .second, .val (.double (FP.dmul (FP.dmul (FP.dmul al d1) (FP.dsub (4607182418800017408 : UInt64) d1)) (FP.dsub (4607182418800017408 : UInt64) d1))), .second, .unset, .unset] [(.ref a0)])) rfl rfl (hb hby d4_32)
  refine Go.on st2 ?_
  show Go _ _ _ _ _ _ _ _ (mkF m 35 #[.val (.ref a0), .val (.double d1), .second, .val (.double (FP.dsub (4607182418800017408 : UInt64) d1)), .second, .val (.double (FP.dmul (FP.dmul d1 d1) (FP.dsub (4613937818241073152 : UInt64) (FP.dmul (4611686018427387904 : UInt64) d1)))), .second, .val (.double (FP.dmul (FP.dmul (FP.dmul al d1) (FP.dsub (4607182418800017408 : UInt64) d1)) (FP.dsub (4607182418800017408 : UInt64) d1))), .second, .unset, .unset] [(.double al)])
  refine Go.on (fun _ k => XS.dloadN X2.here hx rfl (hb hby d4_35) rfl k) ?_
  show Go _ _ _ _ _ _ _ _ (mkF m 36 #[.val (.ref a0), .val (.double d1), .second, .val (.double (FP.dsub (4607182418800017408 : UInt64) d1)), .second, .val (.double (FP.dmul (FP.dmul d1 d1) (FP.dsub (4613937818241073152 : UInt64) (FP.dmul (4611686018427387904 : UInt64) d1)))), .second, .val (.double (FP.dmul (FP.dmul (FP.dmul al d1) (FP.dsub (4607182418800017408 : UInt64) d1)) (FP.dsub (4607182418800017408 : UInt64) d1))), .second, .unset, .unset] [(.double d1), (.double al)])
  refine Go.on (fun _ k => XS.dmulS X2.here hx rfl (hb hby d4_36) rfl (ha_) rfl k) ?_
  show Go _ _ _ _ _ _ _ _ (mkF m 37 #[.val (.ref a0), .val (.double d1), .second, .val (.double (FP.dsub (4607182418800017408 : UInt64) d1)), .second, .val (.double (FP.dmul (FP.dmul d1 d1) (FP.dsub (4613937818241073152 : UInt64) (FP.dmul (4611686018427387904 : UInt64) d1)))), .second, .val (.double (FP.dmul (FP.dmul (FP.dmul al d1) (FP.dsub (4607182418800017408 : UInt64) d1)) (FP.dsub (4607182418800017408 : UInt64) d1))), .second, .unset, .unset] [(.double (FP.dmul al d1))])
  refine Go.on (fun _ k => XS.dloadN X2.here hx rfl (hb hby d4_37) rfl k) ?_
  show Go _ _ _ _ _ _ _ _ (mkF m 38 #[.val (.ref a0), .val (.double d1), .second, .val (.double (FP.dsub (4607182418800017408 : UInt64) d1)), .second, .val (.double (FP.dmul (FP.dmul d1 d1) (FP.dsub (4613937818241073152 : UInt64) (FP.dmul (4611686018427387904 : UInt64) d1)))), .second, .val (.double (FP.dmul (FP.dmul (FP.dmul al d1) (FP.dsub (4607182418800017408 : UInt64) d1)) (FP.dsub (4607182418800017408 : UInt64) d1))), .second, .unset, .unset] [(.double d1), (.double (FP.dmul al d1))])
  refine Go.on (fun _ k => XS.dmulS X2.here hx rfl (hb hby d4_38) rfl (hat_) rfl k) ?_
  show Go _ _ _ _ _ _ _ _ (mkF m 39 #[.val (.ref a0), .val (.double d1), .second, .val (.double (FP.dsub (4607182418800017408 : UInt64) d1)), .second, .val (.double (FP.dmul (FP.dmul d1 d1) (FP.dsub (4613937818241073152 : UInt64) (FP.dmul (4611686018427387904 : UInt64) d1)))), .second, .val (.double (FP.dmul (FP.dmul (FP.dmul al d1) (FP.dsub (4607182418800017408 : UInt64) d1)) (FP.dsub (4607182418800017408 : UInt64) d1))), .second, .unset, .unset] [(.double (FP.dmul (FP.dmul al d1) d1))])
  refine Go.on (fun _ k => XS.dloadN X2.here hx rfl (hb hby d4_39) rfl k) ?_
  show Go _ _ _ _ _ _ _ _ (mkF m 40 #[.val (.ref a0), .val (.double d1), .second, .val (.double (FP.dsub (4607182418800017408 : UInt64) d1)), .second, .val (.double (FP.dmul (FP.dmul d1 d1) (FP.dsub (4613937818241073152 : UInt64) (FP.dmul (4611686018427387904 : UInt64) d1)))), .second, .val (.double (FP.dmul (FP.dmul (FP.dmul al d1) (FP.dsub (4607182418800017408 : UInt64) d1)) (FP.dsub (4607182418800017408 : UInt64) d1))), .second, .unset, .unset] [(.double (FP.dsub (4607182418800017408 : UInt64) d1)), (.double (FP.dmul (FP.dmul al d1) d1))])
  refine Go.on (fun _ k => XS.dmulS X2.here hx rfl (hb hby d4_40) rfl (hq_) rfl k) ?_
  show Go _ _ _ _ _ _ _ _ (mkF m 41 #[.val (.ref a0), .val (.double d1), .second, .val (.double (FP.dsub (4607182418800017408 : UInt64) d1)), .second, .val (.double (FP.dmul (FP.dmul d1 d1) (FP.dsub (4613937818241073152 : UInt64) (FP.dmul (4611686018427387904 : UInt64) d1)))), .second, .val (.double (FP.dmul (FP.dmul (FP.dmul al d1) (FP.dsub (4607182418800017408 : UInt64) d1)) (FP.dsub (4607182418800017408 : UInt64) d1))), .second, .unset, .unset] [(.double (FP.dmul (FP.dmul (FP.dmul al d1) d1) (FP.dsub (4607182418800017408 : UInt64) d1)))])
  refine Go.on (fun _ k => XS.dstore X2.here hx rfl (hb hby d4_41) rfl (l' := #[.val (.ref a0), .val (.double d1), .second, .val (.double (FP.dsub (4607182418800017408 : UInt64) d1)), .second, .val (.double (FP.dmul (FP.dmul d1 d1) (FP.dsub (4613937818241073152 : UInt64) (FP.dmul (4611686018427387904 : UInt64) d1)))), .second, .val (.double (FP.dmul (FP.dmul (FP.dmul al d1) (FP.dsub (4607182418800017408 : UInt64) d1)) (FP.dsub (4607182418800017408 : UInt64) d1))), .second, .val (.double (FP.dmul (FP.dmul (FP.dmul al d1) d1) (FP.dsub (4607182418800017408 : UInt64) d1))), .second]) rfl k) ?_
  show Go _ _ _ _ _ _ _ _ (mkF m 43 #[.val (.ref a0), .val (.double d1), .second, .val (.double (FP.dsub (4607182418800017408 : UInt64) d1)), .second, .val (.double (FP.dmul (FP.dmul d1 d1) (FP.dsub (4613937818241073152 : UInt64) (FP.dmul (4611686018427387904 : UInt64) d1)))), .second, .val (.double (FP.dmul (FP.dmul (FP.dmul al d1) (FP.dsub (4607182418800017408 : UInt64) d1)) (FP.dsub (4607182418800017408 : UInt64) d1))), .second, .val (.double (FP.dmul (FP.dmul (FP.dmul al d1) d1) (FP.dsub (4607182418800017408 : UInt64) d1))), .second] [])
  refine Go.on (fun _ k => XS.iconst X2.here hx rfl (hb hby d4_43) k) ?_
  show Go _ _ _ _ _ _ _ _ (mkF m 44 #[.val (.ref a0), .val (.double d1), .second, .val (.double (FP.dsub (4607182418800017408 : UInt64) d1)), .second, .val (.double (FP.dmul (FP.dmul d1 d1) (FP.dsub (4613937818241073152 : UInt64) (FP.dmul (4611686018427387904 : UInt64) d1)))), .second, .val (.double (FP.dmul (FP.dmul (FP.dmul al d1) (FP.dsub (4607182418800017408 : UInt64) d1)) (FP.dsub (4607182418800017408 : UInt64) d1))), .second, .val (.double (FP.dmul (FP.dmul (FP.dmul al d1) d1) (FP.dsub (4607182418800017408 : UInt64) d1))), .second] [(.int (4 : Int32))])
  obtain ⟨T3, h3, k_ar, X3, e3, E3, A3, st3⟩ := newP X2 hx hZ (hw _ (List.mem_of_getElem? (i := 33) rfl)) e2 (g := (mkF m 44 #[.val (.ref a0), .val (.double d1), .second, .val (.double (FP.dsub (4607182418800017408 : UInt64) d1)), .second, .val (.double (FP.dmul (FP.dmul d1 d1) (FP.dsub (4613937818241073152 : UInt64) (FP.dmul (4611686018427387904 : UInt64) d1)))), .second, .val (.double (FP.dmul (FP.dmul (FP.dmul al d1) (FP.dsub (4607182418800017408 : UInt64) d1)) (FP.dsub (4607182418800017408 : UInt64) d1))), .second, .val (.double (FP.dmul (FP.dmul (FP.dmul al d1) d1) (FP.dsub (4607182418800017408 : UInt64) d1))), .second] [(.int (4 : Int32))])) rfl (hb hby d4_44) rfl (by decide) (cap := 4) (by decide) (by decide) (by decide) (by decide)
  obtain ⟨ar, g3⟩ : ∃ z, z = h0.size := ⟨_, rfl⟩
  have ne_a0_ar : a0 ≠ ar := Nat.ne_of_lt (Nat.lt_of_lt_of_le F_alpha_a0.lt (Nat.le_of_eq g3.symm))
  have g_ar : n0 ≤ ar := Nat.le_trans ZZ (Nat.le_of_eq g3.symm)
  have sz_ar : h0.size ≤ ar := Nat.le_trans KP.1 (Nat.le_of_eq g3.symm)
  rw [← g3] at A3 st3
  replace F_alpha_a0 := F_alpha_a0.ext E3
  replace ZZ := Nat.le_trans ZZ E3.1
  replace KP := KP.ext E3
  have V_ar : Arv Z h3 ar k_ar .double (4 : Int32) [(.double (0 : UInt64)), (.double (0 : UInt64)), (.double (0 : UInt64)), (.double (0 : UInt64))] (.double (0 : UInt64)) := (Arv.new A3 (by decide)).pad (pad_rep [] (.double (0 : UInt64)) 4)
  refine Go.on st3 ?_
  show Go _ _ _ _ _ _ _ _ (mkF m 46 #[.val (.ref a0), .val (.double d1), .second, .val (.double (FP.dsub (4607182418800017408 : UInt64) d1)), .second, .val (.double (FP.dmul (FP.dmul d1 d1) (FP.dsub (4613937818241073152 : UInt64) (FP.dmul (4611686018427387904 : UInt64) d1)))), .second, .val (.double (FP.dmul (FP.dmul (FP.dmul al d1) (FP.dsub (4607182418800017408 : UInt64) d1)) (FP.dsub (4607182418800017408 : UInt64) d1))), .second, .val (.double (FP.dmul (FP.dmul (FP.dmul al d1) d1) (FP.dsub (4607182418800017408 : UInt64) d1))), .second] [(.ref ar)])
  refine Go.on (fun _ k => XS.dup X3.here hx rfl (hb hby d4_46) rfl rfl k) ?_
  show Go _ _ _ _ _ _ _ _ (mkF m 47 #[.val (.ref a0), .val (.double d1), .second, .val (.double (FP.dsub (4607182418800017408 : UInt64) d1)), .second, .val (.double (FP.dmul (FP.dmul d1 d1) (FP.dsub (4613937818241073152 : UInt64) (FP.dmul (4611686018427387904 : UInt64) d1)))), .second, .val (.double (FP.dmul (FP.dmul (FP.dmul al d1) (FP.dsub (4607182418800017408 : UInt64) d1)) (FP.dsub (4607182418800017408 : UInt64) d1))), .second, .val (.double (FP.dmul (FP.dmul (FP.dmul al d1) d1) (FP.dsub (4607182418800017408 : UInt64) d1))), .second] [(.ref ar), (.ref ar)])
  refine Go.on (fun _ k => XS.iconst X3.here hx rfl (hb hby d4_47) k) ?_
  show Go _ _ _ _ _ _ _ _ (mkF m 48 #[.val (.ref a0), .val (.double d1), .second, .val (.double (FP.dsub (4607182418800017408 : UInt64) d1)), .second, .val (.double (FP.dmul (FP.dmul d1 d1) (FP.dsub (4613937818241073152 : UInt64) (FP.dmul (4611686018427387904 : UInt64) d1)))), .second, .val (.double (FP.dmul (FP.dmul (FP.dmul al d1) (FP.dsub (4607182418800017408 : UInt64) d1)) (FP.dsub (4607182418800017408 : UInt64) d1))), .second, .val (.double (FP.dmul (FP.dmul (FP.dmul al d1) d1) (FP.dsub (4607182418800017408 : UInt64) d1))), .second] [(.int (0 : Int32)), (.ref ar), (.ref ar)])
  refine Go.on (fun _ k => XS.dload X3.here hx rfl (hb hby d4_48) rfl k) ?_
  show Go _ _ _ _ _ _ _ _ (mkF m 50 #[.val (.ref a0), .val (.double d1), .second, .val (.double (FP.dsub (4607182418800017408 : UInt64) d1)), .second, .val (.double (FP.dmul (FP.dmul d1 d1) (FP.dsub (4613937818241073152 : UInt64) (FP.dmul (4611686018427387904 : UInt64) d1)))), .second, .val (.double (FP.dmul (FP.dmul (FP.dmul al d1) (FP.dsub (4607182418800017408 : UInt64) d1)) (FP.dsub (4607182418800017408 : UInt64) d1))), .second, .val (.double (FP.dmul (FP.dmul (FP.dmul al d1) d1) (FP.dsub (4607182418800017408 : UInt64) d1))), .second] [(.double (FP.dmul (FP.dmul (FP.dmul al d1) (FP.dsub (4607182418800017408 : UInt64) d1)) (FP.dsub (4607182418800017408 : UInt64) d1))), (.int (0 : Int32)), (.ref ar), (.ref ar)])
  refine Go.on (fun _ k => XS.dnegS X3.here hx rfl (hb hby d4_50) rfl rfl k) ?_
  show Go _ _ _ _ _ _ _ _ (mkF m 51 #[.val (.ref a0), .val (.double d1), .second, .val (.double (FP.dsub (4607182418800017408 : UInt64) d1)), .second, .val (.double (FP.dmul (FP.dmul d1 d1) (FP.dsub (4613937818241073152 : UInt64) (FP.dmul (4611686018427387904 : UInt64) d1)))), .second, .val (.double (FP.dmul (FP.dmul (FP.dmul al d1) (FP.dsub (4607182418800017408 : UInt64) d1)) (FP.dsub (4607182418800017408 : UInt64) d1))), .second, .val (.double (FP.dmul (FP.dmul (FP.dmul al d1) d1) (FP.dsub (4607182418800017408 : UInt64) d1))), .second] [(.double (FP.dneg (FP.dmul (FP.dmul (FP.dmul al d1) (FP.dsub (4607182418800017408 : UInt64) d1)) (FP.dsub (4607182418800017408 : UInt64) d1)))), (.int (0 : Int32)), (.ref ar), (.ref ar)])
  obtain ⟨cl4, Ar4, q4, S4, N4n, H4, G4⟩ := id V_ar
  have hin4 : ¬ ((0 : Int32) < 0 ∨ cl4.slots.size ≤ ((0 : Int32)).toNatClampNeg) := inb_of S4 ⟨by decide, by decide⟩
  obtain ⟨T4, h4, X4, e4, W4, st4⟩ := stD X3 hx hZ e3 Ar4 (j := (0 : Int32)) hin4 (g := (mkF m 51 #[.val (.ref a0), .val (.double d1), .second, .val (.double (FP.dsub (4607182418800017408 : UInt64) d1)), .second, .val (.double (FP.dmul (FP.dmul d1 d1) (FP.dsub (4613937818241073152 : UInt64) (FP.dmul (4611686018427387904 : UInt64) d1)))), .second, .val (.double (FP.dmul (FP.dmul (FP.dmul al d1) (FP.dsub (4607182418800017408 : UInt64) d1)) (FP.dsub (4607182418800017408 : UInt64) d1))), .second, .val (.double (FP.dmul (FP.dmul (FP.dmul al d1) d1) (FP.dsub (4607182418800017408 : UInt64) d1))), .second] [(.double (FP.dneg (FP.dmul (FP.dmul (FP.dmul al d1) (FP.dsub (4607182418800017408 : UInt64) d1)) (FP.dsub (4607182418800017408 : UInt64) d1)))), (.int (0 : Int32)), (.ref ar), (.ref ar)])) rfl rfl (hb hby d4_51)
  replace V_ar := Arv.set Ar4 q4 S4 N4n H4 G4 rfl W4 0 rfl (Nat.le_of_ble_eq_true rfl)
  replace F_alpha_a0 := F_alpha_a0.other W4 (Or.inl ne_a0_ar)
  refine Go.on st4 ?_
  have N4 := Fr.snoc X4 N0 g_ar
  replace ZZ := Nat.le_trans ZZ (Keep.of_wr W4).1
  replace KP := KP.wr W4 (Or.inr sz_ar)
  change Arv Z h4 ar k_ar .double (4 : Int32) [(.double (FP.dneg (FP.dmul (FP.dmul (FP.dmul al d1) (FP.dsub (4607182418800017408 : UInt64) d1)) (FP.dsub (4607182418800017408 : UInt64) d1)))), (.double (0 : UInt64)), (.double (0 : UInt64)), (.double (0 : UInt64))] (.double (0 : UInt64)) at V_ar
  show Go _ _ _ _ _ _ _ _ (mkF m 52 #[.val (.ref a0), .val (.double d1), .second, .val (.double (FP.dsub (4607182418800017408 : UInt64) d1)), .second, .val (.double (FP.dmul (FP.dmul d1 d1) (FP.dsub (4613937818241073152 : UInt64) (FP.dmul (4611686018427387904 : UInt64) d1)))), .second, .val (.double (FP.dmul (FP.dmul (FP.dmul al d1) (FP.dsub (4607182418800017408 : UInt64) d1)) (FP.dsub (4607182418800017408 : UInt64) d1))), .second, .val (.double (FP.dmul (FP.dmul (FP.dmul al d1) d1) (FP.dsub (4607182418800017408 : UInt64) d1))), .second] [(.ref ar)])
  refine Go.on (fun _ k => XS.dup X4.here hx rfl (hb hby d4_52) rfl rfl k) ?_
  show Go _ _ _ _ _ _ _ _ (mkF m 53 #[.val (.ref a0), .val (.double d1), .second, .val (.double (FP.dsub (4607182418800017408 : UInt64) d1)), .second, .val (.double (FP.dmul (FP.dmul d1 d1) (FP.dsub (4613937818241073152 : UInt64) (FP.dmul (4611686018427387904 : UInt64) d1)))), .second, .val (.double (FP.dmul (FP.dmul (FP.dmul al d1) (FP.dsub (4607182418800017408 : UInt64) d1)) (FP.dsub (4607182418800017408 : UInt64) d1))), .second, .val (.double (FP.dmul (FP.dmul (FP.dmul al d1) d1) (FP.dsub (4607182418800017408 : UInt64) d1))), .second] [(.ref ar), (.ref ar)])
  refine Go.on (fun _ k => XS.iconst X4.here hx rfl (hb hby d4_53) k) ?_
  show Go _ _ _ _ _ _ _ _ (mkF m 54 #[.val (.ref a0), .val (.double d1), .second, .val (.double (FP.dsub (4607182418800017408 : UInt64) d1)), .second, .val (.double (FP.dmul (FP.dmul d1 d1) (FP.dsub (4613937818241073152 : UInt64) (FP.dmul (4611686018427387904 : UInt64) d1)))), .second, .val (.double (FP.dmul (FP.dmul (FP.dmul al d1) (FP.dsub (4607182418800017408 : UInt64) d1)) (FP.dsub (4607182418800017408 : UInt64) d1))), .second, .val (.double (FP.dmul (FP.dmul (FP.dmul al d1) d1) (FP.dsub (4607182418800017408 : UInt64) d1))), .second] [(.int (1 : Int32)), (.ref ar), (.ref ar)])
  refine Go.on (fun _ k => XS.dconst1 X4.here hx rfl (v := (4607182418800017408 : UInt64)) (hb hby d4_54) rfl k) ?_
  show Go _ _ _ _ _ _ _ _ (mkF m 55 #[.val (.ref a0), .val (.double d1), .second, .val (.double (FP.dsub (4607182418800017408 : UInt64) d1)), .second, .val (.double (FP.dmul (FP.dmul d1 d1) (FP.dsub (4613937818241073152 : UInt64) (FP.dmul (4611686018427387904 : UInt64) d1)))), .second, .val (.double (FP.dmul (FP.dmul (FP.dmul al d1) (FP.dsub (4607182418800017408 : UInt64) d1)) (FP.dsub (4607182418800017408 : UInt64) d1))), .second, .val (.double (FP.dmul (FP.dmul (FP.dmul al d1) d1) (FP.dsub (4607182418800017408 : UInt64) d1))), .second] [(.double (4607182418800017408 : UInt64)), (.int (1 : Int32)), (.ref ar), (.ref ar)])
  refine Go.on (fun _ k => XS.dload X4.here hx rfl (hb hby d4_55) rfl k) ?_
  show Go _ _ _ _ _ _ _ _ (mkF m 57 #[.val (.ref a0), .val (.double d1), .second, .val (.double (FP.dsub (4607182418800017408 : UInt64) d1)), .second, .val (.double (FP.dmul (FP.dmul d1 d1) (FP.dsub (4613937818241073152 : UInt64) (FP.dmul (4611686018427387904 : UInt64) d1)))), .second, .val (.double (FP.dmul (FP.dmul (FP.dmul al d1) (FP.dsub (4607182418800017408 : UInt64) d1)) (FP.dsub (4607182418800017408 : UInt64) d1))), .second, .val (.double (FP.dmul (FP.dmul (FP.dmul al d1) d1) (FP.dsub (4607182418800017408 : UInt64) d1))), .second] [(.double (FP.dmul (FP.dmul d1 d1) (FP.dsub (4613937818241073152 : UInt64) (FP.dmul (4611686018427387904 : UInt64) d1)))), (.double (4607182418800017408 : UInt64)), (.int (1 : Int32)), (.ref ar), (.ref ar)])
  refine Go.on (fun _ k => XS.dsubS X4.here hx rfl (hb hby d4_57) rfl (h1s_) rfl k) ?_
  show Go _ _ _ _ _ _ _ _ (mkF m 58 #[.val (.ref a0), .val (.double d1), .second, .val (.double (FP.dsub (4607182418800017408 : UInt64) d1)), .second, .val (.double (FP.dmul (FP.dmul d1 d1) (FP.dsub (4613937818241073152 : UInt64) (FP.dmul (4611686018427387904 : UInt64) d1)))), .second, .val (.double (FP.dmul (FP.dmul (FP.dmul al d1) (FP.dsub (4607182418800017408 : UInt64) d1)) (FP.dsub (4607182418800017408 : UInt64) d1))), .second, .val (.double (FP.dmul (FP.dmul (FP.dmul al d1) d1) (FP.dsub (4607182418800017408 : UInt64) d1))), .second] [(.double (FP.dsub (4607182418800017408 : UInt64) (FP.dmul (FP.dmul d1 d1) (FP.dsub (4613937818241073152 : UInt64) (FP.dmul (4611686018427387904 : UInt64) d1))))), (.int (1 : Int32)), (.ref ar), (.ref ar)])
  refine Go.on (fun _ k => XS.dload X4.here hx rfl (hb hby d4_58) rfl k) ?_
  show Go _ _ _ _ _ _ _ _ (mkF m 60 #[.val (.ref a0), .val (.double d1), .second, .val (.double (FP.dsub (4607182418800017408 : UInt64) d1)), .second, .val (.double (FP.dmul (FP.dmul d1 d1) (FP.dsub (4613937818241073152 : UInt64) (FP.dmul (4611686018427387904 : UInt64) d1)))), .second, .val (.double (FP.dmul (FP.dmul (FP.dmul al d1) (FP.dsub (4607182418800017408 : UInt64) d1)) (FP.dsub (4607182418800017408 : UInt64) d1))), .second, .val (.double (FP.dmul (FP.dmul (FP.dmul al d1) d1) (FP.dsub (4607182418800017408 : UInt64) d1))), .second] [(.double (FP.dmul (FP.dmul (FP.dmul al d1) d1) (FP.dsub (4607182418800017408 : UInt64) d1))), (.double (FP.dsub (4607182418800017408 : UInt64) (FP.dmul (FP.dmul d1 d1) (FP.dsub (4613937818241073152 : UInt64) (FP.dmul (4611686018427387904 : UInt64) d1))))), (.int (1 : Int32)), (.ref ar), (.ref ar)])
  refine Go.on (fun _ k => XS.daddS X4.here hx rfl (hb hby d4_60) rfl (hw1_) rfl k) ?_
  show Go _ _ _ _ _ _ _ _ (mkF m 61 #[.val (.ref a0), .val (.double d1), .second, .val (.double (FP.dsub (4607182418800017408 : UInt64) d1)), .second, .val (.double (FP.dmul (FP.dmul d1 d1) (FP.dsub (4613937818241073152 : UInt64) (FP.dmul (4611686018427387904 : UInt64) d1)))), .second, .val (.double (FP.dmul (FP.dmul (FP.dmul al d1) (FP.dsub (4607182418800017408 : UInt64) d1)) (FP.dsub (4607182418800017408 : UInt64) d1))), .second, .val (.double (FP.dmul (FP.dmul (FP.dmul al d1) d1) (FP.dsub (4607182418800017408 : UInt64) d1))), .second] [(.double (FP.dadd (FP.dsub (4607182418800017408 : UInt64) (FP.dmul (FP.dmul d1 d1) (FP.dsub (4613937818241073152 : UInt64) (FP.dmul (4611686018427387904 : UInt64) d1)))) (FP.dmul (FP.dmul (FP.dmul al d1) d1) (FP.dsub (4607182418800017408 : UInt64) d1)))), (.int (1 : Int32)), (.ref ar), (.ref ar)])
  obtain ⟨cl5, Ar5, q5, S5, N5n, H5, G5⟩ := id V_ar
  have hin5 : ¬ ((1 : Int32) < 0 ∨ cl5.slots.size ≤ ((1 : Int32)).toNatClampNeg) := inb_of S5 ⟨by decide, by decide⟩
  obtain ⟨T5, h5, X5, e5, W5, st5⟩ := stD X4 hx hZ e4 Ar5 (j := (1 : Int32)) hin5 (g := (mkF m 61 #[.val (.ref a0), .val (.double d1), .second, .val (.double (FP.dsub (4607182418800017408 : UInt64) d1)), .second, .val (.double (FP.dmul (FP.dmul d1 d1) (FP.dsub (4613937818241073152 : UInt64) (FP.dmul (4611686018427387904 : UInt64) d1)))), .second, .val (.double (FP.dmul (FP.dmul (FP.dmul al d1) (FP.dsub (4607182418800017408 : UInt64) d1)) (FP.dsub (4607182418800017408 : UInt64) d1))), .second, .val (.double (FP.dmul (FP.dmul (FP.dmul al d1) d1) (FP.dsub (4607182418800017408 : UInt64) d1))), .second] [(.double (FP.dadd (FP.dsub (4607182418800017408 : UInt64) (FP.dmul (FP.dmul d1 d1) (FP.dsub (4613937818241073152 : UInt64) (FP.dmul (4611686018427387904 : UInt64) d1)))) (FP.dmul (FP.dmul (FP.dmul al d1) d1) (FP.dsub (4607182418800017408 : UInt64) d1)))), (.int (1 : Int32)), (.ref ar), (.ref ar)])) rfl rfl (hb hby d4_61)
  replace V_ar := Arv.set Ar5 q5 S5 N5n H5 G5 rfl W5 1 rfl (Nat.le_of_ble_eq_true rfl)
  replace F_alpha_a0 := F_alpha_a0.other W5 (Or.inl ne_a0_ar)
  refine Go.on st5 ?_
  have N5 := Fr.snoc X5 N4 g_ar
  replace ZZ := Nat.le_trans ZZ (Keep.of_wr W5).1
  replace KP := KP.wr W5 (Or.inr sz_ar)
  change Arv Z h5 ar k_ar .double (4 : Int32) [(.double (FP.dneg (FP.dmul (FP.dmul (FP.dmul al d1) (FP.dsub (4607182418800017408 : UInt64) d1)) (FP.dsub (4607182418800017408 : UInt64) d1)))), (.double (FP.dadd (FP.dsub (4607182418800017408 : UInt64) (FP.dmul (FP.dmul d1 d1) (FP.dsub (4613937818241073152 : UInt64) (FP.dmul (4611686018427387904 : UInt64) d1)))) (FP.dmul (FP.dmul (FP.dmul al d1) d1) (FP.dsub (4607182418800017408 : UInt64) d1)))), (.double (0 : UInt64)), (.double (0 : UInt64))] (.double (0 : UInt64)) at V_ar
  show Go _ _ _ _ _ _ _ _ (mkF m 62 #[.val (.ref a0), .val (.double d1), .second, .val (.double (FP.dsub (4607182418800017408 : UInt64) d1)), .second, .val (.double (FP.dmul (FP.dmul d1 d1) (FP.dsub (4613937818241073152 : UInt64) (FP.dmul (4611686018427387904 : UInt64) d1)))), .second, .val (.double (FP.dmul (FP.dmul (FP.dmul al d1) (FP.dsub (4607182418800017408 : UInt64) d1)) (FP.dsub (4607182418800017408 : UInt64) d1))), .second, .val (.double (FP.dmul (FP.dmul (FP.dmul al d1) d1) (FP.dsub (4607182418800017408 : UInt64) d1))), .second] [(.ref ar)])
  refine Go.on (fun _ k => XS.dup X5.here hx rfl (hb hby d4_62) rfl rfl k) ?_
  show Go _ _ _ _ _ _ _ _ (mkF m 63 #[.val (.ref a0), .val (.double d1), .second, .val (.double (FP.dsub (4607182418800017408 : UInt64) d1)), .second, .val (.double (FP.dmul (FP.dmul d1 d1) (FP.dsub (4613937818241073152 : UInt64) (FP.dmul (4611686018427387904 : UInt64) d1)))), .second, .val (.double (FP.dmul (FP.dmul (FP.dmul al d1) (FP.dsub (4607182418800017408 : UInt64) d1)) (FP.dsub (4607182418800017408 : UInt64) d1))), .second, .val (.double (FP.dmul (FP.dmul (FP.dmul al d1) d1) (FP.dsub (4607182418800017408 : UInt64) d1))), .second] [(.ref ar), (.ref ar)])
  refine Go.on (fun _ k => XS.iconst X5.here hx rfl (hb hby d4_63) k) ?_
  show Go _ _ _ _ _ _ _ _ (mkF m 64 #[.val (.ref a0), .val (.double d1), .second, .val (.double (FP.dsub (4607182418800017408 : UInt64) d1)), .second, .val (.double (FP.dmul (FP.dmul d1 d1) (FP.dsub (4613937818241073152 : UInt64) (FP.dmul (4611686018427387904 : UInt64) d1)))), .second, .val (.double (FP.dmul (FP.dmul (FP.dmul al d1) (FP.dsub (4607182418800017408 : UInt64) d1)) (FP.dsub (4607182418800017408 : UInt64) d1))), .second, .val (.double (FP.dmul (FP.dmul (FP.dmul al d1) d1) (FP.dsub (4607182418800017408 : UInt64) d1))), .second] [(.int (2 : Int32)), (.ref ar), (.ref ar)])
  refine Go.on (fun _ k => XS.dload X5.here hx rfl (hb hby d4_64) rfl k) ?_
  show Go _ _ _ _ _ _ _ _ (mkF m 66 #[.val (.ref a0), .val (.double d1), .second, .val (.double (FP.dsub (4607182418800017408 : UInt64) d1)), .second, .val (.double (FP.dmul (FP.dmul d1 d1) (FP.dsub (4613937818241073152 : UInt64) (FP.dmul (4611686018427387904 : UInt64) d1)))), .second, .val (.double (FP.dmul (FP.dmul (FP.dmul al d1) (FP.dsub (4607182418800017408 : UInt64) d1)) (FP.dsub (4607182418800017408 : UInt64) d1))), .second, .val (.double (FP.dmul (FP.dmul (FP.dmul al d1) d1) (FP.dsub (4607182418800017408 : UInt64) d1))), .second] [(.double (FP.dmul (FP.dmul d1 d1) (FP.dsub (4613937818241073152 : UInt64) (FP.dmul (4611686018427387904 : UInt64) d1)))), (.int (2 : Int32)), (.ref ar), (.ref ar)])
  refine Go.on (fun _ k => XS.dload X5.here hx rfl (hb hby d4_66) rfl k) ?_
  show Go _ _ _ _ _ _ _ _ (mkF m 68 #[.val (.ref a0), .val (.double d1), .second, .val (.double (FP.dsub (4607182418800017408 : UInt64) d1)), .second, .val (.double (FP.dmul (FP.dmul d1 d1) (FP.dsub (4613937818241073152 : UInt64) (FP.dmul (4611686018427387904 : UInt64) d1)))), .second, .val (.double (FP.dmul (FP.dmul (FP.dmul al d1) (FP.dsub (4607182418800017408 : UInt64) d1)) (FP.dsub (4607182418800017408 : UInt64) d1))), .second, .val (.double (FP.dmul (FP.dmul (FP.dmul al d1) d1) (FP.dsub (4607182418800017408 : UInt64) d1))), .second] [(.double (FP.dmul (FP.dmul (FP.dmul al d1) (FP.dsub (4607182418800017408 : UInt64) d1)) (FP.dsub (4607182418800017408 : UInt64) d1))), (.double (FP.dmul (FP.dmul d1 d1) (FP.dsub (4613937818241073152 : UInt64) (FP.dmul (4611686018427387904 : UInt64) d1)))), (.int (2 : Int32)), (.ref ar), (.ref ar)])
  refine Go.on (fun _ k => XS.daddS X5.here hx rfl (hb hby d4_68) rfl (hw2_) rfl k) ?_
  show Go _ _ _ _ _ _ _ _ (mkF m 69 #[.val (.ref a0), .val (.double d1), .second, .val (.double (FP.dsub (4607182418800017408 : UInt64) d1)), .second, .val (.double (FP.dmul (FP.dmul d1 d1) (FP.dsub (4613937818241073152 : UInt64) (FP.dmul (4611686018427387904 : UInt64) d1)))), .second, .val (.double (FP.dmul (FP.dmul (FP.dmul al d1) (FP.dsub (4607182418800017408 : UInt64) d1)) (FP.dsub (4607182418800017408 : UInt64) d1))), .second, .val (.double (FP.dmul (FP.dmul (FP.dmul al d1) d1) (FP.dsub (4607182418800017408 : UInt64) d1))), .second] [(.double (FP.dadd (FP.dmul (FP.dmul d1 d1) (FP.dsub (4613937818241073152 : UInt64) (FP.dmul (4611686018427387904 : UInt64) d1))) (FP.dmul (FP.dmul (FP.dmul al d1) (FP.dsub (4607182418800017408 : UInt64) d1)) (FP.dsub (4607182418800017408 : UInt64) d1)))), (.int (2 : Int32)), (.ref ar), (.ref ar)])
  obtain ⟨cl6, Ar6, q6, S6, N6n, H6, G6⟩ := id V_ar
  have hin6 : ¬ ((2 : Int32) < 0 ∨ cl6.slots.size ≤ ((2 : Int32)).toNatClampNeg) := inb_of S6 ⟨by decide, by decide⟩
  obtain ⟨T6, h6, X6, e6, W6, st6⟩ := stD X5 hx hZ e5 Ar6 (j := (2 : Int32)) hin6 (g := (mkF m 69 #[.val (.ref a0), .val (.double d1), .second, .val (.double (FP.dsub (4607182418800017408 : UInt64) d1)), .second, .val (.double (FP.dmul (FP.dmul d1 d1) (FP.dsub (4613937818241073152 : UInt64) (FP.dmul (4611686018427387904 : UInt64) d1)))), .second, .val (.double (FP.dmul (FP.dmul (FP.dmul al d1) (FP.dsub (4607182418800017408 : UInt64) d1)) (FP.dsub (4607182418800017408 : UInt64) d1))), .second, .val (.double (FP.dmul (FP.dmul (FP.dmul al d1) d1) (FP.dsub (4607182418800017408 : UInt64) d1))), .second] [(.double (FP.dadd (FP.dmul (FP.dmul d1 d1) (FP.dsub (4613937818241073152 : UInt64) (FP.dmul (4611686018427387904 : UInt64) d1))) (FP.dmul (FP.dmul (FP.dmul al d1) (FP.dsub (4607182418800017408 : UInt64) d1)) (FP.dsub (4607182418800017408 : UInt64) d1)))), (.int (2 : Int32)), (.ref ar), (.ref ar)])) rfl rfl (hb hby d4_69)
  replace V_ar := Arv.set Ar6 q6 S6 N6n H6 G6 rfl W6 2 rfl (Nat.le_of_ble_eq_true rfl)
  replace F_alpha_a0 := F_alpha_a0.other W6 (Or.inl ne_a0_ar)
  refine Go.on st6 ?_
  have N6 := Fr.snoc X6 N5 g_ar
  replace ZZ := Nat.le_trans ZZ (Keep.of_wr W6).1
  replace KP := KP.wr W6 (Or.inr sz_ar)
  change Arv Z h6 ar k_ar .double (4 : Int32) [(.double (FP.dneg (FP.dmul (FP.dmul (FP.dmul al d1) (FP.dsub (4607182418800017408 : UInt64) d1)) (FP.dsub (4607182418800017408 : UInt64) d1)))), (.double (FP.dadd (FP.dsub (4607182418800017408 : UInt64) (FP.dmul (FP.dmul d1 d1) (FP.dsub (4613937818241073152 : UInt64) (FP.dmul (4611686018427387904 : UInt64) d1)))) (FP.dmul (FP.dmul (FP.dmul al d1) d1) (FP.dsub (4607182418800017408 : UInt64) d1)))), (.double (FP.dadd (FP.dmul (FP.dmul d1 d1) (FP.dsub (4613937818241073152 : UInt64) (FP.dmul (4611686018427387904 : UInt64) d1))) (FP.dmul (FP.dmul (FP.dmul al d1) (FP.dsub (4607182418800017408 : UInt64) d1)) (FP.dsub (4607182418800017408 : UInt64) d1)))), (.double (0 : UInt64))] (.double (0 : UInt64)) at V_ar
  show Go _ _ _ _ _ _ _ _ (mkF m 70 #[.val (.ref a0), .val (.double d1), .second, .val (.double (FP.dsub (4607182418800017408 : UInt64) d1)), .second, .val (.double (FP.dmul (FP.dmul d1 d1) (FP.dsub (4613937818241073152 : UInt64) (FP.dmul (4611686018427387904 : UInt64) d1)))), .second, .val (.double (FP.dmul (FP.dmul (FP.dmul al d1) (FP.dsub (4607182418800017408 : UInt64) d1)) (FP.dsub (4607182418800017408 : UInt64) d1))), .second, .val (.double (FP.dmul (FP.dmul (FP.dmul al d1) d1) (FP.dsub (4607182418800017408 : UInt64) d1))), .second] [(.ref ar)])
  refine Go.on (fun _ k => XS.dup X6.here hx rfl (hb hby d4_70) rfl rfl k) ?_
  show Go _ _ _ _ _ _ _ _ (mkF m 71 #[.val (.ref a0), .val (.double d1), .second, .val (.double (FP.dsub (4607182418800017408 : UInt64) d1)), .second, .val (.double (FP.dmul (FP.dmul d1 d1) (FP.dsub (4613937818241073152 : UInt64) (FP.dmul (4611686018427387904 : UInt64) d1)))), .second, .val (.double (FP.dmul (FP.dmul (FP.dmul al d1) (FP.dsub (4607182418800017408 : UInt64) d1)) (FP.dsub (4607182418800017408 : UInt64) d1))), .second, .val (.double (FP.dmul (FP.dmul (FP.dmul al d1) d1) (FP.dsub (4607182418800017408 : UInt64) d1))), .second] [(.ref ar), (.ref ar)])
  refine Go.on (fun _ k => XS.iconst X6.here hx rfl (hb hby d4_71) k) ?_
  show Go _ _ _ _ _ _ _ _ (mkF m 72 #[.val (.ref a0), .val (.double d1), .second, .val (.double (FP.dsub (4607182418800017408 : UInt64) d1)), .second, .val (.double (FP.dmul (FP.dmul d1 d1) (FP.dsub (4613937818241073152 : UInt64) (FP.dmul (4611686018427387904 : UInt64) d1)))), .second, .val (.double (FP.dmul (FP.dmul (FP.dmul al d1) (FP.dsub (4607182418800017408 : UInt64) d1)) (FP.dsub (4607182418800017408 : UInt64) d1))), .second, .val (.double (FP.dmul (FP.dmul (FP.dmul al d1) d1) (FP.dsub (4607182418800017408 : UInt64) d1))), .second] [(.int (3 : Int32)), (.ref ar), (.ref ar)])
  refine Go.on (fun _ k => XS.dload X6.here hx rfl (hb hby d4_72) rfl k) ?_
  show Go _ _ _ _ _ _ _ _ (mkF m 74 #[.val (.ref a0), .val (.double d1), .second, .val (.double (FP.dsub (4607182418800017408 : UInt64) d1)), .second, .val (.double (FP.dmul (FP.dmul d1 d1) (FP.dsub (4613937818241073152 : UInt64) (FP.dmul (4611686018427387904 : UInt64) d1)))), .second, .val (.double (FP.dmul (FP.dmul (FP.dmul al d1) (FP.dsub (4607182418800017408 : UInt64) d1)) (FP.dsub (4607182418800017408 : UInt64) d1))), .second, .val (.double (FP.dmul (FP.dmul (FP.dmul al d1) d1) (FP.dsub (4607182418800017408 : UInt64) d1))), .second] [(.double (FP.dmul (FP.dmul (FP.dmul al d1) d1) (FP.dsub (4607182418800017408 : UInt64) d1))), (.int (3 : Int32)), (.ref ar), (.ref ar)])
  refine Go.on (fun _ k => XS.dnegS X6.here hx rfl (hb hby d4_74) rfl rfl k) ?_
  show Go _ _ _ _ _ _ _ _ (mkF m 75 #[.val (.ref a0), .val (.double d1), .second, .val (.double (FP.dsub (4607182418800017408 : UInt64) d1)), .second, .val (.double (FP.dmul (FP.dmul d1 d1) (FP.dsub (4613937818241073152 : UInt64) (FP.dmul (4611686018427387904 : UInt64) d1)))), .second, .val (.double (FP.dmul (FP.dmul (FP.dmul al d1) (FP.dsub (4607182418800017408 : UInt64) d1)) (FP.dsub (4607182418800017408 : UInt64) d1))), .second, .val (.double (FP.dmul (FP.dmul (FP.dmul al d1) d1) (FP.dsub (4607182418800017408 : UInt64) d1))), .second] [(.double (FP.dneg (FP.dmul (FP.dmul (FP.dmul al d1) d1) (FP.dsub (4607182418800017408 : UInt64) d1)))), (.int (3 : Int32)), (.ref ar), (.ref ar)])
  obtain ⟨cl7, Ar7, q7, S7, N7n, H7, G7⟩ := id V_ar
  have hin7 : ¬ ((3 : Int32) < 0 ∨ cl7.slots.size ≤ ((3 : Int32)).toNatClampNeg) := inb_of S7 ⟨by decide, by decide⟩
  obtain ⟨T7, h7, X7, e7, W7, st7⟩ := stD X6 hx hZ e6 Ar7 (j := (3 : Int32)) hin7 (g := (mkF m 75 #[.val (.ref a0), .val (.double d1), .second, .val (.double (FP.dsub (4607182418800017408 : UInt64) d1)), .second, .val (.double (FP.dmul (FP.dmul d1 d1) (FP.dsub (4613937818241073152 : UInt64) (FP.dmul (4611686018427387904 : UInt64) d1)))), .second, .val (.double (FP.dmul (FP.dmul (FP.dmul al d1) (FP.dsub (4607182418800017408 : UInt64) d1)) (FP.dsub (4607182418800017408 : UInt64) d1))), .second, .val (.double (FP.dmul (FP.dmul (FP.dmul al d1) d1) (FP.dsub (4607182418800017408 : UInt64) d1))), .second] [(.double (FP.dneg (FP.dmul (FP.dmul (FP.dmul al d1) d1) (FP.dsub (4607182418800017408 : UInt64) d1)))), (.int (3 : Int32)), (.ref ar), (.ref ar)])) rfl rfl (hb hby d4_75)
  replace V_ar := Arv.set Ar7 q7 S7 N7n H7 G7 rfl W7 3 rfl (Nat.le_of_ble_eq_true rfl)
  replace F_alpha_a0 := F_alpha_a0.other W7 (Or.inl ne_a0_ar)
  refine Go.on st7 ?_
  have N7 := Fr.snoc X7 N6 g_ar
  replace ZZ := Nat.le_trans ZZ (Keep.of_wr W7).1
  replace KP := KP.wr W7 (Or.inr sz_ar)
  change Arv Z h7 ar k_ar .double (4 : Int32) [(.double (FP.dneg (FP.dmul (FP.dmul (FP.dmul al d1) (FP.dsub (4607182418800017408 : UInt64) d1)) (FP.dsub (4607182418800017408 : UInt64) d1)))), (.double (FP.dadd (FP.dsub (4607182418800017408 : UInt64) (FP.dmul (FP.dmul d1 d1) (FP.dsub (4613937818241073152 : UInt64) (FP.dmul (4611686018427387904 : UInt64) d1)))) (FP.dmul (FP.dmul (FP.dmul al d1) d1) (FP.dsub (4607182418800017408 : UInt64) d1)))), (.double (FP.dadd (FP.dmul (FP.dmul d1 d1) (FP.dsub (4613937818241073152 : UInt64) (FP.dmul (4611686018427387904 : UInt64) d1))) (FP.dmul (FP.dmul (FP.dmul al d1) (FP.dsub (4607182418800017408 : UInt64) d1)) (FP.dsub (4607182418800017408 : UInt64) d1)))), (.double (FP.dneg (FP.dmul (FP.dmul (FP.dmul al d1) d1) (FP.dsub (4607182418800017408 : UInt64) d1))))] (.double (0 : UInt64)) at V_ar
  show Go _ _ _ _ _ _ _ _ (mkF m 76 #[.val (.ref a0), .val (.double d1), .second, .val (.double (FP.dsub (4607182418800017408 : UInt64) d1)), .second, .val (.double (FP.dmul (FP.dmul d1 d1) (FP.dsub (4613937818241073152 : UInt64) (FP.dmul (4611686018427387904 : UInt64) d1)))), .second, .val (.double (FP.dmul (FP.dmul (FP.dmul al d1) (FP.dsub (4607182418800017408 : UInt64) d1)) (FP.dsub (4607182418800017408 : UInt64) d1))), .second, .val (.double (FP.dmul (FP.dmul (FP.dmul al d1) d1) (FP.dsub (4607182418800017408 : UInt64) d1))), .second] [(.ref ar)])
  refine Go.retV X7 hx Bd.returns rfl (Or.inr (Or.inr (Or.inr (Or.inr ⟨rfl, rfl, rfl⟩)))) (hb hby d4_76) ?_ (by rw [hK1]; decide) (by rw [hK2]; decide)
  rw [e7, ← hQQ]
  exact ⟨ar, k_ar, rfl, N7, KP, sz_ar, V_ar⟩
theorem pd_1 : parseMethodDescriptor "(D)V" = some ⟨[.double], none⟩ := by decide +kernel
theorem pd_2 : parseMethodDescriptor "(D)[D" = some ⟨[.double], some (.array .double)⟩ := by decide +kernel
theorem pn_2 : plainName "hermitage/CubicWeightsPinLaw" = true := by first | (simp [plainName, overriddenIn]; done) | decide +kernel
theorem ef_rm0 (m : MethodId) (i0 : Int32) (i1 : Int32) : entryFrame m #[(.int i0), (.int i1)] maxLocals = mkF m 0 #[.val (.int i0), .val (.int i1), .unset, .unset, .unset, .unset, .unset, .unset, .unset, .unset, .unset, .unset, .unset, .unset, .unset, .unset, .unset, .unset, .unset, .unset, .unset, .unset, .unset, .unset, .unset, .unset, .unset, .unset] [] := by first | (simp [entryFrame, mkF, argsToLocals, Value.category, maxLocals]; done) | rfl
def Q_rm0 (Z : State) (i0 : Int32) (i1 : Int32) (h0 : Heap) (n0 : Nat) (v : Option Value) (h : Heap) (L : List Loc) : Prop := v = some (.int 1) ∧ Fr n0 L
set_option maxRecDepth 65536 in
set_option maxHeartbeats 40000000 in
theorem rm0 (l : Launch) (Z : State) (aw : Array Value) (hw : ∀ d ∈ tables_1, d.before aw Z = true) (ws : List Jvm.Cond) (i0 : Int32) (i1 : Int32) (h0 : Heap) (n0 : Nat) (Z0 : n0 ≤ h0.size) :
    MetFree l x (head1 (Jvm.Cond.code x code maxLocals ret :: ws) room_1) (fun a U => a = #[(.int i0), (.int i1)] ∧ Z.Warmed39 U.vm ∧ U.heap = h0) (fun _ _ _ _ _ => True) (fun _ U o U' => ∃ v L, o = .returned v ∧ Q_rm0 Z i0 i1 h0 n0 v U'.heap L ∧ ReturnedEndW U o U' L 4 29) := by
  refine MetFree.of_bodySF (plainFor_of_name pn_2) hisR ?_
  intro p e s m args below meth c s₁ Bd hml0 hP hK
  obtain ⟨rfl, hZ, hh⟩ := hP
  have hx := Bd.exec
  have hby := Bd.bytes
  have hml : c.maxLocals = 28 := hml0
  have hown : s.vm.findClass "hermitage/CubicWeightsPinLaw" = some m.cls := findClass_of_methodNamed Bd.named
  have hnm := (name_of_methodNamed Bd.named Bd.method).1
  have hlk : meth.locks = false := BodyLoose.notSynchronized Bd
  have X0 : Stand p l e room_1 (s.setVm s.vm) m #[(.int i0), (.int i1)] below meth c s₁ [] 0 0 := Stand.of_body Bd
  have e0 : s₁.heap = h0 := by rw [← hh, Bd.state]; rfl
  have N0 := Fr.nil n0
  have ZZ := Z0
  show GoW p e below s 4 29 (fun v h L => Q_rm0 Z i0 i1 h0 n0 v h L) s₁ (entryFrame m #[(.int i0), (.int i1)] maxLocals)
  refine GoW.cast (ef_rm0 m i0 i1) ?_
  refine GoW.gen ?_
  intro K1 K2 QQ hK1 hK2 hQQ
  have HS : s.Since s.vm s.heap.size := (State.WarmedH.refl s).since _
  have HK : s.heap.size ≤ h0.size := by rw [hh]; exact Nat.le_refl _
  replace hZ : Z.Warmed39 (s.setVm s.vm).vm := hZ
  replace hown : (s.setVm s.vm).vm.findClass "hermitage/CubicWeightsPinLaw" = some m.cls := hown
  refine GoW.on (fun _ k => X0.ldc2J hx hown (mvT hZ (hw _ (List.mem_of_getElem? (i := 0) rfl))) rfl (hb hby at_0) k) ?_
  show GoW _ _ _ _ _ _ _ _ (mkF m 3 #[.val (.int i0), .val (.int i1), .unset, .unset, .unset, .unset, .unset, .unset, .unset, .unset, .unset, .unset, .unset, .unset, .unset, .unset, .unset, .unset, .unset, .unset, .unset, .unset, .unset, .unset, .unset, .unset, .unset, .unset] [(.long (1024 : Int64))])
  refine GoW.on (fun _ k => XS.lstoreN X0.here hx rfl (hb hby at_3) rfl (l' := #[.val (.int i0), .val (.int i1), .val (.long (1024 : Int64)), .second, .unset, .unset, .unset, .unset, .unset, .unset, .unset, .unset, .unset, .unset, .unset, .unset, .unset, .unset, .unset, .unset, .unset, .unset, .unset, .unset, .unset, .unset, .unset, .unset]) rfl k) ?_
  show GoW _ _ _ _ _ _ _ _ (mkF m 4 #[.val (.int i0), .val (.int i1), .val (.long (1024 : Int64)), .second, .unset, .unset, .unset, .unset, .unset, .unset, .unset, .unset, .unset, .unset, .unset, .unset, .unset, .unset, .unset, .unset, .unset, .unset, .unset, .unset, .unset, .unset, .unset, .unset] [])
  refine GoW.on (fun _ k => XS.iloadN X0.here hx rfl (hb hby at_4) rfl k) ?_
  show GoW _ _ _ _ _ _ _ _ (mkF m 5 #[.val (.int i0), .val (.int i1), .val (.long (1024 : Int64)), .second, .unset, .unset, .unset, .unset, .unset, .unset, .unset, .unset, .unset, .unset, .unset, .unset, .unset, .unset, .unset, .unset, .unset, .unset, .unset, .unset, .unset, .unset, .unset, .unset] [(.int i0)])
  refine GoW.on (fun _ k => X0.ldcI hx hown (mvT hZ (hw _ (List.mem_of_getElem? (i := 1) rfl))) rfl (hb hby at_5) k) ?_
  show GoW _ _ _ _ _ _ _ _ (mkF m 7 #[.val (.int i0), .val (.int i1), .val (.long (1024 : Int64)), .second, .unset, .unset, .unset, .unset, .unset, .unset, .unset, .unset, .unset, .unset, .unset, .unset, .unset, .unset, .unset, .unset, .unset, .unset, .unset, .unset, .unset, .unset, .unset, .unset] [(.int (2147483647 : Int32)), (.int i0)])
  refine GoW.on (fun _ k => XS.iand X0.here hx rfl (hb hby at_7) rfl k) ?_
  show GoW _ _ _ _ _ _ _ _ (mkF m 8 #[.val (.int i0), .val (.int i1), .val (.long (1024 : Int64)), .second, .unset, .unset, .unset, .unset, .unset, .unset, .unset, .unset, .unset, .unset, .unset, .unset, .unset, .unset, .unset, .unset, .unset, .unset, .unset, .unset, .unset, .unset, .unset, .unset] [(.int (i0 &&& (2147483647 : Int32)))])
  refine GoW.on (fun _ k => XS.sipush X0.here hx rfl (hb hby at_8) k) ?_
  show GoW _ _ _ _ _ _ _ _ (mkF m 11 #[.val (.int i0), .val (.int i1), .val (.long (1024 : Int64)), .second, .unset, .unset, .unset, .unset, .unset, .unset, .unset, .unset, .unset, .unset, .unset, .unset, .unset, .unset, .unset, .unset, .unset, .unset, .unset, .unset, .unset, .unset, .unset, .unset] [(.int (1025 : Int32)), (.int (i0 &&& (2147483647 : Int32)))])
  refine GoW.on (fun _ k => iremM X0 hx rfl (hb hby at_11) rfl (by decide) k) ?_
  show GoW _ _ _ _ _ _ _ _ (mkF m 12 #[.val (.int i0), .val (.int i1), .val (.long (1024 : Int64)), .second, .unset, .unset, .unset, .unset, .unset, .unset, .unset, .unset, .unset, .unset, .unset, .unset, .unset, .unset, .unset, .unset, .unset, .unset, .unset, .unset, .unset, .unset, .unset, .unset] [(.int ((i0 &&& (2147483647 : Int32)) % (1025 : Int32)))])
  refine GoW.on (fun _ k => XS.i2l X0.here hx rfl (hb hby at_12) rfl k) ?_
  show GoW _ _ _ _ _ _ _ _ (mkF m 13 #[.val (.int i0), .val (.int i1), .val (.long (1024 : Int64)), .second, .unset, .unset, .unset, .unset, .unset, .unset, .unset, .unset, .unset, .unset, .unset, .unset, .unset, .unset, .unset, .unset, .unset, .unset, .unset, .unset, .unset, .unset, .unset, .unset] [(.long (((i0 &&& (2147483647 : Int32)) % (1025 : Int32)).toInt64))])
  refine GoW.on (fun _ k => XS.lstore X0.here hx rfl (hb hby at_13) rfl (l' := #[.val (.int i0), .val (.int i1), .val (.long (1024 : Int64)), .second, .val (.long (((i0 &&& (2147483647 : Int32)) % (1025 : Int32)).toInt64)), .second, .unset, .unset, .unset, .unset, .unset, .unset, .unset, .unset, .unset, .unset, .unset, .unset, .unset, .unset, .unset, .unset, .unset, .unset, .unset, .unset, .unset, .unset]) rfl k) ?_
  show GoW _ _ _ _ _ _ _ _ (mkF m 15 #[.val (.int i0), .val (.int i1), .val (.long (1024 : Int64)), .second, .val (.long (((i0 &&& (2147483647 : Int32)) % (1025 : Int32)).toInt64)), .second, .unset, .unset, .unset, .unset, .unset, .unset, .unset, .unset, .unset, .unset, .unset, .unset, .unset, .unset, .unset, .unset, .unset, .unset, .unset, .unset, .unset, .unset] [])
  generalize hjk : (((i0 &&& (2147483647 : Int32)) % (1025 : Int32)).toInt64) = jk
  show GoW _ _ _ _ _ _ _ _ (mkF m 15 #[.val (.int i0), .val (.int i1), .val (.long (1024 : Int64)), .second, .val (.long jk), .second, .unset, .unset, .unset, .unset, .unset, .unset, .unset, .unset, .unset, .unset, .unset, .unset, .unset, .unset, .unset, .unset, .unset, .unset, .unset, .unset, .unset, .unset] [])
  refine GoW.on (fun _ k => XS.iloadN X0.here hx rfl (hb hby at_15) rfl k) ?_
  show GoW _ _ _ _ _ _ _ _ (mkF m 16 #[.val (.int i0), .val (.int i1), .val (.long (1024 : Int64)), .second, .val (.long jk), .second, .unset, .unset, .unset, .unset, .unset, .unset, .unset, .unset, .unset, .unset, .unset, .unset, .unset, .unset, .unset, .unset, .unset, .unset, .unset, .unset, .unset, .unset] [(.int i1)])
  refine GoW.on (fun _ k => X0.ldcI hx hown (mvT hZ (hw _ (List.mem_of_getElem? (i := 1) rfl))) rfl (hb hby at_16) k) ?_
  show GoW _ _ _ _ _ _ _ _ (mkF m 18 #[.val (.int i0), .val (.int i1), .val (.long (1024 : Int64)), .second, .val (.long jk), .second, .unset, .unset, .unset, .unset, .unset, .unset, .unset, .unset, .unset, .unset, .unset, .unset, .unset, .unset, .unset, .unset, .unset, .unset, .unset, .unset, .unset, .unset] [(.int (2147483647 : Int32)), (.int i1)])
  refine GoW.on (fun _ k => XS.iand X0.here hx rfl (hb hby at_18) rfl k) ?_
  show GoW _ _ _ _ _ _ _ _ (mkF m 19 #[.val (.int i0), .val (.int i1), .val (.long (1024 : Int64)), .second, .val (.long jk), .second, .unset, .unset, .unset, .unset, .unset, .unset, .unset, .unset, .unset, .unset, .unset, .unset, .unset, .unset, .unset, .unset, .unset, .unset, .unset, .unset, .unset, .unset] [(.int (i1 &&& (2147483647 : Int32)))])
  refine GoW.on (fun _ k => XS.sipush X0.here hx rfl (hb hby at_19) k) ?_
  show GoW _ _ _ _ _ _ _ _ (mkF m 22 #[.val (.int i0), .val (.int i1), .val (.long (1024 : Int64)), .second, .val (.long jk), .second, .unset, .unset, .unset, .unset, .unset, .unset, .unset, .unset, .unset, .unset, .unset, .unset, .unset, .unset, .unset, .unset, .unset, .unset, .unset, .unset, .unset, .unset] [(.int (1025 : Int32)), (.int (i1 &&& (2147483647 : Int32)))])
  refine GoW.on (fun _ k => iremM X0 hx rfl (hb hby at_22) rfl (by decide) k) ?_
  show GoW _ _ _ _ _ _ _ _ (mkF m 23 #[.val (.int i0), .val (.int i1), .val (.long (1024 : Int64)), .second, .val (.long jk), .second, .unset, .unset, .unset, .unset, .unset, .unset, .unset, .unset, .unset, .unset, .unset, .unset, .unset, .unset, .unset, .unset, .unset, .unset, .unset, .unset, .unset, .unset] [(.int ((i1 &&& (2147483647 : Int32)) % (1025 : Int32)))])
  refine GoW.on (fun _ k => XS.i2l X0.here hx rfl (hb hby at_23) rfl k) ?_
  show GoW _ _ _ _ _ _ _ _ (mkF m 24 #[.val (.int i0), .val (.int i1), .val (.long (1024 : Int64)), .second, .val (.long jk), .second, .unset, .unset, .unset, .unset, .unset, .unset, .unset, .unset, .unset, .unset, .unset, .unset, .unset, .unset, .unset, .unset, .unset, .unset, .unset, .unset, .unset, .unset] [(.long (((i1 &&& (2147483647 : Int32)) % (1025 : Int32)).toInt64))])
  refine GoW.on (fun _ k => XS.lstore X0.here hx rfl (hb hby at_24) rfl (l' := #[.val (.int i0), .val (.int i1), .val (.long (1024 : Int64)), .second, .val (.long jk), .second, .val (.long (((i1 &&& (2147483647 : Int32)) % (1025 : Int32)).toInt64)), .second, .unset, .unset, .unset, .unset, .unset, .unset, .unset, .unset, .unset, .unset, .unset, .unset, .unset, .unset, .unset, .unset, .unset, .unset, .unset, .unset]) rfl k) ?_
  show GoW _ _ _ _ _ _ _ _ (mkF m 26 #[.val (.int i0), .val (.int i1), .val (.long (1024 : Int64)), .second, .val (.long jk), .second, .val (.long (((i1 &&& (2147483647 : Int32)) % (1025 : Int32)).toInt64)), .second, .unset, .unset, .unset, .unset, .unset, .unset, .unset, .unset, .unset, .unset, .unset, .unset, .unset, .unset, .unset, .unset, .unset, .unset, .unset, .unset] [])
  generalize hja : (((i1 &&& (2147483647 : Int32)) % (1025 : Int32)).toInt64) = ja
  show GoW _ _ _ _ _ _ _ _ (mkF m 26 #[.val (.int i0), .val (.int i1), .val (.long (1024 : Int64)), .second, .val (.long jk), .second, .val (.long ja), .second, .unset, .unset, .unset, .unset, .unset, .unset, .unset, .unset, .unset, .unset, .unset, .unset, .unset, .unset, .unset, .unset, .unset, .unset, .unset, .unset] [])
  obtain ⟨T1, h1, X1, e1, E1, A1, D1, -, st1⟩ := newO X0 hx hZ hown (hw _ (List.mem_of_getElem? (i := 2) rfl)) (hw _ (List.mem_of_getElem? (i := 3) rfl)) (hw _ (List.mem_of_getElem? (i := 4) rfl)) e0 (g := (mkF m 26 #[.val (.int i0), .val (.int i1), .val (.long (1024 : Int64)), .second, .val (.long jk), .second, .val (.long ja), .second, .unset, .unset, .unset, .unset, .unset, .unset, .unset, .unset, .unset, .unset, .unset, .unset, .unset, .unset, .unset, .unset, .unset, .unset, .unset, .unset] [])) rfl (hb hby at_26) (by decide) (by decide)
  obtain ⟨q, g1⟩ : ∃ z, z = h0.size := ⟨_, rfl⟩
  have g_q : n0 ≤ q := Nat.le_trans ZZ (Nat.le_of_eq g1.symm)
  rw [← g1] at A1 D1 st1
  replace ZZ := Nat.le_trans ZZ E1.1
  replace HK := Nat.le_trans HK E1.1
  have E_q := A1
  have F_alpha_q : Fld Z h1 q "hermitage/Cubic" "alpha" "D" (.double (0 : UInt64)) := D1 (Or.inr (hw _ (List.mem_of_getElem? (i := 25) rfl))) (ty := .double) (by decide)
  refine GoW.on st1 ?_
  show GoW _ _ _ _ _ _ _ _ (mkF m 29 #[.val (.int i0), .val (.int i1), .val (.long (1024 : Int64)), .second, .val (.long jk), .second, .val (.long ja), .second, .unset, .unset, .unset, .unset, .unset, .unset, .unset, .unset, .unset, .unset, .unset, .unset, .unset, .unset, .unset, .unset, .unset, .unset, .unset, .unset] [(.ref q)])
  refine GoW.on (fun _ k => XS.dup X1.here hx rfl (hb hby at_29) rfl rfl k) ?_
  show GoW _ _ _ _ _ _ _ _ (mkF m 30 #[.val (.int i0), .val (.int i1), .val (.long (1024 : Int64)), .second, .val (.long jk), .second, .val (.long ja), .second, .unset, .unset, .unset, .unset, .unset, .unset, .unset, .unset, .unset, .unset, .unset, .unset, .unset, .unset, .unset, .unset, .unset, .unset, .unset, .unset] [(.ref q), (.ref q)])
  refine GoW.on (fun _ k => XS.lload X1.here hx rfl (hb hby at_30) rfl k) ?_
  show GoW _ _ _ _ _ _ _ _ (mkF m 32 #[.val (.int i0), .val (.int i1), .val (.long (1024 : Int64)), .second, .val (.long jk), .second, .val (.long ja), .second, .unset, .unset, .unset, .unset, .unset, .unset, .unset, .unset, .unset, .unset, .unset, .unset, .unset, .unset, .unset, .unset, .unset, .unset, .unset, .unset] [(.long ja), (.ref q), (.ref q)])
  refine GoW.on (fun _ k => XS.l2dS X1.here hx rfl (hb hby at_32) rfl rfl k) ?_
  show GoW _ _ _ _ _ _ _ _ (mkF m 33 #[.val (.int i0), .val (.int i1), .val (.long (1024 : Int64)), .second, .val (.long jk), .second, .val (.long ja), .second, .unset, .unset, .unset, .unset, .unset, .unset, .unset, .unset, .unset, .unset, .unset, .unset, .unset, .unset, .unset, .unset, .unset, .unset, .unset, .unset] [(.double (FP.l2d ja)), (.ref q), (.ref q)])
  refine GoW.on (X1.ldc2DoubleC hx hown (mvT hZ (hw _ (List.mem_of_getElem? (i := 5) rfl))) (g := (mkF m 33 #[.val (.int i0), .val (.int i1), .val (.long (1024 : Int64)), .second, .val (.long jk), .second, .val (.long ja), .second, .unset, .unset, .unset, .unset, .unset, .unset, .unset, .unset, .unset, .unset, .unset, .unset, .unset, .unset, .unset, .unset, .unset, .unset, .unset, .unset] [(.double (FP.l2d ja)), (.ref q), (.ref q)])) rfl (hb hby at_33)) ?_
  show GoW _ _ _ _ _ _ _ _ (mkF m 36 #[.val (.int i0), .val (.int i1), .val (.long (1024 : Int64)), .second, .val (.long jk), .second, .val (.long ja), .second, .unset, .unset, .unset, .unset, .unset, .unset, .unset, .unset, .unset, .unset, .unset, .unset, .unset, .unset, .unset, .unset, .unset, .unset, .unset, .unset] [(.double (4652218415073722368 : UInt64)), (.double (FP.l2d ja)), (.ref q), (.ref q)])
  refine GoW.on (fun _ k => XS.ddivS X1.here hx rfl (hb hby at_36) rfl ((own_kd (own_rem hja)).nn) rfl k) ?_
  show GoW _ _ _ _ _ _ _ _ (mkF m 37 #[.val (.int i0), .val (.int i1), .val (.long (1024 : Int64)), .second, .val (.long jk), .second, .val (.long ja), .second, .unset, .unset, .unset, .unset, .unset, .unset, .unset, .unset, .unset, .unset, .unset, .unset, .unset, .unset, .unset, .unset, .unset, .unset, .unset, .unset] [(.double (FP.ddiv (FP.l2d ja) (4652218415073722368 : UInt64))), (.ref q), (.ref q)])
  have Bk := own_rem hjk
  have Ba := own_rem hja
  have S3 := own_s Bk
  have P3 := own_p Ba Bk
  have Q3 := own_qq Ba Bk
  have W1 := own_w1 Ba Bk
  have W2 := own_w2 Ba Bk
  obtain ⟨b1, b2, b3⟩ := own_bs Ba Bk
  obtain ⟨_, _, ⟨T2, L2, k2, n2⟩, -, X2, HS2_, HG2_, ⟨Lc2, hQ2, l2, y2, z2⟩, st2⟩ := X1.specialBackS hx (y := (⟨"hermitage/Cubic", "<init>", "(D)V"⟩ : MethodName)) rfl hown (mvT hZ (hw _ (List.mem_of_getElem? (i := 6) rfl))) (mvT hZ (hw _ (List.mem_of_getElem? (i := 7) rfl))) (mvT hZ (hw _ (List.mem_of_getElem? (i := 8) rfl))) (by decide) (backOfS (W := 1) (rm1 l Z aw hw [] q (FP.ddiv (FP.l2d ja) (4652218415073722368 : UInt64))  h1 n0 ZZ E_q F_alpha_q g_q (own_lo Ba) (own_hi Ba)) hZ (hw _ (List.mem_of_getElem? (i := 8) rfl)) (hw _ (List.mem_of_getElem? (i := 4) rfl)) (by decide) (by decide)) (g := (mkF m 37 #[.val (.int i0), .val (.int i1), .val (.long (1024 : Int64)), .second, .val (.long jk), .second, .val (.long ja), .second, .unset, .unset, .unset, .unset, .unset, .unset, .unset, .unset, .unset, .unset, .unset, .unset, .unset, .unset, .unset, .unset, .unset, .unset, .unset, .unset] [(.double (FP.ddiv (FP.l2d ja) (4652218415073722368 : UInt64))), (.ref q), (.ref q)])) rfl (by rw [hml]; rfl) (Steps.refl _) (a := q) (argsL := [(.double (FP.ddiv (FP.l2d ja) (4652218415073722368 : UInt64)))]) (rest := [(.ref q)]) (lenOf pd_1 rfl) rfl (by show 2 * 0 + _ ≤ _; exact Nat.le_of_eq rfl) (hb hby at_37) (fun _ _ => ⟨rfl, e1, (by decide : 1 + 2 ≤ _), (by decide : 1 + 24 ≤ _)⟩)
  dsimp only [Pt.U, Pt.locs, Pt.cells, Pt.slots] at X2 l2 y2 z2 st2 hQ2 HS2_ HG2_
  subst l2 y2 z2
  have HS2 := Jvm.RoadKit.foldS HS (by rw [e1]; exact HK) HS2_ HG2_
  have hZ2 : Z.Warmed39 (s.setVm T2.vm).vm := State.Warmed39.trans (t := State.setVm s _) hZ HS2_.1
  have hown2 : (s.setVm T2.vm).vm.findClass "hermitage/CubicWeightsPinLaw" = some m.cls := by rw [show (s.setVm T2.vm).vm = T2.vm from rfl, HS2_.1.alike.findClass]; exact hown
  replace X2 : Stand p l e _ (s.setVm T2.vm) m _ below meth c T2 _ _ _ := X2
  replace HS := HS2
  replace hZ := hZ2
  replace hown := hown2
  obtain ⟨h2, e2⟩ : ∃ q, T2.heap = q := ⟨_, rfl⟩
  rw [e2] at hQ2
  obtain ⟨rfl, N2q, K2q, E_q', F_alpha_q'⟩ := hQ2
  have N2 := Fr.app N0 N2q
  replace E_q := E_q.keep K2q
  replace ZZ := Nat.le_trans ZZ K2q.1
  replace E_q := E_q'
  have F_alpha_q := F_alpha_q'
  refine GoW.on (fun _ k => st2.trans k) ?_
  show GoW _ _ _ _ _ _ _ _ (mkF m 40 #[.val (.int i0), .val (.int i1), .val (.long (1024 : Int64)), .second, .val (.long jk), .second, .val (.long ja), .second, .unset, .unset, .unset, .unset, .unset, .unset, .unset, .unset, .unset, .unset, .unset, .unset, .unset, .unset, .unset, .unset, .unset, .unset, .unset, .unset] [(.ref q)])
  replace HK : T2.heap.size ≤ h2.size := by rw [e2]; exact Nat.le_refl _
  refine GoW.on (fun _ k => XS.astore X2.here hx rfl (hb hby at_40) rfl rfl (l' := #[.val (.int i0), .val (.int i1), .val (.long (1024 : Int64)), .second, .val (.long jk), .second, .val (.long ja), .second, .val (.ref q), .unset, .unset, .unset, .unset, .unset, .unset, .unset, .unset, .unset, .unset, .unset, .unset, .unset, .unset, .unset, .unset, .unset, .unset, .unset]) rfl k) ?_
  show GoW _ _ _ _ _ _ _ _ (mkF m 42 #[.val (.int i0), .val (.int i1), .val (.long (1024 : Int64)), .second, .val (.long jk), .second, .val (.long ja), .second, .val (.ref q), .unset, .unset, .unset, .unset, .unset, .unset, .unset, .unset, .unset, .unset, .unset, .unset, .unset, .unset, .unset, .unset, .unset, .unset, .unset] [])
  refine GoW.on (fun _ k => XS.aload X2.here hx rfl (hb hby at_42) rfl rfl k) ?_
  show GoW _ _ _ _ _ _ _ _ (mkF m 44 #[.val (.int i0), .val (.int i1), .val (.long (1024 : Int64)), .second, .val (.long jk), .second, .val (.long ja), .second, .val (.ref q), .unset, .unset, .unset, .unset, .unset, .unset, .unset, .unset, .unset, .unset, .unset, .unset, .unset, .unset, .unset, .unset, .unset, .unset, .unset] [(.ref q)])
  refine GoW.on (fun _ k => XS.lload X2.here hx rfl (hb hby at_44) rfl k) ?_
  show GoW _ _ _ _ _ _ _ _ (mkF m 46 #[.val (.int i0), .val (.int i1), .val (.long (1024 : Int64)), .second, .val (.long jk), .second, .val (.long ja), .second, .val (.ref q), .unset, .unset, .unset, .unset, .unset, .unset, .unset, .unset, .unset, .unset, .unset, .unset, .unset, .unset, .unset, .unset, .unset, .unset, .unset] [(.long jk), (.ref q)])
  refine GoW.on (fun _ k => XS.l2dS X2.here hx rfl (hb hby at_46) rfl rfl k) ?_
  show GoW _ _ _ _ _ _ _ _ (mkF m 47 #[.val (.int i0), .val (.int i1), .val (.long (1024 : Int64)), .second, .val (.long jk), .second, .val (.long ja), .second, .val (.ref q), .unset, .unset, .unset, .unset, .unset, .unset, .unset, .unset, .unset, .unset, .unset, .unset, .unset, .unset, .unset, .unset, .unset, .unset, .unset] [(.double (FP.l2d jk)), (.ref q)])
  refine GoW.on (X2.ldc2DoubleC hx hown (mvT hZ (hw _ (List.mem_of_getElem? (i := 5) rfl))) (g := (mkF m 47 #[.val (.int i0), .val (.int i1), .val (.long (1024 : Int64)), .second, .val (.long jk), .second, .val (.long ja), .second, .val (.ref q), .unset, .unset, .unset, .unset, .unset, .unset, .unset, .unset, .unset, .unset, .unset, .unset, .unset, .unset, .unset, .unset, .unset, .unset, .unset] [(.double (FP.l2d jk)), (.ref q)])) rfl (hb hby at_47)) ?_
  show GoW _ _ _ _ _ _ _ _ (mkF m 50 #[.val (.int i0), .val (.int i1), .val (.long (1024 : Int64)), .second, .val (.long jk), .second, .val (.long ja), .second, .val (.ref q), .unset, .unset, .unset, .unset, .unset, .unset, .unset, .unset, .unset, .unset, .unset, .unset, .unset, .unset, .unset, .unset, .unset, .unset, .unset] [(.double (4652218415073722368 : UInt64)), (.double (FP.l2d jk)), (.ref q)])
  refine GoW.on (fun _ k => XS.ddivS X2.here hx rfl (hb hby at_50) rfl ((own_kd Bk).nn) rfl k) ?_
  show GoW _ _ _ _ _ _ _ _ (mkF m 51 #[.val (.int i0), .val (.int i1), .val (.long (1024 : Int64)), .second, .val (.long jk), .second, .val (.long ja), .second, .val (.ref q), .unset, .unset, .unset, .unset, .unset, .unset, .unset, .unset, .unset, .unset, .unset, .unset, .unset, .unset, .unset, .unset, .unset, .unset, .unset] [(.double (FP.ddiv (FP.l2d jk) (4652218415073722368 : UInt64))), (.ref q)])
  obtain ⟨cq3, kq3, q3a, q3b, q3c⟩ := isOf hZ e2 E_q
  obtain ⟨_, _, ⟨T3, L3, k3, n3⟩, -, X3, ⟨Lc3, hQ3, l3, y3, z3⟩, st3⟩ := X2.virtualBack hx (y := (⟨"hermitage/Cubic", "weights", "(D)[D"⟩ : MethodName)) (z := (⟨"hermitage/Cubic", "weights", "(D)[D"⟩ : MethodName)) hown (mvT hZ (hw _ (List.mem_of_getElem? (i := 26) rfl))) (mvT hZ (hw _ (List.mem_of_getElem? (i := 27) rfl))) (notFace_of_selects (args := #[]) (mvT hZ (hw _ (List.mem_of_getElem? (i := 29) rfl)))) (mvT hZ (hw _ (List.mem_of_getElem? (i := 29) rfl))) (mvT hZ (hw _ (List.mem_of_getElem? (i := 28) rfl))) (by decide) (backOf (W := 0) (rm4 l Z aw hw [] q (FP.ddiv (FP.l2d jk) (4652218415073722368 : UInt64)) (FP.ddiv (FP.l2d ja) (4652218415073722368 : UInt64)) h2 n0 ZZ F_alpha_q (own_u Bk).nn S3.1 S3.2.1 S3.2.2.1 S3.2.2.2.nn P3.1 P3.2.1 P3.2.2.nn Q3.1 Q3.2.nn W1.1 W1.2.nn W2.nn) hZ (hw _ (List.mem_of_getElem? (i := 30) rfl)) (hw _ (List.mem_of_getElem? (i := 4) rfl)) (by decide) (by decide)) q3a q3c (g := (mkF m 51 #[.val (.int i0), .val (.int i1), .val (.long (1024 : Int64)), .second, .val (.long jk), .second, .val (.long ja), .second, .val (.ref q), .unset, .unset, .unset, .unset, .unset, .unset, .unset, .unset, .unset, .unset, .unset, .unset, .unset, .unset, .unset, .unset, .unset, .unset, .unset] [(.double (FP.ddiv (FP.l2d jk) (4652218415073722368 : UInt64))), (.ref q)])) rfl (by rw [hml]; rfl) (Steps.refl _) (argsL := [(.double (FP.ddiv (FP.l2d jk) (4652218415073722368 : UInt64)))]) (rest := []) (lenOf pd_2 rfl) rfl (by show 2 * 0 + _ ≤ _; exact Nat.le_of_eq rfl) (hb hby at_51) (fun _ _ => ⟨rfl, e2, (by decide : 3 + 1 ≤ _), (by decide : 25 + 4 ≤ _)⟩)
  dsimp only [Pt.U, Pt.locs, Pt.cells, Pt.slots] at X3 l3 y3 z3 st3 hQ3
  subst l3 y3 z3
  obtain ⟨h3, e3⟩ : ∃ q, T3.heap = q := ⟨_, rfl⟩
  rw [e3] at hQ3
  obtain ⟨wt, k_wt, rfl, N3q, K3q, szq3, V_wt⟩ := hQ3
  have N3 := Fr.app N2 N3q
  have g_wt : n0 ≤ wt := Nat.le_trans ZZ szq3
  replace E_q := E_q.keep K3q
  replace F_alpha_q := F_alpha_q.keep K3q nin0
  replace ZZ := Nat.le_trans ZZ K3q.1
  replace HK := Nat.le_trans HK K3q.1
  refine GoW.on (fun _ k => st3.trans k) ?_
  show GoW _ _ _ _ _ _ _ _ (mkF m 54 #[.val (.int i0), .val (.int i1), .val (.long (1024 : Int64)), .second, .val (.long jk), .second, .val (.long ja), .second, .val (.ref q), .unset, .unset, .unset, .unset, .unset, .unset, .unset, .unset, .unset, .unset, .unset, .unset, .unset, .unset, .unset, .unset, .unset, .unset, .unset] [(.ref wt)])
  refine GoW.on (fun _ k => XS.astore X3.here hx rfl (hb hby at_54) rfl rfl (l' := #[.val (.int i0), .val (.int i1), .val (.long (1024 : Int64)), .second, .val (.long jk), .second, .val (.long ja), .second, .val (.ref q), .val (.ref wt), .unset, .unset, .unset, .unset, .unset, .unset, .unset, .unset, .unset, .unset, .unset, .unset, .unset, .unset, .unset, .unset, .unset, .unset]) rfl k) ?_
  show GoW _ _ _ _ _ _ _ _ (mkF m 56 #[.val (.int i0), .val (.int i1), .val (.long (1024 : Int64)), .second, .val (.long jk), .second, .val (.long ja), .second, .val (.ref q), .val (.ref wt), .unset, .unset, .unset, .unset, .unset, .unset, .unset, .unset, .unset, .unset, .unset, .unset, .unset, .unset, .unset, .unset, .unset, .unset] [])
  refine GoW.on (fun _ k => XS.aload X3.here hx rfl (hb hby at_56) rfl rfl k) ?_
  show GoW _ _ _ _ _ _ _ _ (mkF m 58 #[.val (.int i0), .val (.int i1), .val (.long (1024 : Int64)), .second, .val (.long jk), .second, .val (.long ja), .second, .val (.ref q), .val (.ref wt), .unset, .unset, .unset, .unset, .unset, .unset, .unset, .unset, .unset, .unset, .unset, .unset, .unset, .unset, .unset, .unset, .unset, .unset] [(.ref wt)])
  refine GoW.on (fun _ k => XS.ifnullNo X3.here hx rfl (hb hby at_58) rfl k) ?_
  show GoW _ _ _ _ _ _ _ _ (mkF m 61 #[.val (.int i0), .val (.int i1), .val (.long (1024 : Int64)), .second, .val (.long jk), .second, .val (.long ja), .second, .val (.ref q), .val (.ref wt), .unset, .unset, .unset, .unset, .unset, .unset, .unset, .unset, .unset, .unset, .unset, .unset, .unset, .unset, .unset, .unset, .unset, .unset] [])
  refine GoW.on (fun _ k => XS.aload X3.here hx rfl (hb hby at_61) rfl rfl k) ?_
  show GoW _ _ _ _ _ _ _ _ (mkF m 63 #[.val (.int i0), .val (.int i1), .val (.long (1024 : Int64)), .second, .val (.long jk), .second, .val (.long ja), .second, .val (.ref q), .val (.ref wt), .unset, .unset, .unset, .unset, .unset, .unset, .unset, .unset, .unset, .unset, .unset, .unset, .unset, .unset, .unset, .unset, .unset, .unset] [(.ref wt)])
  obtain ⟨cl4, Ar4, -, S4, N4n, -, -⟩ := id V_wt
  refine GoW.on (X3.arraylength hx (by rw [e3]; exact Ar4.1) (State.isArrayOf_alike hZ.alike Ar4.2.1) (g := (mkF m 63 #[.val (.int i0), .val (.int i1), .val (.long (1024 : Int64)), .second, .val (.long jk), .second, .val (.long ja), .second, .val (.ref q), .val (.ref wt), .unset, .unset, .unset, .unset, .unset, .unset, .unset, .unset, .unset, .unset, .unset, .unset, .unset, .unset, .unset, .unset, .unset, .unset] [(.ref wt)])) rfl rfl (hb hby at_63)) ?_
  rw [len_of S4 N4n]
  show GoW _ _ _ _ _ _ _ _ (mkF m 64 #[.val (.int i0), .val (.int i1), .val (.long (1024 : Int64)), .second, .val (.long jk), .second, .val (.long ja), .second, .val (.ref q), .val (.ref wt), .unset, .unset, .unset, .unset, .unset, .unset, .unset, .unset, .unset, .unset, .unset, .unset, .unset, .unset, .unset, .unset, .unset, .unset] [(.int (4 : Int32))])
  refine GoW.on (fun _ k => XS.iconst X3.here hx rfl (hb hby at_64) k) ?_
  show GoW _ _ _ _ _ _ _ _ (mkF m 65 #[.val (.int i0), .val (.int i1), .val (.long (1024 : Int64)), .second, .val (.long jk), .second, .val (.long ja), .second, .val (.ref q), .val (.ref wt), .unset, .unset, .unset, .unset, .unset, .unset, .unset, .unset, .unset, .unset, .unset, .unset, .unset, .unset, .unset, .unset, .unset, .unset] [(.int (4 : Int32)), (.int (4 : Int32))])
  have hc5 : (4 : Int32) = (4 : Int32) := by decide
  refine GoW.on (fun _ k => XS.icmpYes X3.here hx rfl (pc0 := 65) (pc' := 70) rfl (hb hby at_65) rfl (teq hc5).1 (by decide) (by decide) k) ?_
  show GoW _ _ _ _ _ _ _ _ (mkF m 70 #[.val (.int i0), .val (.int i1), .val (.long (1024 : Int64)), .second, .val (.long jk), .second, .val (.long ja), .second, .val (.ref q), .val (.ref wt), .unset, .unset, .unset, .unset, .unset, .unset, .unset, .unset, .unset, .unset, .unset, .unset, .unset, .unset, .unset, .unset, .unset, .unset] [])
  refine GoW.on (fun _ k => XS.lload X3.here hx rfl (hb hby at_70) rfl k) ?_
  show GoW _ _ _ _ _ _ _ _ (mkF m 72 #[.val (.int i0), .val (.int i1), .val (.long (1024 : Int64)), .second, .val (.long jk), .second, .val (.long ja), .second, .val (.ref q), .val (.ref wt), .unset, .unset, .unset, .unset, .unset, .unset, .unset, .unset, .unset, .unset, .unset, .unset, .unset, .unset, .unset, .unset, .unset, .unset] [(.long jk)])
  refine GoW.on (fun _ k => XS.lload X3.here hx rfl (hb hby at_72) rfl k) ?_
  show GoW _ _ _ _ _ _ _ _ (mkF m 74 #[.val (.int i0), .val (.int i1), .val (.long (1024 : Int64)), .second, .val (.long jk), .second, .val (.long ja), .second, .val (.ref q), .val (.ref wt), .unset, .unset, .unset, .unset, .unset, .unset, .unset, .unset, .unset, .unset, .unset, .unset, .unset, .unset, .unset, .unset, .unset, .unset] [(.long jk), (.long jk)])
  refine GoW.on (fun _ k => XS.lmul X3.here hx rfl (hb hby at_74) rfl k) ?_
  show GoW _ _ _ _ _ _ _ _ (mkF m 75 #[.val (.int i0), .val (.int i1), .val (.long (1024 : Int64)), .second, .val (.long jk), .second, .val (.long ja), .second, .val (.ref q), .val (.ref wt), .unset, .unset, .unset, .unset, .unset, .unset, .unset, .unset, .unset, .unset, .unset, .unset, .unset, .unset, .unset, .unset, .unset, .unset] [(.long (jk * jk))])
  refine GoW.on (fun _ k => XS.lstore X3.here hx rfl (hb hby at_75) rfl (l' := #[.val (.int i0), .val (.int i1), .val (.long (1024 : Int64)), .second, .val (.long jk), .second, .val (.long ja), .second, .val (.ref q), .val (.ref wt), .val (.long (jk * jk)), .second, .unset, .unset, .unset, .unset, .unset, .unset, .unset, .unset, .unset, .unset, .unset, .unset, .unset, .unset, .unset, .unset]) rfl k) ?_
  show GoW _ _ _ _ _ _ _ _ (mkF m 77 #[.val (.int i0), .val (.int i1), .val (.long (1024 : Int64)), .second, .val (.long jk), .second, .val (.long ja), .second, .val (.ref q), .val (.ref wt), .val (.long (jk * jk)), .second, .unset, .unset, .unset, .unset, .unset, .unset, .unset, .unset, .unset, .unset, .unset, .unset, .unset, .unset, .unset, .unset] [])
  generalize hkb : (jk * jk) = kb
  show GoW _ _ _ _ _ _ _ _ (mkF m 77 #[.val (.int i0), .val (.int i1), .val (.long (1024 : Int64)), .second, .val (.long jk), .second, .val (.long ja), .second, .val (.ref q), .val (.ref wt), .val (.long kb), .second, .unset, .unset, .unset, .unset, .unset, .unset, .unset, .unset, .unset, .unset, .unset, .unset, .unset, .unset, .unset, .unset] [])
  refine GoW.on (fun _ k => XS.lload X3.here hx rfl (hb hby at_77) rfl k) ?_
  show GoW _ _ _ _ _ _ _ _ (mkF m 79 #[.val (.int i0), .val (.int i1), .val (.long (1024 : Int64)), .second, .val (.long jk), .second, .val (.long ja), .second, .val (.ref q), .val (.ref wt), .val (.long kb), .second, .unset, .unset, .unset, .unset, .unset, .unset, .unset, .unset, .unset, .unset, .unset, .unset, .unset, .unset, .unset, .unset] [(.long kb)])
  refine GoW.on (fun _ k => XS.lload X3.here hx rfl (hb hby at_79) rfl k) ?_
  show GoW _ _ _ _ _ _ _ _ (mkF m 81 #[.val (.int i0), .val (.int i1), .val (.long (1024 : Int64)), .second, .val (.long jk), .second, .val (.long ja), .second, .val (.ref q), .val (.ref wt), .val (.long kb), .second, .unset, .unset, .unset, .unset, .unset, .unset, .unset, .unset, .unset, .unset, .unset, .unset, .unset, .unset, .unset, .unset] [(.long jk), (.long kb)])
  refine GoW.on (fun _ k => XS.lmul X3.here hx rfl (hb hby at_81) rfl k) ?_
  show GoW _ _ _ _ _ _ _ _ (mkF m 82 #[.val (.int i0), .val (.int i1), .val (.long (1024 : Int64)), .second, .val (.long jk), .second, .val (.long ja), .second, .val (.ref q), .val (.ref wt), .val (.long kb), .second, .unset, .unset, .unset, .unset, .unset, .unset, .unset, .unset, .unset, .unset, .unset, .unset, .unset, .unset, .unset, .unset] [(.long (kb * jk))])
  refine GoW.on (fun _ k => XS.lstore X3.here hx rfl (hb hby at_82) rfl (l' := #[.val (.int i0), .val (.int i1), .val (.long (1024 : Int64)), .second, .val (.long jk), .second, .val (.long ja), .second, .val (.ref q), .val (.ref wt), .val (.long kb), .second, .val (.long (kb * jk)), .second, .unset, .unset, .unset, .unset, .unset, .unset, .unset, .unset, .unset, .unset, .unset, .unset, .unset, .unset]) rfl k) ?_
  show GoW _ _ _ _ _ _ _ _ (mkF m 84 #[.val (.int i0), .val (.int i1), .val (.long (1024 : Int64)), .second, .val (.long jk), .second, .val (.long ja), .second, .val (.ref q), .val (.ref wt), .val (.long kb), .second, .val (.long (kb * jk)), .second, .unset, .unset, .unset, .unset, .unset, .unset, .unset, .unset, .unset, .unset, .unset, .unset, .unset, .unset] [])
  generalize hkc : (kb * jk) = kc
  show GoW _ _ _ _ _ _ _ _ (mkF m 84 #[.val (.int i0), .val (.int i1), .val (.long (1024 : Int64)), .second, .val (.long jk), .second, .val (.long ja), .second, .val (.ref q), .val (.ref wt), .val (.long kb), .second, .val (.long kc), .second, .unset, .unset, .unset, .unset, .unset, .unset, .unset, .unset, .unset, .unset, .unset, .unset, .unset, .unset] [])
  refine GoW.on (fun _ k => XS.lloadN X3.here hx rfl (hb hby at_84) rfl k) ?_
  show GoW _ _ _ _ _ _ _ _ (mkF m 85 #[.val (.int i0), .val (.int i1), .val (.long (1024 : Int64)), .second, .val (.long jk), .second, .val (.long ja), .second, .val (.ref q), .val (.ref wt), .val (.long kb), .second, .val (.long kc), .second, .unset, .unset, .unset, .unset, .unset, .unset, .unset, .unset, .unset, .unset, .unset, .unset, .unset, .unset] [(.long (1024 : Int64))])
  refine GoW.on (fun _ k => XS.lloadN X3.here hx rfl (hb hby at_85) rfl k) ?_
  show GoW _ _ _ _ _ _ _ _ (mkF m 86 #[.val (.int i0), .val (.int i1), .val (.long (1024 : Int64)), .second, .val (.long jk), .second, .val (.long ja), .second, .val (.ref q), .val (.ref wt), .val (.long kb), .second, .val (.long kc), .second, .unset, .unset, .unset, .unset, .unset, .unset, .unset, .unset, .unset, .unset, .unset, .unset, .unset, .unset] [(.long (1024 : Int64)), (.long (1024 : Int64))])
  refine GoW.on (fun _ k => XS.lmul X3.here hx rfl (hb hby at_86) rfl k) ?_
  show GoW _ _ _ _ _ _ _ _ (mkF m 87 #[.val (.int i0), .val (.int i1), .val (.long (1024 : Int64)), .second, .val (.long jk), .second, .val (.long ja), .second, .val (.ref q), .val (.ref wt), .val (.long kb), .second, .val (.long kc), .second, .unset, .unset, .unset, .unset, .unset, .unset, .unset, .unset, .unset, .unset, .unset, .unset, .unset, .unset] [(.long (1048576 : Int64))])
  refine GoW.on (fun _ k => XS.lstore X3.here hx rfl (hb hby at_87) rfl (l' := #[.val (.int i0), .val (.int i1), .val (.long (1024 : Int64)), .second, .val (.long jk), .second, .val (.long ja), .second, .val (.ref q), .val (.ref wt), .val (.long kb), .second, .val (.long kc), .second, .val (.long (1048576 : Int64)), .second, .unset, .unset, .unset, .unset, .unset, .unset, .unset, .unset, .unset, .unset, .unset, .unset]) rfl k) ?_
  show GoW _ _ _ _ _ _ _ _ (mkF m 89 #[.val (.int i0), .val (.int i1), .val (.long (1024 : Int64)), .second, .val (.long jk), .second, .val (.long ja), .second, .val (.ref q), .val (.ref wt), .val (.long kb), .second, .val (.long kc), .second, .val (.long (1048576 : Int64)), .second, .unset, .unset, .unset, .unset, .unset, .unset, .unset, .unset, .unset, .unset, .unset, .unset] [])
  refine GoW.on (fun _ k => XS.lload X3.here hx rfl (hb hby at_89) rfl k) ?_
  show GoW _ _ _ _ _ _ _ _ (mkF m 91 #[.val (.int i0), .val (.int i1), .val (.long (1024 : Int64)), .second, .val (.long jk), .second, .val (.long ja), .second, .val (.ref q), .val (.ref wt), .val (.long kb), .second, .val (.long kc), .second, .val (.long (1048576 : Int64)), .second, .unset, .unset, .unset, .unset, .unset, .unset, .unset, .unset, .unset, .unset, .unset, .unset] [(.long (1048576 : Int64))])
  refine GoW.on (fun _ k => XS.lload X3.here hx rfl (hb hby at_91) rfl k) ?_
  show GoW _ _ _ _ _ _ _ _ (mkF m 93 #[.val (.int i0), .val (.int i1), .val (.long (1024 : Int64)), .second, .val (.long jk), .second, .val (.long ja), .second, .val (.ref q), .val (.ref wt), .val (.long kb), .second, .val (.long kc), .second, .val (.long (1048576 : Int64)), .second, .unset, .unset, .unset, .unset, .unset, .unset, .unset, .unset, .unset, .unset, .unset, .unset] [(.long (1048576 : Int64)), (.long (1048576 : Int64))])
  refine GoW.on (fun _ k => XS.lmul X3.here hx rfl (hb hby at_93) rfl k) ?_
  show GoW _ _ _ _ _ _ _ _ (mkF m 94 #[.val (.int i0), .val (.int i1), .val (.long (1024 : Int64)), .second, .val (.long jk), .second, .val (.long ja), .second, .val (.ref q), .val (.ref wt), .val (.long kb), .second, .val (.long kc), .second, .val (.long (1048576 : Int64)), .second, .unset, .unset, .unset, .unset, .unset, .unset, .unset, .unset, .unset, .unset, .unset, .unset] [(.long (1099511627776 : Int64))])
  refine GoW.on (fun _ k => XS.lstore X3.here hx rfl (hb hby at_94) rfl (l' := #[.val (.int i0), .val (.int i1), .val (.long (1024 : Int64)), .second, .val (.long jk), .second, .val (.long ja), .second, .val (.ref q), .val (.ref wt), .val (.long kb), .second, .val (.long kc), .second, .val (.long (1048576 : Int64)), .second, .val (.long (1099511627776 : Int64)), .second, .unset, .unset, .unset, .unset, .unset, .unset, .unset, .unset, .unset, .unset]) rfl k) ?_
  show GoW _ _ _ _ _ _ _ _ (mkF m 96 #[.val (.int i0), .val (.int i1), .val (.long (1024 : Int64)), .second, .val (.long jk), .second, .val (.long ja), .second, .val (.ref q), .val (.ref wt), .val (.long kb), .second, .val (.long kc), .second, .val (.long (1048576 : Int64)), .second, .val (.long (1099511627776 : Int64)), .second, .unset, .unset, .unset, .unset, .unset, .unset, .unset, .unset, .unset, .unset] [])
  refine GoW.on (fun _ k => XS.lload X3.here hx rfl (hb hby at_96) rfl k) ?_
  show GoW _ _ _ _ _ _ _ _ (mkF m 98 #[.val (.int i0), .val (.int i1), .val (.long (1024 : Int64)), .second, .val (.long jk), .second, .val (.long ja), .second, .val (.ref q), .val (.ref wt), .val (.long kb), .second, .val (.long kc), .second, .val (.long (1048576 : Int64)), .second, .val (.long (1099511627776 : Int64)), .second, .unset, .unset, .unset, .unset, .unset, .unset, .unset, .unset, .unset, .unset] [(.long ja)])
  refine GoW.on (fun _ k => XS.lneg X3.here hx rfl (hb hby at_98) rfl k) ?_
  show GoW _ _ _ _ _ _ _ _ (mkF m 99 #[.val (.int i0), .val (.int i1), .val (.long (1024 : Int64)), .second, .val (.long jk), .second, .val (.long ja), .second, .val (.ref q), .val (.ref wt), .val (.long kb), .second, .val (.long kc), .second, .val (.long (1048576 : Int64)), .second, .val (.long (1099511627776 : Int64)), .second, .unset, .unset, .unset, .unset, .unset, .unset, .unset, .unset, .unset, .unset] [(.long (-ja))])
  refine GoW.on (fun _ k => XS.lload X3.here hx rfl (hb hby at_99) rfl k) ?_
  show GoW _ _ _ _ _ _ _ _ (mkF m 101 #[.val (.int i0), .val (.int i1), .val (.long (1024 : Int64)), .second, .val (.long jk), .second, .val (.long ja), .second, .val (.ref q), .val (.ref wt), .val (.long kb), .second, .val (.long kc), .second, .val (.long (1048576 : Int64)), .second, .val (.long (1099511627776 : Int64)), .second, .unset, .unset, .unset, .unset, .unset, .unset, .unset, .unset, .unset, .unset] [(.long kc), (.long (-ja))])
  refine GoW.on (fun _ k => XS.lmul X3.here hx rfl (hb hby at_101) rfl k) ?_
  show GoW _ _ _ _ _ _ _ _ (mkF m 102 #[.val (.int i0), .val (.int i1), .val (.long (1024 : Int64)), .second, .val (.long jk), .second, .val (.long ja), .second, .val (.ref q), .val (.ref wt), .val (.long kb), .second, .val (.long kc), .second, .val (.long (1048576 : Int64)), .second, .val (.long (1099511627776 : Int64)), .second, .unset, .unset, .unset, .unset, .unset, .unset, .unset, .unset, .unset, .unset] [(.long ((-ja) * kc))])
  refine GoW.on (fun _ k => X3.ldc2J hx hown (mvT hZ (hw _ (List.mem_of_getElem? (i := 34) rfl))) rfl (hb hby at_102) k) ?_
  show GoW _ _ _ _ _ _ _ _ (mkF m 105 #[.val (.int i0), .val (.int i1), .val (.long (1024 : Int64)), .second, .val (.long jk), .second, .val (.long ja), .second, .val (.ref q), .val (.ref wt), .val (.long kb), .second, .val (.long kc), .second, .val (.long (1048576 : Int64)), .second, .val (.long (1099511627776 : Int64)), .second, .unset, .unset, .unset, .unset, .unset, .unset, .unset, .unset, .unset, .unset] [(.long (2 : Int64)), (.long ((-ja) * kc))])
  refine GoW.on (fun _ k => XS.lload X3.here hx rfl (hb hby at_105) rfl k) ?_
  show GoW _ _ _ _ _ _ _ _ (mkF m 107 #[.val (.int i0), .val (.int i1), .val (.long (1024 : Int64)), .second, .val (.long jk), .second, .val (.long ja), .second, .val (.ref q), .val (.ref wt), .val (.long kb), .second, .val (.long kc), .second, .val (.long (1048576 : Int64)), .second, .val (.long (1099511627776 : Int64)), .second, .unset, .unset, .unset, .unset, .unset, .unset, .unset, .unset, .unset, .unset] [(.long ja), (.long (2 : Int64)), (.long ((-ja) * kc))])
  refine GoW.on (fun _ k => XS.lmul X3.here hx rfl (hb hby at_107) rfl k) ?_
  show GoW _ _ _ _ _ _ _ _ (mkF m 108 #[.val (.int i0), .val (.int i1), .val (.long (1024 : Int64)), .second, .val (.long jk), .second, .val (.long ja), .second, .val (.ref q), .val (.ref wt), .val (.long kb), .second, .val (.long kc), .second, .val (.long (1048576 : Int64)), .second, .val (.long (1099511627776 : Int64)), .second, .unset, .unset, .unset, .unset, .unset, .unset, .unset, .unset, .unset, .unset] [(.long ((2 : Int64) * ja)), (.long ((-ja) * kc))])
  refine GoW.on (fun _ k => XS.lload X3.here hx rfl (hb hby at_108) rfl k) ?_
  show GoW _ _ _ _ _ _ _ _ (mkF m 110 #[.val (.int i0), .val (.int i1), .val (.long (1024 : Int64)), .second, .val (.long jk), .second, .val (.long ja), .second, .val (.ref q), .val (.ref wt), .val (.long kb), .second, .val (.long kc), .second, .val (.long (1048576 : Int64)), .second, .val (.long (1099511627776 : Int64)), .second, .unset, .unset, .unset, .unset, .unset, .unset, .unset, .unset, .unset, .unset] [(.long kb), (.long ((2 : Int64) * ja)), (.long ((-ja) * kc))])
  refine GoW.on (fun _ k => XS.lmul X3.here hx rfl (hb hby at_110) rfl k) ?_
  show GoW _ _ _ _ _ _ _ _ (mkF m 111 #[.val (.int i0), .val (.int i1), .val (.long (1024 : Int64)), .second, .val (.long jk), .second, .val (.long ja), .second, .val (.ref q), .val (.ref wt), .val (.long kb), .second, .val (.long kc), .second, .val (.long (1048576 : Int64)), .second, .val (.long (1099511627776 : Int64)), .second, .unset, .unset, .unset, .unset, .unset, .unset, .unset, .unset, .unset, .unset] [(.long (((2 : Int64) * ja) * kb)), (.long ((-ja) * kc))])
  refine GoW.on (fun _ k => XS.lloadN X3.here hx rfl (hb hby at_111) rfl k) ?_
  show GoW _ _ _ _ _ _ _ _ (mkF m 112 #[.val (.int i0), .val (.int i1), .val (.long (1024 : Int64)), .second, .val (.long jk), .second, .val (.long ja), .second, .val (.ref q), .val (.ref wt), .val (.long kb), .second, .val (.long kc), .second, .val (.long (1048576 : Int64)), .second, .val (.long (1099511627776 : Int64)), .second, .unset, .unset, .unset, .unset, .unset, .unset, .unset, .unset, .unset, .unset] [(.long (1024 : Int64)), (.long (((2 : Int64) * ja) * kb)), (.long ((-ja) * kc))])
  refine GoW.on (fun _ k => XS.lmul X3.here hx rfl (hb hby at_112) rfl k) ?_
  show GoW _ _ _ _ _ _ _ _ (mkF m 113 #[.val (.int i0), .val (.int i1), .val (.long (1024 : Int64)), .second, .val (.long jk), .second, .val (.long ja), .second, .val (.ref q), .val (.ref wt), .val (.long kb), .second, .val (.long kc), .second, .val (.long (1048576 : Int64)), .second, .val (.long (1099511627776 : Int64)), .second, .unset, .unset, .unset, .unset, .unset, .unset, .unset, .unset, .unset, .unset] [(.long ((((2 : Int64) * ja) * kb) * (1024 : Int64))), (.long ((-ja) * kc))])
  refine GoW.on (fun _ k => XS.ladd X3.here hx rfl (hb hby at_113) rfl k) ?_
  show GoW _ _ _ _ _ _ _ _ (mkF m 114 #[.val (.int i0), .val (.int i1), .val (.long (1024 : Int64)), .second, .val (.long jk), .second, .val (.long ja), .second, .val (.ref q), .val (.ref wt), .val (.long kb), .second, .val (.long kc), .second, .val (.long (1048576 : Int64)), .second, .val (.long (1099511627776 : Int64)), .second, .unset, .unset, .unset, .unset, .unset, .unset, .unset, .unset, .unset, .unset] [(.long (((-ja) * kc) + ((((2 : Int64) * ja) * kb) * (1024 : Int64))))])
  refine GoW.on (fun _ k => XS.lload X3.here hx rfl (hb hby at_114) rfl k) ?_
  show GoW _ _ _ _ _ _ _ _ (mkF m 116 #[.val (.int i0), .val (.int i1), .val (.long (1024 : Int64)), .second, .val (.long jk), .second, .val (.long ja), .second, .val (.ref q), .val (.ref wt), .val (.long kb), .second, .val (.long kc), .second, .val (.long (1048576 : Int64)), .second, .val (.long (1099511627776 : Int64)), .second, .unset, .unset, .unset, .unset, .unset, .unset, .unset, .unset, .unset, .unset] [(.long ja), (.long (((-ja) * kc) + ((((2 : Int64) * ja) * kb) * (1024 : Int64))))])
  refine GoW.on (fun _ k => XS.lload X3.here hx rfl (hb hby at_116) rfl k) ?_
  show GoW _ _ _ _ _ _ _ _ (mkF m 118 #[.val (.int i0), .val (.int i1), .val (.long (1024 : Int64)), .second, .val (.long jk), .second, .val (.long ja), .second, .val (.ref q), .val (.ref wt), .val (.long kb), .second, .val (.long kc), .second, .val (.long (1048576 : Int64)), .second, .val (.long (1099511627776 : Int64)), .second, .unset, .unset, .unset, .unset, .unset, .unset, .unset, .unset, .unset, .unset] [(.long jk), (.long ja), (.long (((-ja) * kc) + ((((2 : Int64) * ja) * kb) * (1024 : Int64))))])
  refine GoW.on (fun _ k => XS.lmul X3.here hx rfl (hb hby at_118) rfl k) ?_
  show GoW _ _ _ _ _ _ _ _ (mkF m 119 #[.val (.int i0), .val (.int i1), .val (.long (1024 : Int64)), .second, .val (.long jk), .second, .val (.long ja), .second, .val (.ref q), .val (.ref wt), .val (.long kb), .second, .val (.long kc), .second, .val (.long (1048576 : Int64)), .second, .val (.long (1099511627776 : Int64)), .second, .unset, .unset, .unset, .unset, .unset, .unset, .unset, .unset, .unset, .unset] [(.long (ja * jk)), (.long (((-ja) * kc) + ((((2 : Int64) * ja) * kb) * (1024 : Int64))))])
  refine GoW.on (fun _ k => XS.lload X3.here hx rfl (hb hby at_119) rfl k) ?_
  show GoW _ _ _ _ _ _ _ _ (mkF m 121 #[.val (.int i0), .val (.int i1), .val (.long (1024 : Int64)), .second, .val (.long jk), .second, .val (.long ja), .second, .val (.ref q), .val (.ref wt), .val (.long kb), .second, .val (.long kc), .second, .val (.long (1048576 : Int64)), .second, .val (.long (1099511627776 : Int64)), .second, .unset, .unset, .unset, .unset, .unset, .unset, .unset, .unset, .unset, .unset] [(.long (1048576 : Int64)), (.long (ja * jk)), (.long (((-ja) * kc) + ((((2 : Int64) * ja) * kb) * (1024 : Int64))))])
  refine GoW.on (fun _ k => XS.lmul X3.here hx rfl (hb hby at_121) rfl k) ?_
  show GoW _ _ _ _ _ _ _ _ (mkF m 122 #[.val (.int i0), .val (.int i1), .val (.long (1024 : Int64)), .second, .val (.long jk), .second, .val (.long ja), .second, .val (.ref q), .val (.ref wt), .val (.long kb), .second, .val (.long kc), .second, .val (.long (1048576 : Int64)), .second, .val (.long (1099511627776 : Int64)), .second, .unset, .unset, .unset, .unset, .unset, .unset, .unset, .unset, .unset, .unset] [(.long ((ja * jk) * (1048576 : Int64))), (.long (((-ja) * kc) + ((((2 : Int64) * ja) * kb) * (1024 : Int64))))])
  refine GoW.on (fun _ k => XS.lsub X3.here hx rfl (hb hby at_122) rfl k) ?_
  show GoW _ _ _ _ _ _ _ _ (mkF m 123 #[.val (.int i0), .val (.int i1), .val (.long (1024 : Int64)), .second, .val (.long jk), .second, .val (.long ja), .second, .val (.ref q), .val (.ref wt), .val (.long kb), .second, .val (.long kc), .second, .val (.long (1048576 : Int64)), .second, .val (.long (1099511627776 : Int64)), .second, .unset, .unset, .unset, .unset, .unset, .unset, .unset, .unset, .unset, .unset] [(.long ((((-ja) * kc) + ((((2 : Int64) * ja) * kb) * (1024 : Int64))) - ((ja * jk) * (1048576 : Int64))))])
  refine GoW.on (fun _ k => XS.lstore X3.here hx rfl (hb hby at_123) rfl (l' := #[.val (.int i0), .val (.int i1), .val (.long (1024 : Int64)), .second, .val (.long jk), .second, .val (.long ja), .second, .val (.ref q), .val (.ref wt), .val (.long kb), .second, .val (.long kc), .second, .val (.long (1048576 : Int64)), .second, .val (.long (1099511627776 : Int64)), .second, .val (.long ((((-ja) * kc) + ((((2 : Int64) * ja) * kb) * (1024 : Int64))) - ((ja * jk) * (1048576 : Int64)))), .second, .unset, .unset, .unset, .unset, .unset, .unset, .unset, .unset]) rfl k) ?_
  show GoW _ _ _ _ _ _ _ _ (mkF m 125 #[.val (.int i0), .val (.int i1), .val (.long (1024 : Int64)), .second, .val (.long jk), .second, .val (.long ja), .second, .val (.ref q), .val (.ref wt), .val (.long kb), .second, .val (.long kc), .second, .val (.long (1048576 : Int64)), .second, .val (.long (1099511627776 : Int64)), .second, .val (.long ((((-ja) * kc) + ((((2 : Int64) * ja) * kb) * (1024 : Int64))) - ((ja * jk) * (1048576 : Int64)))), .second, .unset, .unset, .unset, .unset, .unset, .unset, .unset, .unset] [])
  generalize hr0 : ((((-ja) * kc) + ((((2 : Int64) * ja) * kb) * (1024 : Int64))) - ((ja * jk) * (1048576 : Int64))) = r0
  show GoW _ _ _ _ _ _ _ _ (mkF m 125 #[.val (.int i0), .val (.int i1), .val (.long (1024 : Int64)), .second, .val (.long jk), .second, .val (.long ja), .second, .val (.ref q), .val (.ref wt), .val (.long kb), .second, .val (.long kc), .second, .val (.long (1048576 : Int64)), .second, .val (.long (1099511627776 : Int64)), .second, .val (.long r0), .second, .unset, .unset, .unset, .unset, .unset, .unset, .unset, .unset] [])
  refine GoW.on (fun _ k => X3.ldc2J hx hown (mvT hZ (hw _ (List.mem_of_getElem? (i := 34) rfl))) rfl (hb hby at_125) k) ?_
  show GoW _ _ _ _ _ _ _ _ (mkF m 128 #[.val (.int i0), .val (.int i1), .val (.long (1024 : Int64)), .second, .val (.long jk), .second, .val (.long ja), .second, .val (.ref q), .val (.ref wt), .val (.long kb), .second, .val (.long kc), .second, .val (.long (1048576 : Int64)), .second, .val (.long (1099511627776 : Int64)), .second, .val (.long r0), .second, .unset, .unset, .unset, .unset, .unset, .unset, .unset, .unset] [(.long (2 : Int64))])
  refine GoW.on (fun _ k => XS.lloadN X3.here hx rfl (hb hby at_128) rfl k) ?_
  show GoW _ _ _ _ _ _ _ _ (mkF m 129 #[.val (.int i0), .val (.int i1), .val (.long (1024 : Int64)), .second, .val (.long jk), .second, .val (.long ja), .second, .val (.ref q), .val (.ref wt), .val (.long kb), .second, .val (.long kc), .second, .val (.long (1048576 : Int64)), .second, .val (.long (1099511627776 : Int64)), .second, .val (.long r0), .second, .unset, .unset, .unset, .unset, .unset, .unset, .unset, .unset] [(.long (1024 : Int64)), (.long (2 : Int64))])
  refine GoW.on (fun _ k => XS.lmul X3.here hx rfl (hb hby at_129) rfl k) ?_
  show GoW _ _ _ _ _ _ _ _ (mkF m 130 #[.val (.int i0), .val (.int i1), .val (.long (1024 : Int64)), .second, .val (.long jk), .second, .val (.long ja), .second, .val (.ref q), .val (.ref wt), .val (.long kb), .second, .val (.long kc), .second, .val (.long (1048576 : Int64)), .second, .val (.long (1099511627776 : Int64)), .second, .val (.long r0), .second, .unset, .unset, .unset, .unset, .unset, .unset, .unset, .unset] [(.long (2048 : Int64))])
  refine GoW.on (fun _ k => XS.lload X3.here hx rfl (hb hby at_130) rfl k) ?_
  show GoW _ _ _ _ _ _ _ _ (mkF m 132 #[.val (.int i0), .val (.int i1), .val (.long (1024 : Int64)), .second, .val (.long jk), .second, .val (.long ja), .second, .val (.ref q), .val (.ref wt), .val (.long kb), .second, .val (.long kc), .second, .val (.long (1048576 : Int64)), .second, .val (.long (1099511627776 : Int64)), .second, .val (.long r0), .second, .unset, .unset, .unset, .unset, .unset, .unset, .unset, .unset] [(.long ja), (.long (2048 : Int64))])
  refine GoW.on (fun _ k => XS.lsub X3.here hx rfl (hb hby at_132) rfl k) ?_
  show GoW _ _ _ _ _ _ _ _ (mkF m 133 #[.val (.int i0), .val (.int i1), .val (.long (1024 : Int64)), .second, .val (.long jk), .second, .val (.long ja), .second, .val (.ref q), .val (.ref wt), .val (.long kb), .second, .val (.long kc), .second, .val (.long (1048576 : Int64)), .second, .val (.long (1099511627776 : Int64)), .second, .val (.long r0), .second, .unset, .unset, .unset, .unset, .unset, .unset, .unset, .unset] [(.long ((2048 : Int64) - ja))])
  refine GoW.on (fun _ k => XS.lload X3.here hx rfl (hb hby at_133) rfl k) ?_
  show GoW _ _ _ _ _ _ _ _ (mkF m 135 #[.val (.int i0), .val (.int i1), .val (.long (1024 : Int64)), .second, .val (.long jk), .second, .val (.long ja), .second, .val (.ref q), .val (.ref wt), .val (.long kb), .second, .val (.long kc), .second, .val (.long (1048576 : Int64)), .second, .val (.long (1099511627776 : Int64)), .second, .val (.long r0), .second, .unset, .unset, .unset, .unset, .unset, .unset, .unset, .unset] [(.long kc), (.long ((2048 : Int64) - ja))])
  refine GoW.on (fun _ k => XS.lmul X3.here hx rfl (hb hby at_135) rfl k) ?_
  show GoW _ _ _ _ _ _ _ _ (mkF m 136 #[.val (.int i0), .val (.int i1), .val (.long (1024 : Int64)), .second, .val (.long jk), .second, .val (.long ja), .second, .val (.ref q), .val (.ref wt), .val (.long kb), .second, .val (.long kc), .second, .val (.long (1048576 : Int64)), .second, .val (.long (1099511627776 : Int64)), .second, .val (.long r0), .second, .unset, .unset, .unset, .unset, .unset, .unset, .unset, .unset] [(.long (((2048 : Int64) - ja) * kc))])
  refine GoW.on (fun _ k => XS.lload X3.here hx rfl (hb hby at_136) rfl k) ?_
  show GoW _ _ _ _ _ _ _ _ (mkF m 138 #[.val (.int i0), .val (.int i1), .val (.long (1024 : Int64)), .second, .val (.long jk), .second, .val (.long ja), .second, .val (.ref q), .val (.ref wt), .val (.long kb), .second, .val (.long kc), .second, .val (.long (1048576 : Int64)), .second, .val (.long (1099511627776 : Int64)), .second, .val (.long r0), .second, .unset, .unset, .unset, .unset, .unset, .unset, .unset, .unset] [(.long ja), (.long (((2048 : Int64) - ja) * kc))])
  refine GoW.on (fun _ k => X3.ldc2J hx hown (mvT hZ (hw _ (List.mem_of_getElem? (i := 35) rfl))) rfl (hb hby at_138) k) ?_
  show GoW _ _ _ _ _ _ _ _ (mkF m 141 #[.val (.int i0), .val (.int i1), .val (.long (1024 : Int64)), .second, .val (.long jk), .second, .val (.long ja), .second, .val (.ref q), .val (.ref wt), .val (.long kb), .second, .val (.long kc), .second, .val (.long (1048576 : Int64)), .second, .val (.long (1099511627776 : Int64)), .second, .val (.long r0), .second, .unset, .unset, .unset, .unset, .unset, .unset, .unset, .unset] [(.long (3 : Int64)), (.long ja), (.long (((2048 : Int64) - ja) * kc))])
  refine GoW.on (fun _ k => XS.lloadN X3.here hx rfl (hb hby at_141) rfl k) ?_
  show GoW _ _ _ _ _ _ _ _ (mkF m 142 #[.val (.int i0), .val (.int i1), .val (.long (1024 : Int64)), .second, .val (.long jk), .second, .val (.long ja), .second, .val (.ref q), .val (.ref wt), .val (.long kb), .second, .val (.long kc), .second, .val (.long (1048576 : Int64)), .second, .val (.long (1099511627776 : Int64)), .second, .val (.long r0), .second, .unset, .unset, .unset, .unset, .unset, .unset, .unset, .unset] [(.long (1024 : Int64)), (.long (3 : Int64)), (.long ja), (.long (((2048 : Int64) - ja) * kc))])
  refine GoW.on (fun _ k => XS.lmul X3.here hx rfl (hb hby at_142) rfl k) ?_
  show GoW _ _ _ _ _ _ _ _ (mkF m 143 #[.val (.int i0), .val (.int i1), .val (.long (1024 : Int64)), .second, .val (.long jk), .second, .val (.long ja), .second, .val (.ref q), .val (.ref wt), .val (.long kb), .second, .val (.long kc), .second, .val (.long (1048576 : Int64)), .second, .val (.long (1099511627776 : Int64)), .second, .val (.long r0), .second, .unset, .unset, .unset, .unset, .unset, .unset, .unset, .unset] [(.long (3072 : Int64)), (.long ja), (.long (((2048 : Int64) - ja) * kc))])
  refine GoW.on (fun _ k => XS.lsub X3.here hx rfl (hb hby at_143) rfl k) ?_
  show GoW _ _ _ _ _ _ _ _ (mkF m 144 #[.val (.int i0), .val (.int i1), .val (.long (1024 : Int64)), .second, .val (.long jk), .second, .val (.long ja), .second, .val (.ref q), .val (.ref wt), .val (.long kb), .second, .val (.long kc), .second, .val (.long (1048576 : Int64)), .second, .val (.long (1099511627776 : Int64)), .second, .val (.long r0), .second, .unset, .unset, .unset, .unset, .unset, .unset, .unset, .unset] [(.long (ja - (3072 : Int64))), (.long (((2048 : Int64) - ja) * kc))])
  refine GoW.on (fun _ k => XS.lload X3.here hx rfl (hb hby at_144) rfl k) ?_
  show GoW _ _ _ _ _ _ _ _ (mkF m 146 #[.val (.int i0), .val (.int i1), .val (.long (1024 : Int64)), .second, .val (.long jk), .second, .val (.long ja), .second, .val (.ref q), .val (.ref wt), .val (.long kb), .second, .val (.long kc), .second, .val (.long (1048576 : Int64)), .second, .val (.long (1099511627776 : Int64)), .second, .val (.long r0), .second, .unset, .unset, .unset, .unset, .unset, .unset, .unset, .unset] [(.long kb), (.long (ja - (3072 : Int64))), (.long (((2048 : Int64) - ja) * kc))])
  refine GoW.on (fun _ k => XS.lmul X3.here hx rfl (hb hby at_146) rfl k) ?_
  show GoW _ _ _ _ _ _ _ _ (mkF m 147 #[.val (.int i0), .val (.int i1), .val (.long (1024 : Int64)), .second, .val (.long jk), .second, .val (.long ja), .second, .val (.ref q), .val (.ref wt), .val (.long kb), .second, .val (.long kc), .second, .val (.long (1048576 : Int64)), .second, .val (.long (1099511627776 : Int64)), .second, .val (.long r0), .second, .unset, .unset, .unset, .unset, .unset, .unset, .unset, .unset] [(.long ((ja - (3072 : Int64)) * kb)), (.long (((2048 : Int64) - ja) * kc))])
  refine GoW.on (fun _ k => XS.lloadN X3.here hx rfl (hb hby at_147) rfl k) ?_
  show GoW _ _ _ _ _ _ _ _ (mkF m 148 #[.val (.int i0), .val (.int i1), .val (.long (1024 : Int64)), .second, .val (.long jk), .second, .val (.long ja), .second, .val (.ref q), .val (.ref wt), .val (.long kb), .second, .val (.long kc), .second, .val (.long (1048576 : Int64)), .second, .val (.long (1099511627776 : Int64)), .second, .val (.long r0), .second, .unset, .unset, .unset, .unset, .unset, .unset, .unset, .unset] [(.long (1024 : Int64)), (.long ((ja - (3072 : Int64)) * kb)), (.long (((2048 : Int64) - ja) * kc))])
  refine GoW.on (fun _ k => XS.lmul X3.here hx rfl (hb hby at_148) rfl k) ?_
  show GoW _ _ _ _ _ _ _ _ (mkF m 149 #[.val (.int i0), .val (.int i1), .val (.long (1024 : Int64)), .second, .val (.long jk), .second, .val (.long ja), .second, .val (.ref q), .val (.ref wt), .val (.long kb), .second, .val (.long kc), .second, .val (.long (1048576 : Int64)), .second, .val (.long (1099511627776 : Int64)), .second, .val (.long r0), .second, .unset, .unset, .unset, .unset, .unset, .unset, .unset, .unset] [(.long (((ja - (3072 : Int64)) * kb) * (1024 : Int64))), (.long (((2048 : Int64) - ja) * kc))])
  refine GoW.on (fun _ k => XS.ladd X3.here hx rfl (hb hby at_149) rfl k) ?_
  show GoW _ _ _ _ _ _ _ _ (mkF m 150 #[.val (.int i0), .val (.int i1), .val (.long (1024 : Int64)), .second, .val (.long jk), .second, .val (.long ja), .second, .val (.ref q), .val (.ref wt), .val (.long kb), .second, .val (.long kc), .second, .val (.long (1048576 : Int64)), .second, .val (.long (1099511627776 : Int64)), .second, .val (.long r0), .second, .unset, .unset, .unset, .unset, .unset, .unset, .unset, .unset] [(.long ((((2048 : Int64) - ja) * kc) + (((ja - (3072 : Int64)) * kb) * (1024 : Int64))))])
  refine GoW.on (fun _ k => XS.lload X3.here hx rfl (hb hby at_150) rfl k) ?_
  show GoW _ _ _ _ _ _ _ _ (mkF m 152 #[.val (.int i0), .val (.int i1), .val (.long (1024 : Int64)), .second, .val (.long jk), .second, .val (.long ja), .second, .val (.ref q), .val (.ref wt), .val (.long kb), .second, .val (.long kc), .second, .val (.long (1048576 : Int64)), .second, .val (.long (1099511627776 : Int64)), .second, .val (.long r0), .second, .unset, .unset, .unset, .unset, .unset, .unset, .unset, .unset] [(.long (1099511627776 : Int64)), (.long ((((2048 : Int64) - ja) * kc) + (((ja - (3072 : Int64)) * kb) * (1024 : Int64))))])
  refine GoW.on (fun _ k => XS.ladd X3.here hx rfl (hb hby at_152) rfl k) ?_
  show GoW _ _ _ _ _ _ _ _ (mkF m 153 #[.val (.int i0), .val (.int i1), .val (.long (1024 : Int64)), .second, .val (.long jk), .second, .val (.long ja), .second, .val (.ref q), .val (.ref wt), .val (.long kb), .second, .val (.long kc), .second, .val (.long (1048576 : Int64)), .second, .val (.long (1099511627776 : Int64)), .second, .val (.long r0), .second, .unset, .unset, .unset, .unset, .unset, .unset, .unset, .unset] [(.long (((((2048 : Int64) - ja) * kc) + (((ja - (3072 : Int64)) * kb) * (1024 : Int64))) + (1099511627776 : Int64)))])
  refine GoW.on (fun _ k => XS.lstore X3.here hx rfl (hb hby at_153) rfl (l' := #[.val (.int i0), .val (.int i1), .val (.long (1024 : Int64)), .second, .val (.long jk), .second, .val (.long ja), .second, .val (.ref q), .val (.ref wt), .val (.long kb), .second, .val (.long kc), .second, .val (.long (1048576 : Int64)), .second, .val (.long (1099511627776 : Int64)), .second, .val (.long r0), .second, .val (.long (((((2048 : Int64) - ja) * kc) + (((ja - (3072 : Int64)) * kb) * (1024 : Int64))) + (1099511627776 : Int64))), .second, .unset, .unset, .unset, .unset, .unset, .unset]) rfl k) ?_
  show GoW _ _ _ _ _ _ _ _ (mkF m 155 #[.val (.int i0), .val (.int i1), .val (.long (1024 : Int64)), .second, .val (.long jk), .second, .val (.long ja), .second, .val (.ref q), .val (.ref wt), .val (.long kb), .second, .val (.long kc), .second, .val (.long (1048576 : Int64)), .second, .val (.long (1099511627776 : Int64)), .second, .val (.long r0), .second, .val (.long (((((2048 : Int64) - ja) * kc) + (((ja - (3072 : Int64)) * kb) * (1024 : Int64))) + (1099511627776 : Int64))), .second, .unset, .unset, .unset, .unset, .unset, .unset] [])
  generalize hr1 : (((((2048 : Int64) - ja) * kc) + (((ja - (3072 : Int64)) * kb) * (1024 : Int64))) + (1099511627776 : Int64)) = r1
  show GoW _ _ _ _ _ _ _ _ (mkF m 155 #[.val (.int i0), .val (.int i1), .val (.long (1024 : Int64)), .second, .val (.long jk), .second, .val (.long ja), .second, .val (.ref q), .val (.ref wt), .val (.long kb), .second, .val (.long kc), .second, .val (.long (1048576 : Int64)), .second, .val (.long (1099511627776 : Int64)), .second, .val (.long r0), .second, .val (.long r1), .second, .unset, .unset, .unset, .unset, .unset, .unset] [])
  refine GoW.on (fun _ k => XS.lload X3.here hx rfl (hb hby at_155) rfl k) ?_
  show GoW _ _ _ _ _ _ _ _ (mkF m 157 #[.val (.int i0), .val (.int i1), .val (.long (1024 : Int64)), .second, .val (.long jk), .second, .val (.long ja), .second, .val (.ref q), .val (.ref wt), .val (.long kb), .second, .val (.long kc), .second, .val (.long (1048576 : Int64)), .second, .val (.long (1099511627776 : Int64)), .second, .val (.long r0), .second, .val (.long r1), .second, .unset, .unset, .unset, .unset, .unset, .unset] [(.long ja)])
  refine GoW.on (fun _ k => X3.ldc2J hx hown (mvT hZ (hw _ (List.mem_of_getElem? (i := 34) rfl))) rfl (hb hby at_157) k) ?_
  show GoW _ _ _ _ _ _ _ _ (mkF m 160 #[.val (.int i0), .val (.int i1), .val (.long (1024 : Int64)), .second, .val (.long jk), .second, .val (.long ja), .second, .val (.ref q), .val (.ref wt), .val (.long kb), .second, .val (.long kc), .second, .val (.long (1048576 : Int64)), .second, .val (.long (1099511627776 : Int64)), .second, .val (.long r0), .second, .val (.long r1), .second, .unset, .unset, .unset, .unset, .unset, .unset] [(.long (2 : Int64)), (.long ja)])
  refine GoW.on (fun _ k => XS.lloadN X3.here hx rfl (hb hby at_160) rfl k) ?_
  show GoW _ _ _ _ _ _ _ _ (mkF m 161 #[.val (.int i0), .val (.int i1), .val (.long (1024 : Int64)), .second, .val (.long jk), .second, .val (.long ja), .second, .val (.ref q), .val (.ref wt), .val (.long kb), .second, .val (.long kc), .second, .val (.long (1048576 : Int64)), .second, .val (.long (1099511627776 : Int64)), .second, .val (.long r0), .second, .val (.long r1), .second, .unset, .unset, .unset, .unset, .unset, .unset] [(.long (1024 : Int64)), (.long (2 : Int64)), (.long ja)])
  refine GoW.on (fun _ k => XS.lmul X3.here hx rfl (hb hby at_161) rfl k) ?_
  show GoW _ _ _ _ _ _ _ _ (mkF m 162 #[.val (.int i0), .val (.int i1), .val (.long (1024 : Int64)), .second, .val (.long jk), .second, .val (.long ja), .second, .val (.ref q), .val (.ref wt), .val (.long kb), .second, .val (.long kc), .second, .val (.long (1048576 : Int64)), .second, .val (.long (1099511627776 : Int64)), .second, .val (.long r0), .second, .val (.long r1), .second, .unset, .unset, .unset, .unset, .unset, .unset] [(.long (2048 : Int64)), (.long ja)])
  refine GoW.on (fun _ k => XS.lsub X3.here hx rfl (hb hby at_162) rfl k) ?_
  show GoW _ _ _ _ _ _ _ _ (mkF m 163 #[.val (.int i0), .val (.int i1), .val (.long (1024 : Int64)), .second, .val (.long jk), .second, .val (.long ja), .second, .val (.ref q), .val (.ref wt), .val (.long kb), .second, .val (.long kc), .second, .val (.long (1048576 : Int64)), .second, .val (.long (1099511627776 : Int64)), .second, .val (.long r0), .second, .val (.long r1), .second, .unset, .unset, .unset, .unset, .unset, .unset] [(.long (ja - (2048 : Int64)))])
  refine GoW.on (fun _ k => XS.lload X3.here hx rfl (hb hby at_163) rfl k) ?_
  show GoW _ _ _ _ _ _ _ _ (mkF m 165 #[.val (.int i0), .val (.int i1), .val (.long (1024 : Int64)), .second, .val (.long jk), .second, .val (.long ja), .second, .val (.ref q), .val (.ref wt), .val (.long kb), .second, .val (.long kc), .second, .val (.long (1048576 : Int64)), .second, .val (.long (1099511627776 : Int64)), .second, .val (.long r0), .second, .val (.long r1), .second, .unset, .unset, .unset, .unset, .unset, .unset] [(.long kc), (.long (ja - (2048 : Int64)))])
  refine GoW.on (fun _ k => XS.lmul X3.here hx rfl (hb hby at_165) rfl k) ?_
  show GoW _ _ _ _ _ _ _ _ (mkF m 166 #[.val (.int i0), .val (.int i1), .val (.long (1024 : Int64)), .second, .val (.long jk), .second, .val (.long ja), .second, .val (.ref q), .val (.ref wt), .val (.long kb), .second, .val (.long kc), .second, .val (.long (1048576 : Int64)), .second, .val (.long (1099511627776 : Int64)), .second, .val (.long r0), .second, .val (.long r1), .second, .unset, .unset, .unset, .unset, .unset, .unset] [(.long ((ja - (2048 : Int64)) * kc))])
  refine GoW.on (fun _ k => X3.ldc2J hx hown (mvT hZ (hw _ (List.mem_of_getElem? (i := 35) rfl))) rfl (hb hby at_166) k) ?_
  show GoW _ _ _ _ _ _ _ _ (mkF m 169 #[.val (.int i0), .val (.int i1), .val (.long (1024 : Int64)), .second, .val (.long jk), .second, .val (.long ja), .second, .val (.ref q), .val (.ref wt), .val (.long kb), .second, .val (.long kc), .second, .val (.long (1048576 : Int64)), .second, .val (.long (1099511627776 : Int64)), .second, .val (.long r0), .second, .val (.long r1), .second, .unset, .unset, .unset, .unset, .unset, .unset] [(.long (3 : Int64)), (.long ((ja - (2048 : Int64)) * kc))])
  refine GoW.on (fun _ k => XS.lloadN X3.here hx rfl (hb hby at_169) rfl k) ?_
  show GoW _ _ _ _ _ _ _ _ (mkF m 170 #[.val (.int i0), .val (.int i1), .val (.long (1024 : Int64)), .second, .val (.long jk), .second, .val (.long ja), .second, .val (.ref q), .val (.ref wt), .val (.long kb), .second, .val (.long kc), .second, .val (.long (1048576 : Int64)), .second, .val (.long (1099511627776 : Int64)), .second, .val (.long r0), .second, .val (.long r1), .second, .unset, .unset, .unset, .unset, .unset, .unset] [(.long (1024 : Int64)), (.long (3 : Int64)), (.long ((ja - (2048 : Int64)) * kc))])
  refine GoW.on (fun _ k => XS.lmul X3.here hx rfl (hb hby at_170) rfl k) ?_
  show GoW _ _ _ _ _ _ _ _ (mkF m 171 #[.val (.int i0), .val (.int i1), .val (.long (1024 : Int64)), .second, .val (.long jk), .second, .val (.long ja), .second, .val (.ref q), .val (.ref wt), .val (.long kb), .second, .val (.long kc), .second, .val (.long (1048576 : Int64)), .second, .val (.long (1099511627776 : Int64)), .second, .val (.long r0), .second, .val (.long r1), .second, .unset, .unset, .unset, .unset, .unset, .unset] [(.long (3072 : Int64)), (.long ((ja - (2048 : Int64)) * kc))])
  refine GoW.on (fun _ k => X3.ldc2J hx hown (mvT hZ (hw _ (List.mem_of_getElem? (i := 34) rfl))) rfl (hb hby at_171) k) ?_
  show GoW _ _ _ _ _ _ _ _ (mkF m 174 #[.val (.int i0), .val (.int i1), .val (.long (1024 : Int64)), .second, .val (.long jk), .second, .val (.long ja), .second, .val (.ref q), .val (.ref wt), .val (.long kb), .second, .val (.long kc), .second, .val (.long (1048576 : Int64)), .second, .val (.long (1099511627776 : Int64)), .second, .val (.long r0), .second, .val (.long r1), .second, .unset, .unset, .unset, .unset, .unset, .unset] [(.long (2 : Int64)), (.long (3072 : Int64)), (.long ((ja - (2048 : Int64)) * kc))])
  refine GoW.on (fun _ k => XS.lload X3.here hx rfl (hb hby at_174) rfl k) ?_
  show GoW _ _ _ _ _ _ _ _ (mkF m 176 #[.val (.int i0), .val (.int i1), .val (.long (1024 : Int64)), .second, .val (.long jk), .second, .val (.long ja), .second, .val (.ref q), .val (.ref wt), .val (.long kb), .second, .val (.long kc), .second, .val (.long (1048576 : Int64)), .second, .val (.long (1099511627776 : Int64)), .second, .val (.long r0), .second, .val (.long r1), .second, .unset, .unset, .unset, .unset, .unset, .unset] [(.long ja), (.long (2 : Int64)), (.long (3072 : Int64)), (.long ((ja - (2048 : Int64)) * kc))])
  refine GoW.on (fun _ k => XS.lmul X3.here hx rfl (hb hby at_176) rfl k) ?_
  show GoW _ _ _ _ _ _ _ _ (mkF m 177 #[.val (.int i0), .val (.int i1), .val (.long (1024 : Int64)), .second, .val (.long jk), .second, .val (.long ja), .second, .val (.ref q), .val (.ref wt), .val (.long kb), .second, .val (.long kc), .second, .val (.long (1048576 : Int64)), .second, .val (.long (1099511627776 : Int64)), .second, .val (.long r0), .second, .val (.long r1), .second, .unset, .unset, .unset, .unset, .unset, .unset] [(.long ((2 : Int64) * ja)), (.long (3072 : Int64)), (.long ((ja - (2048 : Int64)) * kc))])
  refine GoW.on (fun _ k => XS.lsub X3.here hx rfl (hb hby at_177) rfl k) ?_
  show GoW _ _ _ _ _ _ _ _ (mkF m 178 #[.val (.int i0), .val (.int i1), .val (.long (1024 : Int64)), .second, .val (.long jk), .second, .val (.long ja), .second, .val (.ref q), .val (.ref wt), .val (.long kb), .second, .val (.long kc), .second, .val (.long (1048576 : Int64)), .second, .val (.long (1099511627776 : Int64)), .second, .val (.long r0), .second, .val (.long r1), .second, .unset, .unset, .unset, .unset, .unset, .unset] [(.long ((3072 : Int64) - ((2 : Int64) * ja))), (.long ((ja - (2048 : Int64)) * kc))])
  refine GoW.on (fun _ k => XS.lload X3.here hx rfl (hb hby at_178) rfl k) ?_
  show GoW _ _ _ _ _ _ _ _ (mkF m 180 #[.val (.int i0), .val (.int i1), .val (.long (1024 : Int64)), .second, .val (.long jk), .second, .val (.long ja), .second, .val (.ref q), .val (.ref wt), .val (.long kb), .second, .val (.long kc), .second, .val (.long (1048576 : Int64)), .second, .val (.long (1099511627776 : Int64)), .second, .val (.long r0), .second, .val (.long r1), .second, .unset, .unset, .unset, .unset, .unset, .unset] [(.long kb), (.long ((3072 : Int64) - ((2 : Int64) * ja))), (.long ((ja - (2048 : Int64)) * kc))])
  refine GoW.on (fun _ k => XS.lmul X3.here hx rfl (hb hby at_180) rfl k) ?_
  show GoW _ _ _ _ _ _ _ _ (mkF m 181 #[.val (.int i0), .val (.int i1), .val (.long (1024 : Int64)), .second, .val (.long jk), .second, .val (.long ja), .second, .val (.ref q), .val (.ref wt), .val (.long kb), .second, .val (.long kc), .second, .val (.long (1048576 : Int64)), .second, .val (.long (1099511627776 : Int64)), .second, .val (.long r0), .second, .val (.long r1), .second, .unset, .unset, .unset, .unset, .unset, .unset] [(.long (((3072 : Int64) - ((2 : Int64) * ja)) * kb)), (.long ((ja - (2048 : Int64)) * kc))])
  refine GoW.on (fun _ k => XS.lloadN X3.here hx rfl (hb hby at_181) rfl k) ?_
  show GoW _ _ _ _ _ _ _ _ (mkF m 182 #[.val (.int i0), .val (.int i1), .val (.long (1024 : Int64)), .second, .val (.long jk), .second, .val (.long ja), .second, .val (.ref q), .val (.ref wt), .val (.long kb), .second, .val (.long kc), .second, .val (.long (1048576 : Int64)), .second, .val (.long (1099511627776 : Int64)), .second, .val (.long r0), .second, .val (.long r1), .second, .unset, .unset, .unset, .unset, .unset, .unset] [(.long (1024 : Int64)), (.long (((3072 : Int64) - ((2 : Int64) * ja)) * kb)), (.long ((ja - (2048 : Int64)) * kc))])
  refine GoW.on (fun _ k => XS.lmul X3.here hx rfl (hb hby at_182) rfl k) ?_
  show GoW _ _ _ _ _ _ _ _ (mkF m 183 #[.val (.int i0), .val (.int i1), .val (.long (1024 : Int64)), .second, .val (.long jk), .second, .val (.long ja), .second, .val (.ref q), .val (.ref wt), .val (.long kb), .second, .val (.long kc), .second, .val (.long (1048576 : Int64)), .second, .val (.long (1099511627776 : Int64)), .second, .val (.long r0), .second, .val (.long r1), .second, .unset, .unset, .unset, .unset, .unset, .unset] [(.long ((((3072 : Int64) - ((2 : Int64) * ja)) * kb) * (1024 : Int64))), (.long ((ja - (2048 : Int64)) * kc))])
  refine GoW.on (fun _ k => XS.ladd X3.here hx rfl (hb hby at_183) rfl k) ?_
  show GoW _ _ _ _ _ _ _ _ (mkF m 184 #[.val (.int i0), .val (.int i1), .val (.long (1024 : Int64)), .second, .val (.long jk), .second, .val (.long ja), .second, .val (.ref q), .val (.ref wt), .val (.long kb), .second, .val (.long kc), .second, .val (.long (1048576 : Int64)), .second, .val (.long (1099511627776 : Int64)), .second, .val (.long r0), .second, .val (.long r1), .second, .unset, .unset, .unset, .unset, .unset, .unset] [(.long (((ja - (2048 : Int64)) * kc) + ((((3072 : Int64) - ((2 : Int64) * ja)) * kb) * (1024 : Int64))))])
  refine GoW.on (fun _ k => XS.lload X3.here hx rfl (hb hby at_184) rfl k) ?_
  show GoW _ _ _ _ _ _ _ _ (mkF m 186 #[.val (.int i0), .val (.int i1), .val (.long (1024 : Int64)), .second, .val (.long jk), .second, .val (.long ja), .second, .val (.ref q), .val (.ref wt), .val (.long kb), .second, .val (.long kc), .second, .val (.long (1048576 : Int64)), .second, .val (.long (1099511627776 : Int64)), .second, .val (.long r0), .second, .val (.long r1), .second, .unset, .unset, .unset, .unset, .unset, .unset] [(.long ja), (.long (((ja - (2048 : Int64)) * kc) + ((((3072 : Int64) - ((2 : Int64) * ja)) * kb) * (1024 : Int64))))])
  refine GoW.on (fun _ k => XS.lload X3.here hx rfl (hb hby at_186) rfl k) ?_
  show GoW _ _ _ _ _ _ _ _ (mkF m 188 #[.val (.int i0), .val (.int i1), .val (.long (1024 : Int64)), .second, .val (.long jk), .second, .val (.long ja), .second, .val (.ref q), .val (.ref wt), .val (.long kb), .second, .val (.long kc), .second, .val (.long (1048576 : Int64)), .second, .val (.long (1099511627776 : Int64)), .second, .val (.long r0), .second, .val (.long r1), .second, .unset, .unset, .unset, .unset, .unset, .unset] [(.long jk), (.long ja), (.long (((ja - (2048 : Int64)) * kc) + ((((3072 : Int64) - ((2 : Int64) * ja)) * kb) * (1024 : Int64))))])
  refine GoW.on (fun _ k => XS.lmul X3.here hx rfl (hb hby at_188) rfl k) ?_
  show GoW _ _ _ _ _ _ _ _ (mkF m 189 #[.val (.int i0), .val (.int i1), .val (.long (1024 : Int64)), .second, .val (.long jk), .second, .val (.long ja), .second, .val (.ref q), .val (.ref wt), .val (.long kb), .second, .val (.long kc), .second, .val (.long (1048576 : Int64)), .second, .val (.long (1099511627776 : Int64)), .second, .val (.long r0), .second, .val (.long r1), .second, .unset, .unset, .unset, .unset, .unset, .unset] [(.long (ja * jk)), (.long (((ja - (2048 : Int64)) * kc) + ((((3072 : Int64) - ((2 : Int64) * ja)) * kb) * (1024 : Int64))))])
  refine GoW.on (fun _ k => XS.lload X3.here hx rfl (hb hby at_189) rfl k) ?_
  show GoW _ _ _ _ _ _ _ _ (mkF m 191 #[.val (.int i0), .val (.int i1), .val (.long (1024 : Int64)), .second, .val (.long jk), .second, .val (.long ja), .second, .val (.ref q), .val (.ref wt), .val (.long kb), .second, .val (.long kc), .second, .val (.long (1048576 : Int64)), .second, .val (.long (1099511627776 : Int64)), .second, .val (.long r0), .second, .val (.long r1), .second, .unset, .unset, .unset, .unset, .unset, .unset] [(.long (1048576 : Int64)), (.long (ja * jk)), (.long (((ja - (2048 : Int64)) * kc) + ((((3072 : Int64) - ((2 : Int64) * ja)) * kb) * (1024 : Int64))))])
  refine GoW.on (fun _ k => XS.lmul X3.here hx rfl (hb hby at_191) rfl k) ?_
  show GoW _ _ _ _ _ _ _ _ (mkF m 192 #[.val (.int i0), .val (.int i1), .val (.long (1024 : Int64)), .second, .val (.long jk), .second, .val (.long ja), .second, .val (.ref q), .val (.ref wt), .val (.long kb), .second, .val (.long kc), .second, .val (.long (1048576 : Int64)), .second, .val (.long (1099511627776 : Int64)), .second, .val (.long r0), .second, .val (.long r1), .second, .unset, .unset, .unset, .unset, .unset, .unset] [(.long ((ja * jk) * (1048576 : Int64))), (.long (((ja - (2048 : Int64)) * kc) + ((((3072 : Int64) - ((2 : Int64) * ja)) * kb) * (1024 : Int64))))])
  refine GoW.on (fun _ k => XS.ladd X3.here hx rfl (hb hby at_192) rfl k) ?_
  show GoW _ _ _ _ _ _ _ _ (mkF m 193 #[.val (.int i0), .val (.int i1), .val (.long (1024 : Int64)), .second, .val (.long jk), .second, .val (.long ja), .second, .val (.ref q), .val (.ref wt), .val (.long kb), .second, .val (.long kc), .second, .val (.long (1048576 : Int64)), .second, .val (.long (1099511627776 : Int64)), .second, .val (.long r0), .second, .val (.long r1), .second, .unset, .unset, .unset, .unset, .unset, .unset] [(.long ((((ja - (2048 : Int64)) * kc) + ((((3072 : Int64) - ((2 : Int64) * ja)) * kb) * (1024 : Int64))) + ((ja * jk) * (1048576 : Int64))))])
  refine GoW.on (fun _ k => XS.lstore X3.here hx rfl (hb hby at_193) rfl (l' := #[.val (.int i0), .val (.int i1), .val (.long (1024 : Int64)), .second, .val (.long jk), .second, .val (.long ja), .second, .val (.ref q), .val (.ref wt), .val (.long kb), .second, .val (.long kc), .second, .val (.long (1048576 : Int64)), .second, .val (.long (1099511627776 : Int64)), .second, .val (.long r0), .second, .val (.long r1), .second, .val (.long ((((ja - (2048 : Int64)) * kc) + ((((3072 : Int64) - ((2 : Int64) * ja)) * kb) * (1024 : Int64))) + ((ja * jk) * (1048576 : Int64)))), .second, .unset, .unset, .unset, .unset]) rfl k) ?_
  show GoW _ _ _ _ _ _ _ _ (mkF m 195 #[.val (.int i0), .val (.int i1), .val (.long (1024 : Int64)), .second, .val (.long jk), .second, .val (.long ja), .second, .val (.ref q), .val (.ref wt), .val (.long kb), .second, .val (.long kc), .second, .val (.long (1048576 : Int64)), .second, .val (.long (1099511627776 : Int64)), .second, .val (.long r0), .second, .val (.long r1), .second, .val (.long ((((ja - (2048 : Int64)) * kc) + ((((3072 : Int64) - ((2 : Int64) * ja)) * kb) * (1024 : Int64))) + ((ja * jk) * (1048576 : Int64)))), .second, .unset, .unset, .unset, .unset] [])
  generalize hr2 : ((((ja - (2048 : Int64)) * kc) + ((((3072 : Int64) - ((2 : Int64) * ja)) * kb) * (1024 : Int64))) + ((ja * jk) * (1048576 : Int64))) = r2
  show GoW _ _ _ _ _ _ _ _ (mkF m 195 #[.val (.int i0), .val (.int i1), .val (.long (1024 : Int64)), .second, .val (.long jk), .second, .val (.long ja), .second, .val (.ref q), .val (.ref wt), .val (.long kb), .second, .val (.long kc), .second, .val (.long (1048576 : Int64)), .second, .val (.long (1099511627776 : Int64)), .second, .val (.long r0), .second, .val (.long r1), .second, .val (.long r2), .second, .unset, .unset, .unset, .unset] [])
  refine GoW.on (fun _ k => XS.lload X3.here hx rfl (hb hby at_195) rfl k) ?_
  show GoW _ _ _ _ _ _ _ _ (mkF m 197 #[.val (.int i0), .val (.int i1), .val (.long (1024 : Int64)), .second, .val (.long jk), .second, .val (.long ja), .second, .val (.ref q), .val (.ref wt), .val (.long kb), .second, .val (.long kc), .second, .val (.long (1048576 : Int64)), .second, .val (.long (1099511627776 : Int64)), .second, .val (.long r0), .second, .val (.long r1), .second, .val (.long r2), .second, .unset, .unset, .unset, .unset] [(.long ja)])
  refine GoW.on (fun _ k => XS.lload X3.here hx rfl (hb hby at_197) rfl k) ?_
  show GoW _ _ _ _ _ _ _ _ (mkF m 199 #[.val (.int i0), .val (.int i1), .val (.long (1024 : Int64)), .second, .val (.long jk), .second, .val (.long ja), .second, .val (.ref q), .val (.ref wt), .val (.long kb), .second, .val (.long kc), .second, .val (.long (1048576 : Int64)), .second, .val (.long (1099511627776 : Int64)), .second, .val (.long r0), .second, .val (.long r1), .second, .val (.long r2), .second, .unset, .unset, .unset, .unset] [(.long kc), (.long ja)])
  refine GoW.on (fun _ k => XS.lmul X3.here hx rfl (hb hby at_199) rfl k) ?_
  show GoW _ _ _ _ _ _ _ _ (mkF m 200 #[.val (.int i0), .val (.int i1), .val (.long (1024 : Int64)), .second, .val (.long jk), .second, .val (.long ja), .second, .val (.ref q), .val (.ref wt), .val (.long kb), .second, .val (.long kc), .second, .val (.long (1048576 : Int64)), .second, .val (.long (1099511627776 : Int64)), .second, .val (.long r0), .second, .val (.long r1), .second, .val (.long r2), .second, .unset, .unset, .unset, .unset] [(.long (ja * kc))])
  refine GoW.on (fun _ k => XS.lload X3.here hx rfl (hb hby at_200) rfl k) ?_
  show GoW _ _ _ _ _ _ _ _ (mkF m 202 #[.val (.int i0), .val (.int i1), .val (.long (1024 : Int64)), .second, .val (.long jk), .second, .val (.long ja), .second, .val (.ref q), .val (.ref wt), .val (.long kb), .second, .val (.long kc), .second, .val (.long (1048576 : Int64)), .second, .val (.long (1099511627776 : Int64)), .second, .val (.long r0), .second, .val (.long r1), .second, .val (.long r2), .second, .unset, .unset, .unset, .unset] [(.long ja), (.long (ja * kc))])
  refine GoW.on (fun _ k => XS.lload X3.here hx rfl (hb hby at_202) rfl k) ?_
  show GoW _ _ _ _ _ _ _ _ (mkF m 204 #[.val (.int i0), .val (.int i1), .val (.long (1024 : Int64)), .second, .val (.long jk), .second, .val (.long ja), .second, .val (.ref q), .val (.ref wt), .val (.long kb), .second, .val (.long kc), .second, .val (.long (1048576 : Int64)), .second, .val (.long (1099511627776 : Int64)), .second, .val (.long r0), .second, .val (.long r1), .second, .val (.long r2), .second, .unset, .unset, .unset, .unset] [(.long kb), (.long ja), (.long (ja * kc))])
  refine GoW.on (fun _ k => XS.lmul X3.here hx rfl (hb hby at_204) rfl k) ?_
  show GoW _ _ _ _ _ _ _ _ (mkF m 205 #[.val (.int i0), .val (.int i1), .val (.long (1024 : Int64)), .second, .val (.long jk), .second, .val (.long ja), .second, .val (.ref q), .val (.ref wt), .val (.long kb), .second, .val (.long kc), .second, .val (.long (1048576 : Int64)), .second, .val (.long (1099511627776 : Int64)), .second, .val (.long r0), .second, .val (.long r1), .second, .val (.long r2), .second, .unset, .unset, .unset, .unset] [(.long (ja * kb)), (.long (ja * kc))])
  refine GoW.on (fun _ k => XS.lloadN X3.here hx rfl (hb hby at_205) rfl k) ?_
  show GoW _ _ _ _ _ _ _ _ (mkF m 206 #[.val (.int i0), .val (.int i1), .val (.long (1024 : Int64)), .second, .val (.long jk), .second, .val (.long ja), .second, .val (.ref q), .val (.ref wt), .val (.long kb), .second, .val (.long kc), .second, .val (.long (1048576 : Int64)), .second, .val (.long (1099511627776 : Int64)), .second, .val (.long r0), .second, .val (.long r1), .second, .val (.long r2), .second, .unset, .unset, .unset, .unset] [(.long (1024 : Int64)), (.long (ja * kb)), (.long (ja * kc))])
  refine GoW.on (fun _ k => XS.lmul X3.here hx rfl (hb hby at_206) rfl k) ?_
  show GoW _ _ _ _ _ _ _ _ (mkF m 207 #[.val (.int i0), .val (.int i1), .val (.long (1024 : Int64)), .second, .val (.long jk), .second, .val (.long ja), .second, .val (.ref q), .val (.ref wt), .val (.long kb), .second, .val (.long kc), .second, .val (.long (1048576 : Int64)), .second, .val (.long (1099511627776 : Int64)), .second, .val (.long r0), .second, .val (.long r1), .second, .val (.long r2), .second, .unset, .unset, .unset, .unset] [(.long ((ja * kb) * (1024 : Int64))), (.long (ja * kc))])
  refine GoW.on (fun _ k => XS.lsub X3.here hx rfl (hb hby at_207) rfl k) ?_
  show GoW _ _ _ _ _ _ _ _ (mkF m 208 #[.val (.int i0), .val (.int i1), .val (.long (1024 : Int64)), .second, .val (.long jk), .second, .val (.long ja), .second, .val (.ref q), .val (.ref wt), .val (.long kb), .second, .val (.long kc), .second, .val (.long (1048576 : Int64)), .second, .val (.long (1099511627776 : Int64)), .second, .val (.long r0), .second, .val (.long r1), .second, .val (.long r2), .second, .unset, .unset, .unset, .unset] [(.long ((ja * kc) - ((ja * kb) * (1024 : Int64))))])
  refine GoW.on (fun _ k => XS.lstore X3.here hx rfl (hb hby at_208) rfl (l' := #[.val (.int i0), .val (.int i1), .val (.long (1024 : Int64)), .second, .val (.long jk), .second, .val (.long ja), .second, .val (.ref q), .val (.ref wt), .val (.long kb), .second, .val (.long kc), .second, .val (.long (1048576 : Int64)), .second, .val (.long (1099511627776 : Int64)), .second, .val (.long r0), .second, .val (.long r1), .second, .val (.long r2), .second, .val (.long ((ja * kc) - ((ja * kb) * (1024 : Int64)))), .second, .unset, .unset]) rfl k) ?_
  show GoW _ _ _ _ _ _ _ _ (mkF m 210 #[.val (.int i0), .val (.int i1), .val (.long (1024 : Int64)), .second, .val (.long jk), .second, .val (.long ja), .second, .val (.ref q), .val (.ref wt), .val (.long kb), .second, .val (.long kc), .second, .val (.long (1048576 : Int64)), .second, .val (.long (1099511627776 : Int64)), .second, .val (.long r0), .second, .val (.long r1), .second, .val (.long r2), .second, .val (.long ((ja * kc) - ((ja * kb) * (1024 : Int64)))), .second, .unset, .unset] [])
  generalize hr3 : ((ja * kc) - ((ja * kb) * (1024 : Int64))) = r3
  show GoW _ _ _ _ _ _ _ _ (mkF m 210 #[.val (.int i0), .val (.int i1), .val (.long (1024 : Int64)), .second, .val (.long jk), .second, .val (.long ja), .second, .val (.ref q), .val (.ref wt), .val (.long kb), .second, .val (.long kc), .second, .val (.long (1048576 : Int64)), .second, .val (.long (1099511627776 : Int64)), .second, .val (.long r0), .second, .val (.long r1), .second, .val (.long r2), .second, .val (.long r3), .second, .unset, .unset] [])
  refine GoW.on (X3.ldc2DoubleC hx hown (mvT hZ (hw _ (List.mem_of_getElem? (i := 36) rfl))) (g := (mkF m 210 #[.val (.int i0), .val (.int i1), .val (.long (1024 : Int64)), .second, .val (.long jk), .second, .val (.long ja), .second, .val (.ref q), .val (.ref wt), .val (.long kb), .second, .val (.long kc), .second, .val (.long (1048576 : Int64)), .second, .val (.long (1099511627776 : Int64)), .second, .val (.long r0), .second, .val (.long r1), .second, .val (.long r2), .second, .val (.long r3), .second, .unset, .unset] [])) rfl (hb hby at_210)) ?_
  show GoW _ _ _ _ _ _ _ _ (mkF m 213 #[.val (.int i0), .val (.int i1), .val (.long (1024 : Int64)), .second, .val (.long jk), .second, .val (.long ja), .second, .val (.ref q), .val (.ref wt), .val (.long kb), .second, .val (.long kc), .second, .val (.long (1048576 : Int64)), .second, .val (.long (1099511627776 : Int64)), .second, .val (.long r0), .second, .val (.long r1), .second, .val (.long r2), .second, .val (.long r3), .second, .unset, .unset] [(.double (4787326403894837248 : UInt64))])
  refine GoW.on (fun _ k => XS.dstore X3.here hx rfl (hb hby at_213) rfl (l' := #[.val (.int i0), .val (.int i1), .val (.long (1024 : Int64)), .second, .val (.long jk), .second, .val (.long ja), .second, .val (.ref q), .val (.ref wt), .val (.long kb), .second, .val (.long kc), .second, .val (.long (1048576 : Int64)), .second, .val (.long (1099511627776 : Int64)), .second, .val (.long r0), .second, .val (.long r1), .second, .val (.long r2), .second, .val (.long r3), .second, .val (.double (4787326403894837248 : UInt64)), .second]) rfl k) ?_
  show GoW _ _ _ _ _ _ _ _ (mkF m 215 #[.val (.int i0), .val (.int i1), .val (.long (1024 : Int64)), .second, .val (.long jk), .second, .val (.long ja), .second, .val (.ref q), .val (.ref wt), .val (.long kb), .second, .val (.long kc), .second, .val (.long (1048576 : Int64)), .second, .val (.long (1099511627776 : Int64)), .second, .val (.long r0), .second, .val (.long r1), .second, .val (.long r2), .second, .val (.long r3), .second, .val (.double (4787326403894837248 : UInt64)), .second] [])
  refine GoW.on (fun _ k => XS.aload X3.here hx rfl (hb hby at_215) rfl rfl k) ?_
  show GoW _ _ _ _ _ _ _ _ (mkF m 217 #[.val (.int i0), .val (.int i1), .val (.long (1024 : Int64)), .second, .val (.long jk), .second, .val (.long ja), .second, .val (.ref q), .val (.ref wt), .val (.long kb), .second, .val (.long kc), .second, .val (.long (1048576 : Int64)), .second, .val (.long (1099511627776 : Int64)), .second, .val (.long r0), .second, .val (.long r1), .second, .val (.long r2), .second, .val (.long r3), .second, .val (.double (4787326403894837248 : UInt64)), .second] [(.ref wt)])
  refine GoW.on (fun _ k => XS.iconst X3.here hx rfl (hb hby at_217) k) ?_
  show GoW _ _ _ _ _ _ _ _ (mkF m 218 #[.val (.int i0), .val (.int i1), .val (.long (1024 : Int64)), .second, .val (.long jk), .second, .val (.long ja), .second, .val (.ref q), .val (.ref wt), .val (.long kb), .second, .val (.long kc), .second, .val (.long (1048576 : Int64)), .second, .val (.long (1099511627776 : Int64)), .second, .val (.long r0), .second, .val (.long r1), .second, .val (.long r2), .second, .val (.long r3), .second, .val (.double (4787326403894837248 : UInt64)), .second] [(.int (0 : Int32)), (.ref wt)])
  obtain ⟨cl6, Ar6, -, S6, -, H6, -⟩ := id V_wt
  have hin6 : ¬ ((0 : Int32) < 0 ∨ cl6.slots.size ≤ ((0 : Int32)).toNatClampNeg) := inb_of S6 ⟨by decide, by decide⟩
  refine GoW.on (X3.daload hx (j := (0 : Int32)) (v := (.double (FP.dneg (pV (FP.ddiv (FP.l2d ja) (4652218415073722368 : UInt64)) (FP.ddiv (FP.l2d jk) (4652218415073722368 : UInt64)))))) (by rw [e3]; exact Ar6.1) (State.isArrayOf_alike hZ.alike Ar6.2.1) Ar6.2.2 hin6 (H6.at hin6 (rfl)) (g := (mkF m 218 #[.val (.int i0), .val (.int i1), .val (.long (1024 : Int64)), .second, .val (.long jk), .second, .val (.long ja), .second, .val (.ref q), .val (.ref wt), .val (.long kb), .second, .val (.long kc), .second, .val (.long (1048576 : Int64)), .second, .val (.long (1099511627776 : Int64)), .second, .val (.long r0), .second, .val (.long r1), .second, .val (.long r2), .second, .val (.long r3), .second, .val (.double (4787326403894837248 : UInt64)), .second] [(.int (0 : Int32)), (.ref wt)])) rfl rfl (hb hby at_218)) ?_
  show GoW _ _ _ _ _ _ _ _ (mkF m 219 #[.val (.int i0), .val (.int i1), .val (.long (1024 : Int64)), .second, .val (.long jk), .second, .val (.long ja), .second, .val (.ref q), .val (.ref wt), .val (.long kb), .second, .val (.long kc), .second, .val (.long (1048576 : Int64)), .second, .val (.long (1099511627776 : Int64)), .second, .val (.long r0), .second, .val (.long r1), .second, .val (.long r2), .second, .val (.long r3), .second, .val (.double (4787326403894837248 : UInt64)), .second] [(.double (FP.dneg (pV (FP.ddiv (FP.l2d ja) (4652218415073722368 : UInt64)) (FP.ddiv (FP.l2d jk) (4652218415073722368 : UInt64)))))])
  refine GoW.on (fun _ k => XS.dload X3.here hx rfl (hb hby at_219) rfl k) ?_
  show GoW _ _ _ _ _ _ _ _ (mkF m 221 #[.val (.int i0), .val (.int i1), .val (.long (1024 : Int64)), .second, .val (.long jk), .second, .val (.long ja), .second, .val (.ref q), .val (.ref wt), .val (.long kb), .second, .val (.long kc), .second, .val (.long (1048576 : Int64)), .second, .val (.long (1099511627776 : Int64)), .second, .val (.long r0), .second, .val (.long r1), .second, .val (.long r2), .second, .val (.long r3), .second, .val (.double (4787326403894837248 : UInt64)), .second] [(.double (4787326403894837248 : UInt64)), (.double (FP.dneg (pV (FP.ddiv (FP.l2d ja) (4652218415073722368 : UInt64)) (FP.ddiv (FP.l2d jk) (4652218415073722368 : UInt64)))))])
  refine GoW.on (fun _ k => XS.dmulS X3.here hx rfl (hb hby at_221) rfl ((own_sc P3.2.2.neg (by omega)).nn) rfl k) ?_
  show GoW _ _ _ _ _ _ _ _ (mkF m 222 #[.val (.int i0), .val (.int i1), .val (.long (1024 : Int64)), .second, .val (.long jk), .second, .val (.long ja), .second, .val (.ref q), .val (.ref wt), .val (.long kb), .second, .val (.long kc), .second, .val (.long (1048576 : Int64)), .second, .val (.long (1099511627776 : Int64)), .second, .val (.long r0), .second, .val (.long r1), .second, .val (.long r2), .second, .val (.long r3), .second, .val (.double (4787326403894837248 : UInt64)), .second] [(.double (FP.dmul (FP.dneg (pV (FP.ddiv (FP.l2d ja) (4652218415073722368 : UInt64)) (FP.ddiv (FP.l2d jk) (4652218415073722368 : UInt64)))) (4787326403894837248 : UInt64)))])
  refine GoW.on (fun _ k => XS.lload X3.here hx rfl (hb hby at_222) rfl k) ?_
  show GoW _ _ _ _ _ _ _ _ (mkF m 224 #[.val (.int i0), .val (.int i1), .val (.long (1024 : Int64)), .second, .val (.long jk), .second, .val (.long ja), .second, .val (.ref q), .val (.ref wt), .val (.long kb), .second, .val (.long kc), .second, .val (.long (1048576 : Int64)), .second, .val (.long (1099511627776 : Int64)), .second, .val (.long r0), .second, .val (.long r1), .second, .val (.long r2), .second, .val (.long r3), .second, .val (.double (4787326403894837248 : UInt64)), .second] [(.long r0), (.double (FP.dmul (FP.dneg (pV (FP.ddiv (FP.l2d ja) (4652218415073722368 : UInt64)) (FP.ddiv (FP.l2d jk) (4652218415073722368 : UInt64)))) (4787326403894837248 : UInt64)))])
  refine GoW.on (fun _ k => XS.l2dS X3.here hx rfl (hb hby at_224) rfl rfl k) ?_
  show GoW _ _ _ _ _ _ _ _ (mkF m 225 #[.val (.int i0), .val (.int i1), .val (.long (1024 : Int64)), .second, .val (.long jk), .second, .val (.long ja), .second, .val (.ref q), .val (.ref wt), .val (.long kb), .second, .val (.long kc), .second, .val (.long (1048576 : Int64)), .second, .val (.long (1099511627776 : Int64)), .second, .val (.long r0), .second, .val (.long r1), .second, .val (.long r2), .second, .val (.long r3), .second, .val (.double (4787326403894837248 : UInt64)), .second] [(.double (FP.l2d r0)), (.double (FP.dmul (FP.dneg (pV (FP.ddiv (FP.l2d ja) (4652218415073722368 : UInt64)) (FP.ddiv (FP.l2d jk) (4652218415073722368 : UInt64)))) (4787326403894837248 : UInt64)))])
  refine GoW.on (fun _ k => XS.dcmpS X3.here hx rfl (hb hby at_225) rfl rfl k) ?_
  show GoW _ _ _ _ _ _ _ _ (mkF m 226 #[.val (.int i0), .val (.int i1), .val (.long (1024 : Int64)), .second, .val (.long jk), .second, .val (.long ja), .second, .val (.ref q), .val (.ref wt), .val (.long kb), .second, .val (.long kc), .second, .val (.long (1048576 : Int64)), .second, .val (.long (1099511627776 : Int64)), .second, .val (.long r0), .second, .val (.long r1), .second, .val (.long r2), .second, .val (.long r3), .second, .val (.double (4787326403894837248 : UInt64)), .second] [(.int (cmpValue (FP.dcmp (FP.dmul (FP.dneg (pV (FP.ddiv (FP.l2d ja) (4652218415073722368 : UInt64)) (FP.ddiv (FP.l2d jk) (4652218415073722368 : UInt64)))) (4787326403894837248 : UInt64)) (FP.l2d r0)) .l))])
  have hc7 : (cmpValue (FP.dcmp (FP.dmul (FP.dneg (pV (FP.ddiv (FP.l2d ja) (4652218415073722368 : UInt64)) (FP.ddiv (FP.l2d jk) (4652218415073722368 : UInt64)))) (4787326403894837248 : UInt64)) (FP.l2d r0)) .l) = (0 : Int32) := own_cmp P3.2.2.neg (own_r0 hkb hkc hr0) (by omega)
  refine GoW.on (fun _ k => XS.ifNo X3.here hx rfl (hb hby at_226) rfl ((if0 _ _).trans (teq hc7).2) k) ?_
  show GoW _ _ _ _ _ _ _ _ (mkF m 229 #[.val (.int i0), .val (.int i1), .val (.long (1024 : Int64)), .second, .val (.long jk), .second, .val (.long ja), .second, .val (.ref q), .val (.ref wt), .val (.long kb), .second, .val (.long kc), .second, .val (.long (1048576 : Int64)), .second, .val (.long (1099511627776 : Int64)), .second, .val (.long r0), .second, .val (.long r1), .second, .val (.long r2), .second, .val (.long r3), .second, .val (.double (4787326403894837248 : UInt64)), .second] [])
  refine GoW.on (fun _ k => XS.aload X3.here hx rfl (hb hby at_229) rfl rfl k) ?_
  show GoW _ _ _ _ _ _ _ _ (mkF m 231 #[.val (.int i0), .val (.int i1), .val (.long (1024 : Int64)), .second, .val (.long jk), .second, .val (.long ja), .second, .val (.ref q), .val (.ref wt), .val (.long kb), .second, .val (.long kc), .second, .val (.long (1048576 : Int64)), .second, .val (.long (1099511627776 : Int64)), .second, .val (.long r0), .second, .val (.long r1), .second, .val (.long r2), .second, .val (.long r3), .second, .val (.double (4787326403894837248 : UInt64)), .second] [(.ref wt)])
  refine GoW.on (fun _ k => XS.iconst X3.here hx rfl (hb hby at_231) k) ?_
  show GoW _ _ _ _ _ _ _ _ (mkF m 232 #[.val (.int i0), .val (.int i1), .val (.long (1024 : Int64)), .second, .val (.long jk), .second, .val (.long ja), .second, .val (.ref q), .val (.ref wt), .val (.long kb), .second, .val (.long kc), .second, .val (.long (1048576 : Int64)), .second, .val (.long (1099511627776 : Int64)), .second, .val (.long r0), .second, .val (.long r1), .second, .val (.long r2), .second, .val (.long r3), .second, .val (.double (4787326403894837248 : UInt64)), .second] [(.int (1 : Int32)), (.ref wt)])
  obtain ⟨cl8, Ar8, -, S8, -, H8, -⟩ := id V_wt
  have hin8 : ¬ ((1 : Int32) < 0 ∨ cl8.slots.size ≤ ((1 : Int32)).toNatClampNeg) := inb_of S8 ⟨by decide, by decide⟩
  refine GoW.on (X3.daload hx (j := (1 : Int32)) (v := (.double (FP.dadd (FP.dsub (4607182418800017408 : UInt64) (sV (FP.ddiv (FP.l2d jk) (4652218415073722368 : UInt64)))) (qV (FP.ddiv (FP.l2d ja) (4652218415073722368 : UInt64)) (FP.ddiv (FP.l2d jk) (4652218415073722368 : UInt64)))))) (by rw [e3]; exact Ar8.1) (State.isArrayOf_alike hZ.alike Ar8.2.1) Ar8.2.2 hin8 (H8.at hin8 (rfl)) (g := (mkF m 232 #[.val (.int i0), .val (.int i1), .val (.long (1024 : Int64)), .second, .val (.long jk), .second, .val (.long ja), .second, .val (.ref q), .val (.ref wt), .val (.long kb), .second, .val (.long kc), .second, .val (.long (1048576 : Int64)), .second, .val (.long (1099511627776 : Int64)), .second, .val (.long r0), .second, .val (.long r1), .second, .val (.long r2), .second, .val (.long r3), .second, .val (.double (4787326403894837248 : UInt64)), .second] [(.int (1 : Int32)), (.ref wt)])) rfl rfl (hb hby at_232)) ?_
  show GoW _ _ _ _ _ _ _ _ (mkF m 233 #[.val (.int i0), .val (.int i1), .val (.long (1024 : Int64)), .second, .val (.long jk), .second, .val (.long ja), .second, .val (.ref q), .val (.ref wt), .val (.long kb), .second, .val (.long kc), .second, .val (.long (1048576 : Int64)), .second, .val (.long (1099511627776 : Int64)), .second, .val (.long r0), .second, .val (.long r1), .second, .val (.long r2), .second, .val (.long r3), .second, .val (.double (4787326403894837248 : UInt64)), .second] [(.double (FP.dadd (FP.dsub (4607182418800017408 : UInt64) (sV (FP.ddiv (FP.l2d jk) (4652218415073722368 : UInt64)))) (qV (FP.ddiv (FP.l2d ja) (4652218415073722368 : UInt64)) (FP.ddiv (FP.l2d jk) (4652218415073722368 : UInt64)))))])
  refine GoW.on (fun _ k => XS.dload X3.here hx rfl (hb hby at_233) rfl k) ?_
  show GoW _ _ _ _ _ _ _ _ (mkF m 235 #[.val (.int i0), .val (.int i1), .val (.long (1024 : Int64)), .second, .val (.long jk), .second, .val (.long ja), .second, .val (.ref q), .val (.ref wt), .val (.long kb), .second, .val (.long kc), .second, .val (.long (1048576 : Int64)), .second, .val (.long (1099511627776 : Int64)), .second, .val (.long r0), .second, .val (.long r1), .second, .val (.long r2), .second, .val (.long r3), .second, .val (.double (4787326403894837248 : UInt64)), .second] [(.double (4787326403894837248 : UInt64)), (.double (FP.dadd (FP.dsub (4607182418800017408 : UInt64) (sV (FP.ddiv (FP.l2d jk) (4652218415073722368 : UInt64)))) (qV (FP.ddiv (FP.l2d ja) (4652218415073722368 : UInt64)) (FP.ddiv (FP.l2d jk) (4652218415073722368 : UInt64)))))])
  refine GoW.on (fun _ k => XS.dmulS X3.here hx rfl (hb hby at_235) rfl ((own_sc W1.2 (by omega)).nn) rfl k) ?_
  show GoW _ _ _ _ _ _ _ _ (mkF m 236 #[.val (.int i0), .val (.int i1), .val (.long (1024 : Int64)), .second, .val (.long jk), .second, .val (.long ja), .second, .val (.ref q), .val (.ref wt), .val (.long kb), .second, .val (.long kc), .second, .val (.long (1048576 : Int64)), .second, .val (.long (1099511627776 : Int64)), .second, .val (.long r0), .second, .val (.long r1), .second, .val (.long r2), .second, .val (.long r3), .second, .val (.double (4787326403894837248 : UInt64)), .second] [(.double (FP.dmul (FP.dadd (FP.dsub (4607182418800017408 : UInt64) (sV (FP.ddiv (FP.l2d jk) (4652218415073722368 : UInt64)))) (qV (FP.ddiv (FP.l2d ja) (4652218415073722368 : UInt64)) (FP.ddiv (FP.l2d jk) (4652218415073722368 : UInt64)))) (4787326403894837248 : UInt64)))])
  refine GoW.on (fun _ k => XS.lload X3.here hx rfl (hb hby at_236) rfl k) ?_
  show GoW _ _ _ _ _ _ _ _ (mkF m 238 #[.val (.int i0), .val (.int i1), .val (.long (1024 : Int64)), .second, .val (.long jk), .second, .val (.long ja), .second, .val (.ref q), .val (.ref wt), .val (.long kb), .second, .val (.long kc), .second, .val (.long (1048576 : Int64)), .second, .val (.long (1099511627776 : Int64)), .second, .val (.long r0), .second, .val (.long r1), .second, .val (.long r2), .second, .val (.long r3), .second, .val (.double (4787326403894837248 : UInt64)), .second] [(.long r1), (.double (FP.dmul (FP.dadd (FP.dsub (4607182418800017408 : UInt64) (sV (FP.ddiv (FP.l2d jk) (4652218415073722368 : UInt64)))) (qV (FP.ddiv (FP.l2d ja) (4652218415073722368 : UInt64)) (FP.ddiv (FP.l2d jk) (4652218415073722368 : UInt64)))) (4787326403894837248 : UInt64)))])
  refine GoW.on (fun _ k => XS.l2dS X3.here hx rfl (hb hby at_238) rfl rfl k) ?_
  show GoW _ _ _ _ _ _ _ _ (mkF m 239 #[.val (.int i0), .val (.int i1), .val (.long (1024 : Int64)), .second, .val (.long jk), .second, .val (.long ja), .second, .val (.ref q), .val (.ref wt), .val (.long kb), .second, .val (.long kc), .second, .val (.long (1048576 : Int64)), .second, .val (.long (1099511627776 : Int64)), .second, .val (.long r0), .second, .val (.long r1), .second, .val (.long r2), .second, .val (.long r3), .second, .val (.double (4787326403894837248 : UInt64)), .second] [(.double (FP.l2d r1)), (.double (FP.dmul (FP.dadd (FP.dsub (4607182418800017408 : UInt64) (sV (FP.ddiv (FP.l2d jk) (4652218415073722368 : UInt64)))) (qV (FP.ddiv (FP.l2d ja) (4652218415073722368 : UInt64)) (FP.ddiv (FP.l2d jk) (4652218415073722368 : UInt64)))) (4787326403894837248 : UInt64)))])
  refine GoW.on (fun _ k => XS.dcmpS X3.here hx rfl (hb hby at_239) rfl rfl k) ?_
  show GoW _ _ _ _ _ _ _ _ (mkF m 240 #[.val (.int i0), .val (.int i1), .val (.long (1024 : Int64)), .second, .val (.long jk), .second, .val (.long ja), .second, .val (.ref q), .val (.ref wt), .val (.long kb), .second, .val (.long kc), .second, .val (.long (1048576 : Int64)), .second, .val (.long (1099511627776 : Int64)), .second, .val (.long r0), .second, .val (.long r1), .second, .val (.long r2), .second, .val (.long r3), .second, .val (.double (4787326403894837248 : UInt64)), .second] [(.int (cmpValue (FP.dcmp (FP.dmul (FP.dadd (FP.dsub (4607182418800017408 : UInt64) (sV (FP.ddiv (FP.l2d jk) (4652218415073722368 : UInt64)))) (qV (FP.ddiv (FP.l2d ja) (4652218415073722368 : UInt64)) (FP.ddiv (FP.l2d jk) (4652218415073722368 : UInt64)))) (4787326403894837248 : UInt64)) (FP.l2d r1)) .l))])
  have hc9 : (cmpValue (FP.dcmp (FP.dmul (FP.dadd (FP.dsub (4607182418800017408 : UInt64) (sV (FP.ddiv (FP.l2d jk) (4652218415073722368 : UInt64)))) (qV (FP.ddiv (FP.l2d ja) (4652218415073722368 : UInt64)) (FP.ddiv (FP.l2d jk) (4652218415073722368 : UInt64)))) (4787326403894837248 : UInt64)) (FP.l2d r1)) .l) = (0 : Int32) := own_cmp W1.2 (own_r1 hkb hkc hr1) (by omega)
  refine GoW.on (fun _ k => XS.ifNo X3.here hx rfl (hb hby at_240) rfl ((if0 _ _).trans (teq hc9).2) k) ?_
  show GoW _ _ _ _ _ _ _ _ (mkF m 243 #[.val (.int i0), .val (.int i1), .val (.long (1024 : Int64)), .second, .val (.long jk), .second, .val (.long ja), .second, .val (.ref q), .val (.ref wt), .val (.long kb), .second, .val (.long kc), .second, .val (.long (1048576 : Int64)), .second, .val (.long (1099511627776 : Int64)), .second, .val (.long r0), .second, .val (.long r1), .second, .val (.long r2), .second, .val (.long r3), .second, .val (.double (4787326403894837248 : UInt64)), .second] [])
  refine GoW.on (fun _ k => XS.aload X3.here hx rfl (hb hby at_243) rfl rfl k) ?_
  show GoW _ _ _ _ _ _ _ _ (mkF m 245 #[.val (.int i0), .val (.int i1), .val (.long (1024 : Int64)), .second, .val (.long jk), .second, .val (.long ja), .second, .val (.ref q), .val (.ref wt), .val (.long kb), .second, .val (.long kc), .second, .val (.long (1048576 : Int64)), .second, .val (.long (1099511627776 : Int64)), .second, .val (.long r0), .second, .val (.long r1), .second, .val (.long r2), .second, .val (.long r3), .second, .val (.double (4787326403894837248 : UInt64)), .second] [(.ref wt)])
  refine GoW.on (fun _ k => XS.iconst X3.here hx rfl (hb hby at_245) k) ?_
  show GoW _ _ _ _ _ _ _ _ (mkF m 246 #[.val (.int i0), .val (.int i1), .val (.long (1024 : Int64)), .second, .val (.long jk), .second, .val (.long ja), .second, .val (.ref q), .val (.ref wt), .val (.long kb), .second, .val (.long kc), .second, .val (.long (1048576 : Int64)), .second, .val (.long (1099511627776 : Int64)), .second, .val (.long r0), .second, .val (.long r1), .second, .val (.long r2), .second, .val (.long r3), .second, .val (.double (4787326403894837248 : UInt64)), .second] [(.int (2 : Int32)), (.ref wt)])
  obtain ⟨cl10, Ar10, -, S10, -, H10, -⟩ := id V_wt
  have hin10 : ¬ ((2 : Int32) < 0 ∨ cl10.slots.size ≤ ((2 : Int32)).toNatClampNeg) := inb_of S10 ⟨by decide, by decide⟩
  refine GoW.on (X3.daload hx (j := (2 : Int32)) (v := (.double (FP.dadd (sV (FP.ddiv (FP.l2d jk) (4652218415073722368 : UInt64))) (pV (FP.ddiv (FP.l2d ja) (4652218415073722368 : UInt64)) (FP.ddiv (FP.l2d jk) (4652218415073722368 : UInt64)))))) (by rw [e3]; exact Ar10.1) (State.isArrayOf_alike hZ.alike Ar10.2.1) Ar10.2.2 hin10 (H10.at hin10 (rfl)) (g := (mkF m 246 #[.val (.int i0), .val (.int i1), .val (.long (1024 : Int64)), .second, .val (.long jk), .second, .val (.long ja), .second, .val (.ref q), .val (.ref wt), .val (.long kb), .second, .val (.long kc), .second, .val (.long (1048576 : Int64)), .second, .val (.long (1099511627776 : Int64)), .second, .val (.long r0), .second, .val (.long r1), .second, .val (.long r2), .second, .val (.long r3), .second, .val (.double (4787326403894837248 : UInt64)), .second] [(.int (2 : Int32)), (.ref wt)])) rfl rfl (hb hby at_246)) ?_
  show GoW _ _ _ _ _ _ _ _ (mkF m 247 #[.val (.int i0), .val (.int i1), .val (.long (1024 : Int64)), .second, .val (.long jk), .second, .val (.long ja), .second, .val (.ref q), .val (.ref wt), .val (.long kb), .second, .val (.long kc), .second, .val (.long (1048576 : Int64)), .second, .val (.long (1099511627776 : Int64)), .second, .val (.long r0), .second, .val (.long r1), .second, .val (.long r2), .second, .val (.long r3), .second, .val (.double (4787326403894837248 : UInt64)), .second] [(.double (FP.dadd (sV (FP.ddiv (FP.l2d jk) (4652218415073722368 : UInt64))) (pV (FP.ddiv (FP.l2d ja) (4652218415073722368 : UInt64)) (FP.ddiv (FP.l2d jk) (4652218415073722368 : UInt64)))))])
  refine GoW.on (fun _ k => XS.dload X3.here hx rfl (hb hby at_247) rfl k) ?_
  show GoW _ _ _ _ _ _ _ _ (mkF m 249 #[.val (.int i0), .val (.int i1), .val (.long (1024 : Int64)), .second, .val (.long jk), .second, .val (.long ja), .second, .val (.ref q), .val (.ref wt), .val (.long kb), .second, .val (.long kc), .second, .val (.long (1048576 : Int64)), .second, .val (.long (1099511627776 : Int64)), .second, .val (.long r0), .second, .val (.long r1), .second, .val (.long r2), .second, .val (.long r3), .second, .val (.double (4787326403894837248 : UInt64)), .second] [(.double (4787326403894837248 : UInt64)), (.double (FP.dadd (sV (FP.ddiv (FP.l2d jk) (4652218415073722368 : UInt64))) (pV (FP.ddiv (FP.l2d ja) (4652218415073722368 : UInt64)) (FP.ddiv (FP.l2d jk) (4652218415073722368 : UInt64)))))])
  refine GoW.on (fun _ k => XS.dmulS X3.here hx rfl (hb hby at_249) rfl ((own_sc W2 (by omega)).nn) rfl k) ?_
  show GoW _ _ _ _ _ _ _ _ (mkF m 250 #[.val (.int i0), .val (.int i1), .val (.long (1024 : Int64)), .second, .val (.long jk), .second, .val (.long ja), .second, .val (.ref q), .val (.ref wt), .val (.long kb), .second, .val (.long kc), .second, .val (.long (1048576 : Int64)), .second, .val (.long (1099511627776 : Int64)), .second, .val (.long r0), .second, .val (.long r1), .second, .val (.long r2), .second, .val (.long r3), .second, .val (.double (4787326403894837248 : UInt64)), .second] [(.double (FP.dmul (FP.dadd (sV (FP.ddiv (FP.l2d jk) (4652218415073722368 : UInt64))) (pV (FP.ddiv (FP.l2d ja) (4652218415073722368 : UInt64)) (FP.ddiv (FP.l2d jk) (4652218415073722368 : UInt64)))) (4787326403894837248 : UInt64)))])
  refine GoW.on (fun _ k => XS.lload X3.here hx rfl (hb hby at_250) rfl k) ?_
  show GoW _ _ _ _ _ _ _ _ (mkF m 252 #[.val (.int i0), .val (.int i1), .val (.long (1024 : Int64)), .second, .val (.long jk), .second, .val (.long ja), .second, .val (.ref q), .val (.ref wt), .val (.long kb), .second, .val (.long kc), .second, .val (.long (1048576 : Int64)), .second, .val (.long (1099511627776 : Int64)), .second, .val (.long r0), .second, .val (.long r1), .second, .val (.long r2), .second, .val (.long r3), .second, .val (.double (4787326403894837248 : UInt64)), .second] [(.long r2), (.double (FP.dmul (FP.dadd (sV (FP.ddiv (FP.l2d jk) (4652218415073722368 : UInt64))) (pV (FP.ddiv (FP.l2d ja) (4652218415073722368 : UInt64)) (FP.ddiv (FP.l2d jk) (4652218415073722368 : UInt64)))) (4787326403894837248 : UInt64)))])
  refine GoW.on (fun _ k => XS.l2dS X3.here hx rfl (hb hby at_252) rfl rfl k) ?_
  show GoW _ _ _ _ _ _ _ _ (mkF m 253 #[.val (.int i0), .val (.int i1), .val (.long (1024 : Int64)), .second, .val (.long jk), .second, .val (.long ja), .second, .val (.ref q), .val (.ref wt), .val (.long kb), .second, .val (.long kc), .second, .val (.long (1048576 : Int64)), .second, .val (.long (1099511627776 : Int64)), .second, .val (.long r0), .second, .val (.long r1), .second, .val (.long r2), .second, .val (.long r3), .second, .val (.double (4787326403894837248 : UInt64)), .second] [(.double (FP.l2d r2)), (.double (FP.dmul (FP.dadd (sV (FP.ddiv (FP.l2d jk) (4652218415073722368 : UInt64))) (pV (FP.ddiv (FP.l2d ja) (4652218415073722368 : UInt64)) (FP.ddiv (FP.l2d jk) (4652218415073722368 : UInt64)))) (4787326403894837248 : UInt64)))])
  refine GoW.on (fun _ k => XS.dcmpS X3.here hx rfl (hb hby at_253) rfl rfl k) ?_
  show GoW _ _ _ _ _ _ _ _ (mkF m 254 #[.val (.int i0), .val (.int i1), .val (.long (1024 : Int64)), .second, .val (.long jk), .second, .val (.long ja), .second, .val (.ref q), .val (.ref wt), .val (.long kb), .second, .val (.long kc), .second, .val (.long (1048576 : Int64)), .second, .val (.long (1099511627776 : Int64)), .second, .val (.long r0), .second, .val (.long r1), .second, .val (.long r2), .second, .val (.long r3), .second, .val (.double (4787326403894837248 : UInt64)), .second] [(.int (cmpValue (FP.dcmp (FP.dmul (FP.dadd (sV (FP.ddiv (FP.l2d jk) (4652218415073722368 : UInt64))) (pV (FP.ddiv (FP.l2d ja) (4652218415073722368 : UInt64)) (FP.ddiv (FP.l2d jk) (4652218415073722368 : UInt64)))) (4787326403894837248 : UInt64)) (FP.l2d r2)) .l))])
  have hc11 : (cmpValue (FP.dcmp (FP.dmul (FP.dadd (sV (FP.ddiv (FP.l2d jk) (4652218415073722368 : UInt64))) (pV (FP.ddiv (FP.l2d ja) (4652218415073722368 : UInt64)) (FP.ddiv (FP.l2d jk) (4652218415073722368 : UInt64)))) (4787326403894837248 : UInt64)) (FP.l2d r2)) .l) = (0 : Int32) := own_cmp W2 (own_r2 hkb hkc hr2) (by omega)
  refine GoW.on (fun _ k => XS.ifNo X3.here hx rfl (hb hby at_254) rfl ((if0 _ _).trans (teq hc11).2) k) ?_
  show GoW _ _ _ _ _ _ _ _ (mkF m 257 #[.val (.int i0), .val (.int i1), .val (.long (1024 : Int64)), .second, .val (.long jk), .second, .val (.long ja), .second, .val (.ref q), .val (.ref wt), .val (.long kb), .second, .val (.long kc), .second, .val (.long (1048576 : Int64)), .second, .val (.long (1099511627776 : Int64)), .second, .val (.long r0), .second, .val (.long r1), .second, .val (.long r2), .second, .val (.long r3), .second, .val (.double (4787326403894837248 : UInt64)), .second] [])
  refine GoW.on (fun _ k => XS.aload X3.here hx rfl (hb hby at_257) rfl rfl k) ?_
  show GoW _ _ _ _ _ _ _ _ (mkF m 259 #[.val (.int i0), .val (.int i1), .val (.long (1024 : Int64)), .second, .val (.long jk), .second, .val (.long ja), .second, .val (.ref q), .val (.ref wt), .val (.long kb), .second, .val (.long kc), .second, .val (.long (1048576 : Int64)), .second, .val (.long (1099511627776 : Int64)), .second, .val (.long r0), .second, .val (.long r1), .second, .val (.long r2), .second, .val (.long r3), .second, .val (.double (4787326403894837248 : UInt64)), .second] [(.ref wt)])
  refine GoW.on (fun _ k => XS.iconst X3.here hx rfl (hb hby at_259) k) ?_
  show GoW _ _ _ _ _ _ _ _ (mkF m 260 #[.val (.int i0), .val (.int i1), .val (.long (1024 : Int64)), .second, .val (.long jk), .second, .val (.long ja), .second, .val (.ref q), .val (.ref wt), .val (.long kb), .second, .val (.long kc), .second, .val (.long (1048576 : Int64)), .second, .val (.long (1099511627776 : Int64)), .second, .val (.long r0), .second, .val (.long r1), .second, .val (.long r2), .second, .val (.long r3), .second, .val (.double (4787326403894837248 : UInt64)), .second] [(.int (3 : Int32)), (.ref wt)])
  obtain ⟨cl12, Ar12, -, S12, -, H12, -⟩ := id V_wt
  have hin12 : ¬ ((3 : Int32) < 0 ∨ cl12.slots.size ≤ ((3 : Int32)).toNatClampNeg) := inb_of S12 ⟨by decide, by decide⟩
  refine GoW.on (X3.daload hx (j := (3 : Int32)) (v := (.double (FP.dneg (qV (FP.ddiv (FP.l2d ja) (4652218415073722368 : UInt64)) (FP.ddiv (FP.l2d jk) (4652218415073722368 : UInt64)))))) (by rw [e3]; exact Ar12.1) (State.isArrayOf_alike hZ.alike Ar12.2.1) Ar12.2.2 hin12 (H12.at hin12 (rfl)) (g := (mkF m 260 #[.val (.int i0), .val (.int i1), .val (.long (1024 : Int64)), .second, .val (.long jk), .second, .val (.long ja), .second, .val (.ref q), .val (.ref wt), .val (.long kb), .second, .val (.long kc), .second, .val (.long (1048576 : Int64)), .second, .val (.long (1099511627776 : Int64)), .second, .val (.long r0), .second, .val (.long r1), .second, .val (.long r2), .second, .val (.long r3), .second, .val (.double (4787326403894837248 : UInt64)), .second] [(.int (3 : Int32)), (.ref wt)])) rfl rfl (hb hby at_260)) ?_
  show GoW _ _ _ _ _ _ _ _ (mkF m 261 #[.val (.int i0), .val (.int i1), .val (.long (1024 : Int64)), .second, .val (.long jk), .second, .val (.long ja), .second, .val (.ref q), .val (.ref wt), .val (.long kb), .second, .val (.long kc), .second, .val (.long (1048576 : Int64)), .second, .val (.long (1099511627776 : Int64)), .second, .val (.long r0), .second, .val (.long r1), .second, .val (.long r2), .second, .val (.long r3), .second, .val (.double (4787326403894837248 : UInt64)), .second] [(.double (FP.dneg (qV (FP.ddiv (FP.l2d ja) (4652218415073722368 : UInt64)) (FP.ddiv (FP.l2d jk) (4652218415073722368 : UInt64)))))])
  refine GoW.on (fun _ k => XS.dload X3.here hx rfl (hb hby at_261) rfl k) ?_
  show GoW _ _ _ _ _ _ _ _ (mkF m 263 #[.val (.int i0), .val (.int i1), .val (.long (1024 : Int64)), .second, .val (.long jk), .second, .val (.long ja), .second, .val (.ref q), .val (.ref wt), .val (.long kb), .second, .val (.long kc), .second, .val (.long (1048576 : Int64)), .second, .val (.long (1099511627776 : Int64)), .second, .val (.long r0), .second, .val (.long r1), .second, .val (.long r2), .second, .val (.long r3), .second, .val (.double (4787326403894837248 : UInt64)), .second] [(.double (4787326403894837248 : UInt64)), (.double (FP.dneg (qV (FP.ddiv (FP.l2d ja) (4652218415073722368 : UInt64)) (FP.ddiv (FP.l2d jk) (4652218415073722368 : UInt64)))))])
  refine GoW.on (fun _ k => XS.dmulS X3.here hx rfl (hb hby at_263) rfl ((own_sc Q3.2.neg (by omega)).nn) rfl k) ?_
  show GoW _ _ _ _ _ _ _ _ (mkF m 264 #[.val (.int i0), .val (.int i1), .val (.long (1024 : Int64)), .second, .val (.long jk), .second, .val (.long ja), .second, .val (.ref q), .val (.ref wt), .val (.long kb), .second, .val (.long kc), .second, .val (.long (1048576 : Int64)), .second, .val (.long (1099511627776 : Int64)), .second, .val (.long r0), .second, .val (.long r1), .second, .val (.long r2), .second, .val (.long r3), .second, .val (.double (4787326403894837248 : UInt64)), .second] [(.double (FP.dmul (FP.dneg (qV (FP.ddiv (FP.l2d ja) (4652218415073722368 : UInt64)) (FP.ddiv (FP.l2d jk) (4652218415073722368 : UInt64)))) (4787326403894837248 : UInt64)))])
  refine GoW.on (fun _ k => XS.lload X3.here hx rfl (hb hby at_264) rfl k) ?_
  show GoW _ _ _ _ _ _ _ _ (mkF m 266 #[.val (.int i0), .val (.int i1), .val (.long (1024 : Int64)), .second, .val (.long jk), .second, .val (.long ja), .second, .val (.ref q), .val (.ref wt), .val (.long kb), .second, .val (.long kc), .second, .val (.long (1048576 : Int64)), .second, .val (.long (1099511627776 : Int64)), .second, .val (.long r0), .second, .val (.long r1), .second, .val (.long r2), .second, .val (.long r3), .second, .val (.double (4787326403894837248 : UInt64)), .second] [(.long r3), (.double (FP.dmul (FP.dneg (qV (FP.ddiv (FP.l2d ja) (4652218415073722368 : UInt64)) (FP.ddiv (FP.l2d jk) (4652218415073722368 : UInt64)))) (4787326403894837248 : UInt64)))])
  refine GoW.on (fun _ k => XS.l2dS X3.here hx rfl (hb hby at_266) rfl rfl k) ?_
  show GoW _ _ _ _ _ _ _ _ (mkF m 267 #[.val (.int i0), .val (.int i1), .val (.long (1024 : Int64)), .second, .val (.long jk), .second, .val (.long ja), .second, .val (.ref q), .val (.ref wt), .val (.long kb), .second, .val (.long kc), .second, .val (.long (1048576 : Int64)), .second, .val (.long (1099511627776 : Int64)), .second, .val (.long r0), .second, .val (.long r1), .second, .val (.long r2), .second, .val (.long r3), .second, .val (.double (4787326403894837248 : UInt64)), .second] [(.double (FP.l2d r3)), (.double (FP.dmul (FP.dneg (qV (FP.ddiv (FP.l2d ja) (4652218415073722368 : UInt64)) (FP.ddiv (FP.l2d jk) (4652218415073722368 : UInt64)))) (4787326403894837248 : UInt64)))])
  refine GoW.on (fun _ k => XS.dcmpS X3.here hx rfl (hb hby at_267) rfl rfl k) ?_
  show GoW _ _ _ _ _ _ _ _ (mkF m 268 #[.val (.int i0), .val (.int i1), .val (.long (1024 : Int64)), .second, .val (.long jk), .second, .val (.long ja), .second, .val (.ref q), .val (.ref wt), .val (.long kb), .second, .val (.long kc), .second, .val (.long (1048576 : Int64)), .second, .val (.long (1099511627776 : Int64)), .second, .val (.long r0), .second, .val (.long r1), .second, .val (.long r2), .second, .val (.long r3), .second, .val (.double (4787326403894837248 : UInt64)), .second] [(.int (cmpValue (FP.dcmp (FP.dmul (FP.dneg (qV (FP.ddiv (FP.l2d ja) (4652218415073722368 : UInt64)) (FP.ddiv (FP.l2d jk) (4652218415073722368 : UInt64)))) (4787326403894837248 : UInt64)) (FP.l2d r3)) .l))])
  have hc13 : (cmpValue (FP.dcmp (FP.dmul (FP.dneg (qV (FP.ddiv (FP.l2d ja) (4652218415073722368 : UInt64)) (FP.ddiv (FP.l2d jk) (4652218415073722368 : UInt64)))) (4787326403894837248 : UInt64)) (FP.l2d r3)) .l) = (0 : Int32) := own_cmp Q3.2.neg (own_r3 hkb hkc hr3) (by omega)
  refine GoW.on (fun _ k => XS.ifNo X3.here hx rfl (hb hby at_268) rfl ((if0 _ _).trans (teq hc13).2) k) ?_
  show GoW _ _ _ _ _ _ _ _ (mkF m 271 #[.val (.int i0), .val (.int i1), .val (.long (1024 : Int64)), .second, .val (.long jk), .second, .val (.long ja), .second, .val (.ref q), .val (.ref wt), .val (.long kb), .second, .val (.long kc), .second, .val (.long (1048576 : Int64)), .second, .val (.long (1099511627776 : Int64)), .second, .val (.long r0), .second, .val (.long r1), .second, .val (.long r2), .second, .val (.long r3), .second, .val (.double (4787326403894837248 : UInt64)), .second] [])
  refine GoW.on (fun _ k => XS.iconst X3.here hx rfl (hb hby at_271) k) ?_
  show GoW _ _ _ _ _ _ _ _ (mkF m 272 #[.val (.int i0), .val (.int i1), .val (.long (1024 : Int64)), .second, .val (.long jk), .second, .val (.long ja), .second, .val (.ref q), .val (.ref wt), .val (.long kb), .second, .val (.long kc), .second, .val (.long (1048576 : Int64)), .second, .val (.long (1099511627776 : Int64)), .second, .val (.long r0), .second, .val (.long r1), .second, .val (.long r2), .second, .val (.long r3), .second, .val (.double (4787326403894837248 : UInt64)), .second] [(.int (1 : Int32))])
  refine GoW.on (fun _ k => XS.goto X3.here hx rfl (pc0 := 272) (pc' := 276) rfl (hb hby at_272) (by decide) (by decide) k) ?_
  show GoW _ _ _ _ _ _ _ _ (mkF m 276 #[.val (.int i0), .val (.int i1), .val (.long (1024 : Int64)), .second, .val (.long jk), .second, .val (.long ja), .second, .val (.ref q), .val (.ref wt), .val (.long kb), .second, .val (.long kc), .second, .val (.long (1048576 : Int64)), .second, .val (.long (1099511627776 : Int64)), .second, .val (.long r0), .second, .val (.long r1), .second, .val (.long r2), .second, .val (.long r3), .second, .val (.double (4787326403894837248 : UInt64)), .second] [(.int (1 : Int32))])
  refine GoW.retN X3 hx HS (by rw [e3]; exact HK) (t := .boolean) Bd.returns (by simp) (hb hby at_276) ?_ (by rw [hK1]; decide) (by rw [hK2]; decide)
  rw [e3, ← hQQ]
  exact ⟨rfl, N3⟩
set_option maxRecDepth 65536 in
set_option maxHeartbeats 40000000 in
theorem comes_1 {Post : Tables → Env → Array Value → State → Outcome → State → Prop} (hpost : ∀ tb e args s v u, (limb_1_1.after args s (.returned v) u = true ∧ limb_1_2.after args s (.returned v) u = true ∧ True) → ReturnedEndW s (.returned v) u (Jvm.fieldLocs frame_1_writes args s ++ Jvm.arrayLocs frame_1_arrays args s ++ Jvm.staticLocs frame_1_statics s) 16 1152 → Post tb e args s (.returned v) u) :
    ArmFor flags0 classFile x code maxLocals ret World_1 tables_1 room_1 Calls_1 rest_1 Pre_1 Post := by
  intro l hfl _ _ p e ha hc hk s m args below hf hA hF happ hP
  obtain ⟨hcalls, hrest, hpre⟩ := hP
  obtain ⟨-, -, -, hnamed, -, -, -, hat⟩ := (Spec.applies_iff hf).mp happ
  obtain ⟨hg, hn⟩ := and_e (Cond.before_iff.mp (show (Jvm.Cond.and given_1 narrow_1).before args s = true from hpre))
  obtain ⟨g0, r0⟩ := and_e hg
  obtain ⟨g1, g2⟩ := and_e r0
  obtain ⟨w0, w1, rfl⟩ : ∃ w0 w1 : Value, args = #[w0, w1] := by
    have hs : args.size = 2 := by simpa [Cond.value, given_1] using g0
    obtain ⟨L⟩ := args
    match L, hs with
    | [w0, w1], _ => exact ⟨w0, w1, rfl⟩
  have hw := fun d (hd : d ∈ tables_1) => atoms_spec (ws := Jvm.Cond.code x code maxLocals ret :: tables_1) hat d (List.mem_cons_of_mem _ hd)
  have hfit : Fit s := fun {y c} hc i hi => by
    obtain ⟨ha, rfl⟩ := Array.getElem?_eq_some_iff.mp hc
    have q := List.all_eq_true.mp ((Array.all_eq_true_iff_forall_mem.mp hF) _ (Array.getElem_mem ha)) i (List.mem_range.mpr hi)
    simpa [Array.getElem?_eq_getElem hi] using q
  obtain ⟨i0, ei0⟩ := is_v g1
  obtain rfl : w0 = (.int i0) := Option.some.inj ei0
  obtain ⟨i1, ei1⟩ := is_v g2
  obtain rfl : w1 = (.int i1) := Option.some.inj ei1
  obtain ⟨n, o, h1, h2, h3, _, L, rfl, ⟨rfl, N⟩, hq⟩ := rm0 l s _ hw tables_1 i0 i1 s.heap s.heap.size (Nat.le_refl _) p e ha hc hk s m _ below hf ((Spec.applies_iff_loose hf).mp happ).1 ⟨rfl, State.Warmed39.refl s, rfl⟩ trivial
  refine ⟨n, _, h1, h2, h3, hpost _ _ _ _ _ _ ⟨Cond.after_iff.mpr rfl, Cond.after_iff.mpr (eq_i res_at (Term.int_eval (1)) rfl), trivial⟩ ⟨hq.1, hq.2.1, hq.2.2.1, (hq.2.2.2.sift fun y hy => Or.inr (N y hy)).mono (by decide) (by decide)⟩⟩
theorem main_1_1 : Claimed_1_1 := comes_1 fun _ _ _ _ _ _ h hF => ⟨h.1, hF⟩
theorem main_1_2 : Claimed_1_2 := comes_1 fun _ _ _ _ _ _ h hF => ⟨h.2.1, hF⟩
end Jvm.Pilot.@@N@@
namespace Jvm.Pilot.@@N@@
open Jvm Jvm.ClassFile Sem Op Lib Jvm.Free Jvm.Stand Jvm.Pilot.@@N@@.Jvm.D
/-! MADE BY PROGRAM (witnessworld.py) out of the Statement's table words and the real class files: 17 classes; the members and pool entries that the words name. The judged class is class 1, her method 1. -/
namespace start1
open Jvm.ClassFile
def u (s : String) : CpInfo := .utf8 (stringToUtf16 s)
/-- a pool by its gaps: so many unusable entries, then the entry; so many at the end -/
def gap : Nat → List CpInfo → List CpInfo
  | 0, r => r
  | n + 1, r => .unusable :: gap n r
def poolList (es : List (Nat × CpInfo)) (last : Nat) : List CpInfo := es.foldr (fun e r => gap e.1 (e.2 :: r)) (gap last [])
def pool (es : List (Nat × CpInfo)) (last : Nat) : Array CpInfo := ⟨poolList es last⟩
def fileOf (pool : Array CpInfo) (this : Nat) (attrs : Array Attribute := #[]) (ms : Array MethodInfo := #[]) (fl : Nat := 33) (sup : Nat := 0) (ifs : Array Nat := #[]) (fds : Array FieldInfo := #[]) : ClassFile where
  minorVersion := 0
  majorVersion := 65
  constantPool := pool
  accessFlags := fl
  thisClass := this
  superClass := sup
  interfaces := ifs
  fields := fds
  methods := ms
  attributes := attrs
def plain (name : String) (sup : Option ClassId) : Class where
  name := name
  kind := .ordinary
  loader := none
  accessFlags := 33
  super := sup
  interfaces := #[]
  cf := none
  fields := #[]
  methods := #[]
  instanceTypes := #[]
  staticTypes := #[]
  resolved := #[]
  callSites := []
  init := .initialized
  statics := none
  mirror := none

def pool0 : Array CpInfo := pool [(5, u "<init>"), (0, u "()V"), (1, .class_ 10), (1, u "java/lang/Object")] 113

def k0c0 : Code := { maxStack := 0, maxLocals := 1, code := object_method_1_code, exceptionTable := #[], attributes := #[] }
def k0m0 : Method := { name := "<init>", desc := "()V", sig := { parameters := [], returnType := none }, accessFlags := 1, code := some k0c0 }
/-- java/lang/Object -/
def k0 : Class := { plain "java/lang/Object" none with
  accessFlags := 33
  interfaces := #[]
  cf := some (fileOf pool0 8 #[] #[{ accessFlags := 1, nameIndex := 5, descriptorIndex := 6, attributes := #[] }] 33 0 #[] #[])
  fields := #[]
  methods := #[k0m0]
  instanceTypes := #[]
  staticTypes := #[]
  resolved := Array.replicate 124 none
  statics := none }

def pool1 : Array CpInfo := pool [(2, .class_ 4), (1, u "java/lang/Object"), (0, u "<init>"), (0, u "()V"), (0, .long 1024), (1, .integer 2147483647), (0, .class_ 11), (0, u "hermitage/Cubic"), (0, .double 4652218415073722368), (1, .methodref 10 15), (0, .nameAndType 5 16), (0, u "(D)V"), (0, .methodref 10 18), (0, .nameAndType 19 20), (0, u "weights"), (0, u "(D)[D"), (0, .long 2), (1, .long 3), (1, .double 4787326403894837248), (1, .class_ 28), (0, u "hermitage/CubicWeightsPinLaw"), (2, u "law"), (0, u "(II)Z")] 5

def k1m0 : Method := { name := "<init>", desc := "()V", sig := { parameters := [], returnType := none }, accessFlags := 1, code := none }
def k1c1 : Code := { maxStack := 8, maxLocals := 28, code := code, exceptionTable := #[], attributes := #[] }
def k1m1 : Method := { name := "law", desc := "(II)Z", sig := { parameters := [.int, .int], returnType := some .boolean }, accessFlags := 9, code := some k1c1 }
/-- hermitage/CubicWeightsPinLaw -/
def k1 : Class := { plain "hermitage/CubicWeightsPinLaw" (some 0) with
  accessFlags := 49
  interfaces := #[]
  cf := some (fileOf pool1 27 #[] #[{ accessFlags := 1, nameIndex := 5, descriptorIndex := 6, attributes := #[] }, { accessFlags := 9, nameIndex := 31, descriptorIndex := 32, attributes := #[] }] 49 2 #[] #[])
  fields := #[]
  methods := #[k1m0, k1m1]
  instanceTypes := #[]
  staticTypes := #[]
  resolved := Array.replicate 38 none
  statics := none }

def pool2 : Array CpInfo := pool [(1, .methodref 2 3), (0, .class_ 4), (0, .nameAndType 5 6), (0, u "java/lang/Object"), (0, u "<init>"), (0, u "()V"), (0, .string 8), (0, u "alpha"), (0, .methodref 10 11), (0, .class_ 12), (0, .nameAndType 13 14), (0, u "hermitage/Numbers"), (0, u "requireUnit"), (0, u "(Ljava/lang/String;D)D"), (0, .fieldref 16 17), (0, .class_ 18), (0, .nameAndType 8 19), (0, u "hermitage/Cubic"), (0, u "D"), (4, u "weights"), (0, u "(D)[D"), (22, u "DEFAULT_GRID_BORDER"), (0, u "Lhermitage/Cubic$Border;"), (21, .class_ 72), (0, u "hermitage/Cubic$Border"), (50, .class_ 125), (1, u "hermitage/Cubic$Reduction"), (8, u "DEFAULT_IMAGE_BORDER"), (10, .double 4613937818241073152), (1, .double 4611686018427387904), (16, .class_ 166), (1, u "hermitage/Cubic$Cells"), (29, u "DEFAULT_ALPHA"), (1, u "(D)V"), (21, .class_ 221), (0, u "hermitage/Cubic$Border$3"), (0, .class_ 223), (0, u "hermitage/Cubic$Border$2"), (0, .class_ 225), (0, u "hermitage/Cubic$Border$1")] 39

def k2c0 : Code := { maxStack := 4, maxLocals := 3, code := prog_6_method_1_code, exceptionTable := #[], attributes := #[] }
def k2m0 : Method := { name := "<init>", desc := "(D)V", sig := { parameters := [.double], returnType := none }, accessFlags := 1, code := some k2c0 }
def k2c1 : Code := { maxStack := 8, maxLocals := 11, code := prog_6_method_9_code, exceptionTable := #[], attributes := #[] }
def k2m1 : Method := { name := "weights", desc := "(D)[D", sig := { parameters := [.double], returnType := some (.array .double) }, accessFlags := 0, code := some k2c1 }
/-- hermitage/Cubic -/
def k2 : Class := { plain "hermitage/Cubic" (some 0) with
  accessFlags := 49
  interfaces := #[]
  cf := some (fileOf pool2 16 #[.nestMembers #[164, 123, 71, 220, 222, 224]] #[{ accessFlags := 1, nameIndex := 5, descriptorIndex := 198, attributes := #[] }, { accessFlags := 0, nameIndex := 24, descriptorIndex := 25, attributes := #[] }] 49 2 #[] #[{ accessFlags := 25, nameIndex := 196, descriptorIndex := 19, attributes := #[] }, { accessFlags := 25, nameIndex := 48, descriptorIndex := 49, attributes := #[] }, { accessFlags := 25, nameIndex := 134, descriptorIndex := 49, attributes := #[] }, { accessFlags := 18, nameIndex := 8, descriptorIndex := 19, attributes := #[] }])
  fields := #[{ name := "DEFAULT_ALPHA", type := .double, accessFlags := 25, slot := 0, constantValue := 0 }, { name := "DEFAULT_GRID_BORDER", type := (.object "hermitage/Cubic$Border"), accessFlags := 25, slot := 1, constantValue := 0 }, { name := "DEFAULT_IMAGE_BORDER", type := (.object "hermitage/Cubic$Border"), accessFlags := 25, slot := 2, constantValue := 0 }, { name := "alpha", type := .double, accessFlags := 18, slot := 0, constantValue := 0 }]
  methods := #[k2m0, k2m1]
  instanceTypes := #[.double]
  staticTypes := #[.double, (.object "hermitage/Cubic$Border"), (.object "hermitage/Cubic$Border")]
  resolved := Array.replicate 265 none
  statics := none }

def pool3 : Array CpInfo := pool [(1, .class_ 2), (0, u "java/io/Serializable"), (0, .class_ 4), (0, u "java/lang/Object")] 2

/-- java/io/Serializable -/
def k3 : Class := { plain "java/io/Serializable" (some 0) with
  accessFlags := 1537
  interfaces := #[]
  cf := some (fileOf pool3 1 #[] #[] 1537 3 #[] #[])
  fields := #[]
  methods := #[]
  instanceTypes := #[]
  staticTypes := #[]
  resolved := Array.replicate 7 none
  statics := none }

def pool4 : Array CpInfo := pool [(1, .class_ 2), (0, u "java/lang/Comparable"), (0, .class_ 4), (0, u "java/lang/Object")] 7

/-- java/lang/Comparable -/
def k4 : Class := { plain "java/lang/Comparable" (some 0) with
  accessFlags := 1537
  interfaces := #[]
  cf := some (fileOf pool4 1 #[] #[] 1537 3 #[] #[])
  fields := #[]
  methods := #[]
  instanceTypes := #[]
  staticTypes := #[]
  resolved := Array.replicate 12 none
  statics := none }

def pool5 : Array CpInfo := pool [(2, .class_ 4), (1, u "java/lang/CharSequence"), (42, .class_ 48), (0, u "java/lang/CharSequence$1CodePointIterator"), (10, .class_ 60), (0, u "java/lang/CharSequence$1CharIterator"), (5, .class_ 67), (0, u "java/lang/Object")] 63

/-- java/lang/CharSequence -/
def k5 : Class := { plain "java/lang/CharSequence" (some 0) with
  accessFlags := 1537
  interfaces := #[]
  cf := some (fileOf pool5 2 #[.nestMembers #[47, 59]] #[] 1537 66 #[] #[])
  fields := #[]
  methods := #[]
  instanceTypes := #[]
  staticTypes := #[]
  resolved := Array.replicate 131 none
  statics := none }

def pool6 : Array CpInfo := pool [(1, .class_ 2), (0, u "java/lang/constant/Constable"), (0, .class_ 4), (0, u "java/lang/Object")] 6

/-- java/lang/constant/Constable -/
def k6 : Class := { plain "java/lang/constant/Constable" (some 0) with
  accessFlags := 1537
  interfaces := #[]
  cf := some (fileOf pool6 1 #[] #[] 1537 3 #[] #[])
  fields := #[]
  methods := #[]
  instanceTypes := #[]
  staticTypes := #[]
  resolved := Array.replicate 11 none
  statics := none }

def pool7 : Array CpInfo := pool [(1, .class_ 2), (0, u "java/lang/constant/ConstantDesc"), (0, .class_ 4), (0, u "java/lang/Object")] 32

/-- java/lang/constant/ConstantDesc -/
def k7 : Class := { plain "java/lang/constant/ConstantDesc" (some 0) with
  accessFlags := 1537
  interfaces := #[]
  cf := some (fileOf pool7 1 #[] #[] 1537 3 #[] #[])
  fields := #[]
  methods := #[]
  instanceTypes := #[]
  staticTypes := #[]
  resolved := Array.replicate 37 none
  statics := none }

def pool8 : Array CpInfo := pool [(2, .class_ 4), (1, u "java/lang/Object"), (0, u "<init>"), (0, u "()V"), (3, .class_ 12), (1, u "java/lang/String"), (0, u "value"), (0, u "[B"), (2, u "coder"), (0, u "B"), (2, u "hash"), (0, u "I"), (2, u "hashIsZero"), (0, u "Z"), (13, u "COMPACT_STRINGS"), (534, .class_ 576), (0, u "java/lang/CharSequence"), (22, u "CASE_INSENSITIVE_ORDER"), (0, u "Ljava/util/Comparator;"), (500, u "serialPersistentFields"), (0, u "[Ljava/io/ObjectStreamField;"), (0, .class_ 1104), (0, u "java/lang/String$CaseInsensitiveComparator"), (1, .class_ 1107), (0, u "java/io/Serializable"), (0, .class_ 1109), (0, u "java/lang/Comparable"), (0, .class_ 1111), (0, u "java/lang/constant/Constable"), (0, .class_ 1113), (0, u "java/lang/constant/ConstantDesc"), (2, u "serialVersionUID"), (0, u "J"), (3, u "REPL"), (0, u "C"), (2, u "LATIN1"), (1, u "UTF16")] 323

def k8m0 : Method := { name := "<init>", desc := "()V", sig := { parameters := [], returnType := none }, accessFlags := 1, code := none }
/-- java/lang/String -/
def k8 : Class := { plain "java/lang/String" (some 0) with
  accessFlags := 49
  interfaces := #[3, 4, 5, 6, 7]
  cf := some (fileOf pool8 10 #[.nestMembers #[1103]] #[{ accessFlags := 1, nameIndex := 5, descriptorIndex := 6, attributes := #[] }] 49 2 #[1106, 1108, 575, 1110, 1112] #[{ accessFlags := 18, nameIndex := 13, descriptorIndex := 14, attributes := #[] }, { accessFlags := 18, nameIndex := 17, descriptorIndex := 18, attributes := #[] }, { accessFlags := 2, nameIndex := 21, descriptorIndex := 22, attributes := #[] }, { accessFlags := 2, nameIndex := 25, descriptorIndex := 26, attributes := #[] }, { accessFlags := 26, nameIndex := 1116, descriptorIndex := 1117, attributes := #[] }, { accessFlags := 24, nameIndex := 40, descriptorIndex := 26, attributes := #[] }, { accessFlags := 26, nameIndex := 1101, descriptorIndex := 1102, attributes := #[] }, { accessFlags := 26, nameIndex := 1121, descriptorIndex := 1122, attributes := #[] }, { accessFlags := 25, nameIndex := 599, descriptorIndex := 600, attributes := #[] }, { accessFlags := 24, nameIndex := 1125, descriptorIndex := 18, attributes := #[] }, { accessFlags := 24, nameIndex := 1127, descriptorIndex := 18, attributes := #[] }])
  fields := #[{ name := "value", type := (.array .byte), accessFlags := 18, slot := 0, constantValue := 0 }, { name := "coder", type := .byte, accessFlags := 18, slot := 1, constantValue := 0 }, { name := "hash", type := .int, accessFlags := 2, slot := 2, constantValue := 0 }, { name := "hashIsZero", type := .boolean, accessFlags := 2, slot := 3, constantValue := 0 }, { name := "serialVersionUID", type := .long, accessFlags := 26, slot := 0, constantValue := 0 }, { name := "COMPACT_STRINGS", type := .boolean, accessFlags := 24, slot := 1, constantValue := 0 }, { name := "serialPersistentFields", type := (.array (.object "java/io/ObjectStreamField")), accessFlags := 26, slot := 2, constantValue := 0 }, { name := "REPL", type := .char, accessFlags := 26, slot := 3, constantValue := 0 }, { name := "CASE_INSENSITIVE_ORDER", type := (.object "java/util/Comparator"), accessFlags := 25, slot := 4, constantValue := 0 }, { name := "LATIN1", type := .byte, accessFlags := 24, slot := 5, constantValue := 0 }, { name := "UTF16", type := .byte, accessFlags := 24, slot := 6, constantValue := 0 }]
  methods := #[k8m0]
  instanceTypes := #[(.array .byte), .byte, .int, .boolean]
  staticTypes := #[.long, .boolean, (.array (.object "java/io/ObjectStreamField")), .char, (.object "java/util/Comparator"), .byte, .byte]
  resolved := Array.replicate 1451 none
  statics := none }

def pool9 : Array CpInfo := pool [(4, .class_ 6), (1, u "java/lang/Object"), (0, u "<init>"), (0, u "()V"), (1, .class_ 12), (1, u "hermitage/Numbers"), (0, u "DECIMAL"), (0, u "Ljava/util/regex/Pattern;"), (48, u "MOST_ELEMENTS"), (0, u "I"), (6, u "requireUnit"), (0, u "(Ljava/lang/String;D)D")] 22

def k9m0 : Method := { name := "<init>", desc := "()V", sig := { parameters := [], returnType := none }, accessFlags := 2, code := none }
def k9c1 : Code := { maxStack := 5, maxLocals := 3, code := prog_22_method_4_code, exceptionTable := #[], attributes := #[] }
def k9m1 : Method := { name := "requireUnit", desc := "(Ljava/lang/String;D)D", sig := { parameters := [(.object "java/lang/String"), .double], returnType := some .double }, accessFlags := 8, code := some k9c1 }
/-- hermitage/Numbers -/
def k9 : Class := { plain "hermitage/Numbers" (some 0) with
  accessFlags := 48
  interfaces := #[]
  cf := some (fileOf pool9 10 #[] #[{ accessFlags := 2, nameIndex := 7, descriptorIndex := 8, attributes := #[] }, { accessFlags := 8, nameIndex := 71, descriptorIndex := 72, attributes := #[] }] 48 4 #[] #[{ accessFlags := 24, nameIndex := 63, descriptorIndex := 64, attributes := #[] }, { accessFlags := 26, nameIndex := 13, descriptorIndex := 14, attributes := #[] }])
  fields := #[{ name := "MOST_ELEMENTS", type := .int, accessFlags := 24, slot := 0, constantValue := 0 }, { name := "DECIMAL", type := (.object "java/util/regex/Pattern"), accessFlags := 26, slot := 1, constantValue := 0 }]
  methods := #[k9m0, k9m1]
  instanceTypes := #[]
  staticTypes := #[.int, (.object "java/util/regex/Pattern")]
  resolved := Array.replicate 95 none
  statics := none }

def pool10 : Array CpInfo := pool [(1, u "java/lang/Cloneable"), (0, .class_ 1), (0, u "java/lang/Object"), (0, .class_ 3)] 3

/-- java/lang/Cloneable -/
def k10 : Class := { plain "java/lang/Cloneable" (some 0) with
  accessFlags := 1537
  interfaces := #[]
  cf := some (fileOf pool10 2 #[] #[] 1537 4 #[] #[])
  fields := #[]
  methods := #[]
  instanceTypes := #[]
  staticTypes := #[]
  resolved := Array.replicate 8 none
  statics := none }

/-- the primitive byte -/
def k11 : Class := { plain "byte" none with kind := .primitive 'B', accessFlags := 0x411 }
/-- [B -/
def k12 : Class := { plain "[B" (some 0) with kind := .array 11 .byte, interfaces := #[10, 3], accessFlags := 1041 }

/-- the primitive double -/
def k13 : Class := { plain "double" none with kind := .primitive 'D', accessFlags := 0x411 }
/-- [D -/
def k14 : Class := { plain "[D" (some 0) with kind := .array 13 .double, interfaces := #[10, 3], accessFlags := 1041 }

/-- the primitive int -/
def k15 : Class := { plain "int" none with kind := .primitive 'I', accessFlags := 0x411 }
/-- [I -/
def k16 : Class := { plain "[I" (some 0) with kind := .array 15 .int, interfaces := #[10, 3], accessFlags := 1041 }

def heap : Heap := #[]
def classes : Array Class := #[k0, k1, k2, k3, k4, k5, k6, k7, k8, k9, k10, k11, k12, k13, k14, k15, k16]
def interned : List (Array UInt16 × Addr) := []
def slotsUsed : Nat := 0
def theMethod : MethodId := ⟨1, 1⟩
def args0 : Array Value := #[.int 5, .int 7]
def aboutOver (below : List Frame) : State where
  vm := { classes := classes, interned := interned.toArray }
  heap := heap
  slotsUsed := slotsUsed
  threads := #[{ frames := .invoking theMethod args0 :: below }]
def below0 : List Frame := [.native { method := ⟨0, 0⟩, args := #[] }]
def about1 : State := aboutOver below0
def p0 : Program := .bare "" "" ""
def e0 : Env := launch0.env 0 0 0
theorem w_frames : about1.frames = Frame.invoking theMethod args0 :: below0 := rfl
set_option maxRecDepth 65536 in
theorem w_args : argsFit about1.vm theMethod args0 = true := by decide +kernel
set_option maxRecDepth 65536 in
theorem w_heap : heapFits about1 = true := by decide +kernel
set_option maxRecDepth 65536 in
theorem w_runnable : about1.curStatus? = some .runnable := by decide +kernel
set_option maxRecDepth 65536 in
theorem w_alone : about1.alone = true := by decide +kernel
set_option maxRecDepth 65536 in
theorem w_named : about1.methodNamed? x = some theMethod := by decide +kernel
set_option maxRecDepth 65536 in
theorem w_hears : about1.hears theMethod below0 = true := by decide +kernel
set_option maxRecDepth 65536 in
theorem w_ripe : about1.ripe theMethod args0 below0 = true := by decide +kernel
theorem w_running : about1.status = .running := rfl
set_option maxRecDepth 65536 in
theorem w_room : about1.hasRoom e0.platform room_1 = true :=
  launch0.hasRoom_least _ room_1 (by decide +kernel) (by decide +kernel) (by decide +kernel) (by decide +kernel) (by decide +kernel) (by decide +kernel)
theorem allAtoms_all (ts : List Jvm.Cond) (a : Array Jvm.Value) (st : Jvm.State) : (allAtoms ts).before a st = ts.all (fun c => c.before a st) := by
  induction ts with
  | nil => rfl
  | cons c t ih =>
    show (Jvm.Cond.and c (allAtoms t)).before a st = _
    rw [Jvm.Cond.before_and, ih, List.all_cons]
def words1 : List Jvm.Cond := Jvm.Cond.code x code maxLocals ret :: tables_1
/-- a 'code' word, met by the world's own term for the bytes: nothing is compared byte by byte -/
theorem code_word {y : MethodName} {bytes : ByteArray} {mx : Nat} {rt : Option FieldType} {a : Array Value} {s : State} {m : MethodId} {meth : Method} {c : Code} (h1 : s.methodNamed? y = some m) (h2 : s.vm.method? m = some meth) (h3 : meth.code = some c) (h4 : c.code = bytes)
    (h5 : (c.maxLocals == mx && c.exceptionTable.isEmpty && decide (c.maxStack ≤ mostOperands) && decide (meth.sig.returnType = rt) && !meth.locks && decide (parseMethodDescriptor y.desc = some meth.sig)) = true) : (Jvm.Cond.code y bytes mx rt).before a s = true := by
  simp only [Bool.and_eq_true, beq_iff_eq, Bool.not_eq_true', decide_eq_true_eq] at h5
  obtain ⟨⟨⟨⟨⟨g1, g2⟩, g3⟩, g4⟩, g5⟩, g6⟩ := h5
  simp [Cond.before, Cond.holds, Cond.value, h1, h2, h3, h4, g1, g2, g3, g4, g5, g6]
def isCode : Jvm.Cond → Bool
  | .code _ _ _ _ => true
  | _ => false
theorem all_split {L : List Jvm.Cond} {P : Jvm.Cond → Bool} (h1 : L.all (fun c => isCode c || P c) = true) (h2 : ∀ c ∈ L.filter isCode, P c = true) : L.all P = true := by
  refine List.all_eq_true.mpr fun c hc => ?_
  have h := List.all_eq_true.mp h1 c hc
  rcases Bool.eq_false_or_eq_true (isCode c) with hi | hi
  · exact h2 c (List.mem_filter.mpr ⟨hc, hi⟩)
  · simpa [hi] using h
set_option maxRecDepth 65536 in
theorem w_c0 : (Jvm.Cond.code x code maxLocals ret).before args0 about1 = true := code_word (m := ⟨1, 1⟩) (meth := k1m1) (c := k1c1) (by decide +kernel) rfl rfl rfl (by decide +kernel)
set_option maxRecDepth 65536 in
theorem w_c1 : (Jvm.Cond.code ({ cls := "hermitage/Cubic", name := "<init>", desc := "(D)V" } : Jvm.MethodName) prog_6_method_1_code (3 : Nat) (Option.none : Option Jvm.ClassFile.FieldType)).before args0 about1 = true := code_word (m := ⟨2, 0⟩) (meth := k2m0) (c := k2c0) (by decide +kernel) rfl rfl rfl (by decide +kernel)
set_option maxRecDepth 65536 in
theorem w_c2 : (Jvm.Cond.code ({ cls := "java/lang/Object", name := "<init>", desc := "()V" } : Jvm.MethodName) object_method_1_code (1 : Nat) (Option.none : Option Jvm.ClassFile.FieldType)).before args0 about1 = true := code_word (m := ⟨0, 0⟩) (meth := k0m0) (c := k0c0) (by decide +kernel) rfl rfl rfl (by decide +kernel)
set_option maxRecDepth 65536 in
theorem w_c3 : (Jvm.Cond.code ({ cls := "hermitage/Numbers", name := "requireUnit", desc := "(Ljava/lang/String;D)D" } : Jvm.MethodName) prog_22_method_4_code (3 : Nat) (Option.some Jvm.ClassFile.FieldType.double)).before args0 about1 = true := code_word (m := ⟨9, 1⟩) (meth := k9m1) (c := k9c1) (by decide +kernel) rfl rfl rfl (by decide +kernel)
set_option maxRecDepth 65536 in
theorem w_c4 : (Jvm.Cond.code ({ cls := "hermitage/Cubic", name := "weights", desc := "(D)[D" } : Jvm.MethodName) prog_6_method_9_code (11 : Nat) (Option.some (Jvm.ClassFile.FieldType.array Jvm.ClassFile.FieldType.double))).before args0 about1 = true := code_word (m := ⟨2, 1⟩) (meth := k2m1) (c := k2c1) (by decide +kernel) rfl rfl rfl (by decide +kernel)
def codes1 : List Jvm.Cond := [Jvm.Cond.code x code maxLocals ret, Jvm.Cond.code ({ cls := "hermitage/Cubic", name := "<init>", desc := "(D)V" } : Jvm.MethodName) prog_6_method_1_code (3 : Nat) (Option.none : Option Jvm.ClassFile.FieldType), Jvm.Cond.code ({ cls := "java/lang/Object", name := "<init>", desc := "()V" } : Jvm.MethodName) object_method_1_code (1 : Nat) (Option.none : Option Jvm.ClassFile.FieldType), Jvm.Cond.code ({ cls := "hermitage/Numbers", name := "requireUnit", desc := "(Ljava/lang/String;D)D" } : Jvm.MethodName) prog_22_method_4_code (3 : Nat) (Option.some Jvm.ClassFile.FieldType.double), Jvm.Cond.code ({ cls := "hermitage/Cubic", name := "weights", desc := "(D)[D" } : Jvm.MethodName) prog_6_method_9_code (11 : Nat) (Option.some (Jvm.ClassFile.FieldType.array Jvm.ClassFile.FieldType.double))]
set_option maxRecDepth 65536 in
theorem codes_eq : words1.filter isCode = codes1 := rfl
theorem w_codes : ∀ c ∈ words1.filter isCode, c.before args0 about1 = true := by
  rw [codes_eq]
  intro c hc
  simp only [codes1, List.mem_cons, List.not_mem_nil, or_false] at hc
  rcases hc with rfl | rfl | rfl | rfl | rfl
  · exact w_c0
  · exact w_c1
  · exact w_c2
  · exact w_c3
  · exact w_c4
set_option maxRecDepth 65536 in
theorem w_t1 : (words1.take 24).all (fun c => isCode c || c.before args0 about1) = true := by decide +kernel
set_option maxRecDepth 65536 in
theorem w_t2 : (words1.drop 24).all (fun c => isCode c || c.before args0 about1) = true := by decide +kernel
theorem w_tables : (allAtoms (Jvm.Cond.code x code maxLocals ret :: tables_1)).before args0 about1 = true := by
  rw [allAtoms_all]
  show words1.all (fun c => c.before args0 about1) = true
  refine all_split ?_ w_codes
  rw [← List.take_append_drop 24 words1, List.all_append, w_t1, w_t2]
  rfl
set_option maxRecDepth 65536 in
theorem w_case : (Jvm.Cond.and given_1 narrow_1).before args0 about1 = true := by decide +kernel
theorem w_applies : (headSpec (Jvm.Cond.code x code maxLocals ret :: tables_1) room_1).applies x e0.platform about1 = true :=
  (Spec.applies_iff w_frames).mpr ⟨w_running, w_runnable, w_alone, w_named, w_hears, w_ripe, w_room, w_tables⟩
theorem atStart : AtStart classFile x code maxLocals ret World_1 tables_1 room_1 Calls_1 rest_1 Pre_1 launch0 p0 e0 about1 theMethod args0 below0 :=
  ⟨lists_1, trivial, launch0.admits_env _ _ _, launch0.least_env, fairChoices_fair.cas, fairChoices_fair.clock, w_frames, w_args, w_heap, w_applies, trivial, trivial, w_case⟩
end start1
theorem witness_1 : WitnessClaimed_1 := ⟨start1.p0, start1.e0, start1.about1, start1.theMethod, start1.args0, start1.below0, start1.atStart⟩
end Jvm.Pilot.@@N@@
