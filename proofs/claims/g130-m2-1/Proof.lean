import JvmDerived
import JvmDerived.Pilot.@@N@@Statement
import JvmDerived.Pilot.@@N@@Code
set_option linter.unusedVariables false
set_option linter.unusedSimpArgs false
@@BLOCK:NumsL.lean.txt@@
namespace Jvm.Pilot.@@N@@
open Jvm Jvm.ClassFile Sem Op Lib Jvm.Free Jvm.Stand Jvm.LawKit Jvm.RoadKit Bundle Jvm.Pilot.@@N@@.Jvm.D
section OwnGo
variable {p : Program} {l : Launch} {e : Env} {R : Room} {s : State} {m : MethodId} {args : Array Value} {below : List Frame} {meth : Method} {c : Code} {T T' : State} {locs : List Loc} {cells slots K1 K2 : Nat} {Q : Option Value → Heap → List Loc → Prop}
/-- from T at the frame f the run comes to an end that meets Q -/
def Go (p : Program) (e : Env) (below : List Frame) (s : State) (K1 K2 : Nat) (Q : Option Value → Heap → List Loc → Prop) (T : State) (f : JFrame) : Prop :=
  ∃ s₂ o, Steps p.tables e below (T.setTop f) s₂ ∧ s₂.status = .running ∧ Ended s₂ below o ∧ ∃ v L, o = .returned v ∧ Q v s₂.heap L ∧ FrameEnd s o s₂ L K1 K2
theorem Go.on {f f' : JFrame} (h : ∀ t, Steps p.tables e below (T'.setTop f') t → Steps p.tables e below (T.setTop f) t) (g : Go p e below s K1 K2 Q T' f') : Go p e below s K1 K2 Q T f := by
  obtain ⟨s₂, o, h1, r⟩ := g
  exact ⟨s₂, o, h _ h1, r⟩
theorem Go.cast {f f' : JFrame} (h : f = f') (g : Go p e below s K1 K2 Q T f') : Go p e below s K1 K2 Q T f := h ▸ g
theorem Go.gen {f : JFrame} (h : ∀ k1 k2 q, k1 = K1 → k2 = K2 → Q = q → Go p e below s k1 k2 q T f) : Go p e below s K1 K2 Q T f := h _ _ _ rfl rfl rfl
theorem Go.retV (X : Stand p l e R s m args below meth c T locs cells slots) (hx : p.tables.exec = Jvm.exec) {pc : Nat} {Ls : Array Slot} {w : Value} {t : FieldType} {i : Instr} {rest : List Value} (hret : meth.sig.returnType = some t) (hn : narrow t w = w)
    (hi : (i = .ireturn ∧ (t = .int ∨ t = .boolean ∨ t = .byte ∨ t = .char ∨ t = .short) ∧ ∃ z, w = .int z) ∨ (i = .lreturn ∧ t = .long ∧ ∃ z, w = .long z) ∨ (i = .dreturn ∧ t = .double ∧ ∃ z, w = .double z) ∨ (i = .freturn ∧ t = .float ∧ ∃ z, w = .float z) ∨ (i = .areturn ∧ t.isReference = true ∧ w.isRef = true))
    (hd : decode c.code pc = .ok (i, 1)) (hq : Q (some w) T.heap locs) (hc : cells ≤ K1) (hs : slots ≤ K2) (hlk : meth.locks = false := by assumption) : Go p e below s K1 K2 Q T (mkF m pc Ls (w :: rest)) := by
  obtain ⟨fs, hr, hrun, hended, hW, hsame⟩ := X.leave (v := some w) (fun h => by rw [hret] at h; cases h) hlk
  exact ⟨_, _, retOut X hx hret hn hi hd hr, hrun, hended, _, _, rfl, hq, ⟨_, rfl⟩, hW, hsame.mono hc hs⟩
theorem Go.retN (X : Stand p l e R s m args below meth c T locs cells slots) (hx : p.tables.exec = Jvm.exec) {pc : Nat} {Ls : Array Slot} {z : Int32} {t : FieldType} {rest : List Value} (hret : meth.sig.returnType = some t) (ht : t = .boolean ∨ t = .byte ∨ t = .char ∨ t = .short)
    (hd : decode c.code pc = .ok (.ireturn, 1)) (hq : Q (some (.int (nar t z))) T.heap locs) (hc : cells ≤ K1) (hs : slots ≤ K2) (hlk : meth.locks = false := by assumption) : Go p e below s K1 K2 Q T (mkF m pc Ls (.int z :: rest)) := by
  obtain ⟨fs, hr, hrun, hended, hW, hsame⟩ := X.leave (v := some (.int (nar t z))) (fun h => by rw [hret] at h; cases h) hlk
  exact ⟨_, _, Jvm.RoadKit.retN X hx hret ht hd hr, hrun, hended, _, _, rfl, hq, ⟨_, rfl⟩, hW, hsame.mono hc hs⟩
theorem Go.ret0 (X : Stand p l e R s m args below meth c T locs cells slots) (hx : p.tables.exec = Jvm.exec) {pc : Nat} {Ls : Array Slot} (hret : meth.sig.returnType = none)
    (hd : decode c.code pc = .ok (.return_, 1)) (hq : Q none T.heap locs) (hc : cells ≤ K1) (hs : slots ≤ K2) (hlk : meth.locks = false := by assumption) : Go p e below s K1 K2 Q T (mkF m pc Ls []) := by
  obtain ⟨fs, hr, hrun, hended, hW, hsame⟩ := X.leave (v := none) (fun _ => rfl) hlk
  exact ⟨_, _, X.returnOut hx hret hd hr, hrun, hended, _, _, rfl, hq, ⟨_, rfl⟩, hW, hsame.mono hc hs⟩
theorem own_lc_lt {a b : Int64} : lcmpW a b < 0 ↔ a < b := by rw [lcW]; exact lc_lt a b
theorem own_lc_gt {a b : Int64} : 0 < lcmpW a b ↔ b < a := by rw [lcW]; exact lc_gt a b
theorem own_lc_eq {a b : Int64} : lcmpW a b = 0 ↔ a = b := by rw [lcW]; exact lc_eq a b
theorem own_lremM {g : JFrame} {target : State} (X : Stand p l e R s m args below meth c T locs cells slots) (hx : p.tables.exec = Jvm.exec) (hg : g.method = m) {x y : Int64} {rest : List Value} (hd : decode c.code g.pc = .ok (.lrem, 1)) (hs : g.stack = .long y :: .long x :: rest) (hy : y ≠ 0)
    (hr : Steps p.tables e below (T.setTop { g with pc := g.pc + 1, stack := .long (x % y) :: rest }) target) : Steps p.tables e below (T.setTop g) target := by
  have q : x - x / y * y = x % y := by
    apply Int64.toInt_inj.mp
    have h1 := Int64.le_toInt (x % y)
    have h2 := Int64.toInt_lt (x % y)
    rw [Int64.toInt_sub, Int64.toInt_mul, Int64.toInt_div, Int.bmod_mul_bmod, Int.sub_bmod_bmod, Int.mul_comm (x.toInt.tdiv y.toInt), ← Int.tmod_def, ← Int64.toInt_mod]
    exact Int.bmod_eq_of_le_mul_two (by omega) (by omega)
  exact XS.lrem X.here hx hg hd hs hy (by rw [q]; exact hr)
theorem own_cl_gt {o : Option Ordering} : 0 < cmpValue o .l ↔ o = some .gt := by rcases o with _ | (_ | _ | _) <;> decide
theorem own_cl_lt {o : Option Ordering} : cmpValue o .l < 0 ↔ ¬ (o = some .gt ∨ o = some .eq) := by rcases o with _ | (_ | _ | _) <;> decide
theorem own_cg_lt {o : Option Ordering} : cmpValue o .g < 0 ↔ o = some .lt := by rcases o with _ | (_ | _ | _) <;> decide
theorem own_cg_gt {o : Option Ordering} : 0 < cmpValue o .g ↔ ¬ (o = some .lt ∨ o = some .eq) := by rcases o with _ | (_ | _ | _) <;> decide
theorem own_c_eq {o : Option Ordering} {k : CmpOp} : cmpValue o k = 0 ↔ o = some .eq := by cases k <;> rcases o with _ | (_ | _ | _) <;> decide
end OwnGo
section OwnFp
open Jvm.FP.Core
variable {a b V : UInt64} {x y z v : Int}
/-- the double a is finite and worth x units of 2^-1074 -/
def ZV (a : UInt64) (x : Int) : Prop := DFin a ∧ zval b64 (val64 a) = x
theorem ZV.ne (h : ZV a x) : val64 a ≠ .nan := h.1.ne_nan
theorem ZV.nn (h : ZV a x) : Jvm.Free.Fl.NoNaN64 a := Jvm.Free.Fl.noNaN64_no.mpr h.1.notNaN
theorem ZV.cmp (ha : ZV a x) (hb : ZV b y) : FP.dcmp a b = some (compare x y) := by
  show FP.Core.dcmp a b = _
  rw [dcmp_zval ha.ne hb.ne, ha.2, hb.2]
theorem ZV.uniq (ha : ZV a x) (hb : ZV a y) : x = y := ha.2.symm.trans hb.2
theorem own_fin_of {W : UInt64} (hn : val64 a ≠ .nan) (hW : DFin W) (h : zmag b64 (val64 a) ≤ zmag b64 (val64 W)) : DFin a := by
  cases h2 : val64 a with
  | nan => exact absurd h2 hn
  | inf s =>
    rw [h2] at h
    have := hW.zval_lt
    have e : zmag b64 (.inf s) = b64.tails * 2 ^ (b64.exps - 2) := rfl
    rw [e] at h
    omega
  | fin s c q => exact ⟨s, c, q, h2⟩
theorem own_natAbs (d : Datum) : (zval b64 d).natAbs = zmag b64 d := natAbs_signed _ _
theorem own_fin_of_z {W : UInt64} (hn : val64 a ≠ .nan) (hW : DFin W) (h : (zval b64 (val64 a)).natAbs ≤ (zval b64 (val64 W)).natAbs) : DFin a := by
  rw [own_natAbs, own_natAbs] at h; exact own_fin_of hn hW h
theorem ZV.add (ha : ZV a x) (hb : ZV b y) (hv : ZV V (x + y)) : ZV (FP.dadd a b) (x + y) := by
  have hn : val64 (FP.Core.dadd a b) ≠ .nan := (notNaN_iff _).mp (FP.Core.dadd_out ha.1.notNaN hb.1)
  have e : zval b64 (val64 (FP.Core.dadd a b)) = x + y := by
    have h1 := sum_le good_b64 ha.1 hb.1 (val64_fits a) (val64_fits b) (val64_fits V) hv.ne (by rw [ha.2, hb.2, hv.2]; exact Int.le_refl _)
    have h2 := sum_ge good_b64 ha.1 hb.1 (val64_fits a) (val64_fits b) (val64_fits V) hv.ne (by rw [ha.2, hb.2, hv.2]; exact Int.le_refl _)
    rw [← val64_dadd, hv.2] at h1 h2
    exact Int.le_antisymm h1 h2
  exact ⟨own_fin_of_z hn hv.1 (by rw [e, hv.2]; exact Nat.le_refl _), e⟩
theorem own_neg_fin {d : Datum} (h : ∃ s c q, d = .fin s c q) : ∃ s c q, negate d = .fin s c q := by
  obtain ⟨s, c, q, rfl⟩ := h; exact ⟨_, _, _, rfl⟩
theorem ZV.sub (ha : ZV a x) (hb : ZV b y) (hv : ZV V (x - y)) : ZV (FP.dsub a b) (x - y) := by
  have hn : val64 (FP.Core.dsub a b) ≠ .nan := (notNaN_iff _).mp (FP.Core.dsub_out ha.1.notNaN hb.1)
  have e : zval b64 (val64 (FP.Core.dsub a b)) = x - y := by
    have h1 := sum_le good_b64 ha.1 (own_neg_fin hb.1) (val64_fits a) (negate_fits (val64_fits b)) (val64_fits V) hv.ne (by rw [ha.2, zval_negate, hb.2, hv.2]; omega)
    have h2 := sum_ge good_b64 ha.1 (own_neg_fin hb.1) (val64_fits a) (negate_fits (val64_fits b)) (val64_fits V) hv.ne (by rw [ha.2, zval_negate, hb.2, hv.2]; omega)
    rw [← val64_dsub, hv.2] at h1 h2
    exact Int.le_antisymm h1 h2
  exact ⟨own_fin_of_z hn hv.1 (by rw [e, hv.2]; exact Nat.le_refl _), e⟩
/-- a sum or a difference lies between what bounds it -/
theorem ZV.add_le (ha : ZV a x) (hb : ZV b y) (hv : ZV V v) (h : x + y ≤ v) : zval b64 (val64 (FP.dadd a b)) ≤ v := by
  have h1 := sum_le good_b64 ha.1 hb.1 (val64_fits a) (val64_fits b) (val64_fits V) hv.ne (by rw [ha.2, hb.2, hv.2]; exact h)
  rw [← val64_dadd, hv.2] at h1; exact h1
theorem ZV.add_ge (ha : ZV a x) (hb : ZV b y) (hv : ZV V v) (h : v ≤ x + y) : v ≤ zval b64 (val64 (FP.dadd a b)) := by
  have h1 := sum_ge good_b64 ha.1 hb.1 (val64_fits a) (val64_fits b) (val64_fits V) hv.ne (by rw [ha.2, hb.2, hv.2]; exact h)
  rw [← val64_dadd, hv.2] at h1; exact h1
theorem ZV.sub_le (ha : ZV a x) (hb : ZV b y) (hv : ZV V v) (h : x - y ≤ v) : zval b64 (val64 (FP.dsub a b)) ≤ v := by
  have h1 := sum_le good_b64 ha.1 (own_neg_fin hb.1) (val64_fits a) (negate_fits (val64_fits b)) (val64_fits V) hv.ne (by rw [ha.2, zval_negate, hb.2, hv.2]; omega)
  rw [← val64_dsub, hv.2] at h1; exact h1
theorem ZV.sub_ge (ha : ZV a x) (hb : ZV b y) (hv : ZV V v) (h : v ≤ x - y) : v ≤ zval b64 (val64 (FP.dsub a b)) := by
  have h1 := sum_ge good_b64 ha.1 (own_neg_fin hb.1) (val64_fits a) (negate_fits (val64_fits b)) (val64_fits V) hv.ne (by rw [ha.2, zval_negate, hb.2, hv.2]; omega)
  rw [← val64_dsub, hv.2] at h1; exact h1
/-- the product's bounds -/
theorem own_mul_le (ha : ZV a x) (hb : ZV b y) (hv : ZV V v) (h : x * y ≤ v * (one64 : Int)) : zval b64 (val64 (FP.dmul a b)) ≤ v := by
  obtain ⟨⟨s, c, q, h1⟩, ex⟩ := ha
  obtain ⟨⟨t, d, r, h2⟩, ey⟩ := hb
  have f1 := val64_fits a; have f2 := val64_fits b
  rw [h1] at f1 ex; rw [h2] at f2 ey
  obtain ⟨p1, p2, p3⟩ := product_units f1 f2
  show zval b64 (val64 (FP.Core.dmul a b)) ≤ v
  rw [val64_dmul, h1, h2, p1, ← hv.2]
  refine zval_round_le good_b64 (val64_fits V) hv.ne (e0 := 2 * b64.qmin) (by decide) p2 ?_
  rw [p3, show (b64.qmin - 2 * b64.qmin).toNat = (-b64.qmin).toNat from by decide, pow_qmin64, hv.2, signed_xor]
  have : zval b64 (.fin s c q) * zval b64 (.fin t d r) ≤ v * (one64 : Int) := by rw [ex, ey]; exact h
  exact this
theorem own_mul_ge (ha : ZV a x) (hb : ZV b y) (hv : ZV V v) (h : v * (one64 : Int) ≤ x * y) : v ≤ zval b64 (val64 (FP.dmul a b)) := by
  obtain ⟨⟨s, c, q, h1⟩, ex⟩ := ha
  obtain ⟨⟨t, d, r, h2⟩, ey⟩ := hb
  have f1 := val64_fits a; have f2 := val64_fits b
  rw [h1] at f1 ex; rw [h2] at f2 ey
  obtain ⟨p1, p2, p3⟩ := product_units f1 f2
  show v ≤ zval b64 (val64 (FP.Core.dmul a b))
  rw [val64_dmul, h1, h2, p1, ← hv.2]
  refine zval_round_ge good_b64 (val64_fits V) hv.ne (e0 := 2 * b64.qmin) (by decide) p2 ?_
  rw [p3, show (b64.qmin - 2 * b64.qmin).toNat = (-b64.qmin).toNat from by decide, pow_qmin64, hv.2, signed_xor]
  have : v * (one64 : Int) ≤ zval b64 (.fin s c q) * zval b64 (.fin t d r) := by rw [ex, ey]; exact h
  exact this
theorem ZV.mul (ha : ZV a x) (hb : ZV b y) (hv : ZV V z) (h : x * y = z * (one64 : Int)) : ZV (FP.dmul a b) z := by
  have hn : val64 (FP.Core.dmul a b) ≠ .nan := (notNaN_iff _).mp (FP.Core.dmul_out ha.1 hb.1)
  have e : zval b64 (val64 (FP.Core.dmul a b)) = z := Int.le_antisymm (own_mul_le ha hb hv (Int.le_of_eq h)) (own_mul_ge ha hb hv (Int.le_of_eq h.symm))
  exact ⟨own_fin_of_z hn hv.1 (by rw [e, hv.2]; exact Nat.le_refl _), e⟩
/-- the quotient of finite doubles, the divisor not nought: its datum -/
theorem own_quot (ha : ZV a x) (hb : ZV b y) (hy : y ≠ 0) : ∃ s c q t d r, val64 a = .fin s c q ∧ val64 b = .fin t d r ∧ 0 < d ∧ val64 (FP.ddiv a b) = roundRatio b64 (s != t) c d (q - r) ∧ FP.Core.fits b64 (.fin s c q) ∧ FP.Core.fits b64 (.fin t d r) := by
  obtain ⟨⟨s, c, q, h1⟩, ex⟩ := ha
  obtain ⟨⟨t, d, r, h2⟩, ey⟩ := hb
  have f1 := val64_fits a; have f2 := val64_fits b
  rw [h1] at f1; rw [h2] at f2
  have hd : d ≠ 0 := fun q => by
    subst q
    rw [h2] at ey
    apply hy; rw [← ey]; show signed t (inUnits 0 r _) = 0
    unfold inUnits; rw [Nat.zero_mul, signed_zero]
  refine ⟨s, c, q, t, d, r, h1, h2, Nat.pos_of_ne_zero hd, ?_, f1, f2⟩
  show val64 (FP.Core.ddiv a b) = _
  rw [val64_ddiv, h1, h2]
  show (if d = 0 then _ else _) = _
  rw [if_neg hd]
theorem own_div_mag_le {c d : Nat} {q r : Int} {s t sg : Bool} (f1 : FP.Core.fits b64 (.fin s c q)) (f2 : FP.Core.fits b64 (.fin t d r)) (hd : 0 < d) {W : Datum} (fW : FP.Core.fits b64 W) (hW : W ≠ .nan)
    (h : inUnits c q b64.qmin * one64 ≤ zmag b64 W * inUnits d r b64.qmin) : zmag b64 (roundRatio b64 sg c d (q - r)) ≤ zmag b64 W := by
  have h1 := f1.2.1
  have h2 := f2.2.1
  have hq : b64.qmin < 0 := by decide
  refine zmag_roundRatio_le good_b64 hd fW hW (e0 := 2 * b64.qmin - r) (by omega) (by omega) ?_
  have e1 : (b64.qmin - (2 * b64.qmin - r)).toNat = (r - b64.qmin).toNat := by congr 1; omega
  rw [e1]
  have e2 : inUnits c (q - r) (2 * b64.qmin - r) = inUnits c q b64.qmin * one64 := by
    unfold inUnits
    rw [← pow_qmin64, Nat.mul_assoc, ← Nat.pow_add]
    congr 2; omega
  rw [e2]
  refine Nat.le_trans h (Nat.le_of_eq ?_)
  unfold inUnits
  rw [Nat.mul_comm d, Nat.mul_assoc]
theorem own_div_mag_ge {c d : Nat} {q r : Int} {s t sg : Bool} (f1 : FP.Core.fits b64 (.fin s c q)) (f2 : FP.Core.fits b64 (.fin t d r)) (hd : 0 < d) {W : Datum} (fW : FP.Core.fits b64 W)
    (h : zmag b64 W * inUnits d r b64.qmin ≤ inUnits c q b64.qmin * one64) : zmag b64 W ≤ zmag b64 (roundRatio b64 sg c d (q - r)) := by
  have h1 := f1.2.1
  have h2 := f2.2.1
  have hq : b64.qmin < 0 := by decide
  refine zmag_roundRatio_ge good_b64 hd fW (e0 := 2 * b64.qmin - r) (by omega) (by omega) ?_
  have e1 : (b64.qmin - (2 * b64.qmin - r)).toNat = (r - b64.qmin).toNat := by congr 1; omega
  rw [e1]
  have e2 : inUnits c (q - r) (2 * b64.qmin - r) = inUnits c q b64.qmin * one64 := by
    unfold inUnits
    rw [← pow_qmin64, Nat.mul_assoc, ← Nat.pow_add]
    congr 2; omega
  rw [e2]
  refine Nat.le_trans (Nat.le_of_eq ?_) h
  unfold inUnits
  rw [Nat.mul_comm d, Nat.mul_assoc]
/-- what is said of a quotient: r its units -/
def Quo (x y r : Int) : Prop := ∀ (V : UInt64) (v : Int), ZV V v → (x * (one64 : Int) ≤ v * y → r ≤ v) ∧ (v * y ≤ x * (one64 : Int) → v ≤ r)
theorem own_sgn_z (s : Bool) (m : Nat) : signed s m = if s then -(m : Int) else m := rfl
theorem ZV.neg_ex (h : ZV a x) : ∃ V, ZV V (-x) := by
  refine ⟨FP.Core.dneg a, ?_, ?_⟩
  · obtain ⟨⟨s, c, q, h1⟩, -⟩ := h; exact ⟨!s, c, q, by rw [val64_dneg, h1]; rfl⟩
  · rw [val64_dneg, zval_negate, h.2]
theorem own_mag {s : Bool} {c : Nat} {q : Int} : zval b64 (.fin s c q) = signed s (inUnits c q b64.qmin) := rfl
/-- the quotient by a positive double of at least one -/
theorem ZV.div (ha : ZV a x) (hb : ZV b y) (hy : (one64 : Int) ≤ y) : ∃ r, ZV (FP.ddiv a b) r ∧ Quo x y r := by
  have o1 := one64_pos
  obtain ⟨s, c, q, t, d, r, h1, h2, hd, h3, f1, f2⟩ := own_quot ha hb (by omega)
  have ey := hb.2; rw [h2, own_mag] at ey
  have ex := ha.2; rw [h1, own_mag] at ex
  have t0 : t = false := by
    cases t
    · rfl
    · simp only [own_sgn_z, if_true] at ey; omega
  subst t0
  have hy0 : (0 : Int) < y := by omega
  have ey' : ((inUnits d r b64.qmin : Nat) : Int) = y := ey
  generalize hu : inUnits d r b64.qmin = u at *
  generalize hc : inUnits c q b64.qmin = k at *
  have hsg : sgn (val64 (FP.ddiv a b)) = s := by rw [h3, sgn_roundRatio]; cases s <;> rfl
  have hne : val64 (FP.ddiv a b) ≠ .nan := by rw [h3]; exact roundRatio_ne_nan _ _ _ _ _
  have hz : zval b64 (val64 (FP.ddiv a b)) = signed s (zmag b64 (val64 (FP.ddiv a b))) := by rw [zval, hsg]
  have up : ∀ W : UInt64, val64 W ≠ .nan → k * one64 ≤ zmag b64 (val64 W) * u → zmag b64 (val64 (FP.ddiv a b)) ≤ zmag b64 (val64 W) := fun W hW h => by
    rw [h3]; exact own_div_mag_le f1 f2 hd (val64_fits W) hW (by rw [hu, hc]; exact h)
  have dn : ∀ W : UInt64, zmag b64 (val64 W) * u ≤ k * one64 → zmag b64 (val64 W) ≤ zmag b64 (val64 (FP.ddiv a b)) := fun W h => by
    rw [h3]; exact own_div_mag_ge f1 f2 hd (val64_fits W) (by rw [hu, hc]; exact h)
  have hk : k = zmag b64 (val64 a) := by rw [h1]; exact hc.symm
  have hfin : DFin (FP.ddiv a b) := own_fin_of hne ha.1 (up a ha.ne (by rw [← hk]; exact Nat.mul_le_mul_left _ (by omega)))
  refine ⟨_, ⟨hfin, rfl⟩, fun V v hv => ?_⟩
  rw [hz]
  generalize hm : zmag b64 (val64 (FP.ddiv a b)) = m at *
  have hV := own_natAbs (val64 V)
  rw [hv.2] at hV
  have upV := up V hv.ne
  have dnV := dn V
  rw [← hV] at upV dnV
  clear up dn
  have cast : ∀ p q : Nat, ((p * q : Nat) : Int) = (p : Int) * q := fun p q => by simp
  cases s
  · have ex' : (k : Int) = x := ex
    have em : signed false m = (m : Int) := rfl
    rw [em]
    constructor
    · intro h
      by_cases hv0 : 0 ≤ v
      · have e1 : (v.natAbs : Int) = v := Int.natAbs_of_nonneg hv0
        have : k * one64 ≤ v.natAbs * u := by apply Int.ofNat_le.mp; rw [cast, cast, ex', e1, ey']; exact h
        have := upV this; omega
      · exfalso
        have h5 : v * y < 0 := Int.mul_neg_of_neg_of_pos (by omega) hy0
        have h6 : 0 ≤ x * (one64 : Int) := Int.mul_nonneg (by omega) (by omega)
        omega
    · intro h
      by_cases hv0 : 0 ≤ v
      · have e1 : (v.natAbs : Int) = v := Int.natAbs_of_nonneg hv0
        have : v.natAbs * u ≤ k * one64 := by apply Int.ofNat_le.mp; rw [cast, cast, ex', e1, ey']; exact h
        have := dnV this; omega
      · omega
  · have ex' : -(k : Int) = x := ex
    have em : signed true m = -(m : Int) := rfl
    rw [em]
    have ek : (k : Int) = -x := by omega
    constructor
    · intro h
      by_cases hv0 : 0 ≤ v
      · omega
      · have e1 : (v.natAbs : Int) = -v := by omega
        have : v.natAbs * u ≤ k * one64 := by
          apply Int.ofNat_le.mp; rw [cast, cast, ek, e1, ey', Int.neg_mul, Int.neg_mul]; omega
        have := dnV this; omega
    · intro h
      by_cases hv0 : v ≤ 0
      · have e1 : (v.natAbs : Int) = -v := by omega
        have : k * one64 ≤ v.natAbs * u := by
          apply Int.ofNat_le.mp; rw [cast, cast, ek, e1, ey', Int.neg_mul, Int.neg_mul]; omega
        have := upV this; omega
      · exfalso
        have h5 : 0 < v * y := Int.mul_pos (by omega) hy0
        have h6 : x * (one64 : Int) ≤ 0 := by
          have : 0 ≤ (k : Int) * (one64 : Int) := Int.mul_nonneg (by omega) (by omega)
          rw [ek, Int.neg_mul] at this; omega
        omega
theorem ZV.div_exact (ha : ZV a x) (hb : ZV b y) (hy : (one64 : Int) ≤ y) (hv : ZV V z) (h : x * (one64 : Int) = z * y) : ZV (FP.ddiv a b) z := by
  obtain ⟨r, h1, h2⟩ := ha.div hb hy
  have h3 := h2 V z hv
  have : r = z := Int.le_antisymm (h3.1 (Int.le_of_eq h)) (h3.2 (Int.le_of_eq h.symm))
  exact this ▸ h1
/-- i * 2^k units are a double -/
theorem own_rep (i : Int) (k : Nat) (hi : i.natAbs < 2 ^ 53) (hk : k ≤ 2045) : ∃ V, ZV V (i * ((2 ^ k : Nat) : Int)) := by
  obtain ⟨c', q', h1, h2⟩ := round_exact good_b64 (decide (i < 0)) (c := i.natAbs) (q := (k : Int) + b64.qmin) hi (by omega) (by rw [show b64.qmax = 971 from by decide, qmin_b64]; omega)
  have hf : FP.Core.fits b64 (.fin (decide (i < 0)) c' q') := by rw [← h1]; exact round_fits good_b64 _
  refine ⟨of64 (.fin (decide (i < 0)) c' q'), ⟨_, _, _, val64_of64 hf⟩, ?_⟩
  rw [val64_of64 hf, own_mag, h2]
  unfold inUnits
  rw [show ((k : Int) + b64.qmin - b64.qmin).toNat = k from by omega, signed_mul, own_sgn_z]
  congr 1
  by_cases h : i < 0
  · simp only [h, decide_true, if_true]; omega
  · simp only [h, decide_false]; simp only [Bool.false_eq_true, if_false]; omega
theorem own_one64 : (one64 : Int) = ((2 ^ 1074 : Nat) : Int) := rfl
theorem ZV.of_int {i : Int} (h : DInt i a) : ZV a (i * (one64 : Int)) := by
  refine ⟨?_, DInt_zval h⟩
  unfold DInt at h
  cases h2 : val64 a with
  | nan => rw [h2] at h; exact h.elim
  | inf s => rw [h2] at h; exact h.elim
  | fin s c q => exact ⟨s, c, q, h2⟩
theorem own_i2d (n : Int32) : ZV (FP.i2d n) (n.toInt * (one64 : Int)) := ZV.of_int (i2d_int n)
theorem own_l2d {n : Int64} (h : n.toInt.natAbs ≤ 2 ^ 53) : ZV (FP.l2d n) (n.toInt * (one64 : Int)) := ZV.of_int (l2d_int h)
theorem own_ddiv_nn (ha : DFin a) (hb : DFin b) : FP.ddiv (FP.Core.dneg a) (FP.Core.dneg b) = FP.ddiv a b ∨ val64 (FP.ddiv a b) = .nan := by
  by_cases hn : val64 (FP.ddiv a b) = .nan
  · exact Or.inr hn
  · refine Or.inl (val64_inj hn ?_).symm
    obtain ⟨s, c, q, h1⟩ := ha
    obtain ⟨t, d, r, h2⟩ := hb
    show val64 (FP.Core.ddiv a b) = val64 (FP.Core.ddiv _ _)
    rw [val64_ddiv, val64_ddiv, val64_dneg, val64_dneg, h1, h2]
    show quotient b64 (.fin s c q) (.fin t d r) = quotient b64 (.fin (!s) c q) (.fin (!t) d r)
    simp only [quotient]
    have : ((!s) != (!t)) = (s != t) := by cases s <;> cases t <;> rfl
    rw [this]
theorem ZV.dneg (h : ZV a x) : ZV (FP.Core.dneg a) (-x) := by
  refine ⟨?_, by rw [val64_dneg, zval_negate, h.2]⟩
  obtain ⟨⟨s, c, q, h1⟩, -⟩ := h; exact ⟨!s, c, q, by rw [val64_dneg, h1]; rfl⟩
/-- the quotient by a negative double of at most minus one -/
theorem ZV.div_neg (ha : ZV a x) (hb : ZV b y) (hy : y ≤ -(one64 : Int)) : ∃ r, ZV (FP.ddiv a b) r ∧ Quo (-x) (-y) r := by
  obtain ⟨r, h1, h2⟩ := ha.dneg.div hb.dneg (by omega)
  have o1 := one64_pos
  obtain ⟨s, c, q, t, d, r', -, -, -, h3, -⟩ := own_quot ha hb (by omega)
  rcases own_ddiv_nn ha.1 hb.1 with h | h
  · exact ⟨r, h ▸ h1, h2⟩
  · rw [h3] at h; exact absurd h (roundRatio_ne_nan _ _ _ _ _)
/-- n / D against i / 2^j -/
theorem own_quo_int {n D r : Int} (h : Quo (n * (one64 : Int)) (D * (one64 : Int)) r) (i : Int) (j : Nat) (hj : j ≤ 1074) (hi : i.natAbs < 2 ^ 53) :
    (n * ((2 ^ j : Nat) : Int) ≤ i * D → r ≤ i * ((2 ^ (1074 - j) : Nat) : Int)) ∧ (i * D ≤ n * ((2 ^ j : Nat) : Int) → i * ((2 ^ (1074 - j) : Nat) : Int) ≤ r) := by
  obtain ⟨V, hV⟩ := own_rep i (1074 - j) hi (by omega)
  have q := h V _ hV
  have e : (one64 : Int) = ((2 ^ j : Nat) : Int) * ((2 ^ (1074 - j) : Nat) : Int) := by
    rw [own_one64, ← Int.natCast_mul, ← Nat.pow_add]; congr 2; omega
  have hu : (0 : Int) ≤ ((2 ^ (1074 - j) : Nat) : Int) * (one64 : Int) := Int.mul_nonneg (Int.natCast_nonneg _) (Int.natCast_nonneg _)
  have e1 : n * (one64 : Int) * (one64 : Int) = n * ((2 ^ j : Nat) : Int) * (((2 ^ (1074 - j) : Nat) : Int) * (one64 : Int)) := by
    conv => lhs; arg 1; rw [e]
    rw [← Int.mul_assoc n, Int.mul_assoc (n * _)]
  have e2 : i * ((2 ^ (1074 - j) : Nat) : Int) * (D * (one64 : Int)) = i * D * (((2 ^ (1074 - j) : Nat) : Int) * (one64 : Int)) := by rw [Int.mul_assoc i, Int.mul_left_comm _ D, ← Int.mul_assoc i D]
  rw [e1, e2] at q
  exact ⟨fun z => q.1 (Int.mul_le_mul_of_nonneg_right z hu), fun z => q.2 (Int.mul_le_mul_of_nonneg_right z hu)⟩
theorem own_zero : ZV (0 : UInt64) 0 := ⟨⟨_, _, _, val64_zero⟩, zval64_zero⟩
theorem own_one : ZV (4607182418800017408 : UInt64) (one64 : Int) := by
  have := ZV.of_int dint_one; rwa [Int.one_mul] at this
theorem own_cmp_gt {x y : Int} : some (compare x y) = some Ordering.gt ↔ y < x := by rw [Option.some.injEq]; exact compare_gt_iff x y
theorem own_cmp_lt {x y : Int} : some (compare x y) = some Ordering.lt ↔ x < y := by rw [Option.some.injEq]; exact compare_lt_iff x y
theorem own_cmp_eq {x y : Int} : some (compare x y) = some Ordering.eq ↔ x = y := by rw [Option.some.injEq]; exact compare_eq_iff x y
theorem own_dnn {i : Int} {a : UInt64} (h : DInt i a) : Jvm.Free.Fl.NoNaN64 a := (ZV.of_int h).nn
theorem own_nnd' {a : UInt64} (ha : DFin a) (n : Int32) (hn : n ≠ 0) : Jvm.Free.Fl.NoNaN64 (FP.ddiv a (FP.i2d n)) :=
  Jvm.Free.Fl.noNaN64_no.mpr (FP.Core.ddiv_out ha.notNaN (i2d_fin n) (fun q => i2d_ne_zero hn (by rwa [zero_bits2] at q)))
theorem own_nnd (s : Int64) (n : Int32) (hn : n ≠ 0) : Jvm.Free.Fl.NoNaN64 (FP.ddiv (FP.l2d s) (FP.i2d n)) := own_nnd' (l2d_fin s) n hn
theorem own_dz : DInt 0 (0 : UInt64) := by
  have : (0 : UInt64) = FP.l2d 0 := FP.Core.l2d_zero.symm
  rw [this]; exact l2d_int (a := 0) (by decide)
theorem own_div_eq {S S' : UInt64} {s : Int} (h : DInt s S) (h' : DInt s S') (n : Int32) (hn : 1 ≤ n.toInt) : FP.dcmp (FP.ddiv S (FP.i2d n)) (FP.ddiv S' (FP.i2d n)) = some .eq := by
  have hy : (one64 : Int) ≤ n.toInt * (one64 : Int) := by
    have := Int.mul_le_mul_of_nonneg_right hn (show (0 : Int) ≤ (one64 : Int) by omega)
    rwa [Int.one_mul] at this
  by_cases hs : s = 0
  · subst hs
    have z1 := ZV.of_int h
    have z2 := ZV.of_int h'
    rw [Int.zero_mul] at z1 z2
    have q1 := z1.div_exact (own_i2d n) hy own_zero (by rw [Int.zero_mul, Int.zero_mul])
    have q2 := z2.div_exact (own_i2d n) hy own_zero (by rw [Int.zero_mul, Int.zero_mul])
    rw [q1.cmp q2, own_cmp_eq]
  · have e := dint_unique hs h h'
    subst e
    have hz : n ≠ 0 := fun q => by subst q; revert hn; decide
    exact dcmp_refl (Jvm.Free.Fl.noNaN64_no.mp (own_nnd' (ZV.of_int h).1 n hz))
theorem own_ib (x : Int32) : x.toInt.natAbs ≤ 2147483648 := by have := x.le_toInt; have := x.toInt_lt; omega
end OwnFp
section OwnDivW
open Jvm.FP.Core
variable {a b V : UInt64} {x y z v : Int}
/-- the quotient by a positive double, bounded by a double W -/
theorem ZV.divW (ha : ZV a x) (hb : ZV b y) (hy : 0 < y) {W : UInt64} {w : Int} (hW : ZV W w) (hw : x.natAbs * one64 ≤ w.natAbs * y.natAbs) : ∃ r, ZV (FP.ddiv a b) r ∧ Quo x y r := by
  have o1 := one64_pos
  obtain ⟨s, c, q, t, d, r, h1, h2, hd, h3, f1, f2⟩ := own_quot ha hb (by omega)
  have ey := hb.2; rw [h2, own_mag] at ey
  have ex := ha.2; rw [h1, own_mag] at ex
  have t0 : t = false := by
    cases t
    · rfl
    · simp only [own_sgn_z, if_true] at ey; omega
  subst t0
  have hy0 : (0 : Int) < y := by omega
  have ey' : ((inUnits d r b64.qmin : Nat) : Int) = y := ey
  generalize hu : inUnits d r b64.qmin = u at *
  generalize hc : inUnits c q b64.qmin = k at *
  have hsg : sgn (val64 (FP.ddiv a b)) = s := by rw [h3, sgn_roundRatio]; cases s <;> rfl
  have hne : val64 (FP.ddiv a b) ≠ .nan := by rw [h3]; exact roundRatio_ne_nan _ _ _ _ _
  have hz : zval b64 (val64 (FP.ddiv a b)) = signed s (zmag b64 (val64 (FP.ddiv a b))) := by rw [zval, hsg]
  have up : ∀ W : UInt64, val64 W ≠ .nan → k * one64 ≤ zmag b64 (val64 W) * u → zmag b64 (val64 (FP.ddiv a b)) ≤ zmag b64 (val64 W) := fun W hW h => by
    rw [h3]; exact own_div_mag_le f1 f2 hd (val64_fits W) hW (by rw [hu, hc]; exact h)
  have dn : ∀ W : UInt64, zmag b64 (val64 W) * u ≤ k * one64 → zmag b64 (val64 W) ≤ zmag b64 (val64 (FP.ddiv a b)) := fun W h => by
    rw [h3]; exact own_div_mag_ge f1 f2 hd (val64_fits W) (by rw [hu, hc]; exact h)
  have hk : k = zmag b64 (val64 a) := by rw [h1]; exact hc.symm
  have hfin : DFin (FP.ddiv a b) := own_fin_of hne hW.1 (up W hW.ne (by
    have e1 := own_natAbs (val64 W)
    have e2 := own_natAbs (val64 a)
    rw [hW.2] at e1
    rw [ha.2] at e2
    rw [← e1, hk, ← e2]
    have e3 : u = y.natAbs := by omega
    rw [e3]; exact hw))
  refine ⟨_, ⟨hfin, rfl⟩, fun V v hv => ?_⟩
  rw [hz]
  generalize hm : zmag b64 (val64 (FP.ddiv a b)) = m at *
  have hV := own_natAbs (val64 V)
  rw [hv.2] at hV
  have upV := up V hv.ne
  have dnV := dn V
  rw [← hV] at upV dnV
  clear up dn
  have cast : ∀ p q : Nat, ((p * q : Nat) : Int) = (p : Int) * q := fun p q => by simp
  cases s
  · have ex' : (k : Int) = x := ex
    have em : signed false m = (m : Int) := rfl
    rw [em]
    constructor
    · intro h
      by_cases hv0 : 0 ≤ v
      · have e1 : (v.natAbs : Int) = v := Int.natAbs_of_nonneg hv0
        have : k * one64 ≤ v.natAbs * u := by apply Int.ofNat_le.mp; rw [cast, cast, ex', e1, ey']; exact h
        have := upV this; omega
      · exfalso
        have h5 : v * y < 0 := Int.mul_neg_of_neg_of_pos (by omega) hy0
        have h6 : 0 ≤ x * (one64 : Int) := Int.mul_nonneg (by omega) (by omega)
        omega
    · intro h
      by_cases hv0 : 0 ≤ v
      · have e1 : (v.natAbs : Int) = v := Int.natAbs_of_nonneg hv0
        have : v.natAbs * u ≤ k * one64 := by apply Int.ofNat_le.mp; rw [cast, cast, ex', e1, ey']; exact h
        have := dnV this; omega
      · omega
  · have ex' : -(k : Int) = x := ex
    have em : signed true m = -(m : Int) := rfl
    rw [em]
    have ek : (k : Int) = -x := by omega
    constructor
    · intro h
      by_cases hv0 : 0 ≤ v
      · omega
      · have e1 : (v.natAbs : Int) = -v := by omega
        have : v.natAbs * u ≤ k * one64 := by
          apply Int.ofNat_le.mp; rw [cast, cast, ek, e1, ey', Int.neg_mul, Int.neg_mul]; omega
        have := dnV this; omega
    · intro h
      by_cases hv0 : v ≤ 0
      · have e1 : (v.natAbs : Int) = -v := by omega
        have : k * one64 ≤ v.natAbs * u := by
          apply Int.ofNat_le.mp; rw [cast, cast, ek, e1, ey', Int.neg_mul, Int.neg_mul]; omega
        have := upV this; omega
      · exfalso
        have h5 : 0 < v * y := Int.mul_pos (by omega) hy0
        have h6 : x * (one64 : Int) ≤ 0 := by
          have : 0 ≤ (k : Int) * (one64 : Int) := Int.mul_nonneg (by omega) (by omega)
          rw [ek, Int.neg_mul] at this; omega
        omega
end OwnDivW

def coversV (u w : UInt64) (ci ri : Int32) : Int32 := if (cmpValue (FP.dcmp u (0 : UInt64)) .l) < (0 : Int32) then (0 : Int32) else (if (0 : Int32) < (cmpValue (FP.dcmp u (FP.i2d ci)) .g) then (0 : Int32) else (if (cmpValue (FP.dcmp w (0 : UInt64)) .l) < (0 : Int32) then (0 : Int32) else (if (0 : Int32) < (cmpValue (FP.dcmp w (FP.i2d ri)) .g) then (0 : Int32) else (1 : Int32))))
section PureLaw
open Jvm.FP.Core
theorem own_split (j : Nat) (hj : j ≤ 1074) : (one64 : Int) = ((2 ^ j : Nat) : Int) * ((2 ^ (1074 - j) : Nat) : Int) := by
  rw [own_one64, ← Int.natCast_mul, ← Nat.pow_add]; congr 2; omega
theorem own_o8 : (one64 : Int) = 8 * ((2 ^ 1071 : Nat) : Int) := by
  have h := own_split 3 (by omega)
  rw [show ((2 ^ 3 : Nat) : Int) = 8 from rfl, show 1074 - 3 = 1071 from rfl] at h; exact h
theorem own_o256 : (one64 : Int) = 256 * ((2 ^ 1066 : Nat) : Int) := by
  have h := own_split 8 (by omega)
  rw [show ((2 ^ 8 : Nat) : Int) = 256 from rfl, show 1074 - 8 = 1066 from rfl] at h; exact h
theorem own_upos : (0 : Int) < ((2 ^ 1071 : Nat) : Int) := Int.natCast_pos.mpr (Nat.two_pow_pos _)
theorem own_opos : (0 : Int) < (one64 : Int) := by have := one64_pos; omega
theorem own_eight : ZV (4620693217682128896 : UInt64) (8 * (one64 : Int)) := by
  have h : (4620693217682128896 : UInt64) = FP.l2d 8 := by decide +kernel
  rw [h]; exact own_l2d (n := 8) (by decide)
/-- an int over 8 -/
theorem own_e8 (n : Int32) : ZV (FP.ddiv (FP.i2d n) (4620693217682128896 : UInt64)) (n.toInt * ((2 ^ 1071 : Nat) : Int)) := by
  obtain ⟨V, hV⟩ := own_rep n.toInt 1071 (by have := own_ib n; omega) (by omega)
  refine ZV.div_exact (own_i2d n) own_eight (by have := own_opos; omega) hV ?_
  have := own_o8
  generalize ((2 ^ 1071 : Nat) : Int) = H at *
  rw [this]; ac_rfl
theorem own_dif (a b : Int32) : ZV (FP.dsub (FP.ddiv (FP.i2d a) (4620693217682128896 : UInt64)) (FP.ddiv (FP.i2d b) (4620693217682128896 : UInt64))) ((a.toInt - b.toInt) * ((2 ^ 1071 : Nat) : Int)) := by
  obtain ⟨V, hV⟩ := own_rep (a.toInt - b.toInt) 1071 (by have := own_ib a; have := own_ib b; omega) (by omega)
  rw [Int.sub_mul] at hV ⊢
  exact ZV.sub (own_e8 a) (own_e8 b) hV
abbrev quV (a b c : Int32) : UInt64 := FP.ddiv (FP.dsub (FP.ddiv (FP.i2d a) (4620693217682128896 : UInt64)) (FP.ddiv (FP.i2d b) (4620693217682128896 : UInt64))) (FP.ddiv (FP.i2d c) (4620693217682128896 : UInt64))
theorem own_qu (a b c : Int32) (h1 : 1 ≤ c.toInt) : ∃ r, ZV (quV a b c) r ∧ Quo ((a.toInt - b.toInt) * (one64 : Int)) (c.toInt * (one64 : Int)) r := by
  obtain ⟨W, hW⟩ := own_rep (a.toInt - b.toInt) 1074 (by have := own_ib a; have := own_ib b; omega) (by omega)
  have hu := own_upos
  have ho := own_opos
  have eW : ((2 ^ 1074 : Nat) : Int) = (one64 : Int) := own_one64.symm
  rw [eW] at hW
  have hy : 0 < c.toInt * ((2 ^ 1071 : Nat) : Int) := Int.mul_pos (by omega) hu
  obtain ⟨r, hr, hq⟩ := (own_dif a b).divW (own_e8 c) hy hW (by
    generalize ((2 ^ 1071 : Nat) : Int) = H at *
    simp only [Int.natAbs_mul, Int.natAbs_natCast]
    have h3 : 1 ≤ c.toInt.natAbs := by omega
    clear eW ho hW
    generalize (a.toInt - b.toInt).natAbs = n
    generalize c.toInt.natAbs = m at *
    generalize one64 = O
    generalize H.natAbs = K
    have h4 : n * K * O = n * O * (1 * K) := by rw [Nat.one_mul, Nat.mul_assoc, Nat.mul_comm K, ← Nat.mul_assoc]
    rw [h4]
    exact Nat.mul_le_mul_left _ (Nat.mul_le_mul_right _ h3))
  refine ⟨r, hr, fun V v hv => ?_⟩
  have q := hq V v hv
  generalize ((2 ^ 1071 : Nat) : Int) = H at *
  generalize (one64 : Int) = o at *
  generalize a.toInt - b.toInt = n at *
  generalize c.toInt = d at *
  have e1 : n * H * o = n * o * H := by ac_rfl
  have e2 : v * (d * H) = v * d * H := by ac_rfl
  have e3 : v * (d * o) = v * d * o := by ac_rfl
  rw [e1, e2] at q
  rw [e3]
  exact ⟨fun z => q.1 (Int.mul_le_mul_of_nonneg_right (Int.le_of_mul_le_mul_right z ho) (Int.le_of_lt hu)), fun z => q.2 (Int.mul_le_mul_of_nonneg_right (Int.le_of_mul_le_mul_right z ho) (Int.le_of_lt hu))⟩
theorem own_cov (a b c n : Int32) (h1 : 1 ≤ c.toInt) (h2 : c.toInt ≤ 256) (hn : 0 ≤ n.toInt) : ((cmpValue (FP.dcmp (quV a b c) (0 : UInt64)) .l) < (0 : Int32) ↔ a.toInt - b.toInt < 0) ∧ ((0 : Int32) < (cmpValue (FP.dcmp (quV a b c) (FP.i2d n)) .g) ↔ n.toInt * c.toInt < a.toInt - b.toInt) := by
  obtain ⟨r, hr, hq⟩ := own_qu a b c h1
  rw [hr.cmp own_zero, hr.cmp (own_i2d n), own_cl_lt, own_cg_gt, own_cmp_gt, own_cmp_eq, own_cmp_lt, own_cmp_eq]
  have ba := own_ib a
  have bb := own_ib b
  have bn := own_ib n
  have n0 := own_quo_int hq (-1) 8 (by omega) (by decide)
  have z0 := hq _ _ own_zero
  have m0 := hq _ _ (own_i2d n)
  have m1 := own_quo_int hq (256 * n.toInt + 1) 8 (by omega) (by omega)
  rw [show ((2 ^ 8 : Nat) : Int) = 256 from rfl, show 1074 - 8 = 1066 from rfl] at n0 m1
  have ho := own_opos
  have e8 := own_o256
  generalize ((2 ^ 1066 : Nat) : Int) = H at *
  generalize (one64 : Int) = o at *
  generalize a.toInt - b.toInt = d at *
  generalize c.toInt = k at *
  generalize hN : n.toInt = N at *
  have hH : 0 < H := by omega
  rw [Int.zero_mul] at z0
  constructor
  · constructor
    · intro h
      by_cases hd : d < 0
      · exact hd
      · exact absurd (z0.2 (Int.mul_nonneg (Int.mul_nonneg (by omega) (by omega)) (by omega))) (by omega)
    · intro h
      have := n0.1 (by omega)
      have : -1 * H < 0 := by omega
      omega
  · have ek : N * k = k * N := Int.mul_comm _ _
    constructor
    · intro h
      by_cases hd : N * k < d
      · exact hd
      · have h5 : d * o ≤ N * k * o := Int.mul_le_mul_of_nonneg_right (by omega) (by omega)
        have h6 : N * o * (k * o) = N * k * o * o := by ac_rfl
        have h7 : d * o * o ≤ N * o * (k * o) := by rw [h6]; exact Int.mul_le_mul_of_nonneg_right h5 (by omega)
        exact absurd (m0.1 h7) (by omega)
    · intro h
      have h5 : (256 * N + 1) * k ≤ d * 256 := by
        have : (256 * N + 1) * k = 256 * (N * k) + k := by rw [Int.add_mul, Int.one_mul, Int.mul_assoc]
        omega
      have h6 := m1.2 h5
      have h7 : (256 * N + 1) * H = N * (256 * H) + H := by rw [Int.add_mul, Int.one_mul]; congr 1; ac_rfl
      rw [← e8] at h7
      omega
theorem own_fin8 (n : Int32) : DFin (FP.ddiv (FP.i2d n) (4620693217682128896 : UInt64)) := (own_e8 n).1
theorem own_isfin {d : UInt64} (h : DFin d) : ¬ ((0 : Int32) < (cmpValue (FP.dcmp (d &&& (9223372036854775807 : UInt64)) (9218868437227405311 : UInt64)) .g)) := by
  rw [own_cg_gt]
  have := (le_max h.notNaN).mpr h
  exact fun q => q this
theorem own_cs {i n : Int32} (h : ((i &&& (255 : Int32)) + (1 : Int32)) = n) : 1 ≤ n.toInt ∧ n.toInt ≤ 256 := by
  have e1 : (i &&& 255).toInt = i.toInt % 2 ^ 8 := Jvm.Kit.i32_mask i 255 (k := 8) (by decide) (by decide)
  have l1 : (1 : Int32).toInt = 1 := by decide
  rw [← h, Jvm.Kit.i32_add (by rw [e1, l1]; omega) (by rw [e1, l1]; omega), e1, l1]; omega
theorem own_mx {i n : Int32} (h : (if (1 : Int32) < (i &&& (2147483647 : Int32)) then (i &&& (2147483647 : Int32)) else (1 : Int32)) = n) : 1 ≤ n.toInt := by
  rw [← h]
  have l1 : (1 : Int32).toInt = 1 := by decide
  split
  · rename_i q; rw [Int32.lt_iff_toInt_lt, l1] at q; omega
  · rw [l1]; omega
theorem own_pos8 {n : Int32} (h : 1 ≤ n.toInt) : (0 : Int32) < (cmpValue (FP.dcmp (FP.ddiv (FP.i2d n) (4620693217682128896 : UInt64)) (0 : UInt64)) .l) := by
  rw [own_cl_gt, (own_e8 n).cmp own_zero, own_cmp_gt]
  exact Int.mul_pos (by omega) own_upos
theorem own_ltinf {d : UInt64} (h : DFin d) : (cmpValue (FP.dcmp d (9218868437227405312 : UInt64)) .g) < (0 : Int32) := by
  rw [own_cg_lt]; exact (fin_lt_inf h).1
theorem own_nl {n : Int32} (h : 1 ≤ n.toInt) : ¬ (n < (1 : Int32)) := by
  rw [Int32.lt_iff_toInt_lt, show (1 : Int32).toInt = 1 by decide]; omega
theorem own_qn (a b c : Int32) (h1 : 1 ≤ c.toInt) : Jvm.Free.Fl.NoNaN64 (quV a b c) := by
  obtain ⟨r, hr, -⟩ := own_qu a b c h1; exact hr.nn
theorem own_lsub (a b : Int32) : (a.toInt64 - b.toInt64).toInt = a.toInt - b.toInt := by
  have := own_ib a; have := own_ib b
  have e1 : a.toInt64.toInt = a.toInt := Int32.toInt_toInt64 a
  have e2 : b.toInt64.toInt = b.toInt := Int32.toInt_toInt64 b
  rw [Jvm.Kit.i64_sub (by rw [e1, e2]; omega) (by rw [e1, e2]; omega), e1, e2]
theorem own_lmul {n k : Int32} (h0 : 1 ≤ n.toInt) (h1 : 1 ≤ k.toInt) (h2 : k.toInt ≤ 256) : (n.toInt64 * k.toInt64).toInt = n.toInt * k.toInt := by
  have b := own_ib n
  have e1 : n.toInt64.toInt = n.toInt := Int32.toInt_toInt64 n
  have e2 : k.toInt64.toInt = k.toInt := Int32.toInt_toInt64 k
  have hb : n.toInt * k.toInt ≤ 2147483648 * 256 := Int.mul_le_mul (by omega) h2 (by omega) (by omega)
  have hp : 0 ≤ n.toInt * k.toInt := Int.mul_nonneg (by omega) (by omega)
  rw [Jvm.Kit.i64_mul (by rw [e1, e2]; omega) (by rw [e1, e2]; omega), e1, e2]
theorem own_pure {x y w t k n q v ex got : Int32} {dx dy sx sy : Int64} (hk : 1 ≤ k.toInt ∧ k.toInt ≤ 256) (hn : 1 ≤ n.toInt) (hq : 1 ≤ q.toInt) (hg : coversV (quV x w k) (quV y t k) n q = got)
    (hdx : (x.toInt64 - w.toInt64) = dx) (hdy : (y.toInt64 - t.toInt64) = dy) (hsx : (n.toInt64 * k.toInt64) = sx) (hsy : (q.toInt64 * k.toInt64) = sy)
    (he : ex = (if dx < (0 : Int64) then (0 : Int32) else (if sx < dx then (0 : Int32) else (if dy < (0 : Int64) then (0 : Int32) else (if sy < dy then (0 : Int32) else (1 : Int32)))))) (hv : v = (if got = ex then (1 : Int32) else (0 : Int32))) : v = 1 := by
  have A := own_cov x w k n hk.1 hk.2 (by omega)
  have B := own_cov y t k q hk.1 hk.2 (by omega)
  have e : got = ex := by
    rw [← hg, he]
    unfold coversV
    simp only [A.1, A.2, B.1, B.2, Int64.lt_iff_toInt_lt, ← hdx, ← hdy, ← hsx, ← hsy, own_lsub, own_lmul hn hk.1 hk.2, own_lmul hq hk.1 hk.2, show (0 : Int64).toInt = 0 from by decide]
  rw [hv, if_pos e]
end PureLaw

theorem d1_0 : decode jdk_29_method_65_code 0 = .ok (.iload_n 0, 1) := by decide +kernel
theorem d1_1 : decode jdk_29_method_65_code 1 = .ok (.iload_n 1, 1) := by decide +kernel
theorem d1_2 : decode jdk_29_method_65_code 2 = .ok (.if_icmp .lt 7, 3) := by decide +kernel
theorem d1_5 : decode jdk_29_method_65_code 5 = .ok (.iload_n 0, 1) := by decide +kernel
theorem d1_6 : decode jdk_29_method_65_code 6 = .ok (.goto 4, 3) := by decide +kernel
theorem d1_9 : decode jdk_29_method_65_code 9 = .ok (.iload_n 1, 1) := by decide +kernel
theorem d1_10 : decode jdk_29_method_65_code 10 = .ok (.ireturn, 1) := by decide +kernel
theorem ef_rm1 (m : MethodId) (i0 : Int32) (i1 : Int32) : entryFrame m #[(.int i0), (.int i1)] 2 = mkF m 0 #[.val (.int i0), .val (.int i1)] [] := by first | (simp [entryFrame, mkF, argsToLocals, Value.category]; done) | rfl
def Q_rm1 (Z : State) (i0 : Int32) (i1 : Int32) (h0 : Heap) (n0 : Nat) (v : Option Value) (h : Heap) (L : List Loc) : Prop := v = some (.int (if i0 < i1 then i1 else i0)) ∧ Fr n0 L ∧ h = h0
set_option maxRecDepth 65536 in
set_option maxHeartbeats 40000000 in
theorem rm1 (l : Launch) (Z : State) (aw : Array Value) (hw : ∀ d ∈ tables_1, d.before aw Z = true) (ws : List Jvm.Cond) (i0 : Int32) (i1 : Int32) (h0 : Heap) (n0 : Nat) (Z0 : n0 ≤ h0.size) :
    MetFree l (⟨"java/lang/Math", "max", "(II)I"⟩ : MethodName) (head1 (Jvm.Cond.code (⟨"java/lang/Math", "max", "(II)I"⟩ : MethodName) jdk_29_method_65_code 2 (some .int) :: ws) ({ frames := 0, cells := 0, slots := 0, locals := 0 } : Room)) (fun a U => a = #[(.int i0), (.int i1)] ∧ Z.Warmed39 U.vm ∧ U.heap = h0) (fun _ _ _ _ _ => True) (fun _ U o U' => ∃ v L, o = .returned v ∧ Q_rm1 Z i0 i1 h0 n0 v U'.heap L ∧ FrameEnd U o U' L ({ frames := 0, cells := 0, slots := 0, locals := 0 } : Room).cells ({ frames := 0, cells := 0, slots := 0, locals := 0 } : Room).slots) := by
  refine MetFree.of_bodySF (Jvm.Free.JP.mathPlain rfl (by decide +kernel)) hisR ?_
  intro p e s m args below meth c s₁ Bd hml0 hP hK
  obtain ⟨rfl, hZ, hh⟩ := hP
  have hx := Bd.exec
  have hby := Bd.bytes
  have hml : c.maxLocals = 2 := hml0
  have hown : s.vm.findClass "java/lang/Math" = some m.cls := findClass_of_methodNamed Bd.named
  have hnm := (name_of_methodNamed Bd.named Bd.method).1
  have hlk : meth.locks = false := BodyLoose.notSynchronized Bd
  have X0 : Stand p l e ({ frames := 0, cells := 0, slots := 0, locals := 0 } : Room) s m #[(.int i0), (.int i1)] below meth c s₁ [] 0 0 := Stand.of_body Bd
  have e0 : s₁.heap = h0 := by rw [← hh, Bd.state]; rfl
  have N0 := Fr.nil n0
  have ZZ := Z0
  show Go p e below s ({ frames := 0, cells := 0, slots := 0, locals := 0 } : Room).cells ({ frames := 0, cells := 0, slots := 0, locals := 0 } : Room).slots (fun v h L => Q_rm1 Z i0 i1 h0 n0 v h L) s₁ (entryFrame m #[(.int i0), (.int i1)] 2)
  refine Go.cast (ef_rm1 m i0 i1) ?_
  refine Go.gen ?_
  intro K1 K2 QQ hK1 hK2 hQQ
  refine Go.on (fun _ k => XS.iloadN X0.here hx rfl (hb hby d1_0) rfl k) ?_
  show Go _ _ _ _ _ _ _ _ (mkF m 1 #[.val (.int i0), .val (.int i1)] [(.int i0)])
  refine Go.on (fun _ k => XS.iloadN X0.here hx rfl (hb hby d1_1) rfl k) ?_
  show Go _ _ _ _ _ _ _ _ (mkF m 2 #[.val (.int i0), .val (.int i1)] [(.int i1), (.int i0)])
  suffices hJ2 : ∀ (v1 : Int32), v1 = (if i0 < i1 then i1 else i0) → Go p e below s K1 K2 QQ s₁ (mkF m 10 #[.val (.int i0), .val (.int i1)] [(.int v1)]) by
    by_cases hc3 : i0 < i1
    · -- pc 2 yes
      refine Go.on (fun _ k => XS.icmpYes X0.here hx rfl (pc0 := 2) (pc' := 9) rfl (hb hby d1_2) rfl (tlt hc3).1 (by decide) (by decide) k) ?_
      show Go _ _ _ _ _ _ _ _ (mkF m 9 #[.val (.int i0), .val (.int i1)] [])
      refine Go.on (fun _ k => XS.iloadN X0.here hx rfl (hb hby d1_9) rfl k) ?_
      show Go _ _ _ _ _ _ _ _ (mkF m 10 #[.val (.int i0), .val (.int i1)] [(.int i1)])
      exact hJ2 _ (by rw [if_pos hc3])
    · -- pc 2 no
      refine Go.on (fun _ k => XS.icmpNo X0.here hx rfl (hb hby d1_2) rfl (flt hc3).1 k) ?_
      show Go _ _ _ _ _ _ _ _ (mkF m 5 #[.val (.int i0), .val (.int i1)] [])
      refine Go.on (fun _ k => XS.iloadN X0.here hx rfl (hb hby d1_5) rfl k) ?_
      show Go _ _ _ _ _ _ _ _ (mkF m 6 #[.val (.int i0), .val (.int i1)] [(.int i0)])
      refine Go.on (fun _ k => XS.goto X0.here hx rfl (pc0 := 6) (pc' := 10) rfl (hb hby d1_6) (by decide) (by decide) k) ?_
      show Go _ _ _ _ _ _ _ _ (mkF m 10 #[.val (.int i0), .val (.int i1)] [(.int i0)])
      exact hJ2 _ (by rw [if_neg hc3])
  intro v1 hv1
  refine Go.retV X0 hx Bd.returns rfl (Or.inl ⟨rfl, Or.inl rfl, _, rfl⟩) (hb hby d1_10) ?_ (by rw [hK1]; decide) (by rw [hK2]; decide)
  rw [e0, ← hQQ]
  refine ⟨?_, N0, rfl⟩
  rw [hv1]
theorem pd_0 : parseMethodDescriptor "(D)D" = some ⟨[.double], some .double⟩ := by decide +kernel
theorem d4_0 : decode jdk_117_method_8_code 0 = .ok (.dload_n 0, 1) := by decide +kernel
theorem d4_1 : decode jdk_117_method_8_code 1 = .ok (.invokestatic 38, 3) := by decide +kernel
theorem d4_4 : decode jdk_117_method_8_code 4 = .ok (.ldc2_w 111, 3) := by decide +kernel
theorem d4_7 : decode jdk_117_method_8_code 7 = .ok (.dcmp .g, 1) := by decide +kernel
theorem d4_8 : decode jdk_117_method_8_code 8 = .ok (.ifCond .gt 7, 3) := by decide +kernel
theorem d4_11 : decode jdk_117_method_8_code 11 = .ok (.iconst 1, 1) := by decide +kernel
theorem d4_12 : decode jdk_117_method_8_code 12 = .ok (.goto 4, 3) := by decide +kernel
theorem d4_16 : decode jdk_117_method_8_code 16 = .ok (.ireturn, 1) := by decide +kernel
theorem pn_0 : plainName "java/lang/Double" = true := by first | (simp [plainName, overriddenIn]; done) | decide +kernel
theorem ef_rm4 (m : MethodId) (d0 : UInt64) : entryFrame m #[(.double d0)] 2 = mkF m 0 #[.val (.double d0), .second] [] := by first | (simp [entryFrame, mkF, argsToLocals, Value.category]; done) | rfl
def Q_rm4 (Z : State) (d0 : UInt64) (h0 : Heap) (n0 : Nat) (v : Option Value) (h : Heap) (L : List Loc) : Prop := v = some (.int (1 : Int32)) ∧ Fr n0 L ∧ h = h0
set_option maxRecDepth 65536 in
set_option maxHeartbeats 40000000 in
theorem rm4 (l : Launch) (Z : State) (aw : Array Value) (hw : ∀ d ∈ tables_1, d.before aw Z = true) (ws : List Jvm.Cond) (d0 : UInt64) (h0 : Heap) (n0 : Nat) (Z0 : n0 ≤ h0.size) (hf : Jvm.FP.Core.DFin d0) :
    MetFree l (⟨"java/lang/Double", "isFinite", "(D)Z"⟩ : MethodName) (head1 (Jvm.Cond.code (⟨"java/lang/Double", "isFinite", "(D)Z"⟩ : MethodName) jdk_117_method_8_code 2 (some .boolean) :: ws) ({ frames := 1, cells := 0, slots := 0, locals := 13 } : Room)) (fun a U => a = #[(.double d0)] ∧ Z.Warmed39 U.vm ∧ U.heap = h0) (fun _ _ _ _ _ => True) (fun _ U o U' => ∃ v L, o = .returned v ∧ Q_rm4 Z d0 h0 n0 v U'.heap L ∧ FrameEnd U o U' L ({ frames := 1, cells := 0, slots := 0, locals := 13 } : Room).cells ({ frames := 1, cells := 0, slots := 0, locals := 13 } : Room).slots) := by
  refine MetFree.of_bodySF (plainFor_of_name pn_0) hisR ?_
  intro p e s m args below meth c s₁ Bd hml0 hP hK
  obtain ⟨rfl, hZ, hh⟩ := hP
  have hx := Bd.exec
  have hby := Bd.bytes
  have hml : c.maxLocals = 2 := hml0
  have hown : s.vm.findClass "java/lang/Double" = some m.cls := findClass_of_methodNamed Bd.named
  have hnm := (name_of_methodNamed Bd.named Bd.method).1
  have hlk : meth.locks = false := BodyLoose.notSynchronized Bd
  have X0 : Stand p l e ({ frames := 1, cells := 0, slots := 0, locals := 13 } : Room) s m #[(.double d0)] below meth c s₁ [] 0 0 := Stand.of_body Bd
  have e0 : s₁.heap = h0 := by rw [← hh, Bd.state]; rfl
  have N0 := Fr.nil n0
  have ZZ := Z0
  show Go p e below s ({ frames := 1, cells := 0, slots := 0, locals := 13 } : Room).cells ({ frames := 1, cells := 0, slots := 0, locals := 13 } : Room).slots (fun v h L => Q_rm4 Z d0 h0 n0 v h L) s₁ (entryFrame m #[(.double d0)] 2)
  refine Go.cast (ef_rm4 m d0) ?_
  refine Go.gen ?_
  intro K1 K2 QQ hK1 hK2 hQQ
  refine Go.on (fun _ k => XS.dloadN X0.here hx rfl (hb hby d4_0) rfl k) ?_
  show Go _ _ _ _ _ _ _ _ (mkF m 1 #[.val (.double d0), .second] [(.double d0)])
  obtain ⟨v1, vm1, ⟨T1, L1, k1, n1⟩, -, X1, ⟨hv1, hB1⟩, st1⟩ := Jvm.LawKit.callS X0 hx (y := Jvm.Free.Fl.Abs.absDN) hown (mvT hZ (hw _ (List.mem_of_getElem? (i := 20) rfl))) (mvT hZ (hw _ (List.mem_of_getElem? (i := 21) rfl))) (mvT hZ (hw _ (List.mem_of_getElem? (i := 3) rfl))) (mvT hZ (hw _ (List.mem_of_getElem? (i := 22) rfl))) (by decide) (Jvm.Free.Fl.Abs.absD_pays (W := 0) d0 (mvT hZ (hw _ (List.mem_of_getElem? (i := 22) rfl))) (by decide) (by decide)) (g := (mkF m 1 #[.val (.double d0), .second] [(.double d0)])) rfl (by rw [hml]; rfl) (argsL := [(.double d0)]) (rest := []) (lenOf pd_0 rfl) rfl (by show 2 * 0 + _ ≤ _; exact Nat.le_of_eq rfl) (hb hby d4_1) (fun _ _ => ⟨(by decide : 0 ≤ _), (by decide : 0 ≤ _), rfl, (Jvm.Free.Fl.noNaN64_no.mpr hf.notNaN)⟩)
  cases hB1
  subst hv1
  have e1 : (State.setVm s₁ vm1).heap = _ := e0
  generalize State.setVm s₁ vm1 = T1 at X1 st1 e1
  dsimp only [Pt.U, Pt.locs, Pt.cells, Pt.slots] at X1 st1
  refine Go.on st1 ?_
  show Go _ _ _ _ _ _ _ _ (mkF m 4 #[.val (.double d0), .second] [(.double (d0 &&& (9223372036854775807 : UInt64)))])
  refine Go.on (X1.ldc2DoubleC hx hown (mvT hZ (hw _ (List.mem_of_getElem? (i := 23) rfl))) (g := (mkF m 4 #[.val (.double d0), .second] [(.double (d0 &&& (9223372036854775807 : UInt64)))])) rfl (hb hby d4_4)) ?_
  show Go _ _ _ _ _ _ _ _ (mkF m 7 #[.val (.double d0), .second] [(.double (9218868437227405311 : UInt64)), (.double (d0 &&& (9223372036854775807 : UInt64)))])
  refine Go.on (fun _ k => XS.dcmpS X1.here hx rfl (hb hby d4_7) rfl rfl k) ?_
  show Go _ _ _ _ _ _ _ _ (mkF m 8 #[.val (.double d0), .second] [(.int (cmpValue (FP.dcmp (d0 &&& (9223372036854775807 : UInt64)) (9218868437227405311 : UInt64)) .g))])
  have hc2 : ¬ ((0 : Int32) < (cmpValue (FP.dcmp (d0 &&& (9223372036854775807 : UInt64)) (9218868437227405311 : UInt64)) .g)) := own_isfin hf
  refine Go.on (fun _ k => XS.ifNo X1.here hx rfl (hb hby d4_8) rfl ((if0 _ _).trans (flt hc2).2.2.1) k) ?_
  show Go _ _ _ _ _ _ _ _ (mkF m 11 #[.val (.double d0), .second] [])
  refine Go.on (fun _ k => XS.iconst X1.here hx rfl (hb hby d4_11) k) ?_
  show Go _ _ _ _ _ _ _ _ (mkF m 12 #[.val (.double d0), .second] [(.int (1 : Int32))])
  refine Go.on (fun _ k => XS.goto X1.here hx rfl (pc0 := 12) (pc' := 16) rfl (hb hby d4_12) (by decide) (by decide) k) ?_
  show Go _ _ _ _ _ _ _ _ (mkF m 16 #[.val (.double d0), .second] [(.int (1 : Int32))])
  refine Go.retN X1 hx (t := .boolean) Bd.returns (by simp) (hb hby d4_16) ?_ (by rw [hK1]; decide) (by rw [hK2]; decide)
  rw [e1, ← hQQ]
  exact ⟨rfl, N0, rfl⟩
theorem d6_0 : decode jdk_117_method_6_code 0 = .ok (.dload_n 0, 1) := by decide +kernel
theorem d6_1 : decode jdk_117_method_6_code 1 = .ok (.dload_n 0, 1) := by decide +kernel
theorem d6_2 : decode jdk_117_method_6_code 2 = .ok (.dcmp .l, 1) := by decide +kernel
theorem d6_3 : decode jdk_117_method_6_code 3 = .ok (.ifCond .eq 7, 3) := by decide +kernel
theorem d6_10 : decode jdk_117_method_6_code 10 = .ok (.iconst 0, 1) := by decide +kernel
theorem d6_11 : decode jdk_117_method_6_code 11 = .ok (.ireturn, 1) := by decide +kernel
theorem ef_rm6 (m : MethodId) (d0 : UInt64) : entryFrame m #[(.double d0)] 2 = mkF m 0 #[.val (.double d0), .second] [] := by first | (simp [entryFrame, mkF, argsToLocals, Value.category]; done) | rfl
def Q_rm6 (Z : State) (d0 : UInt64) (h0 : Heap) (n0 : Nat) (v : Option Value) (h : Heap) (L : List Loc) : Prop := v = some (.int (0 : Int32)) ∧ Fr n0 L ∧ h = h0
set_option maxRecDepth 65536 in
set_option maxHeartbeats 40000000 in
theorem rm6 (l : Launch) (Z : State) (aw : Array Value) (hw : ∀ d ∈ tables_1, d.before aw Z = true) (ws : List Jvm.Cond) (d0 : UInt64) (h0 : Heap) (n0 : Nat) (Z0 : n0 ≤ h0.size) (hz : (cmpValue (FP.dcmp d0 d0) .l) = (0 : Int32)) :
    MetFree l (⟨"java/lang/Double", "isNaN", "(D)Z"⟩ : MethodName) (head1 (Jvm.Cond.code (⟨"java/lang/Double", "isNaN", "(D)Z"⟩ : MethodName) jdk_117_method_6_code 2 (some .boolean) :: ws) ({ frames := 0, cells := 0, slots := 0, locals := 0 } : Room)) (fun a U => a = #[(.double d0)] ∧ Z.Warmed39 U.vm ∧ U.heap = h0) (fun _ _ _ _ _ => True) (fun _ U o U' => ∃ v L, o = .returned v ∧ Q_rm6 Z d0 h0 n0 v U'.heap L ∧ FrameEnd U o U' L ({ frames := 0, cells := 0, slots := 0, locals := 0 } : Room).cells ({ frames := 0, cells := 0, slots := 0, locals := 0 } : Room).slots) := by
  refine MetFree.of_bodySF (plainFor_of_name pn_0) hisR ?_
  intro p e s m args below meth c s₁ Bd hml0 hP hK
  obtain ⟨rfl, hZ, hh⟩ := hP
  have hx := Bd.exec
  have hby := Bd.bytes
  have hml : c.maxLocals = 2 := hml0
  have hown : s.vm.findClass "java/lang/Double" = some m.cls := findClass_of_methodNamed Bd.named
  have hnm := (name_of_methodNamed Bd.named Bd.method).1
  have hlk : meth.locks = false := BodyLoose.notSynchronized Bd
  have X0 : Stand p l e ({ frames := 0, cells := 0, slots := 0, locals := 0 } : Room) s m #[(.double d0)] below meth c s₁ [] 0 0 := Stand.of_body Bd
  have e0 : s₁.heap = h0 := by rw [← hh, Bd.state]; rfl
  have N0 := Fr.nil n0
  have ZZ := Z0
  show Go p e below s ({ frames := 0, cells := 0, slots := 0, locals := 0 } : Room).cells ({ frames := 0, cells := 0, slots := 0, locals := 0 } : Room).slots (fun v h L => Q_rm6 Z d0 h0 n0 v h L) s₁ (entryFrame m #[(.double d0)] 2)
  refine Go.cast (ef_rm6 m d0) ?_
  refine Go.gen ?_
  intro K1 K2 QQ hK1 hK2 hQQ
  refine Go.on (fun _ k => XS.dloadN X0.here hx rfl (hb hby d6_0) rfl k) ?_
  show Go _ _ _ _ _ _ _ _ (mkF m 1 #[.val (.double d0), .second] [(.double d0)])
  refine Go.on (fun _ k => XS.dloadN X0.here hx rfl (hb hby d6_1) rfl k) ?_
  show Go _ _ _ _ _ _ _ _ (mkF m 2 #[.val (.double d0), .second] [(.double d0), (.double d0)])
  refine Go.on (fun _ k => XS.dcmpS X0.here hx rfl (hb hby d6_2) rfl rfl k) ?_
  show Go _ _ _ _ _ _ _ _ (mkF m 3 #[.val (.double d0), .second] [(.int (cmpValue (FP.dcmp d0 d0) .l))])
  have hc1 : (cmpValue (FP.dcmp d0 d0) .l) = (0 : Int32) := hz
  refine Go.on (fun _ k => XS.ifYes X0.here hx rfl (pc0 := 3) (pc' := 10) rfl (hb hby d6_3) rfl ((if0 _ _).trans (teq hc1).1) (by decide) (by decide) k) ?_
  show Go _ _ _ _ _ _ _ _ (mkF m 10 #[.val (.double d0), .second] [])
  refine Go.on (fun _ k => XS.iconst X0.here hx rfl (hb hby d6_10) k) ?_
  show Go _ _ _ _ _ _ _ _ (mkF m 11 #[.val (.double d0), .second] [(.int (0 : Int32))])
  refine Go.retN X0 hx (t := .boolean) Bd.returns (by simp) (hb hby d6_11) ?_ (by rw [hK1]; decide) (by rw [hK2]; decide)
  rw [e0, ← hQQ]
  exact ⟨rfl, N0, rfl⟩
theorem pd_1 : parseMethodDescriptor "(D)Z" = some ⟨[.double], some .boolean⟩ := by decide +kernel
theorem d2_0 : decode prog_16_method_2_code 0 = .ok (.aload_n 0, 1) := by decide +kernel
theorem d2_1 : decode prog_16_method_2_code 1 = .ok (.invokespecial 11, 3) := by decide +kernel
theorem d2_4 : decode prog_16_method_2_code 4 = .ok (.iload_n 1, 1) := by decide +kernel
theorem d2_5 : decode prog_16_method_2_code 5 = .ok (.iconst 1, 1) := by decide +kernel
theorem d2_6 : decode prog_16_method_2_code 6 = .ok (.if_icmp .lt 8, 3) := by decide +kernel
theorem d2_9 : decode prog_16_method_2_code 9 = .ok (.iload_n 2, 1) := by decide +kernel
theorem d2_10 : decode prog_16_method_2_code 10 = .ok (.iconst 1, 1) := by decide +kernel
theorem d2_11 : decode prog_16_method_2_code 11 = .ok (.if_icmp .ge 13, 3) := by decide +kernel
theorem d2_24 : decode prog_16_method_2_code 24 = .ok (.dload 4, 2) := by decide +kernel
theorem d2_26 : decode prog_16_method_2_code 26 = .ok (.invokestatic 23, 3) := by decide +kernel
theorem d2_29 : decode prog_16_method_2_code 29 = .ok (.ifCond .eq 11, 3) := by decide +kernel
theorem d2_32 : decode prog_16_method_2_code 32 = .ok (.dload 6, 2) := by decide +kernel
theorem d2_34 : decode prog_16_method_2_code 34 = .ok (.invokestatic 23, 3) := by decide +kernel
theorem d2_37 : decode prog_16_method_2_code 37 = .ok (.ifCond .ne 20, 3) := by decide +kernel
theorem d2_57 : decode prog_16_method_2_code 57 = .ok (.dload 8, 2) := by decide +kernel
theorem d2_59 : decode prog_16_method_2_code 59 = .ok (.dconst 0, 1) := by decide +kernel
theorem d2_60 : decode prog_16_method_2_code 60 = .ok (.dcmp .l, 1) := by decide +kernel
theorem d2_61 : decode prog_16_method_2_code 61 = .ok (.ifCond .le 12, 3) := by decide +kernel
theorem d2_64 : decode prog_16_method_2_code 64 = .ok (.dload 8, 2) := by decide +kernel
theorem d2_66 : decode prog_16_method_2_code 66 = .ok (.ldc2_w 33, 3) := by decide +kernel
theorem d2_69 : decode prog_16_method_2_code 69 = .ok (.dcmp .g, 1) := by decide +kernel
theorem d2_70 : decode prog_16_method_2_code 70 = .ok (.ifCond .lt 18, 3) := by decide +kernel
theorem d2_88 : decode prog_16_method_2_code 88 = .ok (.aload_n 0, 1) := by decide +kernel
theorem d2_89 : decode prog_16_method_2_code 89 = .ok (.iload_n 1, 1) := by decide +kernel
theorem d2_90 : decode prog_16_method_2_code 90 = .ok (.putfield 38, 3) := by decide +kernel
theorem d2_93 : decode prog_16_method_2_code 93 = .ok (.aload_n 0, 1) := by decide +kernel
theorem d2_94 : decode prog_16_method_2_code 94 = .ok (.iload_n 2, 1) := by decide +kernel
theorem d2_95 : decode prog_16_method_2_code 95 = .ok (.putfield 42, 3) := by decide +kernel
theorem d2_98 : decode prog_16_method_2_code 98 = .ok (.aload_n 0, 1) := by decide +kernel
theorem d2_99 : decode prog_16_method_2_code 99 = .ok (.aload_n 3, 1) := by decide +kernel
theorem d2_100 : decode prog_16_method_2_code 100 = .ok (.putfield 45, 3) := by decide +kernel
theorem d2_103 : decode prog_16_method_2_code 103 = .ok (.aload_n 0, 1) := by decide +kernel
theorem d2_104 : decode prog_16_method_2_code 104 = .ok (.dload 4, 2) := by decide +kernel
theorem d2_106 : decode prog_16_method_2_code 106 = .ok (.putfield 49, 3) := by decide +kernel
theorem d2_109 : decode prog_16_method_2_code 109 = .ok (.aload_n 0, 1) := by decide +kernel
theorem d2_110 : decode prog_16_method_2_code 110 = .ok (.dload 6, 2) := by decide +kernel
theorem d2_112 : decode prog_16_method_2_code 112 = .ok (.putfield 53, 3) := by decide +kernel
theorem d2_115 : decode prog_16_method_2_code 115 = .ok (.aload_n 0, 1) := by decide +kernel
theorem d2_116 : decode prog_16_method_2_code 116 = .ok (.dload 8, 2) := by decide +kernel
theorem d2_118 : decode prog_16_method_2_code 118 = .ok (.putfield 56, 3) := by decide +kernel
theorem d2_121 : decode prog_16_method_2_code 121 = .ok (.iconst 0, 1) := by decide +kernel
theorem d2_122 : decode prog_16_method_2_code 122 = .ok (.istore 10, 2) := by decide +kernel
theorem d2_124 : decode prog_16_method_2_code 124 = .ok (.iconst 0, 1) := by decide +kernel
theorem d2_125 : decode prog_16_method_2_code 125 = .ok (.istore 11, 2) := by decide +kernel
theorem d2_127 : decode prog_16_method_2_code 127 = .ok (.iload 11, 2) := by decide +kernel
theorem d2_129 : decode prog_16_method_2_code 129 = .ok (.aload_n 3, 1) := by decide +kernel
theorem d2_130 : decode prog_16_method_2_code 130 = .ok (.arraylength, 1) := by decide +kernel
theorem d2_131 : decode prog_16_method_2_code 131 = .ok (.if_icmp .ge 23, 3) := by decide +kernel
theorem d2_134 : decode prog_16_method_2_code 134 = .ok (.iload 10, 2) := by decide +kernel
theorem d2_136 : decode prog_16_method_2_code 136 = .ok (.ifCond .ne 18, 3) := by decide +kernel
theorem d2_139 : decode prog_16_method_2_code 139 = .ok (.aload_n 3, 1) := by decide +kernel
theorem d2_140 : decode prog_16_method_2_code 140 = .ok (.iload 11, 2) := by decide +kernel
theorem d2_142 : decode prog_16_method_2_code 142 = .ok (.daload, 1) := by decide +kernel
theorem d2_143 : decode prog_16_method_2_code 143 = .ok (.invokestatic 59, 3) := by decide +kernel
theorem d2_146 : decode prog_16_method_2_code 146 = .ok (.istore 10, 2) := by decide +kernel
theorem d2_148 : decode prog_16_method_2_code 148 = .ok (.iinc 11 1, 3) := by decide +kernel
theorem d2_151 : decode prog_16_method_2_code 151 = .ok (.goto (-24), 3) := by decide +kernel
theorem d2_154 : decode prog_16_method_2_code 154 = .ok (.aload_n 0, 1) := by decide +kernel
theorem d2_155 : decode prog_16_method_2_code 155 = .ok (.iload 10, 2) := by decide +kernel
theorem d2_157 : decode prog_16_method_2_code 157 = .ok (.putfield 62, 3) := by decide +kernel
theorem d2_160 : decode prog_16_method_2_code 160 = .ok (.return_, 1) := by decide +kernel
theorem pn_1 : plainName "hermitage/Grid" = true := by first | (simp [plainName, overriddenIn]; done) | decide +kernel
theorem ef_rm2 (m : MethodId) (a0 : Addr) (i1 : Int32) (i2 : Int32) (a3 : Addr) (d4 : UInt64) (d5 : UInt64) (d6 : UInt64) : entryFrame m #[(.ref a0), (.int i1), (.int i2), (.ref a3), (.double d4), (.double d5), (.double d6)] 12 = mkF m 0 #[.val (.ref a0), .val (.int i1), .val (.int i2), .val (.ref a3), .val (.double d4), .second, .val (.double d5), .second, .val (.double d6), .second, .unset, .unset] [] := by first | (simp [entryFrame, mkF, argsToLocals, Value.category]; done) | rfl
def Q_rm2 (Z : State) (a0 : Addr) (i1 : Int32) (i2 : Int32) (a3 : Addr) (d4 : UInt64) (d5 : UInt64) (d6 : UInt64) (k_a3 : ClassId) (h0 : Heap) (n0 : Nat) (v : Option Value) (h : Heap) (L : List Loc) : Prop := v = none ∧ Fr n0 L ∧ Keep h0 h [a0] ∧ Exa Z h a0 "hermitage/Grid" ∧ Fld Z h a0 "hermitage/Grid" "columns" "I" (.int i1) ∧ Fld Z h a0 "hermitage/Grid" "rows" "I" (.int i2) ∧ Fld Z h a0 "hermitage/Grid" "west" "D" (.double d4) ∧ Fld Z h a0 "hermitage/Grid" "south" "D" (.double d5) ∧ Fld Z h a0 "hermitage/Grid" "cellSize" "D" (.double d6)
set_option maxRecDepth 65536 in
set_option maxHeartbeats 40000000 in
theorem rm2 (l : Launch) (Z : State) (aw : Array Value) (hw : ∀ d ∈ tables_1, d.before aw Z = true) (ws : List Jvm.Cond) (a0 : Addr) (i1 : Int32) (i2 : Int32) (a3 : Addr) (d4 : UInt64) (d5 : UInt64) (d6 : UInt64) (k_a3 : ClassId) (h0 : Heap) (n0 : Nat) (Z0 : n0 ≤ h0.size) (E_a0 : Exa Z h0 a0 "hermitage/Grid") (F_columns_a0 : Fld Z h0 a0 "hermitage/Grid" "columns" "I" (.int (0 : Int32))) (F_rows_a0 : Fld Z h0 a0 "hermitage/Grid" "rows" "I" (.int (0 : Int32))) (F_samples_a0 : Fld Z h0 a0 "hermitage/Grid" "samples" "[D" .null) (F_west_a0 : Fld Z h0 a0 "hermitage/Grid" "west" "D" (.double (0 : UInt64))) (F_south_a0 : Fld Z h0 a0 "hermitage/Grid" "south" "D" (.double (0 : UInt64))) (F_cellSize_a0 : Fld Z h0 a0 "hermitage/Grid" "cellSize" "D" (.double (0 : UInt64))) (F_hasMissingCells_a0 : Fld Z h0 a0 "hermitage/Grid" "hasMissingCells" "Z" (.int (0 : Int32))) (V_a3 : Arv Z h0 a3 k_a3 .double (1 : Int32) [(.double (0 : UInt64))] (.double (0 : UInt64))) (g_a0 : n0 ≤ a0) (h1 : ¬ (i1 < (1 : Int32))) (h2 : ¬ (i2 < (1 : Int32))) (hf4 : Jvm.FP.Core.DFin d4) (hf5 : Jvm.FP.Core.DFin d5) (hp : (0 : Int32) < (cmpValue (FP.dcmp d6 (0 : UInt64)) .l)) (hi : (cmpValue (FP.dcmp d6 (9218868437227405312 : UInt64)) .g) < (0 : Int32)) (ne_a3_a0 : a3 ≠ a0) :
    MetFree l (⟨"hermitage/Grid", "<init>", "(II[DDDD)V"⟩ : MethodName) (head1 (Jvm.Cond.code (⟨"hermitage/Grid", "<init>", "(II[DDDD)V"⟩ : MethodName) prog_16_method_2_code 12 none :: ws) ({ frames := 2, cells := 0, slots := 0, locals := 26 } : Room)) (fun a U => a = #[(.ref a0), (.int i1), (.int i2), (.ref a3), (.double d4), (.double d5), (.double d6)] ∧ Z.Warmed39 U.vm ∧ U.heap = h0) (fun _ _ _ _ _ => True) (fun _ U o U' => ∃ v L, o = .returned v ∧ Q_rm2 Z a0 i1 i2 a3 d4 d5 d6 k_a3 h0 n0 v U'.heap L ∧ FrameEnd U o U' L ({ frames := 2, cells := 0, slots := 0, locals := 26 } : Room).cells ({ frames := 2, cells := 0, slots := 0, locals := 26 } : Room).slots) := by
  refine MetFree.of_bodySF (plainFor_of_name pn_1) hisR ?_
  intro p e s m args below meth c s₁ Bd hml0 hP hK
  obtain ⟨rfl, hZ, hh⟩ := hP
  have hx := Bd.exec
  have hby := Bd.bytes
  have hml : c.maxLocals = 12 := hml0
  have hown : s.vm.findClass "hermitage/Grid" = some m.cls := findClass_of_methodNamed Bd.named
  have hnm := (name_of_methodNamed Bd.named Bd.method).1
  have hlk : meth.locks = false := BodyLoose.notSynchronized Bd
  have X0 : Stand p l e ({ frames := 2, cells := 0, slots := 0, locals := 26 } : Room) s m #[(.ref a0), (.int i1), (.int i2), (.ref a3), (.double d4), (.double d5), (.double d6)] below meth c s₁ [] 0 0 := Stand.of_body Bd
  have e0 : s₁.heap = h0 := by rw [← hh, Bd.state]; rfl
  have N0 := Fr.nil n0
  have ZZ := Z0
  show Go p e below s ({ frames := 2, cells := 0, slots := 0, locals := 26 } : Room).cells ({ frames := 2, cells := 0, slots := 0, locals := 26 } : Room).slots (fun v h L => Q_rm2 Z a0 i1 i2 a3 d4 d5 d6 k_a3 h0 n0 v h L) s₁ (entryFrame m #[(.ref a0), (.int i1), (.int i2), (.ref a3), (.double d4), (.double d5), (.double d6)] 12)
  refine Go.cast (ef_rm2 m a0 i1 i2 a3 d4 d5 d6) ?_
  refine Go.gen ?_
  intro K1 K2 QQ hK1 hK2 hQQ
  have KP : Keep h0 h0 [a0] := Keep.refl _ _
  refine Go.on (fun _ k => XS.aloadN X0.here hx rfl (hb hby d2_0) rfl rfl k) ?_
  show Go _ _ _ _ _ _ _ _ (mkF m 1 #[.val (.ref a0), .val (.int i1), .val (.int i2), .val (.ref a3), .val (.double d4), .second, .val (.double d5), .second, .val (.double d6), .second, .unset, .unset] [(.ref a0)])
  obtain ⟨T1, X1, e1, st1⟩ := initO X0 hx hZ hown (hw _ (List.mem_of_getElem? (i := 13) rfl)) (hw _ (List.mem_of_getElem? (i := 14) rfl)) (hw _ (List.mem_of_getElem? (i := 15) rfl)) e0 (g := (mkF m 1 #[.val (.ref a0), .val (.int i1), .val (.int i2), .val (.ref a3), .val (.double d4), .second, .val (.double d5), .second, .val (.double d6), .second, .unset, .unset] [(.ref a0)])) rfl (by rw [hml]; rfl) rfl (hb hby d2_1) (by decide) (W := 0) (by show 2 * 0 + _ ≤ _; exact Nat.le_of_eq rfl) (by decide)
  refine Go.on st1 ?_
  show Go _ _ _ _ _ _ _ _ (mkF m 4 #[.val (.ref a0), .val (.int i1), .val (.int i2), .val (.ref a3), .val (.double d4), .second, .val (.double d5), .second, .val (.double d6), .second, .unset, .unset] [])
  refine Go.on (fun _ k => XS.iloadN X1.here hx rfl (hb hby d2_4) rfl k) ?_
  show Go _ _ _ _ _ _ _ _ (mkF m 5 #[.val (.ref a0), .val (.int i1), .val (.int i2), .val (.ref a3), .val (.double d4), .second, .val (.double d5), .second, .val (.double d6), .second, .unset, .unset] [(.int i1)])
  refine Go.on (fun _ k => XS.iconst X1.here hx rfl (hb hby d2_5) k) ?_
  show Go _ _ _ _ _ _ _ _ (mkF m 6 #[.val (.ref a0), .val (.int i1), .val (.int i2), .val (.ref a3), .val (.double d4), .second, .val (.double d5), .second, .val (.double d6), .second, .unset, .unset] [(.int (1 : Int32)), (.int i1)])
  have hc2 : ¬ (i1 < (1 : Int32)) := h1
  refine Go.on (fun _ k => XS.icmpNo X1.here hx rfl (hb hby d2_6) rfl (flt hc2).1 k) ?_
  show Go _ _ _ _ _ _ _ _ (mkF m 9 #[.val (.ref a0), .val (.int i1), .val (.int i2), .val (.ref a3), .val (.double d4), .second, .val (.double d5), .second, .val (.double d6), .second, .unset, .unset] [])
  refine Go.on (fun _ k => XS.iloadN X1.here hx rfl (hb hby d2_9) rfl k) ?_
  show Go _ _ _ _ _ _ _ _ (mkF m 10 #[.val (.ref a0), .val (.int i1), .val (.int i2), .val (.ref a3), .val (.double d4), .second, .val (.double d5), .second, .val (.double d6), .second, .unset, .unset] [(.int i2)])
  refine Go.on (fun _ k => XS.iconst X1.here hx rfl (hb hby d2_10) k) ?_
  show Go _ _ _ _ _ _ _ _ (mkF m 11 #[.val (.ref a0), .val (.int i1), .val (.int i2), .val (.ref a3), .val (.double d4), .second, .val (.double d5), .second, .val (.double d6), .second, .unset, .unset] [(.int (1 : Int32)), (.int i2)])
  have hc3 : ¬ (i2 < (1 : Int32)) := h2
  refine Go.on (fun _ k => XS.icmpYes X1.here hx rfl (pc0 := 11) (pc' := 24) rfl (hb hby d2_11) rfl (flt hc3).2.1 (by decide) (by decide) k) ?_
  show Go _ _ _ _ _ _ _ _ (mkF m 24 #[.val (.ref a0), .val (.int i1), .val (.int i2), .val (.ref a3), .val (.double d4), .second, .val (.double d5), .second, .val (.double d6), .second, .unset, .unset] [])
  refine Go.on (fun _ k => XS.dload X1.here hx rfl (hb hby d2_24) rfl k) ?_
  show Go _ _ _ _ _ _ _ _ (mkF m 26 #[.val (.ref a0), .val (.int i1), .val (.int i2), .val (.ref a3), .val (.double d4), .second, .val (.double d5), .second, .val (.double d6), .second, .unset, .unset] [(.double d4)])
  obtain ⟨_, _, ⟨T4, L4, k4, n4⟩, -, X4, ⟨Lc4, hQ4, l4, y4, z4⟩, st4⟩ := Jvm.LawKit.callS X1 hx (y := (⟨"java/lang/Double", "isFinite", "(D)Z"⟩ : MethodName)) hown (mvT hZ (hw _ (List.mem_of_getElem? (i := 16) rfl))) (mvT hZ (hw _ (List.mem_of_getElem? (i := 17) rfl))) (mvT hZ (hw _ (List.mem_of_getElem? (i := 18) rfl))) (mvT hZ (hw _ (List.mem_of_getElem? (i := 19) rfl))) (by decide) (backOf (W := 0) (rm4 l Z aw hw [] d4  h0 n0 ZZ hf4) hZ (hw _ (List.mem_of_getElem? (i := 19) rfl)) (hw _ (List.mem_of_getElem? (i := 18) rfl)) (by decide) (by decide)) (g := (mkF m 26 #[.val (.ref a0), .val (.int i1), .val (.int i2), .val (.ref a3), .val (.double d4), .second, .val (.double d5), .second, .val (.double d6), .second, .unset, .unset] [(.double d4)])) rfl (by rw [hml]; rfl) (argsL := [(.double d4)]) (rest := []) (lenOf pd_1 rfl) rfl (by show 2 * 0 + _ ≤ _; exact Nat.le_of_eq rfl) (hb hby d2_26) (fun _ _ => ⟨rfl, e1, (by decide : 0 + 0 ≤ _), (by decide : 0 + 0 ≤ _)⟩)
  dsimp only [Pt.U, Pt.locs, Pt.cells, Pt.slots] at X4 l4 y4 z4 st4 hQ4
  subst l4 y4 z4
  obtain ⟨rfl, N4q, e4⟩ := hQ4
  have N4 := Fr.app N0 N4q
  refine Go.on st4 ?_
  show Go _ _ _ _ _ _ _ _ (mkF m 29 #[.val (.ref a0), .val (.int i1), .val (.int i2), .val (.ref a3), .val (.double d4), .second, .val (.double d5), .second, .val (.double d6), .second, .unset, .unset] [(.int (1 : Int32))])
  have hc5 : ¬ ((1 : Int32) = (0 : Int32)) := by decide
  refine Go.on (fun _ k => XS.ifNo X4.here hx rfl (hb hby d2_29) rfl ((if0 _ _).trans (feq hc5).1) k) ?_
  show Go _ _ _ _ _ _ _ _ (mkF m 32 #[.val (.ref a0), .val (.int i1), .val (.int i2), .val (.ref a3), .val (.double d4), .second, .val (.double d5), .second, .val (.double d6), .second, .unset, .unset] [])
  refine Go.on (fun _ k => XS.dload X4.here hx rfl (hb hby d2_32) rfl k) ?_
  show Go _ _ _ _ _ _ _ _ (mkF m 34 #[.val (.ref a0), .val (.int i1), .val (.int i2), .val (.ref a3), .val (.double d4), .second, .val (.double d5), .second, .val (.double d6), .second, .unset, .unset] [(.double d5)])
  obtain ⟨_, _, ⟨T6, L6, k6, n6⟩, -, X6, ⟨Lc6, hQ6, l6, y6, z6⟩, st6⟩ := Jvm.LawKit.callS X4 hx (y := (⟨"java/lang/Double", "isFinite", "(D)Z"⟩ : MethodName)) hown (mvT hZ (hw _ (List.mem_of_getElem? (i := 16) rfl))) (mvT hZ (hw _ (List.mem_of_getElem? (i := 17) rfl))) (mvT hZ (hw _ (List.mem_of_getElem? (i := 18) rfl))) (mvT hZ (hw _ (List.mem_of_getElem? (i := 19) rfl))) (by decide) (backOf (W := 0) (rm4 l Z aw hw [] d5  h0 n0 ZZ hf5) hZ (hw _ (List.mem_of_getElem? (i := 19) rfl)) (hw _ (List.mem_of_getElem? (i := 18) rfl)) (by decide) (by decide)) (g := (mkF m 34 #[.val (.ref a0), .val (.int i1), .val (.int i2), .val (.ref a3), .val (.double d4), .second, .val (.double d5), .second, .val (.double d6), .second, .unset, .unset] [(.double d5)])) rfl (by rw [hml]; rfl) (argsL := [(.double d5)]) (rest := []) (lenOf pd_1 rfl) rfl (by show 2 * 0 + _ ≤ _; exact Nat.le_of_eq rfl) (hb hby d2_34) (fun _ _ => ⟨rfl, e4, (by decide : 0 + 0 ≤ _), (by decide : 0 + 0 ≤ _)⟩)
  dsimp only [Pt.U, Pt.locs, Pt.cells, Pt.slots] at X6 l6 y6 z6 st6 hQ6
  subst l6 y6 z6
  obtain ⟨rfl, N6q, e6⟩ := hQ6
  have N6 := Fr.app N4 N6q
  refine Go.on st6 ?_
  show Go _ _ _ _ _ _ _ _ (mkF m 37 #[.val (.ref a0), .val (.int i1), .val (.int i2), .val (.ref a3), .val (.double d4), .second, .val (.double d5), .second, .val (.double d6), .second, .unset, .unset] [(.int (1 : Int32))])
  have hc7 : ¬ ((1 : Int32) = (0 : Int32)) := by decide
  refine Go.on (fun _ k => XS.ifYes X6.here hx rfl (pc0 := 37) (pc' := 57) rfl (hb hby d2_37) rfl ((if0 _ _).trans (feq hc7).2) (by decide) (by decide) k) ?_
  show Go _ _ _ _ _ _ _ _ (mkF m 57 #[.val (.ref a0), .val (.int i1), .val (.int i2), .val (.ref a3), .val (.double d4), .second, .val (.double d5), .second, .val (.double d6), .second, .unset, .unset] [])
  refine Go.on (fun _ k => XS.dload X6.here hx rfl (hb hby d2_57) rfl k) ?_
  show Go _ _ _ _ _ _ _ _ (mkF m 59 #[.val (.ref a0), .val (.int i1), .val (.int i2), .val (.ref a3), .val (.double d4), .second, .val (.double d5), .second, .val (.double d6), .second, .unset, .unset] [(.double d6)])
  refine Go.on (fun _ k => XS.dconst0 X6.here hx rfl (v := (0 : UInt64)) (hb hby d2_59) rfl k) ?_
  show Go _ _ _ _ _ _ _ _ (mkF m 60 #[.val (.ref a0), .val (.int i1), .val (.int i2), .val (.ref a3), .val (.double d4), .second, .val (.double d5), .second, .val (.double d6), .second, .unset, .unset] [(.double (0 : UInt64)), (.double d6)])
  refine Go.on (fun _ k => XS.dcmpS X6.here hx rfl (hb hby d2_60) rfl rfl k) ?_
  show Go _ _ _ _ _ _ _ _ (mkF m 61 #[.val (.ref a0), .val (.int i1), .val (.int i2), .val (.ref a3), .val (.double d4), .second, .val (.double d5), .second, .val (.double d6), .second, .unset, .unset] [(.int (cmpValue (FP.dcmp d6 (0 : UInt64)) .l))])
  have hc8 : (0 : Int32) < (cmpValue (FP.dcmp d6 (0 : UInt64)) .l) := hp
  refine Go.on (fun _ k => XS.ifNo X6.here hx rfl (hb hby d2_61) rfl ((if0 _ _).trans (tlt hc8).2.2.2) k) ?_
  show Go _ _ _ _ _ _ _ _ (mkF m 64 #[.val (.ref a0), .val (.int i1), .val (.int i2), .val (.ref a3), .val (.double d4), .second, .val (.double d5), .second, .val (.double d6), .second, .unset, .unset] [])
  refine Go.on (fun _ k => XS.dload X6.here hx rfl (hb hby d2_64) rfl k) ?_
  show Go _ _ _ _ _ _ _ _ (mkF m 66 #[.val (.ref a0), .val (.int i1), .val (.int i2), .val (.ref a3), .val (.double d4), .second, .val (.double d5), .second, .val (.double d6), .second, .unset, .unset] [(.double d6)])
  refine Go.on (X6.ldc2DoubleC hx hown (mvT hZ (hw _ (List.mem_of_getElem? (i := 24) rfl))) (g := (mkF m 66 #[.val (.ref a0), .val (.int i1), .val (.int i2), .val (.ref a3), .val (.double d4), .second, .val (.double d5), .second, .val (.double d6), .second, .unset, .unset] [(.double d6)])) rfl (hb hby d2_66)) ?_
  show Go _ _ _ _ _ _ _ _ (mkF m 69 #[.val (.ref a0), .val (.int i1), .val (.int i2), .val (.ref a3), .val (.double d4), .second, .val (.double d5), .second, .val (.double d6), .second, .unset, .unset] [(.double (9218868437227405312 : UInt64)), (.double d6)])
  refine Go.on (fun _ k => XS.dcmpS X6.here hx rfl (hb hby d2_69) rfl rfl k) ?_
  show Go _ _ _ _ _ _ _ _ (mkF m 70 #[.val (.ref a0), .val (.int i1), .val (.int i2), .val (.ref a3), .val (.double d4), .second, .val (.double d5), .second, .val (.double d6), .second, .unset, .unset] [(.int (cmpValue (FP.dcmp d6 (9218868437227405312 : UInt64)) .g))])
  have hc9 : (cmpValue (FP.dcmp d6 (9218868437227405312 : UInt64)) .g) < (0 : Int32) := hi
  refine Go.on (fun _ k => XS.ifYes X6.here hx rfl (pc0 := 70) (pc' := 88) rfl (hb hby d2_70) rfl ((if0 _ _).trans (tlt hc9).1) (by decide) (by decide) k) ?_
  show Go _ _ _ _ _ _ _ _ (mkF m 88 #[.val (.ref a0), .val (.int i1), .val (.int i2), .val (.ref a3), .val (.double d4), .second, .val (.double d5), .second, .val (.double d6), .second, .unset, .unset] [])
  refine Go.on (fun _ k => XS.aloadN X6.here hx rfl (hb hby d2_88) rfl rfl k) ?_
  show Go _ _ _ _ _ _ _ _ (mkF m 89 #[.val (.ref a0), .val (.int i1), .val (.int i2), .val (.ref a3), .val (.double d4), .second, .val (.double d5), .second, .val (.double d6), .second, .unset, .unset] [(.ref a0)])
  refine Go.on (fun _ k => XS.iloadN X6.here hx rfl (hb hby d2_89) rfl k) ?_
  show Go _ _ _ _ _ _ _ _ (mkF m 90 #[.val (.ref a0), .val (.int i1), .val (.int i2), .val (.ref a3), .val (.double d4), .second, .val (.double d5), .second, .val (.double d6), .second, .unset, .unset] [(.int i1), (.ref a0)])
  obtain ⟨T10, h10, X10, e10, W10, st10⟩ := putF X6 hx hZ hown (host := "") (Or.inl (hw _ (List.mem_of_getElem? (i := 25) rfl))) Via.refl e6 F_columns_a0 E_a0 (Or.inr ⟨(hw _ (List.mem_of_getElem? (i := 26) rfl)), rfl, hnm⟩) (hw _ (List.mem_of_getElem? (i := 6) rfl)) (ty := .int) (by decide) rfl rfl (g := (mkF m 90 #[.val (.ref a0), .val (.int i1), .val (.int i2), .val (.ref a3), .val (.double d4), .second, .val (.double d5), .second, .val (.double d6), .second, .unset, .unset] [(.int i1), (.ref a0)])) rfl rfl (hb hby d2_90)
  refine Go.on st10 ?_
  replace F_columns_a0 := F_columns_a0.same W10
  replace E_a0 := E_a0.wr W10
  replace F_rows_a0 := F_rows_a0.other W10 (Or.inr (slot_ne (Or.inr (hw _ (List.mem_of_getElem? (i := 28) rfl))) (Or.inr (hw _ (List.mem_of_getElem? (i := 26) rfl))) (by decide) (t := .int) (t' := .int) (by decide) (by decide)))
  replace F_samples_a0 := F_samples_a0.other W10 (Or.inr (slot_ne (Or.inr (hw _ (List.mem_of_getElem? (i := 30) rfl))) (Or.inr (hw _ (List.mem_of_getElem? (i := 26) rfl))) (by decide) (t := (.array .double)) (t' := .int) (by decide) (by decide)))
  replace F_west_a0 := F_west_a0.other W10 (Or.inr (slot_ne (Or.inr (hw _ (List.mem_of_getElem? (i := 32) rfl))) (Or.inr (hw _ (List.mem_of_getElem? (i := 26) rfl))) (by decide) (t := .double) (t' := .int) (by decide) (by decide)))
  replace F_south_a0 := F_south_a0.other W10 (Or.inr (slot_ne (Or.inr (hw _ (List.mem_of_getElem? (i := 34) rfl))) (Or.inr (hw _ (List.mem_of_getElem? (i := 26) rfl))) (by decide) (t := .double) (t' := .int) (by decide) (by decide)))
  replace F_cellSize_a0 := F_cellSize_a0.other W10 (Or.inr (slot_ne (Or.inr (hw _ (List.mem_of_getElem? (i := 36) rfl))) (Or.inr (hw _ (List.mem_of_getElem? (i := 26) rfl))) (by decide) (t := .double) (t' := .int) (by decide) (by decide)))
  replace F_hasMissingCells_a0 := F_hasMissingCells_a0.other W10 (Or.inr (slot_ne (Or.inr (hw _ (List.mem_of_getElem? (i := 41) rfl))) (Or.inr (hw _ (List.mem_of_getElem? (i := 26) rfl))) (by decide) (t := .boolean) (t' := .int) (by decide) (by decide)))
  replace V_a3 := V_a3.other W10 ne_a3_a0
  have N10 := Fr.snoc X10 N6 g_a0
  replace ZZ := Nat.le_trans ZZ (Keep.of_wr W10).1
  replace KP := KP.wr W10 (Or.inl (List.mem_of_getElem? (i := 0) rfl))
  show Go _ _ _ _ _ _ _ _ (mkF m 93 #[.val (.ref a0), .val (.int i1), .val (.int i2), .val (.ref a3), .val (.double d4), .second, .val (.double d5), .second, .val (.double d6), .second, .unset, .unset] [])
  refine Go.on (fun _ k => XS.aloadN X10.here hx rfl (hb hby d2_93) rfl rfl k) ?_
  show Go _ _ _ _ _ _ _ _ (mkF m 94 #[.val (.ref a0), .val (.int i1), .val (.int i2), .val (.ref a3), .val (.double d4), .second, .val (.double d5), .second, .val (.double d6), .second, .unset, .unset] [(.ref a0)])
  refine Go.on (fun _ k => XS.iloadN X10.here hx rfl (hb hby d2_94) rfl k) ?_
  show Go _ _ _ _ _ _ _ _ (mkF m 95 #[.val (.ref a0), .val (.int i1), .val (.int i2), .val (.ref a3), .val (.double d4), .second, .val (.double d5), .second, .val (.double d6), .second, .unset, .unset] [(.int i2), (.ref a0)])
  obtain ⟨T11, h11, X11, e11, W11, st11⟩ := putF X10 hx hZ hown (host := "") (Or.inl (hw _ (List.mem_of_getElem? (i := 27) rfl))) Via.refl e10 F_rows_a0 E_a0 (Or.inr ⟨(hw _ (List.mem_of_getElem? (i := 28) rfl)), rfl, hnm⟩) (hw _ (List.mem_of_getElem? (i := 6) rfl)) (ty := .int) (by decide) rfl rfl (g := (mkF m 95 #[.val (.ref a0), .val (.int i1), .val (.int i2), .val (.ref a3), .val (.double d4), .second, .val (.double d5), .second, .val (.double d6), .second, .unset, .unset] [(.int i2), (.ref a0)])) rfl rfl (hb hby d2_95)
  refine Go.on st11 ?_
  replace F_rows_a0 := F_rows_a0.same W11
  replace E_a0 := E_a0.wr W11
  replace F_columns_a0 := F_columns_a0.other W11 (Or.inr (slot_ne (Or.inr (hw _ (List.mem_of_getElem? (i := 26) rfl))) (Or.inr (hw _ (List.mem_of_getElem? (i := 28) rfl))) (by decide) (t := .int) (t' := .int) (by decide) (by decide)))
  replace F_samples_a0 := F_samples_a0.other W11 (Or.inr (slot_ne (Or.inr (hw _ (List.mem_of_getElem? (i := 30) rfl))) (Or.inr (hw _ (List.mem_of_getElem? (i := 28) rfl))) (by decide) (t := (.array .double)) (t' := .int) (by decide) (by decide)))
  replace F_west_a0 := F_west_a0.other W11 (Or.inr (slot_ne (Or.inr (hw _ (List.mem_of_getElem? (i := 32) rfl))) (Or.inr (hw _ (List.mem_of_getElem? (i := 28) rfl))) (by decide) (t := .double) (t' := .int) (by decide) (by decide)))
  replace F_south_a0 := F_south_a0.other W11 (Or.inr (slot_ne (Or.inr (hw _ (List.mem_of_getElem? (i := 34) rfl))) (Or.inr (hw _ (List.mem_of_getElem? (i := 28) rfl))) (by decide) (t := .double) (t' := .int) (by decide) (by decide)))
  replace F_cellSize_a0 := F_cellSize_a0.other W11 (Or.inr (slot_ne (Or.inr (hw _ (List.mem_of_getElem? (i := 36) rfl))) (Or.inr (hw _ (List.mem_of_getElem? (i := 28) rfl))) (by decide) (t := .double) (t' := .int) (by decide) (by decide)))
  replace F_hasMissingCells_a0 := F_hasMissingCells_a0.other W11 (Or.inr (slot_ne (Or.inr (hw _ (List.mem_of_getElem? (i := 41) rfl))) (Or.inr (hw _ (List.mem_of_getElem? (i := 28) rfl))) (by decide) (t := .boolean) (t' := .int) (by decide) (by decide)))
  replace V_a3 := V_a3.other W11 ne_a3_a0
  have N11 := Fr.snoc X11 N10 g_a0
  replace ZZ := Nat.le_trans ZZ (Keep.of_wr W11).1
  replace KP := KP.wr W11 (Or.inl (List.mem_of_getElem? (i := 0) rfl))
  show Go _ _ _ _ _ _ _ _ (mkF m 98 #[.val (.ref a0), .val (.int i1), .val (.int i2), .val (.ref a3), .val (.double d4), .second, .val (.double d5), .second, .val (.double d6), .second, .unset, .unset] [])
  refine Go.on (fun _ k => XS.aloadN X11.here hx rfl (hb hby d2_98) rfl rfl k) ?_
  show Go _ _ _ _ _ _ _ _ (mkF m 99 #[.val (.ref a0), .val (.int i1), .val (.int i2), .val (.ref a3), .val (.double d4), .second, .val (.double d5), .second, .val (.double d6), .second, .unset, .unset] [(.ref a0)])
  refine Go.on (fun _ k => XS.aloadN X11.here hx rfl (hb hby d2_99) rfl rfl k) ?_
  show Go _ _ _ _ _ _ _ _ (mkF m 100 #[.val (.ref a0), .val (.int i1), .val (.int i2), .val (.ref a3), .val (.double d4), .second, .val (.double d5), .second, .val (.double d6), .second, .unset, .unset] [(.ref a3), (.ref a0)])
  obtain ⟨T12, h12, X12, e12, W12, st12⟩ := putF X11 hx hZ hown (host := "") (Or.inl (hw _ (List.mem_of_getElem? (i := 29) rfl))) Via.refl e11 F_samples_a0 E_a0 (Or.inr ⟨(hw _ (List.mem_of_getElem? (i := 30) rfl)), rfl, hnm⟩) (hw _ (List.mem_of_getElem? (i := 6) rfl)) (ty := (.array .double)) (by decide) rfl rfl (g := (mkF m 100 #[.val (.ref a0), .val (.int i1), .val (.int i2), .val (.ref a3), .val (.double d4), .second, .val (.double d5), .second, .val (.double d6), .second, .unset, .unset] [(.ref a3), (.ref a0)])) rfl rfl (hb hby d2_100)
  refine Go.on st12 ?_
  replace F_samples_a0 := F_samples_a0.same W12
  replace E_a0 := E_a0.wr W12
  replace F_columns_a0 := F_columns_a0.other W12 (Or.inr (slot_ne (Or.inr (hw _ (List.mem_of_getElem? (i := 26) rfl))) (Or.inr (hw _ (List.mem_of_getElem? (i := 30) rfl))) (by decide) (t := .int) (t' := (.array .double)) (by decide) (by decide)))
  replace F_rows_a0 := F_rows_a0.other W12 (Or.inr (slot_ne (Or.inr (hw _ (List.mem_of_getElem? (i := 28) rfl))) (Or.inr (hw _ (List.mem_of_getElem? (i := 30) rfl))) (by decide) (t := .int) (t' := (.array .double)) (by decide) (by decide)))
  replace F_west_a0 := F_west_a0.other W12 (Or.inr (slot_ne (Or.inr (hw _ (List.mem_of_getElem? (i := 32) rfl))) (Or.inr (hw _ (List.mem_of_getElem? (i := 30) rfl))) (by decide) (t := .double) (t' := (.array .double)) (by decide) (by decide)))
  replace F_south_a0 := F_south_a0.other W12 (Or.inr (slot_ne (Or.inr (hw _ (List.mem_of_getElem? (i := 34) rfl))) (Or.inr (hw _ (List.mem_of_getElem? (i := 30) rfl))) (by decide) (t := .double) (t' := (.array .double)) (by decide) (by decide)))
  replace F_cellSize_a0 := F_cellSize_a0.other W12 (Or.inr (slot_ne (Or.inr (hw _ (List.mem_of_getElem? (i := 36) rfl))) (Or.inr (hw _ (List.mem_of_getElem? (i := 30) rfl))) (by decide) (t := .double) (t' := (.array .double)) (by decide) (by decide)))
  replace F_hasMissingCells_a0 := F_hasMissingCells_a0.other W12 (Or.inr (slot_ne (Or.inr (hw _ (List.mem_of_getElem? (i := 41) rfl))) (Or.inr (hw _ (List.mem_of_getElem? (i := 30) rfl))) (by decide) (t := .boolean) (t' := (.array .double)) (by decide) (by decide)))
  replace V_a3 := V_a3.other W12 ne_a3_a0
  have N12 := Fr.snoc X12 N11 g_a0
  replace ZZ := Nat.le_trans ZZ (Keep.of_wr W12).1
  replace KP := KP.wr W12 (Or.inl (List.mem_of_getElem? (i := 0) rfl))
  show Go _ _ _ _ _ _ _ _ (mkF m 103 #[.val (.ref a0), .val (.int i1), .val (.int i2), .val (.ref a3), .val (.double d4), .second, .val (.double d5), .second, .val (.double d6), .second, .unset, .unset] [])
  refine Go.on (fun _ k => XS.aloadN X12.here hx rfl (hb hby d2_103) rfl rfl k) ?_
  show Go _ _ _ _ _ _ _ _ (mkF m 104 #[.val (.ref a0), .val (.int i1), .val (.int i2), .val (.ref a3), .val (.double d4), .second, .val (.double d5), .second, .val (.double d6), .second, .unset, .unset] [(.ref a0)])
  refine Go.on (fun _ k => XS.dload X12.here hx rfl (hb hby d2_104) rfl k) ?_
  show Go _ _ _ _ _ _ _ _ (mkF m 106 #[.val (.ref a0), .val (.int i1), .val (.int i2), .val (.ref a3), .val (.double d4), .second, .val (.double d5), .second, .val (.double d6), .second, .unset, .unset] [(.double d4), (.ref a0)])
  obtain ⟨T13, h13, X13, e13, W13, st13⟩ := putF X12 hx hZ hown (host := "") (Or.inl (hw _ (List.mem_of_getElem? (i := 31) rfl))) Via.refl e12 F_west_a0 E_a0 (Or.inr ⟨(hw _ (List.mem_of_getElem? (i := 32) rfl)), rfl, hnm⟩) (hw _ (List.mem_of_getElem? (i := 6) rfl)) (ty := .double) (by decide) rfl rfl (g := (mkF m 106 #[.val (.ref a0), .val (.int i1), .val (.int i2), .val (.ref a3), .val (.double d4), .second, .val (.double d5), .second, .val (.double d6), .second, .unset, .unset] [(.double d4), (.ref a0)])) rfl rfl (hb hby d2_106)
  refine Go.on st13 ?_
  replace F_west_a0 := F_west_a0.same W13
  replace E_a0 := E_a0.wr W13
  replace F_columns_a0 := F_columns_a0.other W13 (Or.inr (slot_ne (Or.inr (hw _ (List.mem_of_getElem? (i := 26) rfl))) (Or.inr (hw _ (List.mem_of_getElem? (i := 32) rfl))) (by decide) (t := .int) (t' := .double) (by decide) (by decide)))
  replace F_rows_a0 := F_rows_a0.other W13 (Or.inr (slot_ne (Or.inr (hw _ (List.mem_of_getElem? (i := 28) rfl))) (Or.inr (hw _ (List.mem_of_getElem? (i := 32) rfl))) (by decide) (t := .int) (t' := .double) (by decide) (by decide)))
  replace F_samples_a0 := F_samples_a0.other W13 (Or.inr (slot_ne (Or.inr (hw _ (List.mem_of_getElem? (i := 30) rfl))) (Or.inr (hw _ (List.mem_of_getElem? (i := 32) rfl))) (by decide) (t := (.array .double)) (t' := .double) (by decide) (by decide)))
  replace F_south_a0 := F_south_a0.other W13 (Or.inr (slot_ne (Or.inr (hw _ (List.mem_of_getElem? (i := 34) rfl))) (Or.inr (hw _ (List.mem_of_getElem? (i := 32) rfl))) (by decide) (t := .double) (t' := .double) (by decide) (by decide)))
  replace F_cellSize_a0 := F_cellSize_a0.other W13 (Or.inr (slot_ne (Or.inr (hw _ (List.mem_of_getElem? (i := 36) rfl))) (Or.inr (hw _ (List.mem_of_getElem? (i := 32) rfl))) (by decide) (t := .double) (t' := .double) (by decide) (by decide)))
  replace F_hasMissingCells_a0 := F_hasMissingCells_a0.other W13 (Or.inr (slot_ne (Or.inr (hw _ (List.mem_of_getElem? (i := 41) rfl))) (Or.inr (hw _ (List.mem_of_getElem? (i := 32) rfl))) (by decide) (t := .boolean) (t' := .double) (by decide) (by decide)))
  replace V_a3 := V_a3.other W13 ne_a3_a0
  have N13 := Fr.snoc X13 N12 g_a0
  replace ZZ := Nat.le_trans ZZ (Keep.of_wr W13).1
  replace KP := KP.wr W13 (Or.inl (List.mem_of_getElem? (i := 0) rfl))
  show Go _ _ _ _ _ _ _ _ (mkF m 109 #[.val (.ref a0), .val (.int i1), .val (.int i2), .val (.ref a3), .val (.double d4), .second, .val (.double d5), .second, .val (.double d6), .second, .unset, .unset] [])
  refine Go.on (fun _ k => XS.aloadN X13.here hx rfl (hb hby d2_109) rfl rfl k) ?_
  show Go _ _ _ _ _ _ _ _ (mkF m 110 #[.val (.ref a0), .val (.int i1), .val (.int i2), .val (.ref a3), .val (.double d4), .second, .val (.double d5), .second, .val (.double d6), .second, .unset, .unset] [(.ref a0)])
  refine Go.on (fun _ k => XS.dload X13.here hx rfl (hb hby d2_110) rfl k) ?_
  show Go _ _ _ _ _ _ _ _ (mkF m 112 #[.val (.ref a0), .val (.int i1), .val (.int i2), .val (.ref a3), .val (.double d4), .second, .val (.double d5), .second, .val (.double d6), .second, .unset, .unset] [(.double d5), (.ref a0)])
  obtain ⟨T14, h14, X14, e14, W14, st14⟩ := putF X13 hx hZ hown (host := "") (Or.inl (hw _ (List.mem_of_getElem? (i := 33) rfl))) Via.refl e13 F_south_a0 E_a0 (Or.inr ⟨(hw _ (List.mem_of_getElem? (i := 34) rfl)), rfl, hnm⟩) (hw _ (List.mem_of_getElem? (i := 6) rfl)) (ty := .double) (by decide) rfl rfl (g := (mkF m 112 #[.val (.ref a0), .val (.int i1), .val (.int i2), .val (.ref a3), .val (.double d4), .second, .val (.double d5), .second, .val (.double d6), .second, .unset, .unset] [(.double d5), (.ref a0)])) rfl rfl (hb hby d2_112)
  refine Go.on st14 ?_
  replace F_south_a0 := F_south_a0.same W14
  replace E_a0 := E_a0.wr W14
  replace F_columns_a0 := F_columns_a0.other W14 (Or.inr (slot_ne (Or.inr (hw _ (List.mem_of_getElem? (i := 26) rfl))) (Or.inr (hw _ (List.mem_of_getElem? (i := 34) rfl))) (by decide) (t := .int) (t' := .double) (by decide) (by decide)))
  replace F_rows_a0 := F_rows_a0.other W14 (Or.inr (slot_ne (Or.inr (hw _ (List.mem_of_getElem? (i := 28) rfl))) (Or.inr (hw _ (List.mem_of_getElem? (i := 34) rfl))) (by decide) (t := .int) (t' := .double) (by decide) (by decide)))
  replace F_samples_a0 := F_samples_a0.other W14 (Or.inr (slot_ne (Or.inr (hw _ (List.mem_of_getElem? (i := 30) rfl))) (Or.inr (hw _ (List.mem_of_getElem? (i := 34) rfl))) (by decide) (t := (.array .double)) (t' := .double) (by decide) (by decide)))
  replace F_west_a0 := F_west_a0.other W14 (Or.inr (slot_ne (Or.inr (hw _ (List.mem_of_getElem? (i := 32) rfl))) (Or.inr (hw _ (List.mem_of_getElem? (i := 34) rfl))) (by decide) (t := .double) (t' := .double) (by decide) (by decide)))
  replace F_cellSize_a0 := F_cellSize_a0.other W14 (Or.inr (slot_ne (Or.inr (hw _ (List.mem_of_getElem? (i := 36) rfl))) (Or.inr (hw _ (List.mem_of_getElem? (i := 34) rfl))) (by decide) (t := .double) (t' := .double) (by decide) (by decide)))
  replace F_hasMissingCells_a0 := F_hasMissingCells_a0.other W14 (Or.inr (slot_ne (Or.inr (hw _ (List.mem_of_getElem? (i := 41) rfl))) (Or.inr (hw _ (List.mem_of_getElem? (i := 34) rfl))) (by decide) (t := .boolean) (t' := .double) (by decide) (by decide)))
  replace V_a3 := V_a3.other W14 ne_a3_a0
  have N14 := Fr.snoc X14 N13 g_a0
  replace ZZ := Nat.le_trans ZZ (Keep.of_wr W14).1
  replace KP := KP.wr W14 (Or.inl (List.mem_of_getElem? (i := 0) rfl))
  show Go _ _ _ _ _ _ _ _ (mkF m 115 #[.val (.ref a0), .val (.int i1), .val (.int i2), .val (.ref a3), .val (.double d4), .second, .val (.double d5), .second, .val (.double d6), .second, .unset, .unset] [])
  refine Go.on (fun _ k => XS.aloadN X14.here hx rfl (hb hby d2_115) rfl rfl k) ?_
  show Go _ _ _ _ _ _ _ _ (mkF m 116 #[.val (.ref a0), .val (.int i1), .val (.int i2), .val (.ref a3), .val (.double d4), .second, .val (.double d5), .second, .val (.double d6), .second, .unset, .unset] [(.ref a0)])
  refine Go.on (fun _ k => XS.dload X14.here hx rfl (hb hby d2_116) rfl k) ?_
  show Go _ _ _ _ _ _ _ _ (mkF m 118 #[.val (.ref a0), .val (.int i1), .val (.int i2), .val (.ref a3), .val (.double d4), .second, .val (.double d5), .second, .val (.double d6), .second, .unset, .unset] [(.double d6), (.ref a0)])
  obtain ⟨T15, h15, X15, e15, W15, st15⟩ := putF X14 hx hZ hown (host := "") (Or.inl (hw _ (List.mem_of_getElem? (i := 35) rfl))) Via.refl e14 F_cellSize_a0 E_a0 (Or.inr ⟨(hw _ (List.mem_of_getElem? (i := 36) rfl)), rfl, hnm⟩) (hw _ (List.mem_of_getElem? (i := 6) rfl)) (ty := .double) (by decide) rfl rfl (g := (mkF m 118 #[.val (.ref a0), .val (.int i1), .val (.int i2), .val (.ref a3), .val (.double d4), .second, .val (.double d5), .second, .val (.double d6), .second, .unset, .unset] [(.double d6), (.ref a0)])) rfl rfl (hb hby d2_118)
  refine Go.on st15 ?_
  replace F_cellSize_a0 := F_cellSize_a0.same W15
  replace E_a0 := E_a0.wr W15
  replace F_columns_a0 := F_columns_a0.other W15 (Or.inr (slot_ne (Or.inr (hw _ (List.mem_of_getElem? (i := 26) rfl))) (Or.inr (hw _ (List.mem_of_getElem? (i := 36) rfl))) (by decide) (t := .int) (t' := .double) (by decide) (by decide)))
  replace F_rows_a0 := F_rows_a0.other W15 (Or.inr (slot_ne (Or.inr (hw _ (List.mem_of_getElem? (i := 28) rfl))) (Or.inr (hw _ (List.mem_of_getElem? (i := 36) rfl))) (by decide) (t := .int) (t' := .double) (by decide) (by decide)))
  replace F_samples_a0 := F_samples_a0.other W15 (Or.inr (slot_ne (Or.inr (hw _ (List.mem_of_getElem? (i := 30) rfl))) (Or.inr (hw _ (List.mem_of_getElem? (i := 36) rfl))) (by decide) (t := (.array .double)) (t' := .double) (by decide) (by decide)))
  replace F_west_a0 := F_west_a0.other W15 (Or.inr (slot_ne (Or.inr (hw _ (List.mem_of_getElem? (i := 32) rfl))) (Or.inr (hw _ (List.mem_of_getElem? (i := 36) rfl))) (by decide) (t := .double) (t' := .double) (by decide) (by decide)))
  replace F_south_a0 := F_south_a0.other W15 (Or.inr (slot_ne (Or.inr (hw _ (List.mem_of_getElem? (i := 34) rfl))) (Or.inr (hw _ (List.mem_of_getElem? (i := 36) rfl))) (by decide) (t := .double) (t' := .double) (by decide) (by decide)))
  replace F_hasMissingCells_a0 := F_hasMissingCells_a0.other W15 (Or.inr (slot_ne (Or.inr (hw _ (List.mem_of_getElem? (i := 41) rfl))) (Or.inr (hw _ (List.mem_of_getElem? (i := 36) rfl))) (by decide) (t := .boolean) (t' := .double) (by decide) (by decide)))
  replace V_a3 := V_a3.other W15 ne_a3_a0
  have N15 := Fr.snoc X15 N14 g_a0
  replace ZZ := Nat.le_trans ZZ (Keep.of_wr W15).1
  replace KP := KP.wr W15 (Or.inl (List.mem_of_getElem? (i := 0) rfl))
  show Go _ _ _ _ _ _ _ _ (mkF m 121 #[.val (.ref a0), .val (.int i1), .val (.int i2), .val (.ref a3), .val (.double d4), .second, .val (.double d5), .second, .val (.double d6), .second, .unset, .unset] [])
  refine Go.on (fun _ k => XS.iconst X15.here hx rfl (hb hby d2_121) k) ?_
  show Go _ _ _ _ _ _ _ _ (mkF m 122 #[.val (.ref a0), .val (.int i1), .val (.int i2), .val (.ref a3), .val (.double d4), .second, .val (.double d5), .second, .val (.double d6), .second, .unset, .unset] [(.int (0 : Int32))])
  refine Go.on (fun _ k => XS.istore X15.here hx rfl (hb hby d2_122) rfl (l' := #[.val (.ref a0), .val (.int i1), .val (.int i2), .val (.ref a3), .val (.double d4), .second, .val (.double d5), .second, .val (.double d6), .second, .val (.int (0 : Int32)), .unset]) rfl k) ?_
  show Go _ _ _ _ _ _ _ _ (mkF m 124 #[.val (.ref a0), .val (.int i1), .val (.int i2), .val (.ref a3), .val (.double d4), .second, .val (.double d5), .second, .val (.double d6), .second, .val (.int (0 : Int32)), .unset] [])
  refine Go.on (fun _ k => XS.iconst X15.here hx rfl (hb hby d2_124) k) ?_
  show Go _ _ _ _ _ _ _ _ (mkF m 125 #[.val (.ref a0), .val (.int i1), .val (.int i2), .val (.ref a3), .val (.double d4), .second, .val (.double d5), .second, .val (.double d6), .second, .val (.int (0 : Int32)), .unset] [(.int (0 : Int32))])
  refine Go.on (fun _ k => XS.istore X15.here hx rfl (hb hby d2_125) rfl (l' := #[.val (.ref a0), .val (.int i1), .val (.int i2), .val (.ref a3), .val (.double d4), .second, .val (.double d5), .second, .val (.double d6), .second, .val (.int (0 : Int32)), .val (.int (0 : Int32))]) rfl k) ?_
  show Go _ _ _ _ _ _ _ _ (mkF m 127 #[.val (.ref a0), .val (.int i1), .val (.int i2), .val (.ref a3), .val (.double d4), .second, .val (.double d5), .second, .val (.double d6), .second, .val (.int (0 : Int32)), .val (.int (0 : Int32))] [])
  refine Go.on (fun _ k => XS.iload X15.here hx rfl (hb hby d2_127) rfl k) ?_
  show Go _ _ _ _ _ _ _ _ (mkF m 129 #[.val (.ref a0), .val (.int i1), .val (.int i2), .val (.ref a3), .val (.double d4), .second, .val (.double d5), .second, .val (.double d6), .second, .val (.int (0 : Int32)), .val (.int (0 : Int32))] [(.int (0 : Int32))])
  refine Go.on (fun _ k => XS.aloadN X15.here hx rfl (hb hby d2_129) rfl rfl k) ?_
  show Go _ _ _ _ _ _ _ _ (mkF m 130 #[.val (.ref a0), .val (.int i1), .val (.int i2), .val (.ref a3), .val (.double d4), .second, .val (.double d5), .second, .val (.double d6), .second, .val (.int (0 : Int32)), .val (.int (0 : Int32))] [(.ref a3), (.int (0 : Int32))])
  obtain ⟨cl16, Ar16, -, S16, N16n, -, -⟩ := id V_a3
  refine Go.on (X15.arraylength hx (by rw [e15]; exact Ar16.1) (State.isArrayOf_alike hZ.alike Ar16.2.1) (g := (mkF m 130 #[.val (.ref a0), .val (.int i1), .val (.int i2), .val (.ref a3), .val (.double d4), .second, .val (.double d5), .second, .val (.double d6), .second, .val (.int (0 : Int32)), .val (.int (0 : Int32))] [(.ref a3), (.int (0 : Int32))])) rfl rfl (hb hby d2_130)) ?_
  rw [len_of S16 N16n]
  show Go _ _ _ _ _ _ _ _ (mkF m 131 #[.val (.ref a0), .val (.int i1), .val (.int i2), .val (.ref a3), .val (.double d4), .second, .val (.double d5), .second, .val (.double d6), .second, .val (.int (0 : Int32)), .val (.int (0 : Int32))] [(.int (1 : Int32)), (.int (0 : Int32))])
  have hc17 : (0 : Int32) < (1 : Int32) := by decide
  refine Go.on (fun _ k => XS.icmpNo X15.here hx rfl (hb hby d2_131) rfl (tlt hc17).2.1 k) ?_
  show Go _ _ _ _ _ _ _ _ (mkF m 134 #[.val (.ref a0), .val (.int i1), .val (.int i2), .val (.ref a3), .val (.double d4), .second, .val (.double d5), .second, .val (.double d6), .second, .val (.int (0 : Int32)), .val (.int (0 : Int32))] [])
  refine Go.on (fun _ k => XS.iload X15.here hx rfl (hb hby d2_134) rfl k) ?_
  show Go _ _ _ _ _ _ _ _ (mkF m 136 #[.val (.ref a0), .val (.int i1), .val (.int i2), .val (.ref a3), .val (.double d4), .second, .val (.double d5), .second, .val (.double d6), .second, .val (.int (0 : Int32)), .val (.int (0 : Int32))] [(.int (0 : Int32))])
  have hc18 : (0 : Int32) = (0 : Int32) := by decide
  refine Go.on (fun _ k => XS.ifNo X15.here hx rfl (hb hby d2_136) rfl ((if0 _ _).trans (teq hc18).2) k) ?_
  show Go _ _ _ _ _ _ _ _ (mkF m 139 #[.val (.ref a0), .val (.int i1), .val (.int i2), .val (.ref a3), .val (.double d4), .second, .val (.double d5), .second, .val (.double d6), .second, .val (.int (0 : Int32)), .val (.int (0 : Int32))] [])
  refine Go.on (fun _ k => XS.aloadN X15.here hx rfl (hb hby d2_139) rfl rfl k) ?_
  show Go _ _ _ _ _ _ _ _ (mkF m 140 #[.val (.ref a0), .val (.int i1), .val (.int i2), .val (.ref a3), .val (.double d4), .second, .val (.double d5), .second, .val (.double d6), .second, .val (.int (0 : Int32)), .val (.int (0 : Int32))] [(.ref a3)])
  refine Go.on (fun _ k => XS.iload X15.here hx rfl (hb hby d2_140) rfl k) ?_
  show Go _ _ _ _ _ _ _ _ (mkF m 142 #[.val (.ref a0), .val (.int i1), .val (.int i2), .val (.ref a3), .val (.double d4), .second, .val (.double d5), .second, .val (.double d6), .second, .val (.int (0 : Int32)), .val (.int (0 : Int32))] [(.int (0 : Int32)), (.ref a3)])
  obtain ⟨cl19, Ar19, -, S19, -, H19, -⟩ := id V_a3
  have hin19 : ¬ ((0 : Int32) < 0 ∨ cl19.slots.size ≤ ((0 : Int32)).toNatClampNeg) := inb_of S19 ⟨by decide, by decide⟩
  refine Go.on (X15.daload hx (j := (0 : Int32)) (v := (.double (0 : UInt64))) (by rw [e15]; exact Ar19.1) (State.isArrayOf_alike hZ.alike Ar19.2.1) Ar19.2.2 hin19 (H19.at hin19 (rfl)) (g := (mkF m 142 #[.val (.ref a0), .val (.int i1), .val (.int i2), .val (.ref a3), .val (.double d4), .second, .val (.double d5), .second, .val (.double d6), .second, .val (.int (0 : Int32)), .val (.int (0 : Int32))] [(.int (0 : Int32)), (.ref a3)])) rfl rfl (hb hby d2_142)) ?_
  show Go _ _ _ _ _ _ _ _ (mkF m 143 #[.val (.ref a0), .val (.int i1), .val (.int i2), .val (.ref a3), .val (.double d4), .second, .val (.double d5), .second, .val (.double d6), .second, .val (.int (0 : Int32)), .val (.int (0 : Int32))] [(.double (0 : UInt64))])
  obtain ⟨_, _, ⟨T20, L20, k20, n20⟩, -, X20, ⟨Lc20, hQ20, l20, y20, z20⟩, st20⟩ := Jvm.LawKit.callS X15 hx (y := (⟨"java/lang/Double", "isNaN", "(D)Z"⟩ : MethodName)) hown (mvT hZ (hw _ (List.mem_of_getElem? (i := 37) rfl))) (mvT hZ (hw _ (List.mem_of_getElem? (i := 38) rfl))) (mvT hZ (hw _ (List.mem_of_getElem? (i := 18) rfl))) (mvT hZ (hw _ (List.mem_of_getElem? (i := 39) rfl))) (by decide) (backOf (W := 0) (rm6 l Z aw hw [] (0 : UInt64)  h15 n0 ZZ (by decide +kernel)) hZ (hw _ (List.mem_of_getElem? (i := 39) rfl)) (hw _ (List.mem_of_getElem? (i := 18) rfl)) (by decide) (by decide)) (g := (mkF m 143 #[.val (.ref a0), .val (.int i1), .val (.int i2), .val (.ref a3), .val (.double d4), .second, .val (.double d5), .second, .val (.double d6), .second, .val (.int (0 : Int32)), .val (.int (0 : Int32))] [(.double (0 : UInt64))])) rfl (by rw [hml]; rfl) (argsL := [(.double (0 : UInt64))]) (rest := []) (lenOf pd_1 rfl) rfl (by show 2 * 0 + _ ≤ _; exact Nat.le_of_eq rfl) (hb hby d2_143) (fun _ _ => ⟨rfl, e15, (by decide : 0 + 0 ≤ _), (by decide : 0 + 0 ≤ _)⟩)
  dsimp only [Pt.U, Pt.locs, Pt.cells, Pt.slots] at X20 l20 y20 z20 st20 hQ20
  subst l20 y20 z20
  obtain ⟨rfl, N20q, e20⟩ := hQ20
  have N20 := Fr.app N15 N20q
  refine Go.on st20 ?_
  show Go _ _ _ _ _ _ _ _ (mkF m 146 #[.val (.ref a0), .val (.int i1), .val (.int i2), .val (.ref a3), .val (.double d4), .second, .val (.double d5), .second, .val (.double d6), .second, .val (.int (0 : Int32)), .val (.int (0 : Int32))] [(.int (0 : Int32))])
  refine Go.on (fun _ k => XS.istore X20.here hx rfl (hb hby d2_146) rfl (l' := #[.val (.ref a0), .val (.int i1), .val (.int i2), .val (.ref a3), .val (.double d4), .second, .val (.double d5), .second, .val (.double d6), .second, .val (.int (0 : Int32)), .val (.int (0 : Int32))]) rfl k) ?_
  show Go _ _ _ _ _ _ _ _ (mkF m 148 #[.val (.ref a0), .val (.int i1), .val (.int i2), .val (.ref a3), .val (.double d4), .second, .val (.double d5), .second, .val (.double d6), .second, .val (.int (0 : Int32)), .val (.int (0 : Int32))] [])
  refine Go.on (fun _ k => XS.iinc X20.here hx rfl (hb hby d2_148) rfl (l' := #[.val (.ref a0), .val (.int i1), .val (.int i2), .val (.ref a3), .val (.double d4), .second, .val (.double d5), .second, .val (.double d6), .second, .val (.int (0 : Int32)), .val (.int (1 : Int32))]) rfl k) ?_
  show Go _ _ _ _ _ _ _ _ (mkF m 151 #[.val (.ref a0), .val (.int i1), .val (.int i2), .val (.ref a3), .val (.double d4), .second, .val (.double d5), .second, .val (.double d6), .second, .val (.int (0 : Int32)), .val (.int (1 : Int32))] [])
  refine Go.on (fun _ k => XS.goto X20.here hx rfl (pc0 := 151) (pc' := 127) rfl (hb hby d2_151) (by decide) (by decide) k) ?_
  show Go _ _ _ _ _ _ _ _ (mkF m 127 #[.val (.ref a0), .val (.int i1), .val (.int i2), .val (.ref a3), .val (.double d4), .second, .val (.double d5), .second, .val (.double d6), .second, .val (.int (0 : Int32)), .val (.int (1 : Int32))] [])
  refine Go.on (fun _ k => XS.iload X20.here hx rfl (hb hby d2_127) rfl k) ?_
  show Go _ _ _ _ _ _ _ _ (mkF m 129 #[.val (.ref a0), .val (.int i1), .val (.int i2), .val (.ref a3), .val (.double d4), .second, .val (.double d5), .second, .val (.double d6), .second, .val (.int (0 : Int32)), .val (.int (1 : Int32))] [(.int (1 : Int32))])
  refine Go.on (fun _ k => XS.aloadN X20.here hx rfl (hb hby d2_129) rfl rfl k) ?_
  show Go _ _ _ _ _ _ _ _ (mkF m 130 #[.val (.ref a0), .val (.int i1), .val (.int i2), .val (.ref a3), .val (.double d4), .second, .val (.double d5), .second, .val (.double d6), .second, .val (.int (0 : Int32)), .val (.int (1 : Int32))] [(.ref a3), (.int (1 : Int32))])
  obtain ⟨cl21, Ar21, -, S21, N21n, -, -⟩ := id V_a3
  refine Go.on (X20.arraylength hx (by rw [e20]; exact Ar21.1) (State.isArrayOf_alike hZ.alike Ar21.2.1) (g := (mkF m 130 #[.val (.ref a0), .val (.int i1), .val (.int i2), .val (.ref a3), .val (.double d4), .second, .val (.double d5), .second, .val (.double d6), .second, .val (.int (0 : Int32)), .val (.int (1 : Int32))] [(.ref a3), (.int (1 : Int32))])) rfl rfl (hb hby d2_130)) ?_
  rw [len_of S21 N21n]
  show Go _ _ _ _ _ _ _ _ (mkF m 131 #[.val (.ref a0), .val (.int i1), .val (.int i2), .val (.ref a3), .val (.double d4), .second, .val (.double d5), .second, .val (.double d6), .second, .val (.int (0 : Int32)), .val (.int (1 : Int32))] [(.int (1 : Int32)), (.int (1 : Int32))])
  have hc22 : ¬ ((1 : Int32) < (1 : Int32)) := by decide
  refine Go.on (fun _ k => XS.icmpYes X20.here hx rfl (pc0 := 131) (pc' := 154) rfl (hb hby d2_131) rfl (flt hc22).2.1 (by decide) (by decide) k) ?_
  show Go _ _ _ _ _ _ _ _ (mkF m 154 #[.val (.ref a0), .val (.int i1), .val (.int i2), .val (.ref a3), .val (.double d4), .second, .val (.double d5), .second, .val (.double d6), .second, .val (.int (0 : Int32)), .val (.int (1 : Int32))] [])
  refine Go.on (fun _ k => XS.aloadN X20.here hx rfl (hb hby d2_154) rfl rfl k) ?_
  show Go _ _ _ _ _ _ _ _ (mkF m 155 #[.val (.ref a0), .val (.int i1), .val (.int i2), .val (.ref a3), .val (.double d4), .second, .val (.double d5), .second, .val (.double d6), .second, .val (.int (0 : Int32)), .val (.int (1 : Int32))] [(.ref a0)])
  refine Go.on (fun _ k => XS.iload X20.here hx rfl (hb hby d2_155) rfl k) ?_
  show Go _ _ _ _ _ _ _ _ (mkF m 157 #[.val (.ref a0), .val (.int i1), .val (.int i2), .val (.ref a3), .val (.double d4), .second, .val (.double d5), .second, .val (.double d6), .second, .val (.int (0 : Int32)), .val (.int (1 : Int32))] [(.int (0 : Int32)), (.ref a0)])
  obtain ⟨T23, h23, X23, e23, W23, st23⟩ := putFN X20 hx hZ hown (hw _ (List.mem_of_getElem? (i := 40) rfl)) Via.refl e20 F_hasMissingCells_a0 E_a0 (Or.inr ⟨(hw _ (List.mem_of_getElem? (i := 41) rfl)), rfl, hnm⟩) (hw _ (List.mem_of_getElem? (i := 6) rfl)) (ty := .boolean) (v' := (.int (0 : Int32))) (by decide) rfl (by decide) (g := (mkF m 157 #[.val (.ref a0), .val (.int i1), .val (.int i2), .val (.ref a3), .val (.double d4), .second, .val (.double d5), .second, .val (.double d6), .second, .val (.int (0 : Int32)), .val (.int (1 : Int32))] [(.int (0 : Int32)), (.ref a0)])) rfl rfl (hb hby d2_157)
  refine Go.on st23 ?_
  replace F_hasMissingCells_a0 := F_hasMissingCells_a0.same W23
  replace E_a0 := E_a0.wr W23
  replace F_columns_a0 := F_columns_a0.other W23 (Or.inr (slot_ne (Or.inr (hw _ (List.mem_of_getElem? (i := 26) rfl))) (Or.inr (hw _ (List.mem_of_getElem? (i := 41) rfl))) (by decide) (t := .int) (t' := .boolean) (by decide) (by decide)))
  replace F_rows_a0 := F_rows_a0.other W23 (Or.inr (slot_ne (Or.inr (hw _ (List.mem_of_getElem? (i := 28) rfl))) (Or.inr (hw _ (List.mem_of_getElem? (i := 41) rfl))) (by decide) (t := .int) (t' := .boolean) (by decide) (by decide)))
  replace F_samples_a0 := F_samples_a0.other W23 (Or.inr (slot_ne (Or.inr (hw _ (List.mem_of_getElem? (i := 30) rfl))) (Or.inr (hw _ (List.mem_of_getElem? (i := 41) rfl))) (by decide) (t := (.array .double)) (t' := .boolean) (by decide) (by decide)))
  replace F_west_a0 := F_west_a0.other W23 (Or.inr (slot_ne (Or.inr (hw _ (List.mem_of_getElem? (i := 32) rfl))) (Or.inr (hw _ (List.mem_of_getElem? (i := 41) rfl))) (by decide) (t := .double) (t' := .boolean) (by decide) (by decide)))
  replace F_south_a0 := F_south_a0.other W23 (Or.inr (slot_ne (Or.inr (hw _ (List.mem_of_getElem? (i := 34) rfl))) (Or.inr (hw _ (List.mem_of_getElem? (i := 41) rfl))) (by decide) (t := .double) (t' := .boolean) (by decide) (by decide)))
  replace F_cellSize_a0 := F_cellSize_a0.other W23 (Or.inr (slot_ne (Or.inr (hw _ (List.mem_of_getElem? (i := 36) rfl))) (Or.inr (hw _ (List.mem_of_getElem? (i := 41) rfl))) (by decide) (t := .double) (t' := .boolean) (by decide) (by decide)))
  replace V_a3 := V_a3.other W23 ne_a3_a0
  have N23 := Fr.snoc X23 N20 g_a0
  replace ZZ := Nat.le_trans ZZ (Keep.of_wr W23).1
  replace KP := KP.wr W23 (Or.inl (List.mem_of_getElem? (i := 0) rfl))
  show Go _ _ _ _ _ _ _ _ (mkF m 160 #[.val (.ref a0), .val (.int i1), .val (.int i2), .val (.ref a3), .val (.double d4), .second, .val (.double d5), .second, .val (.double d6), .second, .val (.int (0 : Int32)), .val (.int (1 : Int32))] [])
  refine Go.ret0 X23 hx Bd.returns (hb hby d2_160) ?_ (by rw [hK1]; decide) (by rw [hK2]; decide)
  rw [e23, ← hQQ]
  exact ⟨rfl, N23, KP, E_a0, F_columns_a0, F_rows_a0, F_west_a0, F_south_a0, F_cellSize_a0⟩
theorem d7_0 : decode prog_16_method_9_code 0 = .ok (.dload_n 1, 1) := by decide +kernel
theorem d7_1 : decode prog_16_method_9_code 1 = .ok (.aload_n 0, 1) := by decide +kernel
theorem d7_2 : decode prog_16_method_9_code 2 = .ok (.getfield 49, 3) := by decide +kernel
theorem d7_5 : decode prog_16_method_9_code 5 = .ok (.dsub, 1) := by decide +kernel
theorem d7_6 : decode prog_16_method_9_code 6 = .ok (.aload_n 0, 1) := by decide +kernel
theorem d7_7 : decode prog_16_method_9_code 7 = .ok (.getfield 56, 3) := by decide +kernel
theorem d7_10 : decode prog_16_method_9_code 10 = .ok (.ddiv, 1) := by decide +kernel
theorem d7_11 : decode prog_16_method_9_code 11 = .ok (.dstore 5, 2) := by decide +kernel
theorem d7_13 : decode prog_16_method_9_code 13 = .ok (.dload_n 3, 1) := by decide +kernel
theorem d7_14 : decode prog_16_method_9_code 14 = .ok (.aload_n 0, 1) := by decide +kernel
theorem d7_15 : decode prog_16_method_9_code 15 = .ok (.getfield 53, 3) := by decide +kernel
theorem d7_18 : decode prog_16_method_9_code 18 = .ok (.dsub, 1) := by decide +kernel
theorem d7_19 : decode prog_16_method_9_code 19 = .ok (.aload_n 0, 1) := by decide +kernel
theorem d7_20 : decode prog_16_method_9_code 20 = .ok (.getfield 56, 3) := by decide +kernel
theorem d7_23 : decode prog_16_method_9_code 23 = .ok (.ddiv, 1) := by decide +kernel
theorem d7_24 : decode prog_16_method_9_code 24 = .ok (.dstore 7, 2) := by decide +kernel
theorem d7_26 : decode prog_16_method_9_code 26 = .ok (.dload 5, 2) := by decide +kernel
theorem d7_28 : decode prog_16_method_9_code 28 = .ok (.dconst 0, 1) := by decide +kernel
theorem d7_29 : decode prog_16_method_9_code 29 = .ok (.dcmp .l, 1) := by decide +kernel
theorem d7_30 : decode prog_16_method_9_code 30 = .ok (.ifCond .lt 36, 3) := by decide +kernel
theorem d7_33 : decode prog_16_method_9_code 33 = .ok (.dload 5, 2) := by decide +kernel
theorem d7_35 : decode prog_16_method_9_code 35 = .ok (.aload_n 0, 1) := by decide +kernel
theorem d7_36 : decode prog_16_method_9_code 36 = .ok (.getfield 38, 3) := by decide +kernel
theorem d7_39 : decode prog_16_method_9_code 39 = .ok (.i2d, 1) := by decide +kernel
theorem d7_40 : decode prog_16_method_9_code 40 = .ok (.dcmp .g, 1) := by decide +kernel
theorem d7_41 : decode prog_16_method_9_code 41 = .ok (.ifCond .gt 25, 3) := by decide +kernel
theorem d7_44 : decode prog_16_method_9_code 44 = .ok (.dload 7, 2) := by decide +kernel
theorem d7_46 : decode prog_16_method_9_code 46 = .ok (.dconst 0, 1) := by decide +kernel
theorem d7_47 : decode prog_16_method_9_code 47 = .ok (.dcmp .l, 1) := by decide +kernel
theorem d7_48 : decode prog_16_method_9_code 48 = .ok (.ifCond .lt 18, 3) := by decide +kernel
theorem d7_51 : decode prog_16_method_9_code 51 = .ok (.dload 7, 2) := by decide +kernel
theorem d7_53 : decode prog_16_method_9_code 53 = .ok (.aload_n 0, 1) := by decide +kernel
theorem d7_54 : decode prog_16_method_9_code 54 = .ok (.getfield 42, 3) := by decide +kernel
theorem d7_57 : decode prog_16_method_9_code 57 = .ok (.i2d, 1) := by decide +kernel
theorem d7_58 : decode prog_16_method_9_code 58 = .ok (.dcmp .g, 1) := by decide +kernel
theorem d7_59 : decode prog_16_method_9_code 59 = .ok (.ifCond .gt 7, 3) := by decide +kernel
theorem d7_62 : decode prog_16_method_9_code 62 = .ok (.iconst 1, 1) := by decide +kernel
theorem d7_63 : decode prog_16_method_9_code 63 = .ok (.goto 4, 3) := by decide +kernel
theorem d7_66 : decode prog_16_method_9_code 66 = .ok (.iconst 0, 1) := by decide +kernel
theorem d7_67 : decode prog_16_method_9_code 67 = .ok (.ireturn, 1) := by decide +kernel
theorem ef_rm7 (m : MethodId) (a0 : Addr) (d1 : UInt64) (d2 : UInt64) : entryFrame m #[(.ref a0), (.double d1), (.double d2)] 9 = mkF m 0 #[.val (.ref a0), .val (.double d1), .second, .val (.double d2), .second, .unset, .unset, .unset, .unset] [] := by first | (simp [entryFrame, mkF, argsToLocals, Value.category]; done) | rfl
def Q_rm7 (Z : State) (a0 : Addr) (d1 : UInt64) (d2 : UInt64) (we : UInt64) (cz : UInt64) (so : UInt64) (ci : Int32) (ri : Int32) (h0 : Heap) (n0 : Nat) (v : Option Value) (h : Heap) (L : List Loc) : Prop := v = some (.int (coversV (FP.ddiv (FP.dsub d1 we) cz) (FP.ddiv (FP.dsub d2 so) cz) ci ri)) ∧ Fr n0 L ∧ h = h0
set_option maxRecDepth 65536 in
set_option maxHeartbeats 40000000 in
theorem rm7 (l : Launch) (Z : State) (aw : Array Value) (hw : ∀ d ∈ tables_1, d.before aw Z = true) (ws : List Jvm.Cond) (a0 : Addr) (d1 : UInt64) (d2 : UInt64) (we : UInt64) (cz : UInt64) (so : UInt64) (ci : Int32) (ri : Int32) (h0 : Heap) (n0 : Nat) (Z0 : n0 ≤ h0.size) (F_west_a0 : Fld Z h0 a0 "hermitage/Grid" "west" "D" (.double we)) (F_cellSize_a0 : Fld Z h0 a0 "hermitage/Grid" "cellSize" "D" (.double cz)) (F_south_a0 : Fld Z h0 a0 "hermitage/Grid" "south" "D" (.double so)) (F_columns_a0 : Fld Z h0 a0 "hermitage/Grid" "columns" "I" (.int ci)) (F_rows_a0 : Fld Z h0 a0 "hermitage/Grid" "rows" "I" (.int ri)) (hn0 : Jvm.Free.Fl.NoNaN64 (FP.dsub d1 we)) (hn1 : Jvm.Free.Fl.NoNaN64 (FP.ddiv (FP.dsub d1 we) cz)) (hn2 : Jvm.Free.Fl.NoNaN64 (FP.dsub d2 so)) (hn3 : Jvm.Free.Fl.NoNaN64 (FP.ddiv (FP.dsub d2 so) cz)) :
    MetFree l (⟨"hermitage/Grid", "covers", "(DD)Z"⟩ : MethodName) (head1 (Jvm.Cond.code (⟨"hermitage/Grid", "covers", "(DD)Z"⟩ : MethodName) prog_16_method_9_code 9 (some .boolean) :: ws) ({ frames := 0, cells := 0, slots := 0, locals := 0 } : Room)) (fun a U => a = #[(.ref a0), (.double d1), (.double d2)] ∧ Z.Warmed39 U.vm ∧ U.heap = h0) (fun _ _ _ _ _ => True) (fun _ U o U' => ∃ v L, o = .returned v ∧ Q_rm7 Z a0 d1 d2 we cz so ci ri h0 n0 v U'.heap L ∧ FrameEnd U o U' L ({ frames := 0, cells := 0, slots := 0, locals := 0 } : Room).cells ({ frames := 0, cells := 0, slots := 0, locals := 0 } : Room).slots) := by
  refine MetFree.of_bodySF (plainFor_of_name pn_1) hisR ?_
  intro p e s m args below meth c s₁ Bd hml0 hP hK
  obtain ⟨rfl, hZ, hh⟩ := hP
  have hx := Bd.exec
  have hby := Bd.bytes
  have hml : c.maxLocals = 9 := hml0
  have hown : s.vm.findClass "hermitage/Grid" = some m.cls := findClass_of_methodNamed Bd.named
  have hnm := (name_of_methodNamed Bd.named Bd.method).1
  have hlk : meth.locks = false := BodyLoose.notSynchronized Bd
  have X0 : Stand p l e ({ frames := 0, cells := 0, slots := 0, locals := 0 } : Room) s m #[(.ref a0), (.double d1), (.double d2)] below meth c s₁ [] 0 0 := Stand.of_body Bd
  have e0 : s₁.heap = h0 := by rw [← hh, Bd.state]; rfl
  have N0 := Fr.nil n0
  have ZZ := Z0
  show Go p e below s ({ frames := 0, cells := 0, slots := 0, locals := 0 } : Room).cells ({ frames := 0, cells := 0, slots := 0, locals := 0 } : Room).slots (fun v h L => Q_rm7 Z a0 d1 d2 we cz so ci ri h0 n0 v h L) s₁ (entryFrame m #[(.ref a0), (.double d1), (.double d2)] 9)
  refine Go.cast (ef_rm7 m a0 d1 d2) ?_
  refine Go.gen ?_
  intro K1 K2 QQ hK1 hK2 hQQ
  refine Go.on (fun _ k => XS.dloadN X0.here hx rfl (hb hby d7_0) rfl k) ?_
  show Go _ _ _ _ _ _ _ _ (mkF m 1 #[.val (.ref a0), .val (.double d1), .second, .val (.double d2), .second, .unset, .unset, .unset, .unset] [(.double d1)])
  refine Go.on (fun _ k => XS.aloadN X0.here hx rfl (hb hby d7_1) rfl rfl k) ?_
  show Go _ _ _ _ _ _ _ _ (mkF m 2 #[.val (.ref a0), .val (.double d1), .second, .val (.double d2), .second, .unset, .unset, .unset, .unset] [(.ref a0), (.double d1)])
  obtain ⟨T1, X1, e1, st1⟩ := getF X0 hx hZ hown (host := "") (Or.inl (hw _ (List.mem_of_getElem? (i := 31) rfl))) Via.refl e0 F_west_a0 (g := (mkF m 2 #[.val (.ref a0), .val (.double d1), .second, .val (.double d2), .second, .unset, .unset, .unset, .unset] [(.ref a0), (.double d1)])) rfl rfl (hb hby d7_2)
  refine Go.on st1 ?_
  show Go _ _ _ _ _ _ _ _ (mkF m 5 #[.val (.ref a0), .val (.double d1), .second, .val (.double d2), .second, .unset, .unset, .unset, .unset] [(.double we), (.double d1)])
  refine Go.on (fun _ k => XS.dsubS X1.here hx rfl (hb hby d7_5) rfl (hn0) rfl k) ?_
  show Go _ _ _ _ _ _ _ _ (mkF m 6 #[.val (.ref a0), .val (.double d1), .second, .val (.double d2), .second, .unset, .unset, .unset, .unset] [(.double (FP.dsub d1 we))])
  refine Go.on (fun _ k => XS.aloadN X1.here hx rfl (hb hby d7_6) rfl rfl k) ?_
  show Go _ _ _ _ _ _ _ _ (mkF m 7 #[.val (.ref a0), .val (.double d1), .second, .val (.double d2), .second, .unset, .unset, .unset, .unset] [(.ref a0), (.double (FP.dsub d1 we))])
  obtain ⟨T2, X2, e2, st2⟩ := getF X1 hx hZ hown (host := "") (Or.inl (hw _ (List.mem_of_getElem? (i := 35) rfl))) Via.refl e1 F_cellSize_a0 (g := (mkF m 7 #[.val (.ref a0), .val (.double d1), .second, .val (.double d2), .second, .unset, .unset, .unset, .unset] [(.ref a0), (.double (FP.dsub d1 we))])) rfl rfl (hb hby d7_7)
  refine Go.on st2 ?_
  show Go _ _ _ _ _ _ _ _ (mkF m 10 #[.val (.ref a0), .val (.double d1), .second, .val (.double d2), .second, .unset, .unset, .unset, .unset] [(.double cz), (.double (FP.dsub d1 we))])
  refine Go.on (fun _ k => XS.ddivS X2.here hx rfl (hb hby d7_10) rfl (hn1) rfl k) ?_
  show Go _ _ _ _ _ _ _ _ (mkF m 11 #[.val (.ref a0), .val (.double d1), .second, .val (.double d2), .second, .unset, .unset, .unset, .unset] [(.double (FP.ddiv (FP.dsub d1 we) cz))])
  refine Go.on (fun _ k => XS.dstore X2.here hx rfl (hb hby d7_11) rfl (l' := #[.val (.ref a0), .val (.double d1), .second, .val (.double d2), .second, .val (.double (FP.ddiv (FP.dsub d1 we) cz)), .second, .unset, .unset]) rfl k) ?_
  show Go _ _ _ _ _ _ _ _ (mkF m 13 #[.val (.ref a0), .val (.double d1), .second, .val (.double d2), .second, .val (.double (FP.ddiv (FP.dsub d1 we) cz)), .second, .unset, .unset] [])
  refine Go.on (fun _ k => XS.dloadN X2.here hx rfl (hb hby d7_13) rfl k) ?_
  show Go _ _ _ _ _ _ _ _ (mkF m 14 #[.val (.ref a0), .val (.double d1), .second, .val (.double d2), .second, .val (.double (FP.ddiv (FP.dsub d1 we) cz)), .second, .unset, .unset] [(.double d2)])
  refine Go.on (fun _ k => XS.aloadN X2.here hx rfl (hb hby d7_14) rfl rfl k) ?_
  show Go _ _ _ _ _ _ _ _ (mkF m 15 #[.val (.ref a0), .val (.double d1), .second, .val (.double d2), .second, .val (.double (FP.ddiv (FP.dsub d1 we) cz)), .second, .unset, .unset] [(.ref a0), (.double d2)])
  obtain ⟨T3, X3, e3, st3⟩ := getF X2 hx hZ hown (host := "") (Or.inl (hw _ (List.mem_of_getElem? (i := 33) rfl))) Via.refl e2 F_south_a0 (g := (mkF m 15 #[.val (.ref a0), .val (.double d1), .second, .val (.double d2), .second, .val (.double (FP.ddiv (FP.dsub d1 we) cz)), .second, .unset, .unset] [(.ref a0), (.double d2)])) rfl rfl (hb hby d7_15)
  refine Go.on st3 ?_
  show Go _ _ _ _ _ _ _ _ (mkF m 18 #[.val (.ref a0), .val (.double d1), .second, .val (.double d2), .second, .val (.double (FP.ddiv (FP.dsub d1 we) cz)), .second, .unset, .unset] [(.double so), (.double d2)])
  refine Go.on (fun _ k => XS.dsubS X3.here hx rfl (hb hby d7_18) rfl (hn2) rfl k) ?_
  show Go _ _ _ _ _ _ _ _ (mkF m 19 #[.val (.ref a0), .val (.double d1), .second, .val (.double d2), .second, .val (.double (FP.ddiv (FP.dsub d1 we) cz)), .second, .unset, .unset] [(.double (FP.dsub d2 so))])
  refine Go.on (fun _ k => XS.aloadN X3.here hx rfl (hb hby d7_19) rfl rfl k) ?_
  show Go _ _ _ _ _ _ _ _ (mkF m 20 #[.val (.ref a0), .val (.double d1), .second, .val (.double d2), .second, .val (.double (FP.ddiv (FP.dsub d1 we) cz)), .second, .unset, .unset] [(.ref a0), (.double (FP.dsub d2 so))])
  obtain ⟨T4, X4, e4, st4⟩ := getF X3 hx hZ hown (host := "") (Or.inl (hw _ (List.mem_of_getElem? (i := 35) rfl))) Via.refl e3 F_cellSize_a0 (g := (mkF m 20 #[.val (.ref a0), .val (.double d1), .second, .val (.double d2), .second, .val (.double (FP.ddiv (FP.dsub d1 we) cz)), .second, .unset, .unset] [(.ref a0), (.double (FP.dsub d2 so))])) rfl rfl (hb hby d7_20)
  refine Go.on st4 ?_
  show Go _ _ _ _ _ _ _ _ (mkF m 23 #[.val (.ref a0), .val (.double d1), .second, .val (.double d2), .second, .val (.double (FP.ddiv (FP.dsub d1 we) cz)), .second, .unset, .unset] [(.double cz), (.double (FP.dsub d2 so))])
  refine Go.on (fun _ k => XS.ddivS X4.here hx rfl (hb hby d7_23) rfl (hn3) rfl k) ?_
  show Go _ _ _ _ _ _ _ _ (mkF m 24 #[.val (.ref a0), .val (.double d1), .second, .val (.double d2), .second, .val (.double (FP.ddiv (FP.dsub d1 we) cz)), .second, .unset, .unset] [(.double (FP.ddiv (FP.dsub d2 so) cz))])
  refine Go.on (fun _ k => XS.dstore X4.here hx rfl (hb hby d7_24) rfl (l' := #[.val (.ref a0), .val (.double d1), .second, .val (.double d2), .second, .val (.double (FP.ddiv (FP.dsub d1 we) cz)), .second, .val (.double (FP.ddiv (FP.dsub d2 so) cz)), .second]) rfl k) ?_
  show Go _ _ _ _ _ _ _ _ (mkF m 26 #[.val (.ref a0), .val (.double d1), .second, .val (.double d2), .second, .val (.double (FP.ddiv (FP.dsub d1 we) cz)), .second, .val (.double (FP.ddiv (FP.dsub d2 so) cz)), .second] [])
  refine Go.on (fun _ k => XS.dload X4.here hx rfl (hb hby d7_26) rfl k) ?_
  show Go _ _ _ _ _ _ _ _ (mkF m 28 #[.val (.ref a0), .val (.double d1), .second, .val (.double d2), .second, .val (.double (FP.ddiv (FP.dsub d1 we) cz)), .second, .val (.double (FP.ddiv (FP.dsub d2 so) cz)), .second] [(.double (FP.ddiv (FP.dsub d1 we) cz))])
  refine Go.on (fun _ k => XS.dconst0 X4.here hx rfl (v := (0 : UInt64)) (hb hby d7_28) rfl k) ?_
  show Go _ _ _ _ _ _ _ _ (mkF m 29 #[.val (.ref a0), .val (.double d1), .second, .val (.double d2), .second, .val (.double (FP.ddiv (FP.dsub d1 we) cz)), .second, .val (.double (FP.ddiv (FP.dsub d2 so) cz)), .second] [(.double (0 : UInt64)), (.double (FP.ddiv (FP.dsub d1 we) cz))])
  refine Go.on (fun _ k => XS.dcmpS X4.here hx rfl (hb hby d7_29) rfl rfl k) ?_
  show Go _ _ _ _ _ _ _ _ (mkF m 30 #[.val (.ref a0), .val (.double d1), .second, .val (.double d2), .second, .val (.double (FP.ddiv (FP.dsub d1 we) cz)), .second, .val (.double (FP.ddiv (FP.dsub d2 so) cz)), .second] [(.int (cmpValue (FP.dcmp (FP.ddiv (FP.dsub d1 we) cz) (0 : UInt64)) .l))])
  by_cases hc5 : (cmpValue (FP.dcmp (FP.ddiv (FP.dsub d1 we) cz) (0 : UInt64)) .l) < (0 : Int32)
  · -- pc 30 yes
    refine Go.on (fun _ k => XS.ifYes X4.here hx rfl (pc0 := 30) (pc' := 66) rfl (hb hby d7_30) rfl ((if0 _ _).trans (tlt hc5).1) (by decide) (by decide) k) ?_
    show Go _ _ _ _ _ _ _ _ (mkF m 66 #[.val (.ref a0), .val (.double d1), .second, .val (.double d2), .second, .val (.double (FP.ddiv (FP.dsub d1 we) cz)), .second, .val (.double (FP.ddiv (FP.dsub d2 so) cz)), .second] [])
    refine Go.on (fun _ k => XS.iconst X4.here hx rfl (hb hby d7_66) k) ?_
    show Go _ _ _ _ _ _ _ _ (mkF m 67 #[.val (.ref a0), .val (.double d1), .second, .val (.double d2), .second, .val (.double (FP.ddiv (FP.dsub d1 we) cz)), .second, .val (.double (FP.ddiv (FP.dsub d2 so) cz)), .second] [(.int (0 : Int32))])
    refine Go.retN X4 hx (t := .boolean) Bd.returns (by simp) (hb hby d7_67) ?_ (by rw [hK1]; decide) (by rw [hK2]; decide)
    rw [e4, ← hQQ]
    refine ⟨?_, N0, rfl⟩
    unfold coversV
    rw [if_pos hc5]; rfl
  · -- pc 30 no
    refine Go.on (fun _ k => XS.ifNo X4.here hx rfl (hb hby d7_30) rfl ((if0 _ _).trans (flt hc5).1) k) ?_
    show Go _ _ _ _ _ _ _ _ (mkF m 33 #[.val (.ref a0), .val (.double d1), .second, .val (.double d2), .second, .val (.double (FP.ddiv (FP.dsub d1 we) cz)), .second, .val (.double (FP.ddiv (FP.dsub d2 so) cz)), .second] [])
    refine Go.on (fun _ k => XS.dload X4.here hx rfl (hb hby d7_33) rfl k) ?_
    show Go _ _ _ _ _ _ _ _ (mkF m 35 #[.val (.ref a0), .val (.double d1), .second, .val (.double d2), .second, .val (.double (FP.ddiv (FP.dsub d1 we) cz)), .second, .val (.double (FP.ddiv (FP.dsub d2 so) cz)), .second] [(.double (FP.ddiv (FP.dsub d1 we) cz))])
    refine Go.on (fun _ k => XS.aloadN X4.here hx rfl (hb hby d7_35) rfl rfl k) ?_
    show Go _ _ _ _ _ _ _ _ (mkF m 36 #[.val (.ref a0), .val (.double d1), .second, .val (.double d2), .second, .val (.double (FP.ddiv (FP.dsub d1 we) cz)), .second, .val (.double (FP.ddiv (FP.dsub d2 so) cz)), .second] [(.ref a0), (.double (FP.ddiv (FP.dsub d1 we) cz))])
    obtain ⟨T6, X6, e6, st6⟩ := getF X4 hx hZ hown (host := "") (Or.inl (hw _ (List.mem_of_getElem? (i := 25) rfl))) Via.refl e4 F_columns_a0 (g := (mkF m 36 #[.val (.ref a0), .val (.double d1), .second, .val (.double d2), .second, .val (.double (FP.ddiv (FP.dsub d1 we) cz)), .second, .val (.double (FP.ddiv (FP.dsub d2 so) cz)), .second] [(.ref a0), (.double (FP.ddiv (FP.dsub d1 we) cz))])) rfl rfl (hb hby d7_36)
    refine Go.on st6 ?_
    show Go _ _ _ _ _ _ _ _ (mkF m 39 #[.val (.ref a0), .val (.double d1), .second, .val (.double d2), .second, .val (.double (FP.ddiv (FP.dsub d1 we) cz)), .second, .val (.double (FP.ddiv (FP.dsub d2 so) cz)), .second] [(.int ci), (.double (FP.ddiv (FP.dsub d1 we) cz))])
    refine Go.on (fun _ k => XS.i2dS X6.here hx rfl (hb hby d7_39) rfl rfl k) ?_
    show Go _ _ _ _ _ _ _ _ (mkF m 40 #[.val (.ref a0), .val (.double d1), .second, .val (.double d2), .second, .val (.double (FP.ddiv (FP.dsub d1 we) cz)), .second, .val (.double (FP.ddiv (FP.dsub d2 so) cz)), .second] [(.double (FP.i2d ci)), (.double (FP.ddiv (FP.dsub d1 we) cz))])
    refine Go.on (fun _ k => XS.dcmpS X6.here hx rfl (hb hby d7_40) rfl rfl k) ?_
    show Go _ _ _ _ _ _ _ _ (mkF m 41 #[.val (.ref a0), .val (.double d1), .second, .val (.double d2), .second, .val (.double (FP.ddiv (FP.dsub d1 we) cz)), .second, .val (.double (FP.ddiv (FP.dsub d2 so) cz)), .second] [(.int (cmpValue (FP.dcmp (FP.ddiv (FP.dsub d1 we) cz) (FP.i2d ci)) .g))])
    by_cases hc7 : (0 : Int32) < (cmpValue (FP.dcmp (FP.ddiv (FP.dsub d1 we) cz) (FP.i2d ci)) .g)
    · -- pc 41 yes
      refine Go.on (fun _ k => XS.ifYes X6.here hx rfl (pc0 := 41) (pc' := 66) rfl (hb hby d7_41) rfl ((if0 _ _).trans (tlt hc7).2.2.1) (by decide) (by decide) k) ?_
      show Go _ _ _ _ _ _ _ _ (mkF m 66 #[.val (.ref a0), .val (.double d1), .second, .val (.double d2), .second, .val (.double (FP.ddiv (FP.dsub d1 we) cz)), .second, .val (.double (FP.ddiv (FP.dsub d2 so) cz)), .second] [])
      refine Go.on (fun _ k => XS.iconst X6.here hx rfl (hb hby d7_66) k) ?_
      show Go _ _ _ _ _ _ _ _ (mkF m 67 #[.val (.ref a0), .val (.double d1), .second, .val (.double d2), .second, .val (.double (FP.ddiv (FP.dsub d1 we) cz)), .second, .val (.double (FP.ddiv (FP.dsub d2 so) cz)), .second] [(.int (0 : Int32))])
      refine Go.retN X6 hx (t := .boolean) Bd.returns (by simp) (hb hby d7_67) ?_ (by rw [hK1]; decide) (by rw [hK2]; decide)
      rw [e6, ← hQQ]
      refine ⟨?_, N0, rfl⟩
      unfold coversV
      rw [if_neg hc5, if_pos hc7]; rfl
    · -- pc 41 no
      refine Go.on (fun _ k => XS.ifNo X6.here hx rfl (hb hby d7_41) rfl ((if0 _ _).trans (flt hc7).2.2.1) k) ?_
      show Go _ _ _ _ _ _ _ _ (mkF m 44 #[.val (.ref a0), .val (.double d1), .second, .val (.double d2), .second, .val (.double (FP.ddiv (FP.dsub d1 we) cz)), .second, .val (.double (FP.ddiv (FP.dsub d2 so) cz)), .second] [])
      refine Go.on (fun _ k => XS.dload X6.here hx rfl (hb hby d7_44) rfl k) ?_
      show Go _ _ _ _ _ _ _ _ (mkF m 46 #[.val (.ref a0), .val (.double d1), .second, .val (.double d2), .second, .val (.double (FP.ddiv (FP.dsub d1 we) cz)), .second, .val (.double (FP.ddiv (FP.dsub d2 so) cz)), .second] [(.double (FP.ddiv (FP.dsub d2 so) cz))])
      refine Go.on (fun _ k => XS.dconst0 X6.here hx rfl (v := (0 : UInt64)) (hb hby d7_46) rfl k) ?_
      show Go _ _ _ _ _ _ _ _ (mkF m 47 #[.val (.ref a0), .val (.double d1), .second, .val (.double d2), .second, .val (.double (FP.ddiv (FP.dsub d1 we) cz)), .second, .val (.double (FP.ddiv (FP.dsub d2 so) cz)), .second] [(.double (0 : UInt64)), (.double (FP.ddiv (FP.dsub d2 so) cz))])
      refine Go.on (fun _ k => XS.dcmpS X6.here hx rfl (hb hby d7_47) rfl rfl k) ?_
      show Go _ _ _ _ _ _ _ _ (mkF m 48 #[.val (.ref a0), .val (.double d1), .second, .val (.double d2), .second, .val (.double (FP.ddiv (FP.dsub d1 we) cz)), .second, .val (.double (FP.ddiv (FP.dsub d2 so) cz)), .second] [(.int (cmpValue (FP.dcmp (FP.ddiv (FP.dsub d2 so) cz) (0 : UInt64)) .l))])
      by_cases hc8 : (cmpValue (FP.dcmp (FP.ddiv (FP.dsub d2 so) cz) (0 : UInt64)) .l) < (0 : Int32)
      · -- pc 48 yes
        refine Go.on (fun _ k => XS.ifYes X6.here hx rfl (pc0 := 48) (pc' := 66) rfl (hb hby d7_48) rfl ((if0 _ _).trans (tlt hc8).1) (by decide) (by decide) k) ?_
        show Go _ _ _ _ _ _ _ _ (mkF m 66 #[.val (.ref a0), .val (.double d1), .second, .val (.double d2), .second, .val (.double (FP.ddiv (FP.dsub d1 we) cz)), .second, .val (.double (FP.ddiv (FP.dsub d2 so) cz)), .second] [])
        refine Go.on (fun _ k => XS.iconst X6.here hx rfl (hb hby d7_66) k) ?_
        show Go _ _ _ _ _ _ _ _ (mkF m 67 #[.val (.ref a0), .val (.double d1), .second, .val (.double d2), .second, .val (.double (FP.ddiv (FP.dsub d1 we) cz)), .second, .val (.double (FP.ddiv (FP.dsub d2 so) cz)), .second] [(.int (0 : Int32))])
        refine Go.retN X6 hx (t := .boolean) Bd.returns (by simp) (hb hby d7_67) ?_ (by rw [hK1]; decide) (by rw [hK2]; decide)
        rw [e6, ← hQQ]
        refine ⟨?_, N0, rfl⟩
        unfold coversV
        rw [if_neg hc5, if_neg hc7, if_pos hc8]; rfl
      · -- pc 48 no
        refine Go.on (fun _ k => XS.ifNo X6.here hx rfl (hb hby d7_48) rfl ((if0 _ _).trans (flt hc8).1) k) ?_
        show Go _ _ _ _ _ _ _ _ (mkF m 51 #[.val (.ref a0), .val (.double d1), .second, .val (.double d2), .second, .val (.double (FP.ddiv (FP.dsub d1 we) cz)), .second, .val (.double (FP.ddiv (FP.dsub d2 so) cz)), .second] [])
        refine Go.on (fun _ k => XS.dload X6.here hx rfl (hb hby d7_51) rfl k) ?_
        show Go _ _ _ _ _ _ _ _ (mkF m 53 #[.val (.ref a0), .val (.double d1), .second, .val (.double d2), .second, .val (.double (FP.ddiv (FP.dsub d1 we) cz)), .second, .val (.double (FP.ddiv (FP.dsub d2 so) cz)), .second] [(.double (FP.ddiv (FP.dsub d2 so) cz))])
        refine Go.on (fun _ k => XS.aloadN X6.here hx rfl (hb hby d7_53) rfl rfl k) ?_
        show Go _ _ _ _ _ _ _ _ (mkF m 54 #[.val (.ref a0), .val (.double d1), .second, .val (.double d2), .second, .val (.double (FP.ddiv (FP.dsub d1 we) cz)), .second, .val (.double (FP.ddiv (FP.dsub d2 so) cz)), .second] [(.ref a0), (.double (FP.ddiv (FP.dsub d2 so) cz))])
        obtain ⟨T9, X9, e9, st9⟩ := getF X6 hx hZ hown (host := "") (Or.inl (hw _ (List.mem_of_getElem? (i := 27) rfl))) Via.refl e6 F_rows_a0 (g := (mkF m 54 #[.val (.ref a0), .val (.double d1), .second, .val (.double d2), .second, .val (.double (FP.ddiv (FP.dsub d1 we) cz)), .second, .val (.double (FP.ddiv (FP.dsub d2 so) cz)), .second] [(.ref a0), (.double (FP.ddiv (FP.dsub d2 so) cz))])) rfl rfl (hb hby d7_54)
        refine Go.on st9 ?_
        show Go _ _ _ _ _ _ _ _ (mkF m 57 #[.val (.ref a0), .val (.double d1), .second, .val (.double d2), .second, .val (.double (FP.ddiv (FP.dsub d1 we) cz)), .second, .val (.double (FP.ddiv (FP.dsub d2 so) cz)), .second] [(.int ri), (.double (FP.ddiv (FP.dsub d2 so) cz))])
        refine Go.on (fun _ k => XS.i2dS X9.here hx rfl (hb hby d7_57) rfl rfl k) ?_
        show Go _ _ _ _ _ _ _ _ (mkF m 58 #[.val (.ref a0), .val (.double d1), .second, .val (.double d2), .second, .val (.double (FP.ddiv (FP.dsub d1 we) cz)), .second, .val (.double (FP.ddiv (FP.dsub d2 so) cz)), .second] [(.double (FP.i2d ri)), (.double (FP.ddiv (FP.dsub d2 so) cz))])
        refine Go.on (fun _ k => XS.dcmpS X9.here hx rfl (hb hby d7_58) rfl rfl k) ?_
        show Go _ _ _ _ _ _ _ _ (mkF m 59 #[.val (.ref a0), .val (.double d1), .second, .val (.double d2), .second, .val (.double (FP.ddiv (FP.dsub d1 we) cz)), .second, .val (.double (FP.ddiv (FP.dsub d2 so) cz)), .second] [(.int (cmpValue (FP.dcmp (FP.ddiv (FP.dsub d2 so) cz) (FP.i2d ri)) .g))])
        suffices hJ11 : ∀ (v10 : Int32), v10 = (if (0 : Int32) < (cmpValue (FP.dcmp (FP.ddiv (FP.dsub d2 so) cz) (FP.i2d ri)) .g) then (0 : Int32) else (1 : Int32)) → Go p e below s K1 K2 QQ T9 (mkF m 67 #[.val (.ref a0), .val (.double d1), .second, .val (.double d2), .second, .val (.double (FP.ddiv (FP.dsub d1 we) cz)), .second, .val (.double (FP.ddiv (FP.dsub d2 so) cz)), .second] [(.int v10)]) by
          by_cases hc12 : (0 : Int32) < (cmpValue (FP.dcmp (FP.ddiv (FP.dsub d2 so) cz) (FP.i2d ri)) .g)
          · -- pc 59 yes
            refine Go.on (fun _ k => XS.ifYes X9.here hx rfl (pc0 := 59) (pc' := 66) rfl (hb hby d7_59) rfl ((if0 _ _).trans (tlt hc12).2.2.1) (by decide) (by decide) k) ?_
            show Go _ _ _ _ _ _ _ _ (mkF m 66 #[.val (.ref a0), .val (.double d1), .second, .val (.double d2), .second, .val (.double (FP.ddiv (FP.dsub d1 we) cz)), .second, .val (.double (FP.ddiv (FP.dsub d2 so) cz)), .second] [])
            refine Go.on (fun _ k => XS.iconst X9.here hx rfl (hb hby d7_66) k) ?_
            show Go _ _ _ _ _ _ _ _ (mkF m 67 #[.val (.ref a0), .val (.double d1), .second, .val (.double d2), .second, .val (.double (FP.ddiv (FP.dsub d1 we) cz)), .second, .val (.double (FP.ddiv (FP.dsub d2 so) cz)), .second] [(.int (0 : Int32))])
            exact hJ11 _ (by rw [if_pos hc12])
          · -- pc 59 no
            refine Go.on (fun _ k => XS.ifNo X9.here hx rfl (hb hby d7_59) rfl ((if0 _ _).trans (flt hc12).2.2.1) k) ?_
            show Go _ _ _ _ _ _ _ _ (mkF m 62 #[.val (.ref a0), .val (.double d1), .second, .val (.double d2), .second, .val (.double (FP.ddiv (FP.dsub d1 we) cz)), .second, .val (.double (FP.ddiv (FP.dsub d2 so) cz)), .second] [])
            refine Go.on (fun _ k => XS.iconst X9.here hx rfl (hb hby d7_62) k) ?_
            show Go _ _ _ _ _ _ _ _ (mkF m 63 #[.val (.ref a0), .val (.double d1), .second, .val (.double d2), .second, .val (.double (FP.ddiv (FP.dsub d1 we) cz)), .second, .val (.double (FP.ddiv (FP.dsub d2 so) cz)), .second] [(.int (1 : Int32))])
            refine Go.on (fun _ k => XS.goto X9.here hx rfl (pc0 := 63) (pc' := 67) rfl (hb hby d7_63) (by decide) (by decide) k) ?_
            show Go _ _ _ _ _ _ _ _ (mkF m 67 #[.val (.ref a0), .val (.double d1), .second, .val (.double d2), .second, .val (.double (FP.ddiv (FP.dsub d1 we) cz)), .second, .val (.double (FP.ddiv (FP.dsub d2 so) cz)), .second] [(.int (1 : Int32))])
            exact hJ11 _ (by rw [if_neg hc12])
        intro v10 hv10
        refine Go.retN X9 hx (t := .boolean) Bd.returns (by simp) (hb hby d7_67) ?_ (by rw [hK1]; decide) (by rw [hK2]; decide)
        rw [e9, ← hQQ]
        refine ⟨?_, N0, rfl⟩
        unfold coversV
        rw [hv10, if_neg hc5, if_neg hc7, if_neg hc8]; (repeat' split) <;> rfl
theorem pd_2 : parseMethodDescriptor "(II)I" = some ⟨[.int, .int], some .int⟩ := by decide +kernel
theorem pd_3 : parseMethodDescriptor "(II[DDDD)V" = some ⟨[.int, .int, (.array .double), .double, .double, .double], none⟩ := by decide +kernel
theorem pd_4 : parseMethodDescriptor "(DD)Z" = some ⟨[.double, .double], some .boolean⟩ := by decide +kernel
theorem pn_2 : plainName "hermitage/GridCoversPinLaw" = true := by first | (simp [plainName, overriddenIn]; done) | decide +kernel
theorem ef_rm0 (m : MethodId) (j0 : Int64) (i1 : Int32) (i2 : Int32) (i3 : Int32) (i4 : Int32) (i5 : Int32) : entryFrame m #[(.long j0), (.int i1), (.int i2), (.int i3), (.int i4), (.int i5)] maxLocals = mkF m 0 #[.val (.long j0), .second, .val (.int i1), .val (.int i2), .val (.int i3), .val (.int i4), .val (.int i5), .unset, .unset, .unset, .unset, .unset, .unset, .unset, .unset, .unset, .unset, .unset, .unset, .unset, .unset, .unset, .unset] [] := by first | (simp [entryFrame, mkF, argsToLocals, Value.category, maxLocals]; done) | rfl
def Q_rm0 (Z : State) (j0 : Int64) (i1 : Int32) (i2 : Int32) (i3 : Int32) (i4 : Int32) (i5 : Int32) (h0 : Heap) (n0 : Nat) (v : Option Value) (h : Heap) (L : List Loc) : Prop := v = some (.int 1) ∧ Fr n0 L
set_option maxRecDepth 65536 in
set_option maxHeartbeats 40000000 in
theorem rm0 (l : Launch) (Z : State) (aw : Array Value) (hw : ∀ d ∈ tables_1, d.before aw Z = true) (ws : List Jvm.Cond) (j0 : Int64) (i1 : Int32) (i2 : Int32) (i3 : Int32) (i4 : Int32) (i5 : Int32) (h0 : Heap) (n0 : Nat) (Z0 : n0 ≤ h0.size) :
    MetFree l x (head1 (Jvm.Cond.code x code maxLocals ret :: ws) room_1) (fun a U => a = #[(.long j0), (.int i1), (.int i2), (.int i3), (.int i4), (.int i5)] ∧ Z.Warmed39 U.vm ∧ U.heap = h0) (fun _ _ _ _ _ => True) (fun _ U o U' => ∃ v L, o = .returned v ∧ Q_rm0 Z j0 i1 i2 i3 i4 i5 h0 n0 v U'.heap L ∧ FrameEnd U o U' L 2 8) := by
  refine MetFree.of_bodySF (plainFor_of_name pn_2) hisR ?_
  intro p e s m args below meth c s₁ Bd hml0 hP hK
  obtain ⟨rfl, hZ, hh⟩ := hP
  have hx := Bd.exec
  have hby := Bd.bytes
  have hml : c.maxLocals = 23 := hml0
  have hown : s.vm.findClass "hermitage/GridCoversPinLaw" = some m.cls := findClass_of_methodNamed Bd.named
  have hnm := (name_of_methodNamed Bd.named Bd.method).1
  have hlk : meth.locks = false := BodyLoose.notSynchronized Bd
  have X0 : Stand p l e room_1 s m #[(.long j0), (.int i1), (.int i2), (.int i3), (.int i4), (.int i5)] below meth c s₁ [] 0 0 := Stand.of_body Bd
  have e0 : s₁.heap = h0 := by rw [← hh, Bd.state]; rfl
  have N0 := Fr.nil n0
  have ZZ := Z0
  show Go p e below s 2 8 (fun v h L => Q_rm0 Z j0 i1 i2 i3 i4 i5 h0 n0 v h L) s₁ (entryFrame m #[(.long j0), (.int i1), (.int i2), (.int i3), (.int i4), (.int i5)] maxLocals)
  refine Go.cast (ef_rm0 m j0 i1 i2 i3 i4 i5) ?_
  refine Go.gen ?_
  intro K1 K2 QQ hK1 hK2 hQQ
  refine Go.on (fun _ k => XS.lloadN X0.here hx rfl (hb hby at_0) rfl k) ?_
  show Go _ _ _ _ _ _ _ _ (mkF m 1 #[.val (.long j0), .second, .val (.int i1), .val (.int i2), .val (.int i3), .val (.int i4), .val (.int i5), .unset, .unset, .unset, .unset, .unset, .unset, .unset, .unset, .unset, .unset, .unset, .unset, .unset, .unset, .unset, .unset] [(.long j0)])
  refine Go.on (fun _ k => XS.l2i X0.here hx rfl (hb hby at_1) rfl k) ?_
  show Go _ _ _ _ _ _ _ _ (mkF m 2 #[.val (.long j0), .second, .val (.int i1), .val (.int i2), .val (.int i3), .val (.int i4), .val (.int i5), .unset, .unset, .unset, .unset, .unset, .unset, .unset, .unset, .unset, .unset, .unset, .unset, .unset, .unset, .unset, .unset] [(.int (j0.toInt32))])
  refine Go.on (fun _ k => XS.istore X0.here hx rfl (hb hby at_2) rfl (l' := #[.val (.long j0), .second, .val (.int i1), .val (.int i2), .val (.int i3), .val (.int i4), .val (.int i5), .val (.int (j0.toInt32)), .unset, .unset, .unset, .unset, .unset, .unset, .unset, .unset, .unset, .unset, .unset, .unset, .unset, .unset, .unset]) rfl k) ?_
  show Go _ _ _ _ _ _ _ _ (mkF m 4 #[.val (.long j0), .second, .val (.int i1), .val (.int i2), .val (.int i3), .val (.int i4), .val (.int i5), .val (.int (j0.toInt32)), .unset, .unset, .unset, .unset, .unset, .unset, .unset, .unset, .unset, .unset, .unset, .unset, .unset, .unset, .unset] [])
  generalize hxi : (j0.toInt32) = xi
  show Go _ _ _ _ _ _ _ _ (mkF m 4 #[.val (.long j0), .second, .val (.int i1), .val (.int i2), .val (.int i3), .val (.int i4), .val (.int i5), .val (.int xi), .unset, .unset, .unset, .unset, .unset, .unset, .unset, .unset, .unset, .unset, .unset, .unset, .unset, .unset, .unset] [])
  refine Go.on (fun _ k => XS.lloadN X0.here hx rfl (hb hby at_4) rfl k) ?_
  show Go _ _ _ _ _ _ _ _ (mkF m 5 #[.val (.long j0), .second, .val (.int i1), .val (.int i2), .val (.int i3), .val (.int i4), .val (.int i5), .val (.int xi), .unset, .unset, .unset, .unset, .unset, .unset, .unset, .unset, .unset, .unset, .unset, .unset, .unset, .unset, .unset] [(.long j0)])
  refine Go.on (fun _ k => XS.bipush X0.here hx rfl (hb hby at_5) k) ?_
  show Go _ _ _ _ _ _ _ _ (mkF m 7 #[.val (.long j0), .second, .val (.int i1), .val (.int i2), .val (.int i3), .val (.int i4), .val (.int i5), .val (.int xi), .unset, .unset, .unset, .unset, .unset, .unset, .unset, .unset, .unset, .unset, .unset, .unset, .unset, .unset, .unset] [(.int (32 : Int32)), (.long j0)])
  refine Go.on (fun _ k => XS.lshr X0.here hx rfl (hb hby at_7) rfl k) ?_
  show Go _ _ _ _ _ _ _ _ (mkF m 8 #[.val (.long j0), .second, .val (.int i1), .val (.int i2), .val (.int i3), .val (.int i4), .val (.int i5), .val (.int xi), .unset, .unset, .unset, .unset, .unset, .unset, .unset, .unset, .unset, .unset, .unset, .unset, .unset, .unset, .unset] [(.long (j0 >>> ((32 : Int32) &&& 0x3f).toInt64))])
  refine Go.on (fun _ k => XS.l2i X0.here hx rfl (hb hby at_8) rfl k) ?_
  show Go _ _ _ _ _ _ _ _ (mkF m 9 #[.val (.long j0), .second, .val (.int i1), .val (.int i2), .val (.int i3), .val (.int i4), .val (.int i5), .val (.int xi), .unset, .unset, .unset, .unset, .unset, .unset, .unset, .unset, .unset, .unset, .unset, .unset, .unset, .unset, .unset] [(.int ((j0 >>> ((32 : Int32) &&& 0x3f).toInt64).toInt32))])
  refine Go.on (fun _ k => XS.istore X0.here hx rfl (hb hby at_9) rfl (l' := #[.val (.long j0), .second, .val (.int i1), .val (.int i2), .val (.int i3), .val (.int i4), .val (.int i5), .val (.int xi), .val (.int ((j0 >>> ((32 : Int32) &&& 0x3f).toInt64).toInt32)), .unset, .unset, .unset, .unset, .unset, .unset, .unset, .unset, .unset, .unset, .unset, .unset, .unset, .unset]) rfl k) ?_
  show Go _ _ _ _ _ _ _ _ (mkF m 11 #[.val (.long j0), .second, .val (.int i1), .val (.int i2), .val (.int i3), .val (.int i4), .val (.int i5), .val (.int xi), .val (.int ((j0 >>> ((32 : Int32) &&& 0x3f).toInt64).toInt32)), .unset, .unset, .unset, .unset, .unset, .unset, .unset, .unset, .unset, .unset, .unset, .unset, .unset, .unset] [])
  generalize hyi : ((j0 >>> ((32 : Int32) &&& 0x3f).toInt64).toInt32) = yi
  show Go _ _ _ _ _ _ _ _ (mkF m 11 #[.val (.long j0), .second, .val (.int i1), .val (.int i2), .val (.int i3), .val (.int i4), .val (.int i5), .val (.int xi), .val (.int yi), .unset, .unset, .unset, .unset, .unset, .unset, .unset, .unset, .unset, .unset, .unset, .unset, .unset, .unset] [])
  refine Go.on (fun _ k => XS.iload X0.here hx rfl (hb hby at_11) rfl k) ?_
  show Go _ _ _ _ _ _ _ _ (mkF m 13 #[.val (.long j0), .second, .val (.int i1), .val (.int i2), .val (.int i3), .val (.int i4), .val (.int i5), .val (.int xi), .val (.int yi), .unset, .unset, .unset, .unset, .unset, .unset, .unset, .unset, .unset, .unset, .unset, .unset, .unset, .unset] [(.int i3)])
  refine Go.on (fun _ k => XS.sipush X0.here hx rfl (hb hby at_13) k) ?_
  show Go _ _ _ _ _ _ _ _ (mkF m 16 #[.val (.long j0), .second, .val (.int i1), .val (.int i2), .val (.int i3), .val (.int i4), .val (.int i5), .val (.int xi), .val (.int yi), .unset, .unset, .unset, .unset, .unset, .unset, .unset, .unset, .unset, .unset, .unset, .unset, .unset, .unset] [(.int (255 : Int32)), (.int i3)])
  refine Go.on (fun _ k => XS.iand X0.here hx rfl (hb hby at_16) rfl k) ?_
  show Go _ _ _ _ _ _ _ _ (mkF m 17 #[.val (.long j0), .second, .val (.int i1), .val (.int i2), .val (.int i3), .val (.int i4), .val (.int i5), .val (.int xi), .val (.int yi), .unset, .unset, .unset, .unset, .unset, .unset, .unset, .unset, .unset, .unset, .unset, .unset, .unset, .unset] [(.int (i3 &&& (255 : Int32)))])
  refine Go.on (fun _ k => XS.iconst X0.here hx rfl (hb hby at_17) k) ?_
  show Go _ _ _ _ _ _ _ _ (mkF m 18 #[.val (.long j0), .second, .val (.int i1), .val (.int i2), .val (.int i3), .val (.int i4), .val (.int i5), .val (.int xi), .val (.int yi), .unset, .unset, .unset, .unset, .unset, .unset, .unset, .unset, .unset, .unset, .unset, .unset, .unset, .unset] [(.int (1 : Int32)), (.int (i3 &&& (255 : Int32)))])
  refine Go.on (fun _ k => XS.iadd X0.here hx rfl (hb hby at_18) rfl k) ?_
  show Go _ _ _ _ _ _ _ _ (mkF m 19 #[.val (.long j0), .second, .val (.int i1), .val (.int i2), .val (.int i3), .val (.int i4), .val (.int i5), .val (.int xi), .val (.int yi), .unset, .unset, .unset, .unset, .unset, .unset, .unset, .unset, .unset, .unset, .unset, .unset, .unset, .unset] [(.int ((i3 &&& (255 : Int32)) + (1 : Int32)))])
  refine Go.on (fun _ k => XS.istore X0.here hx rfl (hb hby at_19) rfl (l' := #[.val (.long j0), .second, .val (.int i1), .val (.int i2), .val (.int i3), .val (.int i4), .val (.int i5), .val (.int xi), .val (.int yi), .val (.int ((i3 &&& (255 : Int32)) + (1 : Int32))), .unset, .unset, .unset, .unset, .unset, .unset, .unset, .unset, .unset, .unset, .unset, .unset, .unset]) rfl k) ?_
  show Go _ _ _ _ _ _ _ _ (mkF m 21 #[.val (.long j0), .second, .val (.int i1), .val (.int i2), .val (.int i3), .val (.int i4), .val (.int i5), .val (.int xi), .val (.int yi), .val (.int ((i3 &&& (255 : Int32)) + (1 : Int32))), .unset, .unset, .unset, .unset, .unset, .unset, .unset, .unset, .unset, .unset, .unset, .unset, .unset] [])
  generalize hcz : ((i3 &&& (255 : Int32)) + (1 : Int32)) = cz
  show Go _ _ _ _ _ _ _ _ (mkF m 21 #[.val (.long j0), .second, .val (.int i1), .val (.int i2), .val (.int i3), .val (.int i4), .val (.int i5), .val (.int xi), .val (.int yi), .val (.int cz), .unset, .unset, .unset, .unset, .unset, .unset, .unset, .unset, .unset, .unset, .unset, .unset, .unset] [])
  refine Go.on (fun _ k => XS.iconst X0.here hx rfl (hb hby at_21) k) ?_
  show Go _ _ _ _ _ _ _ _ (mkF m 22 #[.val (.long j0), .second, .val (.int i1), .val (.int i2), .val (.int i3), .val (.int i4), .val (.int i5), .val (.int xi), .val (.int yi), .val (.int cz), .unset, .unset, .unset, .unset, .unset, .unset, .unset, .unset, .unset, .unset, .unset, .unset, .unset] [(.int (1 : Int32))])
  refine Go.on (fun _ k => XS.iload X0.here hx rfl (hb hby at_22) rfl k) ?_
  show Go _ _ _ _ _ _ _ _ (mkF m 24 #[.val (.long j0), .second, .val (.int i1), .val (.int i2), .val (.int i3), .val (.int i4), .val (.int i5), .val (.int xi), .val (.int yi), .val (.int cz), .unset, .unset, .unset, .unset, .unset, .unset, .unset, .unset, .unset, .unset, .unset, .unset, .unset] [(.int i4), (.int (1 : Int32))])
  refine Go.on (fun _ k => X0.ldcI hx hown (mvT hZ (hw _ (List.mem_of_getElem? (i := 0) rfl))) rfl (hb hby at_24) k) ?_
  show Go _ _ _ _ _ _ _ _ (mkF m 26 #[.val (.long j0), .second, .val (.int i1), .val (.int i2), .val (.int i3), .val (.int i4), .val (.int i5), .val (.int xi), .val (.int yi), .val (.int cz), .unset, .unset, .unset, .unset, .unset, .unset, .unset, .unset, .unset, .unset, .unset, .unset, .unset] [(.int (2147483647 : Int32)), (.int i4), (.int (1 : Int32))])
  refine Go.on (fun _ k => XS.iand X0.here hx rfl (hb hby at_26) rfl k) ?_
  show Go _ _ _ _ _ _ _ _ (mkF m 27 #[.val (.long j0), .second, .val (.int i1), .val (.int i2), .val (.int i3), .val (.int i4), .val (.int i5), .val (.int xi), .val (.int yi), .val (.int cz), .unset, .unset, .unset, .unset, .unset, .unset, .unset, .unset, .unset, .unset, .unset, .unset, .unset] [(.int (i4 &&& (2147483647 : Int32))), (.int (1 : Int32))])
  obtain ⟨_, _, ⟨T1, L1, k1, n1⟩, -, X1, ⟨Lc1, hQ1, l1, y1, z1⟩, st1⟩ := Jvm.LawKit.callS X0 hx (y := (⟨"java/lang/Math", "max", "(II)I"⟩ : MethodName)) hown (mvT hZ (hw _ (List.mem_of_getElem? (i := 1) rfl))) (mvT hZ (hw _ (List.mem_of_getElem? (i := 2) rfl))) (mvT hZ (hw _ (List.mem_of_getElem? (i := 3) rfl))) (mvT hZ (hw _ (List.mem_of_getElem? (i := 4) rfl))) (by decide) (backOf (W := 0) (rm1 l Z aw hw [] (1 : Int32) (i4 &&& (2147483647 : Int32))  h0 n0 ZZ ) hZ (hw _ (List.mem_of_getElem? (i := 4) rfl)) (hw _ (List.mem_of_getElem? (i := 3) rfl)) (by decide) (by decide)) (g := (mkF m 27 #[.val (.long j0), .second, .val (.int i1), .val (.int i2), .val (.int i3), .val (.int i4), .val (.int i5), .val (.int xi), .val (.int yi), .val (.int cz), .unset, .unset, .unset, .unset, .unset, .unset, .unset, .unset, .unset, .unset, .unset, .unset, .unset] [(.int (i4 &&& (2147483647 : Int32))), (.int (1 : Int32))])) rfl (by rw [hml]; rfl) (argsL := [(.int (1 : Int32)), (.int (i4 &&& (2147483647 : Int32)))]) (rest := []) (lenOf pd_2 rfl) rfl (by show 2 * 0 + _ ≤ _; exact Nat.le_of_eq rfl) (hb hby at_27) (fun _ _ => ⟨rfl, e0, (by decide : 0 + 0 ≤ _), (by decide : 0 + 0 ≤ _)⟩)
  dsimp only [Pt.U, Pt.locs, Pt.cells, Pt.slots] at X1 l1 y1 z1 st1 hQ1
  subst l1 y1 z1
  obtain ⟨rfl, N1q, e1⟩ := hQ1
  have N1 := Fr.app N0 N1q
  refine Go.on st1 ?_
  show Go _ _ _ _ _ _ _ _ (mkF m 30 #[.val (.long j0), .second, .val (.int i1), .val (.int i2), .val (.int i3), .val (.int i4), .val (.int i5), .val (.int xi), .val (.int yi), .val (.int cz), .unset, .unset, .unset, .unset, .unset, .unset, .unset, .unset, .unset, .unset, .unset, .unset, .unset] [(.int (if (1 : Int32) < (i4 &&& (2147483647 : Int32)) then (i4 &&& (2147483647 : Int32)) else (1 : Int32)))])
  refine Go.on (fun _ k => XS.istore X1.here hx rfl (hb hby at_30) rfl (l' := #[.val (.long j0), .second, .val (.int i1), .val (.int i2), .val (.int i3), .val (.int i4), .val (.int i5), .val (.int xi), .val (.int yi), .val (.int cz), .val (.int (if (1 : Int32) < (i4 &&& (2147483647 : Int32)) then (i4 &&& (2147483647 : Int32)) else (1 : Int32))), .unset, .unset, .unset, .unset, .unset, .unset, .unset, .unset, .unset, .unset, .unset, .unset]) rfl k) ?_
  show Go _ _ _ _ _ _ _ _ (mkF m 32 #[.val (.long j0), .second, .val (.int i1), .val (.int i2), .val (.int i3), .val (.int i4), .val (.int i5), .val (.int xi), .val (.int yi), .val (.int cz), .val (.int (if (1 : Int32) < (i4 &&& (2147483647 : Int32)) then (i4 &&& (2147483647 : Int32)) else (1 : Int32))), .unset, .unset, .unset, .unset, .unset, .unset, .unset, .unset, .unset, .unset, .unset, .unset] [])
  generalize hcn : (if (1 : Int32) < (i4 &&& (2147483647 : Int32)) then (i4 &&& (2147483647 : Int32)) else (1 : Int32)) = cn
  show Go _ _ _ _ _ _ _ _ (mkF m 32 #[.val (.long j0), .second, .val (.int i1), .val (.int i2), .val (.int i3), .val (.int i4), .val (.int i5), .val (.int xi), .val (.int yi), .val (.int cz), .val (.int cn), .unset, .unset, .unset, .unset, .unset, .unset, .unset, .unset, .unset, .unset, .unset, .unset] [])
  refine Go.on (fun _ k => XS.iconst X1.here hx rfl (hb hby at_32) k) ?_
  show Go _ _ _ _ _ _ _ _ (mkF m 33 #[.val (.long j0), .second, .val (.int i1), .val (.int i2), .val (.int i3), .val (.int i4), .val (.int i5), .val (.int xi), .val (.int yi), .val (.int cz), .val (.int cn), .unset, .unset, .unset, .unset, .unset, .unset, .unset, .unset, .unset, .unset, .unset, .unset] [(.int (1 : Int32))])
  refine Go.on (fun _ k => XS.iload X1.here hx rfl (hb hby at_33) rfl k) ?_
  show Go _ _ _ _ _ _ _ _ (mkF m 35 #[.val (.long j0), .second, .val (.int i1), .val (.int i2), .val (.int i3), .val (.int i4), .val (.int i5), .val (.int xi), .val (.int yi), .val (.int cz), .val (.int cn), .unset, .unset, .unset, .unset, .unset, .unset, .unset, .unset, .unset, .unset, .unset, .unset] [(.int i5), (.int (1 : Int32))])
  refine Go.on (fun _ k => X1.ldcI hx hown (mvT hZ (hw _ (List.mem_of_getElem? (i := 0) rfl))) rfl (hb hby at_35) k) ?_
  show Go _ _ _ _ _ _ _ _ (mkF m 37 #[.val (.long j0), .second, .val (.int i1), .val (.int i2), .val (.int i3), .val (.int i4), .val (.int i5), .val (.int xi), .val (.int yi), .val (.int cz), .val (.int cn), .unset, .unset, .unset, .unset, .unset, .unset, .unset, .unset, .unset, .unset, .unset, .unset] [(.int (2147483647 : Int32)), (.int i5), (.int (1 : Int32))])
  refine Go.on (fun _ k => XS.iand X1.here hx rfl (hb hby at_37) rfl k) ?_
  show Go _ _ _ _ _ _ _ _ (mkF m 38 #[.val (.long j0), .second, .val (.int i1), .val (.int i2), .val (.int i3), .val (.int i4), .val (.int i5), .val (.int xi), .val (.int yi), .val (.int cz), .val (.int cn), .unset, .unset, .unset, .unset, .unset, .unset, .unset, .unset, .unset, .unset, .unset, .unset] [(.int (i5 &&& (2147483647 : Int32))), (.int (1 : Int32))])
  obtain ⟨_, _, ⟨T2, L2, k2, n2⟩, -, X2, ⟨Lc2, hQ2, l2, y2, z2⟩, st2⟩ := Jvm.LawKit.callS X1 hx (y := (⟨"java/lang/Math", "max", "(II)I"⟩ : MethodName)) hown (mvT hZ (hw _ (List.mem_of_getElem? (i := 1) rfl))) (mvT hZ (hw _ (List.mem_of_getElem? (i := 2) rfl))) (mvT hZ (hw _ (List.mem_of_getElem? (i := 3) rfl))) (mvT hZ (hw _ (List.mem_of_getElem? (i := 4) rfl))) (by decide) (backOf (W := 0) (rm1 l Z aw hw [] (1 : Int32) (i5 &&& (2147483647 : Int32))  h0 n0 ZZ ) hZ (hw _ (List.mem_of_getElem? (i := 4) rfl)) (hw _ (List.mem_of_getElem? (i := 3) rfl)) (by decide) (by decide)) (g := (mkF m 38 #[.val (.long j0), .second, .val (.int i1), .val (.int i2), .val (.int i3), .val (.int i4), .val (.int i5), .val (.int xi), .val (.int yi), .val (.int cz), .val (.int cn), .unset, .unset, .unset, .unset, .unset, .unset, .unset, .unset, .unset, .unset, .unset, .unset] [(.int (i5 &&& (2147483647 : Int32))), (.int (1 : Int32))])) rfl (by rw [hml]; rfl) (argsL := [(.int (1 : Int32)), (.int (i5 &&& (2147483647 : Int32)))]) (rest := []) (lenOf pd_2 rfl) rfl (by show 2 * 0 + _ ≤ _; exact Nat.le_of_eq rfl) (hb hby at_38) (fun _ _ => ⟨rfl, e1, (by decide : 0 + 0 ≤ _), (by decide : 0 + 0 ≤ _)⟩)
  dsimp only [Pt.U, Pt.locs, Pt.cells, Pt.slots] at X2 l2 y2 z2 st2 hQ2
  subst l2 y2 z2
  obtain ⟨rfl, N2q, e2⟩ := hQ2
  have N2 := Fr.app N1 N2q
  refine Go.on st2 ?_
  show Go _ _ _ _ _ _ _ _ (mkF m 41 #[.val (.long j0), .second, .val (.int i1), .val (.int i2), .val (.int i3), .val (.int i4), .val (.int i5), .val (.int xi), .val (.int yi), .val (.int cz), .val (.int cn), .unset, .unset, .unset, .unset, .unset, .unset, .unset, .unset, .unset, .unset, .unset, .unset] [(.int (if (1 : Int32) < (i5 &&& (2147483647 : Int32)) then (i5 &&& (2147483647 : Int32)) else (1 : Int32)))])
  refine Go.on (fun _ k => XS.istore X2.here hx rfl (hb hby at_41) rfl (l' := #[.val (.long j0), .second, .val (.int i1), .val (.int i2), .val (.int i3), .val (.int i4), .val (.int i5), .val (.int xi), .val (.int yi), .val (.int cz), .val (.int cn), .val (.int (if (1 : Int32) < (i5 &&& (2147483647 : Int32)) then (i5 &&& (2147483647 : Int32)) else (1 : Int32))), .unset, .unset, .unset, .unset, .unset, .unset, .unset, .unset, .unset, .unset, .unset]) rfl k) ?_
  show Go _ _ _ _ _ _ _ _ (mkF m 43 #[.val (.long j0), .second, .val (.int i1), .val (.int i2), .val (.int i3), .val (.int i4), .val (.int i5), .val (.int xi), .val (.int yi), .val (.int cz), .val (.int cn), .val (.int (if (1 : Int32) < (i5 &&& (2147483647 : Int32)) then (i5 &&& (2147483647 : Int32)) else (1 : Int32))), .unset, .unset, .unset, .unset, .unset, .unset, .unset, .unset, .unset, .unset, .unset] [])
  generalize hrn : (if (1 : Int32) < (i5 &&& (2147483647 : Int32)) then (i5 &&& (2147483647 : Int32)) else (1 : Int32)) = rn
  show Go _ _ _ _ _ _ _ _ (mkF m 43 #[.val (.long j0), .second, .val (.int i1), .val (.int i2), .val (.int i3), .val (.int i4), .val (.int i5), .val (.int xi), .val (.int yi), .val (.int cz), .val (.int cn), .val (.int rn), .unset, .unset, .unset, .unset, .unset, .unset, .unset, .unset, .unset, .unset, .unset] [])
  obtain ⟨T3, h3, X3, e3, E3, A3, D3, -, st3⟩ := newO X2 hx hZ hown (hw _ (List.mem_of_getElem? (i := 5) rfl)) (hw _ (List.mem_of_getElem? (i := 6) rfl)) (hw _ (List.mem_of_getElem? (i := 7) rfl)) e2 (g := (mkF m 43 #[.val (.long j0), .second, .val (.int i1), .val (.int i2), .val (.int i3), .val (.int i4), .val (.int i5), .val (.int xi), .val (.int yi), .val (.int cz), .val (.int cn), .val (.int rn), .unset, .unset, .unset, .unset, .unset, .unset, .unset, .unset, .unset, .unset, .unset] [])) rfl (hb hby at_43) (by decide) (by decide)
  obtain ⟨q, g3⟩ : ∃ z, z = h0.size := ⟨_, rfl⟩
  have g_q : n0 ≤ q := Nat.le_trans ZZ (Nat.le_of_eq g3.symm)
  rw [← g3] at A3 D3 st3
  replace ZZ := Nat.le_trans ZZ E3.1
  have E_q := A3
  have F_columns_q : Fld Z h3 q "hermitage/Grid" "columns" "I" (.int (0 : Int32)) := D3 (Or.inr (hw _ (List.mem_of_getElem? (i := 26) rfl))) (ty := .int) (by decide)
  have F_rows_q : Fld Z h3 q "hermitage/Grid" "rows" "I" (.int (0 : Int32)) := D3 (Or.inr (hw _ (List.mem_of_getElem? (i := 28) rfl))) (ty := .int) (by decide)
  have F_samples_q : Fld Z h3 q "hermitage/Grid" "samples" "[D" .null := D3 (Or.inr (hw _ (List.mem_of_getElem? (i := 30) rfl))) (ty := (.array .double)) (by decide)
  have F_west_q : Fld Z h3 q "hermitage/Grid" "west" "D" (.double (0 : UInt64)) := D3 (Or.inr (hw _ (List.mem_of_getElem? (i := 32) rfl))) (ty := .double) (by decide)
  have F_south_q : Fld Z h3 q "hermitage/Grid" "south" "D" (.double (0 : UInt64)) := D3 (Or.inr (hw _ (List.mem_of_getElem? (i := 34) rfl))) (ty := .double) (by decide)
  have F_cellSize_q : Fld Z h3 q "hermitage/Grid" "cellSize" "D" (.double (0 : UInt64)) := D3 (Or.inr (hw _ (List.mem_of_getElem? (i := 36) rfl))) (ty := .double) (by decide)
  have F_hasMissingCells_q : Fld Z h3 q "hermitage/Grid" "hasMissingCells" "Z" (.int (0 : Int32)) := D3 (Or.inr (hw _ (List.mem_of_getElem? (i := 41) rfl))) (ty := .boolean) (by decide)
  refine Go.on st3 ?_
  show Go _ _ _ _ _ _ _ _ (mkF m 46 #[.val (.long j0), .second, .val (.int i1), .val (.int i2), .val (.int i3), .val (.int i4), .val (.int i5), .val (.int xi), .val (.int yi), .val (.int cz), .val (.int cn), .val (.int rn), .unset, .unset, .unset, .unset, .unset, .unset, .unset, .unset, .unset, .unset, .unset] [(.ref q)])
  refine Go.on (fun _ k => XS.dup X3.here hx rfl (hb hby at_46) rfl rfl k) ?_
  show Go _ _ _ _ _ _ _ _ (mkF m 47 #[.val (.long j0), .second, .val (.int i1), .val (.int i2), .val (.int i3), .val (.int i4), .val (.int i5), .val (.int xi), .val (.int yi), .val (.int cz), .val (.int cn), .val (.int rn), .unset, .unset, .unset, .unset, .unset, .unset, .unset, .unset, .unset, .unset, .unset] [(.ref q), (.ref q)])
  refine Go.on (fun _ k => XS.iload X3.here hx rfl (hb hby at_47) rfl k) ?_
  show Go _ _ _ _ _ _ _ _ (mkF m 49 #[.val (.long j0), .second, .val (.int i1), .val (.int i2), .val (.int i3), .val (.int i4), .val (.int i5), .val (.int xi), .val (.int yi), .val (.int cz), .val (.int cn), .val (.int rn), .unset, .unset, .unset, .unset, .unset, .unset, .unset, .unset, .unset, .unset, .unset] [(.int cn), (.ref q), (.ref q)])
  refine Go.on (fun _ k => XS.iload X3.here hx rfl (hb hby at_49) rfl k) ?_
  show Go _ _ _ _ _ _ _ _ (mkF m 51 #[.val (.long j0), .second, .val (.int i1), .val (.int i2), .val (.int i3), .val (.int i4), .val (.int i5), .val (.int xi), .val (.int yi), .val (.int cz), .val (.int cn), .val (.int rn), .unset, .unset, .unset, .unset, .unset, .unset, .unset, .unset, .unset, .unset, .unset] [(.int rn), (.int cn), (.ref q), (.ref q)])
  refine Go.on (fun _ k => XS.iconst X3.here hx rfl (hb hby at_51) k) ?_
  show Go _ _ _ _ _ _ _ _ (mkF m 52 #[.val (.long j0), .second, .val (.int i1), .val (.int i2), .val (.int i3), .val (.int i4), .val (.int i5), .val (.int xi), .val (.int yi), .val (.int cz), .val (.int cn), .val (.int rn), .unset, .unset, .unset, .unset, .unset, .unset, .unset, .unset, .unset, .unset, .unset] [(.int (1 : Int32)), (.int rn), (.int cn), (.ref q), (.ref q)])
  obtain ⟨T4, h4, k_ar, X4, e4, E4, A4, st4⟩ := newP X3 hx hZ (hw _ (List.mem_of_getElem? (i := 8) rfl)) e3 (g := (mkF m 52 #[.val (.long j0), .second, .val (.int i1), .val (.int i2), .val (.int i3), .val (.int i4), .val (.int i5), .val (.int xi), .val (.int yi), .val (.int cz), .val (.int cn), .val (.int rn), .unset, .unset, .unset, .unset, .unset, .unset, .unset, .unset, .unset, .unset, .unset] [(.int (1 : Int32)), (.int rn), (.int cn), (.ref q), (.ref q)])) rfl (hb hby at_52) rfl (by decide) (cap := 1) (by decide) (by decide) (by decide) (by decide)
  obtain ⟨ar, g4⟩ : ∃ z, z = h3.size := ⟨_, rfl⟩
  have ne_q_ar : q ≠ ar := Nat.ne_of_lt (Nat.lt_of_lt_of_le E_q.lt (Nat.le_of_eq g4.symm))
  have g_ar : n0 ≤ ar := Nat.le_trans ZZ (Nat.le_of_eq g4.symm)
  rw [← g4] at A4 st4
  replace E_q := E_q.ext E4
  replace F_columns_q := F_columns_q.ext E4
  replace F_rows_q := F_rows_q.ext E4
  replace F_samples_q := F_samples_q.ext E4
  replace F_west_q := F_west_q.ext E4
  replace F_south_q := F_south_q.ext E4
  replace F_cellSize_q := F_cellSize_q.ext E4
  replace F_hasMissingCells_q := F_hasMissingCells_q.ext E4
  replace ZZ := Nat.le_trans ZZ E4.1
  have V_ar : Arv Z h4 ar k_ar .double (1 : Int32) [(.double (0 : UInt64))] (.double (0 : UInt64)) := (Arv.new A4 (by decide)).pad (pad_rep [] (.double (0 : UInt64)) 1)
  refine Go.on st4 ?_
  show Go _ _ _ _ _ _ _ _ (mkF m 54 #[.val (.long j0), .second, .val (.int i1), .val (.int i2), .val (.int i3), .val (.int i4), .val (.int i5), .val (.int xi), .val (.int yi), .val (.int cz), .val (.int cn), .val (.int rn), .unset, .unset, .unset, .unset, .unset, .unset, .unset, .unset, .unset, .unset, .unset] [(.ref ar), (.int rn), (.int cn), (.ref q), (.ref q)])
  refine Go.on (fun _ k => XS.iloadN X4.here hx rfl (hb hby at_54) rfl k) ?_
  show Go _ _ _ _ _ _ _ _ (mkF m 55 #[.val (.long j0), .second, .val (.int i1), .val (.int i2), .val (.int i3), .val (.int i4), .val (.int i5), .val (.int xi), .val (.int yi), .val (.int cz), .val (.int cn), .val (.int rn), .unset, .unset, .unset, .unset, .unset, .unset, .unset, .unset, .unset, .unset, .unset] [(.int i1), (.ref ar), (.int rn), (.int cn), (.ref q), (.ref q)])
  refine Go.on (fun _ k => XS.i2dS X4.here hx rfl (hb hby at_55) rfl rfl k) ?_
  show Go _ _ _ _ _ _ _ _ (mkF m 56 #[.val (.long j0), .second, .val (.int i1), .val (.int i2), .val (.int i3), .val (.int i4), .val (.int i5), .val (.int xi), .val (.int yi), .val (.int cz), .val (.int cn), .val (.int rn), .unset, .unset, .unset, .unset, .unset, .unset, .unset, .unset, .unset, .unset, .unset] [(.double (FP.i2d i1)), (.ref ar), (.int rn), (.int cn), (.ref q), (.ref q)])
  refine Go.on (X4.ldc2DoubleC hx hown (mvT hZ (hw _ (List.mem_of_getElem? (i := 9) rfl))) (g := (mkF m 56 #[.val (.long j0), .second, .val (.int i1), .val (.int i2), .val (.int i3), .val (.int i4), .val (.int i5), .val (.int xi), .val (.int yi), .val (.int cz), .val (.int cn), .val (.int rn), .unset, .unset, .unset, .unset, .unset, .unset, .unset, .unset, .unset, .unset, .unset] [(.double (FP.i2d i1)), (.ref ar), (.int rn), (.int cn), (.ref q), (.ref q)])) rfl (hb hby at_56)) ?_
  show Go _ _ _ _ _ _ _ _ (mkF m 59 #[.val (.long j0), .second, .val (.int i1), .val (.int i2), .val (.int i3), .val (.int i4), .val (.int i5), .val (.int xi), .val (.int yi), .val (.int cz), .val (.int cn), .val (.int rn), .unset, .unset, .unset, .unset, .unset, .unset, .unset, .unset, .unset, .unset, .unset] [(.double (4620693217682128896 : UInt64)), (.double (FP.i2d i1)), (.ref ar), (.int rn), (.int cn), (.ref q), (.ref q)])
  refine Go.on (fun _ k => XS.ddivS X4.here hx rfl (hb hby at_59) rfl ((own_e8 _).nn) rfl k) ?_
  show Go _ _ _ _ _ _ _ _ (mkF m 60 #[.val (.long j0), .second, .val (.int i1), .val (.int i2), .val (.int i3), .val (.int i4), .val (.int i5), .val (.int xi), .val (.int yi), .val (.int cz), .val (.int cn), .val (.int rn), .unset, .unset, .unset, .unset, .unset, .unset, .unset, .unset, .unset, .unset, .unset] [(.double (FP.ddiv (FP.i2d i1) (4620693217682128896 : UInt64))), (.ref ar), (.int rn), (.int cn), (.ref q), (.ref q)])
  refine Go.on (fun _ k => XS.iloadN X4.here hx rfl (hb hby at_60) rfl k) ?_
  show Go _ _ _ _ _ _ _ _ (mkF m 61 #[.val (.long j0), .second, .val (.int i1), .val (.int i2), .val (.int i3), .val (.int i4), .val (.int i5), .val (.int xi), .val (.int yi), .val (.int cz), .val (.int cn), .val (.int rn), .unset, .unset, .unset, .unset, .unset, .unset, .unset, .unset, .unset, .unset, .unset] [(.int i2), (.double (FP.ddiv (FP.i2d i1) (4620693217682128896 : UInt64))), (.ref ar), (.int rn), (.int cn), (.ref q), (.ref q)])
  refine Go.on (fun _ k => XS.i2dS X4.here hx rfl (hb hby at_61) rfl rfl k) ?_
  show Go _ _ _ _ _ _ _ _ (mkF m 62 #[.val (.long j0), .second, .val (.int i1), .val (.int i2), .val (.int i3), .val (.int i4), .val (.int i5), .val (.int xi), .val (.int yi), .val (.int cz), .val (.int cn), .val (.int rn), .unset, .unset, .unset, .unset, .unset, .unset, .unset, .unset, .unset, .unset, .unset] [(.double (FP.i2d i2)), (.double (FP.ddiv (FP.i2d i1) (4620693217682128896 : UInt64))), (.ref ar), (.int rn), (.int cn), (.ref q), (.ref q)])
  refine Go.on (X4.ldc2DoubleC hx hown (mvT hZ (hw _ (List.mem_of_getElem? (i := 9) rfl))) (g := (mkF m 62 #[.val (.long j0), .second, .val (.int i1), .val (.int i2), .val (.int i3), .val (.int i4), .val (.int i5), .val (.int xi), .val (.int yi), .val (.int cz), .val (.int cn), .val (.int rn), .unset, .unset, .unset, .unset, .unset, .unset, .unset, .unset, .unset, .unset, .unset] [(.double (FP.i2d i2)), (.double (FP.ddiv (FP.i2d i1) (4620693217682128896 : UInt64))), (.ref ar), (.int rn), (.int cn), (.ref q), (.ref q)])) rfl (hb hby at_62)) ?_
  show Go _ _ _ _ _ _ _ _ (mkF m 65 #[.val (.long j0), .second, .val (.int i1), .val (.int i2), .val (.int i3), .val (.int i4), .val (.int i5), .val (.int xi), .val (.int yi), .val (.int cz), .val (.int cn), .val (.int rn), .unset, .unset, .unset, .unset, .unset, .unset, .unset, .unset, .unset, .unset, .unset] [(.double (4620693217682128896 : UInt64)), (.double (FP.i2d i2)), (.double (FP.ddiv (FP.i2d i1) (4620693217682128896 : UInt64))), (.ref ar), (.int rn), (.int cn), (.ref q), (.ref q)])
  refine Go.on (fun _ k => XS.ddivS X4.here hx rfl (hb hby at_65) rfl ((own_e8 _).nn) rfl k) ?_
  show Go _ _ _ _ _ _ _ _ (mkF m 66 #[.val (.long j0), .second, .val (.int i1), .val (.int i2), .val (.int i3), .val (.int i4), .val (.int i5), .val (.int xi), .val (.int yi), .val (.int cz), .val (.int cn), .val (.int rn), .unset, .unset, .unset, .unset, .unset, .unset, .unset, .unset, .unset, .unset, .unset] [(.double (FP.ddiv (FP.i2d i2) (4620693217682128896 : UInt64))), (.double (FP.ddiv (FP.i2d i1) (4620693217682128896 : UInt64))), (.ref ar), (.int rn), (.int cn), (.ref q), (.ref q)])
  refine Go.on (fun _ k => XS.iload X4.here hx rfl (hb hby at_66) rfl k) ?_
  show Go _ _ _ _ _ _ _ _ (mkF m 68 #[.val (.long j0), .second, .val (.int i1), .val (.int i2), .val (.int i3), .val (.int i4), .val (.int i5), .val (.int xi), .val (.int yi), .val (.int cz), .val (.int cn), .val (.int rn), .unset, .unset, .unset, .unset, .unset, .unset, .unset, .unset, .unset, .unset, .unset] [(.int cz), (.double (FP.ddiv (FP.i2d i2) (4620693217682128896 : UInt64))), (.double (FP.ddiv (FP.i2d i1) (4620693217682128896 : UInt64))), (.ref ar), (.int rn), (.int cn), (.ref q), (.ref q)])
  refine Go.on (fun _ k => XS.i2dS X4.here hx rfl (hb hby at_68) rfl rfl k) ?_
  show Go _ _ _ _ _ _ _ _ (mkF m 69 #[.val (.long j0), .second, .val (.int i1), .val (.int i2), .val (.int i3), .val (.int i4), .val (.int i5), .val (.int xi), .val (.int yi), .val (.int cz), .val (.int cn), .val (.int rn), .unset, .unset, .unset, .unset, .unset, .unset, .unset, .unset, .unset, .unset, .unset] [(.double (FP.i2d cz)), (.double (FP.ddiv (FP.i2d i2) (4620693217682128896 : UInt64))), (.double (FP.ddiv (FP.i2d i1) (4620693217682128896 : UInt64))), (.ref ar), (.int rn), (.int cn), (.ref q), (.ref q)])
  refine Go.on (X4.ldc2DoubleC hx hown (mvT hZ (hw _ (List.mem_of_getElem? (i := 9) rfl))) (g := (mkF m 69 #[.val (.long j0), .second, .val (.int i1), .val (.int i2), .val (.int i3), .val (.int i4), .val (.int i5), .val (.int xi), .val (.int yi), .val (.int cz), .val (.int cn), .val (.int rn), .unset, .unset, .unset, .unset, .unset, .unset, .unset, .unset, .unset, .unset, .unset] [(.double (FP.i2d cz)), (.double (FP.ddiv (FP.i2d i2) (4620693217682128896 : UInt64))), (.double (FP.ddiv (FP.i2d i1) (4620693217682128896 : UInt64))), (.ref ar), (.int rn), (.int cn), (.ref q), (.ref q)])) rfl (hb hby at_69)) ?_
  show Go _ _ _ _ _ _ _ _ (mkF m 72 #[.val (.long j0), .second, .val (.int i1), .val (.int i2), .val (.int i3), .val (.int i4), .val (.int i5), .val (.int xi), .val (.int yi), .val (.int cz), .val (.int cn), .val (.int rn), .unset, .unset, .unset, .unset, .unset, .unset, .unset, .unset, .unset, .unset, .unset] [(.double (4620693217682128896 : UInt64)), (.double (FP.i2d cz)), (.double (FP.ddiv (FP.i2d i2) (4620693217682128896 : UInt64))), (.double (FP.ddiv (FP.i2d i1) (4620693217682128896 : UInt64))), (.ref ar), (.int rn), (.int cn), (.ref q), (.ref q)])
  refine Go.on (fun _ k => XS.ddivS X4.here hx rfl (hb hby at_72) rfl ((own_e8 _).nn) rfl k) ?_
  show Go _ _ _ _ _ _ _ _ (mkF m 73 #[.val (.long j0), .second, .val (.int i1), .val (.int i2), .val (.int i3), .val (.int i4), .val (.int i5), .val (.int xi), .val (.int yi), .val (.int cz), .val (.int cn), .val (.int rn), .unset, .unset, .unset, .unset, .unset, .unset, .unset, .unset, .unset, .unset, .unset] [(.double (FP.ddiv (FP.i2d cz) (4620693217682128896 : UInt64))), (.double (FP.ddiv (FP.i2d i2) (4620693217682128896 : UInt64))), (.double (FP.ddiv (FP.i2d i1) (4620693217682128896 : UInt64))), (.ref ar), (.int rn), (.int cn), (.ref q), (.ref q)])
  have hk := own_cs hcz
  have hcn1 := own_mx hcn
  have hrn1 := own_mx hrn
  obtain ⟨_, _, ⟨T5, L5, k5, n5⟩, -, X5, ⟨Lc5, hQ5, l5, y5, z5⟩, st5⟩ := X4.specialBack hx (y := (⟨"hermitage/Grid", "<init>", "(II[DDDD)V"⟩ : MethodName)) rfl hown (mvT hZ (hw _ (List.mem_of_getElem? (i := 10) rfl))) (mvT hZ (hw _ (List.mem_of_getElem? (i := 11) rfl))) (mvT hZ (hw _ (List.mem_of_getElem? (i := 12) rfl))) (by decide) (backOf (W := 1) (rm2 l Z aw hw [] q cn rn ar (FP.ddiv (FP.i2d i1) (4620693217682128896 : UInt64)) (FP.ddiv (FP.i2d i2) (4620693217682128896 : UInt64)) (FP.ddiv (FP.i2d cz) (4620693217682128896 : UInt64)) k_ar h4 n0 ZZ E_q F_columns_q F_rows_q F_samples_q F_west_q F_south_q F_cellSize_q F_hasMissingCells_q V_ar g_q (own_nl hcn1) (own_nl hrn1) (own_fin8 _) (own_fin8 _) (own_pos8 hk.1) (own_ltinf (own_fin8 _)) (Ne.symm ne_q_ar)) hZ (hw _ (List.mem_of_getElem? (i := 12) rfl)) (hw _ (List.mem_of_getElem? (i := 7) rfl)) (by decide) (by decide)) (g := (mkF m 73 #[.val (.long j0), .second, .val (.int i1), .val (.int i2), .val (.int i3), .val (.int i4), .val (.int i5), .val (.int xi), .val (.int yi), .val (.int cz), .val (.int cn), .val (.int rn), .unset, .unset, .unset, .unset, .unset, .unset, .unset, .unset, .unset, .unset, .unset] [(.double (FP.ddiv (FP.i2d cz) (4620693217682128896 : UInt64))), (.double (FP.ddiv (FP.i2d i2) (4620693217682128896 : UInt64))), (.double (FP.ddiv (FP.i2d i1) (4620693217682128896 : UInt64))), (.ref ar), (.int rn), (.int cn), (.ref q), (.ref q)])) rfl (by rw [hml]; rfl) (Steps.refl _) (a := q) (argsL := [(.int cn), (.int rn), (.ref ar), (.double (FP.ddiv (FP.i2d i1) (4620693217682128896 : UInt64))), (.double (FP.ddiv (FP.i2d i2) (4620693217682128896 : UInt64))), (.double (FP.ddiv (FP.i2d cz) (4620693217682128896 : UInt64)))]) (rest := [(.ref q)]) (lenOf pd_3 rfl) rfl (by show 2 * 0 + _ ≤ _; exact Nat.le_of_eq rfl) (hb hby at_73) (fun _ _ => ⟨rfl, e4, (by decide : 2 + 0 ≤ _), (by decide : 8 + 0 ≤ _)⟩)
  dsimp only [Pt.U, Pt.locs, Pt.cells, Pt.slots] at X5 l5 y5 z5 st5 hQ5
  subst l5 y5 z5
  obtain ⟨h5, e5⟩ : ∃ q, T5.heap = q := ⟨_, rfl⟩
  rw [e5] at hQ5
  obtain ⟨rfl, N5q, K5q, E_q', F_columns_q', F_rows_q', F_west_q', F_south_q', F_cellSize_q'⟩ := hQ5
  have N5 := Fr.app N2 N5q
  replace E_q := E_q.keep K5q
  replace V_ar := V_ar.keep K5q (ninS (Ne.symm ne_q_ar) nin0)
  replace ZZ := Nat.le_trans ZZ K5q.1
  replace E_q := E_q'
  have F_columns_q := F_columns_q'
  have F_rows_q := F_rows_q'
  have F_west_q := F_west_q'
  have F_south_q := F_south_q'
  have F_cellSize_q := F_cellSize_q'
  refine Go.on (fun _ k => st5.trans k) ?_
  show Go _ _ _ _ _ _ _ _ (mkF m 76 #[.val (.long j0), .second, .val (.int i1), .val (.int i2), .val (.int i3), .val (.int i4), .val (.int i5), .val (.int xi), .val (.int yi), .val (.int cz), .val (.int cn), .val (.int rn), .unset, .unset, .unset, .unset, .unset, .unset, .unset, .unset, .unset, .unset, .unset] [(.ref q)])
  refine Go.on (fun _ k => XS.astore X5.here hx rfl (hb hby at_76) rfl rfl (l' := #[.val (.long j0), .second, .val (.int i1), .val (.int i2), .val (.int i3), .val (.int i4), .val (.int i5), .val (.int xi), .val (.int yi), .val (.int cz), .val (.int cn), .val (.int rn), .val (.ref q), .unset, .unset, .unset, .unset, .unset, .unset, .unset, .unset, .unset, .unset]) rfl k) ?_
  show Go _ _ _ _ _ _ _ _ (mkF m 78 #[.val (.long j0), .second, .val (.int i1), .val (.int i2), .val (.int i3), .val (.int i4), .val (.int i5), .val (.int xi), .val (.int yi), .val (.int cz), .val (.int cn), .val (.int rn), .val (.ref q), .unset, .unset, .unset, .unset, .unset, .unset, .unset, .unset, .unset, .unset] [])
  refine Go.on (fun _ k => XS.aload X5.here hx rfl (hb hby at_78) rfl rfl k) ?_
  show Go _ _ _ _ _ _ _ _ (mkF m 80 #[.val (.long j0), .second, .val (.int i1), .val (.int i2), .val (.int i3), .val (.int i4), .val (.int i5), .val (.int xi), .val (.int yi), .val (.int cz), .val (.int cn), .val (.int rn), .val (.ref q), .unset, .unset, .unset, .unset, .unset, .unset, .unset, .unset, .unset, .unset] [(.ref q)])
  refine Go.on (fun _ k => XS.iload X5.here hx rfl (hb hby at_80) rfl k) ?_
  show Go _ _ _ _ _ _ _ _ (mkF m 82 #[.val (.long j0), .second, .val (.int i1), .val (.int i2), .val (.int i3), .val (.int i4), .val (.int i5), .val (.int xi), .val (.int yi), .val (.int cz), .val (.int cn), .val (.int rn), .val (.ref q), .unset, .unset, .unset, .unset, .unset, .unset, .unset, .unset, .unset, .unset] [(.int xi), (.ref q)])
  refine Go.on (fun _ k => XS.i2dS X5.here hx rfl (hb hby at_82) rfl rfl k) ?_
  show Go _ _ _ _ _ _ _ _ (mkF m 83 #[.val (.long j0), .second, .val (.int i1), .val (.int i2), .val (.int i3), .val (.int i4), .val (.int i5), .val (.int xi), .val (.int yi), .val (.int cz), .val (.int cn), .val (.int rn), .val (.ref q), .unset, .unset, .unset, .unset, .unset, .unset, .unset, .unset, .unset, .unset] [(.double (FP.i2d xi)), (.ref q)])
  refine Go.on (X5.ldc2DoubleC hx hown (mvT hZ (hw _ (List.mem_of_getElem? (i := 9) rfl))) (g := (mkF m 83 #[.val (.long j0), .second, .val (.int i1), .val (.int i2), .val (.int i3), .val (.int i4), .val (.int i5), .val (.int xi), .val (.int yi), .val (.int cz), .val (.int cn), .val (.int rn), .val (.ref q), .unset, .unset, .unset, .unset, .unset, .unset, .unset, .unset, .unset, .unset] [(.double (FP.i2d xi)), (.ref q)])) rfl (hb hby at_83)) ?_
  show Go _ _ _ _ _ _ _ _ (mkF m 86 #[.val (.long j0), .second, .val (.int i1), .val (.int i2), .val (.int i3), .val (.int i4), .val (.int i5), .val (.int xi), .val (.int yi), .val (.int cz), .val (.int cn), .val (.int rn), .val (.ref q), .unset, .unset, .unset, .unset, .unset, .unset, .unset, .unset, .unset, .unset] [(.double (4620693217682128896 : UInt64)), (.double (FP.i2d xi)), (.ref q)])
  refine Go.on (fun _ k => XS.ddivS X5.here hx rfl (hb hby at_86) rfl ((own_e8 _).nn) rfl k) ?_
  show Go _ _ _ _ _ _ _ _ (mkF m 87 #[.val (.long j0), .second, .val (.int i1), .val (.int i2), .val (.int i3), .val (.int i4), .val (.int i5), .val (.int xi), .val (.int yi), .val (.int cz), .val (.int cn), .val (.int rn), .val (.ref q), .unset, .unset, .unset, .unset, .unset, .unset, .unset, .unset, .unset, .unset] [(.double (FP.ddiv (FP.i2d xi) (4620693217682128896 : UInt64))), (.ref q)])
  refine Go.on (fun _ k => XS.iload X5.here hx rfl (hb hby at_87) rfl k) ?_
  show Go _ _ _ _ _ _ _ _ (mkF m 89 #[.val (.long j0), .second, .val (.int i1), .val (.int i2), .val (.int i3), .val (.int i4), .val (.int i5), .val (.int xi), .val (.int yi), .val (.int cz), .val (.int cn), .val (.int rn), .val (.ref q), .unset, .unset, .unset, .unset, .unset, .unset, .unset, .unset, .unset, .unset] [(.int yi), (.double (FP.ddiv (FP.i2d xi) (4620693217682128896 : UInt64))), (.ref q)])
  refine Go.on (fun _ k => XS.i2dS X5.here hx rfl (hb hby at_89) rfl rfl k) ?_
  show Go _ _ _ _ _ _ _ _ (mkF m 90 #[.val (.long j0), .second, .val (.int i1), .val (.int i2), .val (.int i3), .val (.int i4), .val (.int i5), .val (.int xi), .val (.int yi), .val (.int cz), .val (.int cn), .val (.int rn), .val (.ref q), .unset, .unset, .unset, .unset, .unset, .unset, .unset, .unset, .unset, .unset] [(.double (FP.i2d yi)), (.double (FP.ddiv (FP.i2d xi) (4620693217682128896 : UInt64))), (.ref q)])
  refine Go.on (X5.ldc2DoubleC hx hown (mvT hZ (hw _ (List.mem_of_getElem? (i := 9) rfl))) (g := (mkF m 90 #[.val (.long j0), .second, .val (.int i1), .val (.int i2), .val (.int i3), .val (.int i4), .val (.int i5), .val (.int xi), .val (.int yi), .val (.int cz), .val (.int cn), .val (.int rn), .val (.ref q), .unset, .unset, .unset, .unset, .unset, .unset, .unset, .unset, .unset, .unset] [(.double (FP.i2d yi)), (.double (FP.ddiv (FP.i2d xi) (4620693217682128896 : UInt64))), (.ref q)])) rfl (hb hby at_90)) ?_
  show Go _ _ _ _ _ _ _ _ (mkF m 93 #[.val (.long j0), .second, .val (.int i1), .val (.int i2), .val (.int i3), .val (.int i4), .val (.int i5), .val (.int xi), .val (.int yi), .val (.int cz), .val (.int cn), .val (.int rn), .val (.ref q), .unset, .unset, .unset, .unset, .unset, .unset, .unset, .unset, .unset, .unset] [(.double (4620693217682128896 : UInt64)), (.double (FP.i2d yi)), (.double (FP.ddiv (FP.i2d xi) (4620693217682128896 : UInt64))), (.ref q)])
  refine Go.on (fun _ k => XS.ddivS X5.here hx rfl (hb hby at_93) rfl ((own_e8 _).nn) rfl k) ?_
  show Go _ _ _ _ _ _ _ _ (mkF m 94 #[.val (.long j0), .second, .val (.int i1), .val (.int i2), .val (.int i3), .val (.int i4), .val (.int i5), .val (.int xi), .val (.int yi), .val (.int cz), .val (.int cn), .val (.int rn), .val (.ref q), .unset, .unset, .unset, .unset, .unset, .unset, .unset, .unset, .unset, .unset] [(.double (FP.ddiv (FP.i2d yi) (4620693217682128896 : UInt64))), (.double (FP.ddiv (FP.i2d xi) (4620693217682128896 : UInt64))), (.ref q)])
  obtain ⟨cq6, kq6, q6a, q6b, q6c⟩ := isOf hZ e5 E_q
  obtain ⟨_, _, ⟨T6, L6, k6, n6⟩, -, X6, ⟨Lc6, hQ6, l6, y6, z6⟩, st6⟩ := X5.virtualBack hx (y := (⟨"hermitage/Grid", "covers", "(DD)Z"⟩ : MethodName)) (z := (⟨"hermitage/Grid", "covers", "(DD)Z"⟩ : MethodName)) hown (mvT hZ (hw _ (List.mem_of_getElem? (i := 42) rfl))) (mvT hZ (hw _ (List.mem_of_getElem? (i := 43) rfl))) (notFace_of_selects (args := #[]) (mvT hZ (hw _ (List.mem_of_getElem? (i := 45) rfl)))) (mvT hZ (hw _ (List.mem_of_getElem? (i := 45) rfl))) (mvT hZ (hw _ (List.mem_of_getElem? (i := 44) rfl))) (by decide) (backOf (W := 0) (rm7 l Z aw hw [] q (FP.ddiv (FP.i2d xi) (4620693217682128896 : UInt64)) (FP.ddiv (FP.i2d yi) (4620693217682128896 : UInt64)) (FP.ddiv (FP.i2d i1) (4620693217682128896 : UInt64)) (FP.ddiv (FP.i2d cz) (4620693217682128896 : UInt64)) (FP.ddiv (FP.i2d i2) (4620693217682128896 : UInt64)) cn rn h5 n0 ZZ F_west_q F_cellSize_q F_south_q F_columns_q F_rows_q (own_dif _ _).nn (own_qn _ _ _ hk.1) (own_dif _ _).nn (own_qn _ _ _ hk.1)) hZ (hw _ (List.mem_of_getElem? (i := 46) rfl)) (hw _ (List.mem_of_getElem? (i := 7) rfl)) (by decide) (by decide)) q6a q6c (g := (mkF m 94 #[.val (.long j0), .second, .val (.int i1), .val (.int i2), .val (.int i3), .val (.int i4), .val (.int i5), .val (.int xi), .val (.int yi), .val (.int cz), .val (.int cn), .val (.int rn), .val (.ref q), .unset, .unset, .unset, .unset, .unset, .unset, .unset, .unset, .unset, .unset] [(.double (FP.ddiv (FP.i2d yi) (4620693217682128896 : UInt64))), (.double (FP.ddiv (FP.i2d xi) (4620693217682128896 : UInt64))), (.ref q)])) rfl (by rw [hml]; rfl) (Steps.refl _) (argsL := [(.double (FP.ddiv (FP.i2d xi) (4620693217682128896 : UInt64))), (.double (FP.ddiv (FP.i2d yi) (4620693217682128896 : UInt64)))]) (rest := []) (lenOf pd_4 rfl) rfl (by show 2 * 0 + _ ≤ _; exact Nat.le_of_eq rfl) (hb hby at_94) (fun _ _ => ⟨rfl, e5, (by decide : 2 + 0 ≤ _), (by decide : 8 + 0 ≤ _)⟩)
  dsimp only [Pt.U, Pt.locs, Pt.cells, Pt.slots] at X6 l6 y6 z6 st6 hQ6
  subst l6 y6 z6
  obtain ⟨rfl, N6q, e6⟩ := hQ6
  have N6 := Fr.app N5 N6q
  refine Go.on (fun _ k => st6.trans k) ?_
  show Go _ _ _ _ _ _ _ _ (mkF m 97 #[.val (.long j0), .second, .val (.int i1), .val (.int i2), .val (.int i3), .val (.int i4), .val (.int i5), .val (.int xi), .val (.int yi), .val (.int cz), .val (.int cn), .val (.int rn), .val (.ref q), .unset, .unset, .unset, .unset, .unset, .unset, .unset, .unset, .unset, .unset] [(.int (coversV (FP.ddiv (FP.dsub (FP.ddiv (FP.i2d xi) (4620693217682128896 : UInt64)) (FP.ddiv (FP.i2d i1) (4620693217682128896 : UInt64))) (FP.ddiv (FP.i2d cz) (4620693217682128896 : UInt64))) (FP.ddiv (FP.dsub (FP.ddiv (FP.i2d yi) (4620693217682128896 : UInt64)) (FP.ddiv (FP.i2d i2) (4620693217682128896 : UInt64))) (FP.ddiv (FP.i2d cz) (4620693217682128896 : UInt64))) cn rn))])
  refine Go.on (fun _ k => XS.istore X6.here hx rfl (hb hby at_97) rfl (l' := #[.val (.long j0), .second, .val (.int i1), .val (.int i2), .val (.int i3), .val (.int i4), .val (.int i5), .val (.int xi), .val (.int yi), .val (.int cz), .val (.int cn), .val (.int rn), .val (.ref q), .val (.int (coversV (FP.ddiv (FP.dsub (FP.ddiv (FP.i2d xi) (4620693217682128896 : UInt64)) (FP.ddiv (FP.i2d i1) (4620693217682128896 : UInt64))) (FP.ddiv (FP.i2d cz) (4620693217682128896 : UInt64))) (FP.ddiv (FP.dsub (FP.ddiv (FP.i2d yi) (4620693217682128896 : UInt64)) (FP.ddiv (FP.i2d i2) (4620693217682128896 : UInt64))) (FP.ddiv (FP.i2d cz) (4620693217682128896 : UInt64))) cn rn)), .unset, .unset, .unset, .unset, .unset, .unset, .unset, .unset, .unset]) rfl k) ?_
  show Go _ _ _ _ _ _ _ _ (mkF m 99 #[.val (.long j0), .second, .val (.int i1), .val (.int i2), .val (.int i3), .val (.int i4), .val (.int i5), .val (.int xi), .val (.int yi), .val (.int cz), .val (.int cn), .val (.int rn), .val (.ref q), .val (.int (coversV (FP.ddiv (FP.dsub (FP.ddiv (FP.i2d xi) (4620693217682128896 : UInt64)) (FP.ddiv (FP.i2d i1) (4620693217682128896 : UInt64))) (FP.ddiv (FP.i2d cz) (4620693217682128896 : UInt64))) (FP.ddiv (FP.dsub (FP.ddiv (FP.i2d yi) (4620693217682128896 : UInt64)) (FP.ddiv (FP.i2d i2) (4620693217682128896 : UInt64))) (FP.ddiv (FP.i2d cz) (4620693217682128896 : UInt64))) cn rn)), .unset, .unset, .unset, .unset, .unset, .unset, .unset, .unset, .unset] [])
  generalize hgot : (coversV (FP.ddiv (FP.dsub (FP.ddiv (FP.i2d xi) (4620693217682128896 : UInt64)) (FP.ddiv (FP.i2d i1) (4620693217682128896 : UInt64))) (FP.ddiv (FP.i2d cz) (4620693217682128896 : UInt64))) (FP.ddiv (FP.dsub (FP.ddiv (FP.i2d yi) (4620693217682128896 : UInt64)) (FP.ddiv (FP.i2d i2) (4620693217682128896 : UInt64))) (FP.ddiv (FP.i2d cz) (4620693217682128896 : UInt64))) cn rn) = got
  show Go _ _ _ _ _ _ _ _ (mkF m 99 #[.val (.long j0), .second, .val (.int i1), .val (.int i2), .val (.int i3), .val (.int i4), .val (.int i5), .val (.int xi), .val (.int yi), .val (.int cz), .val (.int cn), .val (.int rn), .val (.ref q), .val (.int got), .unset, .unset, .unset, .unset, .unset, .unset, .unset, .unset, .unset] [])
  refine Go.on (fun _ k => XS.iload X6.here hx rfl (hb hby at_99) rfl k) ?_
  show Go _ _ _ _ _ _ _ _ (mkF m 101 #[.val (.long j0), .second, .val (.int i1), .val (.int i2), .val (.int i3), .val (.int i4), .val (.int i5), .val (.int xi), .val (.int yi), .val (.int cz), .val (.int cn), .val (.int rn), .val (.ref q), .val (.int got), .unset, .unset, .unset, .unset, .unset, .unset, .unset, .unset, .unset] [(.int xi)])
  refine Go.on (fun _ k => XS.i2l X6.here hx rfl (hb hby at_101) rfl k) ?_
  show Go _ _ _ _ _ _ _ _ (mkF m 102 #[.val (.long j0), .second, .val (.int i1), .val (.int i2), .val (.int i3), .val (.int i4), .val (.int i5), .val (.int xi), .val (.int yi), .val (.int cz), .val (.int cn), .val (.int rn), .val (.ref q), .val (.int got), .unset, .unset, .unset, .unset, .unset, .unset, .unset, .unset, .unset] [(.long (xi.toInt64))])
  refine Go.on (fun _ k => XS.iloadN X6.here hx rfl (hb hby at_102) rfl k) ?_
  show Go _ _ _ _ _ _ _ _ (mkF m 103 #[.val (.long j0), .second, .val (.int i1), .val (.int i2), .val (.int i3), .val (.int i4), .val (.int i5), .val (.int xi), .val (.int yi), .val (.int cz), .val (.int cn), .val (.int rn), .val (.ref q), .val (.int got), .unset, .unset, .unset, .unset, .unset, .unset, .unset, .unset, .unset] [(.int i1), (.long (xi.toInt64))])
  refine Go.on (fun _ k => XS.i2l X6.here hx rfl (hb hby at_103) rfl k) ?_
  show Go _ _ _ _ _ _ _ _ (mkF m 104 #[.val (.long j0), .second, .val (.int i1), .val (.int i2), .val (.int i3), .val (.int i4), .val (.int i5), .val (.int xi), .val (.int yi), .val (.int cz), .val (.int cn), .val (.int rn), .val (.ref q), .val (.int got), .unset, .unset, .unset, .unset, .unset, .unset, .unset, .unset, .unset] [(.long (i1.toInt64)), (.long (xi.toInt64))])
  refine Go.on (fun _ k => XS.lsub X6.here hx rfl (hb hby at_104) rfl k) ?_
  show Go _ _ _ _ _ _ _ _ (mkF m 105 #[.val (.long j0), .second, .val (.int i1), .val (.int i2), .val (.int i3), .val (.int i4), .val (.int i5), .val (.int xi), .val (.int yi), .val (.int cz), .val (.int cn), .val (.int rn), .val (.ref q), .val (.int got), .unset, .unset, .unset, .unset, .unset, .unset, .unset, .unset, .unset] [(.long ((xi.toInt64) - (i1.toInt64)))])
  refine Go.on (fun _ k => XS.lstore X6.here hx rfl (hb hby at_105) rfl (l' := #[.val (.long j0), .second, .val (.int i1), .val (.int i2), .val (.int i3), .val (.int i4), .val (.int i5), .val (.int xi), .val (.int yi), .val (.int cz), .val (.int cn), .val (.int rn), .val (.ref q), .val (.int got), .val (.long ((xi.toInt64) - (i1.toInt64))), .second, .unset, .unset, .unset, .unset, .unset, .unset, .unset]) rfl k) ?_
  show Go _ _ _ _ _ _ _ _ (mkF m 107 #[.val (.long j0), .second, .val (.int i1), .val (.int i2), .val (.int i3), .val (.int i4), .val (.int i5), .val (.int xi), .val (.int yi), .val (.int cz), .val (.int cn), .val (.int rn), .val (.ref q), .val (.int got), .val (.long ((xi.toInt64) - (i1.toInt64))), .second, .unset, .unset, .unset, .unset, .unset, .unset, .unset] [])
  generalize hdx : ((xi.toInt64) - (i1.toInt64)) = dx
  show Go _ _ _ _ _ _ _ _ (mkF m 107 #[.val (.long j0), .second, .val (.int i1), .val (.int i2), .val (.int i3), .val (.int i4), .val (.int i5), .val (.int xi), .val (.int yi), .val (.int cz), .val (.int cn), .val (.int rn), .val (.ref q), .val (.int got), .val (.long dx), .second, .unset, .unset, .unset, .unset, .unset, .unset, .unset] [])
  refine Go.on (fun _ k => XS.iload X6.here hx rfl (hb hby at_107) rfl k) ?_
  show Go _ _ _ _ _ _ _ _ (mkF m 109 #[.val (.long j0), .second, .val (.int i1), .val (.int i2), .val (.int i3), .val (.int i4), .val (.int i5), .val (.int xi), .val (.int yi), .val (.int cz), .val (.int cn), .val (.int rn), .val (.ref q), .val (.int got), .val (.long dx), .second, .unset, .unset, .unset, .unset, .unset, .unset, .unset] [(.int yi)])
  refine Go.on (fun _ k => XS.i2l X6.here hx rfl (hb hby at_109) rfl k) ?_
  show Go _ _ _ _ _ _ _ _ (mkF m 110 #[.val (.long j0), .second, .val (.int i1), .val (.int i2), .val (.int i3), .val (.int i4), .val (.int i5), .val (.int xi), .val (.int yi), .val (.int cz), .val (.int cn), .val (.int rn), .val (.ref q), .val (.int got), .val (.long dx), .second, .unset, .unset, .unset, .unset, .unset, .unset, .unset] [(.long (yi.toInt64))])
  refine Go.on (fun _ k => XS.iloadN X6.here hx rfl (hb hby at_110) rfl k) ?_
  show Go _ _ _ _ _ _ _ _ (mkF m 111 #[.val (.long j0), .second, .val (.int i1), .val (.int i2), .val (.int i3), .val (.int i4), .val (.int i5), .val (.int xi), .val (.int yi), .val (.int cz), .val (.int cn), .val (.int rn), .val (.ref q), .val (.int got), .val (.long dx), .second, .unset, .unset, .unset, .unset, .unset, .unset, .unset] [(.int i2), (.long (yi.toInt64))])
  refine Go.on (fun _ k => XS.i2l X6.here hx rfl (hb hby at_111) rfl k) ?_
  show Go _ _ _ _ _ _ _ _ (mkF m 112 #[.val (.long j0), .second, .val (.int i1), .val (.int i2), .val (.int i3), .val (.int i4), .val (.int i5), .val (.int xi), .val (.int yi), .val (.int cz), .val (.int cn), .val (.int rn), .val (.ref q), .val (.int got), .val (.long dx), .second, .unset, .unset, .unset, .unset, .unset, .unset, .unset] [(.long (i2.toInt64)), (.long (yi.toInt64))])
  refine Go.on (fun _ k => XS.lsub X6.here hx rfl (hb hby at_112) rfl k) ?_
  show Go _ _ _ _ _ _ _ _ (mkF m 113 #[.val (.long j0), .second, .val (.int i1), .val (.int i2), .val (.int i3), .val (.int i4), .val (.int i5), .val (.int xi), .val (.int yi), .val (.int cz), .val (.int cn), .val (.int rn), .val (.ref q), .val (.int got), .val (.long dx), .second, .unset, .unset, .unset, .unset, .unset, .unset, .unset] [(.long ((yi.toInt64) - (i2.toInt64)))])
  refine Go.on (fun _ k => XS.lstore X6.here hx rfl (hb hby at_113) rfl (l' := #[.val (.long j0), .second, .val (.int i1), .val (.int i2), .val (.int i3), .val (.int i4), .val (.int i5), .val (.int xi), .val (.int yi), .val (.int cz), .val (.int cn), .val (.int rn), .val (.ref q), .val (.int got), .val (.long dx), .second, .val (.long ((yi.toInt64) - (i2.toInt64))), .second, .unset, .unset, .unset, .unset, .unset]) rfl k) ?_
  show Go _ _ _ _ _ _ _ _ (mkF m 115 #[.val (.long j0), .second, .val (.int i1), .val (.int i2), .val (.int i3), .val (.int i4), .val (.int i5), .val (.int xi), .val (.int yi), .val (.int cz), .val (.int cn), .val (.int rn), .val (.ref q), .val (.int got), .val (.long dx), .second, .val (.long ((yi.toInt64) - (i2.toInt64))), .second, .unset, .unset, .unset, .unset, .unset] [])
  generalize hdy : ((yi.toInt64) - (i2.toInt64)) = dy
  show Go _ _ _ _ _ _ _ _ (mkF m 115 #[.val (.long j0), .second, .val (.int i1), .val (.int i2), .val (.int i3), .val (.int i4), .val (.int i5), .val (.int xi), .val (.int yi), .val (.int cz), .val (.int cn), .val (.int rn), .val (.ref q), .val (.int got), .val (.long dx), .second, .val (.long dy), .second, .unset, .unset, .unset, .unset, .unset] [])
  refine Go.on (fun _ k => XS.iload X6.here hx rfl (hb hby at_115) rfl k) ?_
  show Go _ _ _ _ _ _ _ _ (mkF m 117 #[.val (.long j0), .second, .val (.int i1), .val (.int i2), .val (.int i3), .val (.int i4), .val (.int i5), .val (.int xi), .val (.int yi), .val (.int cz), .val (.int cn), .val (.int rn), .val (.ref q), .val (.int got), .val (.long dx), .second, .val (.long dy), .second, .unset, .unset, .unset, .unset, .unset] [(.int cn)])
  refine Go.on (fun _ k => XS.i2l X6.here hx rfl (hb hby at_117) rfl k) ?_
  show Go _ _ _ _ _ _ _ _ (mkF m 118 #[.val (.long j0), .second, .val (.int i1), .val (.int i2), .val (.int i3), .val (.int i4), .val (.int i5), .val (.int xi), .val (.int yi), .val (.int cz), .val (.int cn), .val (.int rn), .val (.ref q), .val (.int got), .val (.long dx), .second, .val (.long dy), .second, .unset, .unset, .unset, .unset, .unset] [(.long (cn.toInt64))])
  refine Go.on (fun _ k => XS.iload X6.here hx rfl (hb hby at_118) rfl k) ?_
  show Go _ _ _ _ _ _ _ _ (mkF m 120 #[.val (.long j0), .second, .val (.int i1), .val (.int i2), .val (.int i3), .val (.int i4), .val (.int i5), .val (.int xi), .val (.int yi), .val (.int cz), .val (.int cn), .val (.int rn), .val (.ref q), .val (.int got), .val (.long dx), .second, .val (.long dy), .second, .unset, .unset, .unset, .unset, .unset] [(.int cz), (.long (cn.toInt64))])
  refine Go.on (fun _ k => XS.i2l X6.here hx rfl (hb hby at_120) rfl k) ?_
  show Go _ _ _ _ _ _ _ _ (mkF m 121 #[.val (.long j0), .second, .val (.int i1), .val (.int i2), .val (.int i3), .val (.int i4), .val (.int i5), .val (.int xi), .val (.int yi), .val (.int cz), .val (.int cn), .val (.int rn), .val (.ref q), .val (.int got), .val (.long dx), .second, .val (.long dy), .second, .unset, .unset, .unset, .unset, .unset] [(.long (cz.toInt64)), (.long (cn.toInt64))])
  refine Go.on (fun _ k => XS.lmul X6.here hx rfl (hb hby at_121) rfl k) ?_
  show Go _ _ _ _ _ _ _ _ (mkF m 122 #[.val (.long j0), .second, .val (.int i1), .val (.int i2), .val (.int i3), .val (.int i4), .val (.int i5), .val (.int xi), .val (.int yi), .val (.int cz), .val (.int cn), .val (.int rn), .val (.ref q), .val (.int got), .val (.long dx), .second, .val (.long dy), .second, .unset, .unset, .unset, .unset, .unset] [(.long ((cn.toInt64) * (cz.toInt64)))])
  refine Go.on (fun _ k => XS.lstore X6.here hx rfl (hb hby at_122) rfl (l' := #[.val (.long j0), .second, .val (.int i1), .val (.int i2), .val (.int i3), .val (.int i4), .val (.int i5), .val (.int xi), .val (.int yi), .val (.int cz), .val (.int cn), .val (.int rn), .val (.ref q), .val (.int got), .val (.long dx), .second, .val (.long dy), .second, .val (.long ((cn.toInt64) * (cz.toInt64))), .second, .unset, .unset, .unset]) rfl k) ?_
  show Go _ _ _ _ _ _ _ _ (mkF m 124 #[.val (.long j0), .second, .val (.int i1), .val (.int i2), .val (.int i3), .val (.int i4), .val (.int i5), .val (.int xi), .val (.int yi), .val (.int cz), .val (.int cn), .val (.int rn), .val (.ref q), .val (.int got), .val (.long dx), .second, .val (.long dy), .second, .val (.long ((cn.toInt64) * (cz.toInt64))), .second, .unset, .unset, .unset] [])
  generalize hsx : ((cn.toInt64) * (cz.toInt64)) = sx
  show Go _ _ _ _ _ _ _ _ (mkF m 124 #[.val (.long j0), .second, .val (.int i1), .val (.int i2), .val (.int i3), .val (.int i4), .val (.int i5), .val (.int xi), .val (.int yi), .val (.int cz), .val (.int cn), .val (.int rn), .val (.ref q), .val (.int got), .val (.long dx), .second, .val (.long dy), .second, .val (.long sx), .second, .unset, .unset, .unset] [])
  refine Go.on (fun _ k => XS.iload X6.here hx rfl (hb hby at_124) rfl k) ?_
  show Go _ _ _ _ _ _ _ _ (mkF m 126 #[.val (.long j0), .second, .val (.int i1), .val (.int i2), .val (.int i3), .val (.int i4), .val (.int i5), .val (.int xi), .val (.int yi), .val (.int cz), .val (.int cn), .val (.int rn), .val (.ref q), .val (.int got), .val (.long dx), .second, .val (.long dy), .second, .val (.long sx), .second, .unset, .unset, .unset] [(.int rn)])
  refine Go.on (fun _ k => XS.i2l X6.here hx rfl (hb hby at_126) rfl k) ?_
  show Go _ _ _ _ _ _ _ _ (mkF m 127 #[.val (.long j0), .second, .val (.int i1), .val (.int i2), .val (.int i3), .val (.int i4), .val (.int i5), .val (.int xi), .val (.int yi), .val (.int cz), .val (.int cn), .val (.int rn), .val (.ref q), .val (.int got), .val (.long dx), .second, .val (.long dy), .second, .val (.long sx), .second, .unset, .unset, .unset] [(.long (rn.toInt64))])
  refine Go.on (fun _ k => XS.iload X6.here hx rfl (hb hby at_127) rfl k) ?_
  show Go _ _ _ _ _ _ _ _ (mkF m 129 #[.val (.long j0), .second, .val (.int i1), .val (.int i2), .val (.int i3), .val (.int i4), .val (.int i5), .val (.int xi), .val (.int yi), .val (.int cz), .val (.int cn), .val (.int rn), .val (.ref q), .val (.int got), .val (.long dx), .second, .val (.long dy), .second, .val (.long sx), .second, .unset, .unset, .unset] [(.int cz), (.long (rn.toInt64))])
  refine Go.on (fun _ k => XS.i2l X6.here hx rfl (hb hby at_129) rfl k) ?_
  show Go _ _ _ _ _ _ _ _ (mkF m 130 #[.val (.long j0), .second, .val (.int i1), .val (.int i2), .val (.int i3), .val (.int i4), .val (.int i5), .val (.int xi), .val (.int yi), .val (.int cz), .val (.int cn), .val (.int rn), .val (.ref q), .val (.int got), .val (.long dx), .second, .val (.long dy), .second, .val (.long sx), .second, .unset, .unset, .unset] [(.long (cz.toInt64)), (.long (rn.toInt64))])
  refine Go.on (fun _ k => XS.lmul X6.here hx rfl (hb hby at_130) rfl k) ?_
  show Go _ _ _ _ _ _ _ _ (mkF m 131 #[.val (.long j0), .second, .val (.int i1), .val (.int i2), .val (.int i3), .val (.int i4), .val (.int i5), .val (.int xi), .val (.int yi), .val (.int cz), .val (.int cn), .val (.int rn), .val (.ref q), .val (.int got), .val (.long dx), .second, .val (.long dy), .second, .val (.long sx), .second, .unset, .unset, .unset] [(.long ((rn.toInt64) * (cz.toInt64)))])
  refine Go.on (fun _ k => XS.lstore X6.here hx rfl (hb hby at_131) rfl (l' := #[.val (.long j0), .second, .val (.int i1), .val (.int i2), .val (.int i3), .val (.int i4), .val (.int i5), .val (.int xi), .val (.int yi), .val (.int cz), .val (.int cn), .val (.int rn), .val (.ref q), .val (.int got), .val (.long dx), .second, .val (.long dy), .second, .val (.long sx), .second, .val (.long ((rn.toInt64) * (cz.toInt64))), .second, .unset]) rfl k) ?_
  show Go _ _ _ _ _ _ _ _ (mkF m 133 #[.val (.long j0), .second, .val (.int i1), .val (.int i2), .val (.int i3), .val (.int i4), .val (.int i5), .val (.int xi), .val (.int yi), .val (.int cz), .val (.int cn), .val (.int rn), .val (.ref q), .val (.int got), .val (.long dx), .second, .val (.long dy), .second, .val (.long sx), .second, .val (.long ((rn.toInt64) * (cz.toInt64))), .second, .unset] [])
  generalize hsy : ((rn.toInt64) * (cz.toInt64)) = sy
  show Go _ _ _ _ _ _ _ _ (mkF m 133 #[.val (.long j0), .second, .val (.int i1), .val (.int i2), .val (.int i3), .val (.int i4), .val (.int i5), .val (.int xi), .val (.int yi), .val (.int cz), .val (.int cn), .val (.int rn), .val (.ref q), .val (.int got), .val (.long dx), .second, .val (.long dy), .second, .val (.long sx), .second, .val (.long sy), .second, .unset] [])
  refine Go.on (fun _ k => XS.lload X6.here hx rfl (hb hby at_133) rfl k) ?_
  show Go _ _ _ _ _ _ _ _ (mkF m 135 #[.val (.long j0), .second, .val (.int i1), .val (.int i2), .val (.int i3), .val (.int i4), .val (.int i5), .val (.int xi), .val (.int yi), .val (.int cz), .val (.int cn), .val (.int rn), .val (.ref q), .val (.int got), .val (.long dx), .second, .val (.long dy), .second, .val (.long sx), .second, .val (.long sy), .second, .unset] [(.long dx)])
  refine Go.on (fun _ k => XS.lconst X6.here hx rfl (hb hby at_135) k) ?_
  show Go _ _ _ _ _ _ _ _ (mkF m 136 #[.val (.long j0), .second, .val (.int i1), .val (.int i2), .val (.int i3), .val (.int i4), .val (.int i5), .val (.int xi), .val (.int yi), .val (.int cz), .val (.int cn), .val (.int rn), .val (.ref q), .val (.int got), .val (.long dx), .second, .val (.long dy), .second, .val (.long sx), .second, .val (.long sy), .second, .unset] [(.long (0 : Int64)), (.long dx)])
  refine Go.on (fun _ k => XS.lcmp X6.here hx rfl (hb hby at_136) rfl k) ?_
  show Go _ _ _ _ _ _ _ _ (mkF m 137 #[.val (.long j0), .second, .val (.int i1), .val (.int i2), .val (.int i3), .val (.int i4), .val (.int i5), .val (.int xi), .val (.int yi), .val (.int cz), .val (.int cn), .val (.int rn), .val (.ref q), .val (.int got), .val (.long dx), .second, .val (.long dy), .second, .val (.long sx), .second, .val (.long sy), .second, .unset] [(.int (lcmpW dx (0 : Int64)))])
  suffices hJ7 : ∀ (ex : Int32), ex = (if dx < (0 : Int64) then (0 : Int32) else (if sx < dx then (0 : Int32) else (if dy < (0 : Int64) then (0 : Int32) else (if sy < dy then (0 : Int32) else (1 : Int32))))) → Go p e below s K1 K2 QQ T6 (mkF m 168 #[.val (.long j0), .second, .val (.int i1), .val (.int i2), .val (.int i3), .val (.int i4), .val (.int i5), .val (.int xi), .val (.int yi), .val (.int cz), .val (.int cn), .val (.int rn), .val (.ref q), .val (.int got), .val (.long dx), .second, .val (.long dy), .second, .val (.long sx), .second, .val (.long sy), .second, .unset] [(.int ex)]) by
    by_cases hc8 : dx < (0 : Int64)
    · -- pc 137 yes
      refine Go.on (fun _ k => XS.ifYes X6.here hx rfl (pc0 := 137) (pc' := 167) rfl (hb hby at_137) rfl ((if0 _ _).trans (tlt (own_lc_lt.mpr hc8)).1) (by decide) (by decide) k) ?_
      show Go _ _ _ _ _ _ _ _ (mkF m 167 #[.val (.long j0), .second, .val (.int i1), .val (.int i2), .val (.int i3), .val (.int i4), .val (.int i5), .val (.int xi), .val (.int yi), .val (.int cz), .val (.int cn), .val (.int rn), .val (.ref q), .val (.int got), .val (.long dx), .second, .val (.long dy), .second, .val (.long sx), .second, .val (.long sy), .second, .unset] [])
      refine Go.on (fun _ k => XS.iconst X6.here hx rfl (hb hby at_167) k) ?_
      show Go _ _ _ _ _ _ _ _ (mkF m 168 #[.val (.long j0), .second, .val (.int i1), .val (.int i2), .val (.int i3), .val (.int i4), .val (.int i5), .val (.int xi), .val (.int yi), .val (.int cz), .val (.int cn), .val (.int rn), .val (.ref q), .val (.int got), .val (.long dx), .second, .val (.long dy), .second, .val (.long sx), .second, .val (.long sy), .second, .unset] [(.int (0 : Int32))])
      exact hJ7 _ (by rw [if_pos hc8])
    · -- pc 137 no
      refine Go.on (fun _ k => XS.ifNo X6.here hx rfl (hb hby at_137) rfl ((if0 _ _).trans (flt (fun q => hc8 (own_lc_lt.mp q))).1) k) ?_
      show Go _ _ _ _ _ _ _ _ (mkF m 140 #[.val (.long j0), .second, .val (.int i1), .val (.int i2), .val (.int i3), .val (.int i4), .val (.int i5), .val (.int xi), .val (.int yi), .val (.int cz), .val (.int cn), .val (.int rn), .val (.ref q), .val (.int got), .val (.long dx), .second, .val (.long dy), .second, .val (.long sx), .second, .val (.long sy), .second, .unset] [])
      refine Go.on (fun _ k => XS.lload X6.here hx rfl (hb hby at_140) rfl k) ?_
      show Go _ _ _ _ _ _ _ _ (mkF m 142 #[.val (.long j0), .second, .val (.int i1), .val (.int i2), .val (.int i3), .val (.int i4), .val (.int i5), .val (.int xi), .val (.int yi), .val (.int cz), .val (.int cn), .val (.int rn), .val (.ref q), .val (.int got), .val (.long dx), .second, .val (.long dy), .second, .val (.long sx), .second, .val (.long sy), .second, .unset] [(.long dx)])
      refine Go.on (fun _ k => XS.lload X6.here hx rfl (hb hby at_142) rfl k) ?_
      show Go _ _ _ _ _ _ _ _ (mkF m 144 #[.val (.long j0), .second, .val (.int i1), .val (.int i2), .val (.int i3), .val (.int i4), .val (.int i5), .val (.int xi), .val (.int yi), .val (.int cz), .val (.int cn), .val (.int rn), .val (.ref q), .val (.int got), .val (.long dx), .second, .val (.long dy), .second, .val (.long sx), .second, .val (.long sy), .second, .unset] [(.long sx), (.long dx)])
      refine Go.on (fun _ k => XS.lcmp X6.here hx rfl (hb hby at_144) rfl k) ?_
      show Go _ _ _ _ _ _ _ _ (mkF m 145 #[.val (.long j0), .second, .val (.int i1), .val (.int i2), .val (.int i3), .val (.int i4), .val (.int i5), .val (.int xi), .val (.int yi), .val (.int cz), .val (.int cn), .val (.int rn), .val (.ref q), .val (.int got), .val (.long dx), .second, .val (.long dy), .second, .val (.long sx), .second, .val (.long sy), .second, .unset] [(.int (lcmpW dx sx))])
      by_cases hc9 : sx < dx
      · -- pc 145 yes
        refine Go.on (fun _ k => XS.ifYes X6.here hx rfl (pc0 := 145) (pc' := 167) rfl (hb hby at_145) rfl ((if0 _ _).trans (tlt (own_lc_gt.mpr hc9)).2.2.1) (by decide) (by decide) k) ?_
        show Go _ _ _ _ _ _ _ _ (mkF m 167 #[.val (.long j0), .second, .val (.int i1), .val (.int i2), .val (.int i3), .val (.int i4), .val (.int i5), .val (.int xi), .val (.int yi), .val (.int cz), .val (.int cn), .val (.int rn), .val (.ref q), .val (.int got), .val (.long dx), .second, .val (.long dy), .second, .val (.long sx), .second, .val (.long sy), .second, .unset] [])
        refine Go.on (fun _ k => XS.iconst X6.here hx rfl (hb hby at_167) k) ?_
        show Go _ _ _ _ _ _ _ _ (mkF m 168 #[.val (.long j0), .second, .val (.int i1), .val (.int i2), .val (.int i3), .val (.int i4), .val (.int i5), .val (.int xi), .val (.int yi), .val (.int cz), .val (.int cn), .val (.int rn), .val (.ref q), .val (.int got), .val (.long dx), .second, .val (.long dy), .second, .val (.long sx), .second, .val (.long sy), .second, .unset] [(.int (0 : Int32))])
        exact hJ7 _ (by rw [if_neg hc8, if_pos hc9])
      · -- pc 145 no
        refine Go.on (fun _ k => XS.ifNo X6.here hx rfl (hb hby at_145) rfl ((if0 _ _).trans (flt (fun q => hc9 (own_lc_gt.mp q))).2.2.1) k) ?_
        show Go _ _ _ _ _ _ _ _ (mkF m 148 #[.val (.long j0), .second, .val (.int i1), .val (.int i2), .val (.int i3), .val (.int i4), .val (.int i5), .val (.int xi), .val (.int yi), .val (.int cz), .val (.int cn), .val (.int rn), .val (.ref q), .val (.int got), .val (.long dx), .second, .val (.long dy), .second, .val (.long sx), .second, .val (.long sy), .second, .unset] [])
        refine Go.on (fun _ k => XS.lload X6.here hx rfl (hb hby at_148) rfl k) ?_
        show Go _ _ _ _ _ _ _ _ (mkF m 150 #[.val (.long j0), .second, .val (.int i1), .val (.int i2), .val (.int i3), .val (.int i4), .val (.int i5), .val (.int xi), .val (.int yi), .val (.int cz), .val (.int cn), .val (.int rn), .val (.ref q), .val (.int got), .val (.long dx), .second, .val (.long dy), .second, .val (.long sx), .second, .val (.long sy), .second, .unset] [(.long dy)])
        refine Go.on (fun _ k => XS.lconst X6.here hx rfl (hb hby at_150) k) ?_
        show Go _ _ _ _ _ _ _ _ (mkF m 151 #[.val (.long j0), .second, .val (.int i1), .val (.int i2), .val (.int i3), .val (.int i4), .val (.int i5), .val (.int xi), .val (.int yi), .val (.int cz), .val (.int cn), .val (.int rn), .val (.ref q), .val (.int got), .val (.long dx), .second, .val (.long dy), .second, .val (.long sx), .second, .val (.long sy), .second, .unset] [(.long (0 : Int64)), (.long dy)])
        refine Go.on (fun _ k => XS.lcmp X6.here hx rfl (hb hby at_151) rfl k) ?_
        show Go _ _ _ _ _ _ _ _ (mkF m 152 #[.val (.long j0), .second, .val (.int i1), .val (.int i2), .val (.int i3), .val (.int i4), .val (.int i5), .val (.int xi), .val (.int yi), .val (.int cz), .val (.int cn), .val (.int rn), .val (.ref q), .val (.int got), .val (.long dx), .second, .val (.long dy), .second, .val (.long sx), .second, .val (.long sy), .second, .unset] [(.int (lcmpW dy (0 : Int64)))])
        by_cases hc10 : dy < (0 : Int64)
        · -- pc 152 yes
          refine Go.on (fun _ k => XS.ifYes X6.here hx rfl (pc0 := 152) (pc' := 167) rfl (hb hby at_152) rfl ((if0 _ _).trans (tlt (own_lc_lt.mpr hc10)).1) (by decide) (by decide) k) ?_
          show Go _ _ _ _ _ _ _ _ (mkF m 167 #[.val (.long j0), .second, .val (.int i1), .val (.int i2), .val (.int i3), .val (.int i4), .val (.int i5), .val (.int xi), .val (.int yi), .val (.int cz), .val (.int cn), .val (.int rn), .val (.ref q), .val (.int got), .val (.long dx), .second, .val (.long dy), .second, .val (.long sx), .second, .val (.long sy), .second, .unset] [])
          refine Go.on (fun _ k => XS.iconst X6.here hx rfl (hb hby at_167) k) ?_
          show Go _ _ _ _ _ _ _ _ (mkF m 168 #[.val (.long j0), .second, .val (.int i1), .val (.int i2), .val (.int i3), .val (.int i4), .val (.int i5), .val (.int xi), .val (.int yi), .val (.int cz), .val (.int cn), .val (.int rn), .val (.ref q), .val (.int got), .val (.long dx), .second, .val (.long dy), .second, .val (.long sx), .second, .val (.long sy), .second, .unset] [(.int (0 : Int32))])
          exact hJ7 _ (by rw [if_neg hc8, if_neg hc9, if_pos hc10])
        · -- pc 152 no
          refine Go.on (fun _ k => XS.ifNo X6.here hx rfl (hb hby at_152) rfl ((if0 _ _).trans (flt (fun q => hc10 (own_lc_lt.mp q))).1) k) ?_
          show Go _ _ _ _ _ _ _ _ (mkF m 155 #[.val (.long j0), .second, .val (.int i1), .val (.int i2), .val (.int i3), .val (.int i4), .val (.int i5), .val (.int xi), .val (.int yi), .val (.int cz), .val (.int cn), .val (.int rn), .val (.ref q), .val (.int got), .val (.long dx), .second, .val (.long dy), .second, .val (.long sx), .second, .val (.long sy), .second, .unset] [])
          refine Go.on (fun _ k => XS.lload X6.here hx rfl (hb hby at_155) rfl k) ?_
          show Go _ _ _ _ _ _ _ _ (mkF m 157 #[.val (.long j0), .second, .val (.int i1), .val (.int i2), .val (.int i3), .val (.int i4), .val (.int i5), .val (.int xi), .val (.int yi), .val (.int cz), .val (.int cn), .val (.int rn), .val (.ref q), .val (.int got), .val (.long dx), .second, .val (.long dy), .second, .val (.long sx), .second, .val (.long sy), .second, .unset] [(.long dy)])
          refine Go.on (fun _ k => XS.lload X6.here hx rfl (hb hby at_157) rfl k) ?_
          show Go _ _ _ _ _ _ _ _ (mkF m 159 #[.val (.long j0), .second, .val (.int i1), .val (.int i2), .val (.int i3), .val (.int i4), .val (.int i5), .val (.int xi), .val (.int yi), .val (.int cz), .val (.int cn), .val (.int rn), .val (.ref q), .val (.int got), .val (.long dx), .second, .val (.long dy), .second, .val (.long sx), .second, .val (.long sy), .second, .unset] [(.long sy), (.long dy)])
          refine Go.on (fun _ k => XS.lcmp X6.here hx rfl (hb hby at_159) rfl k) ?_
          show Go _ _ _ _ _ _ _ _ (mkF m 160 #[.val (.long j0), .second, .val (.int i1), .val (.int i2), .val (.int i3), .val (.int i4), .val (.int i5), .val (.int xi), .val (.int yi), .val (.int cz), .val (.int cn), .val (.int rn), .val (.ref q), .val (.int got), .val (.long dx), .second, .val (.long dy), .second, .val (.long sx), .second, .val (.long sy), .second, .unset] [(.int (lcmpW dy sy))])
          by_cases hc11 : sy < dy
          · -- pc 160 yes
            refine Go.on (fun _ k => XS.ifYes X6.here hx rfl (pc0 := 160) (pc' := 167) rfl (hb hby at_160) rfl ((if0 _ _).trans (tlt (own_lc_gt.mpr hc11)).2.2.1) (by decide) (by decide) k) ?_
            show Go _ _ _ _ _ _ _ _ (mkF m 167 #[.val (.long j0), .second, .val (.int i1), .val (.int i2), .val (.int i3), .val (.int i4), .val (.int i5), .val (.int xi), .val (.int yi), .val (.int cz), .val (.int cn), .val (.int rn), .val (.ref q), .val (.int got), .val (.long dx), .second, .val (.long dy), .second, .val (.long sx), .second, .val (.long sy), .second, .unset] [])
            refine Go.on (fun _ k => XS.iconst X6.here hx rfl (hb hby at_167) k) ?_
            show Go _ _ _ _ _ _ _ _ (mkF m 168 #[.val (.long j0), .second, .val (.int i1), .val (.int i2), .val (.int i3), .val (.int i4), .val (.int i5), .val (.int xi), .val (.int yi), .val (.int cz), .val (.int cn), .val (.int rn), .val (.ref q), .val (.int got), .val (.long dx), .second, .val (.long dy), .second, .val (.long sx), .second, .val (.long sy), .second, .unset] [(.int (0 : Int32))])
            exact hJ7 _ (by rw [if_neg hc8, if_neg hc9, if_neg hc10, if_pos hc11])
          · -- pc 160 no
            refine Go.on (fun _ k => XS.ifNo X6.here hx rfl (hb hby at_160) rfl ((if0 _ _).trans (flt (fun q => hc11 (own_lc_gt.mp q))).2.2.1) k) ?_
            show Go _ _ _ _ _ _ _ _ (mkF m 163 #[.val (.long j0), .second, .val (.int i1), .val (.int i2), .val (.int i3), .val (.int i4), .val (.int i5), .val (.int xi), .val (.int yi), .val (.int cz), .val (.int cn), .val (.int rn), .val (.ref q), .val (.int got), .val (.long dx), .second, .val (.long dy), .second, .val (.long sx), .second, .val (.long sy), .second, .unset] [])
            refine Go.on (fun _ k => XS.iconst X6.here hx rfl (hb hby at_163) k) ?_
            show Go _ _ _ _ _ _ _ _ (mkF m 164 #[.val (.long j0), .second, .val (.int i1), .val (.int i2), .val (.int i3), .val (.int i4), .val (.int i5), .val (.int xi), .val (.int yi), .val (.int cz), .val (.int cn), .val (.int rn), .val (.ref q), .val (.int got), .val (.long dx), .second, .val (.long dy), .second, .val (.long sx), .second, .val (.long sy), .second, .unset] [(.int (1 : Int32))])
            refine Go.on (fun _ k => XS.goto X6.here hx rfl (pc0 := 164) (pc' := 168) rfl (hb hby at_164) (by decide) (by decide) k) ?_
            show Go _ _ _ _ _ _ _ _ (mkF m 168 #[.val (.long j0), .second, .val (.int i1), .val (.int i2), .val (.int i3), .val (.int i4), .val (.int i5), .val (.int xi), .val (.int yi), .val (.int cz), .val (.int cn), .val (.int rn), .val (.ref q), .val (.int got), .val (.long dx), .second, .val (.long dy), .second, .val (.long sx), .second, .val (.long sy), .second, .unset] [(.int (1 : Int32))])
            exact hJ7 _ (by rw [if_neg hc8, if_neg hc9, if_neg hc10, if_neg hc11])
  intro ex hex
  refine Go.on (fun _ k => XS.istore X6.here hx rfl (hb hby at_168) rfl (l' := #[.val (.long j0), .second, .val (.int i1), .val (.int i2), .val (.int i3), .val (.int i4), .val (.int i5), .val (.int xi), .val (.int yi), .val (.int cz), .val (.int cn), .val (.int rn), .val (.ref q), .val (.int got), .val (.long dx), .second, .val (.long dy), .second, .val (.long sx), .second, .val (.long sy), .second, .val (.int ex)]) rfl k) ?_
  show Go _ _ _ _ _ _ _ _ (mkF m 170 #[.val (.long j0), .second, .val (.int i1), .val (.int i2), .val (.int i3), .val (.int i4), .val (.int i5), .val (.int xi), .val (.int yi), .val (.int cz), .val (.int cn), .val (.int rn), .val (.ref q), .val (.int got), .val (.long dx), .second, .val (.long dy), .second, .val (.long sx), .second, .val (.long sy), .second, .val (.int ex)] [])
  refine Go.on (fun _ k => XS.iload X6.here hx rfl (hb hby at_170) rfl k) ?_
  show Go _ _ _ _ _ _ _ _ (mkF m 172 #[.val (.long j0), .second, .val (.int i1), .val (.int i2), .val (.int i3), .val (.int i4), .val (.int i5), .val (.int xi), .val (.int yi), .val (.int cz), .val (.int cn), .val (.int rn), .val (.ref q), .val (.int got), .val (.long dx), .second, .val (.long dy), .second, .val (.long sx), .second, .val (.long sy), .second, .val (.int ex)] [(.int got)])
  refine Go.on (fun _ k => XS.iload X6.here hx rfl (hb hby at_172) rfl k) ?_
  show Go _ _ _ _ _ _ _ _ (mkF m 174 #[.val (.long j0), .second, .val (.int i1), .val (.int i2), .val (.int i3), .val (.int i4), .val (.int i5), .val (.int xi), .val (.int yi), .val (.int cz), .val (.int cn), .val (.int rn), .val (.ref q), .val (.int got), .val (.long dx), .second, .val (.long dy), .second, .val (.long sx), .second, .val (.long sy), .second, .val (.int ex)] [(.int ex), (.int got)])
  suffices hJ13 : ∀ (v12 : Int32), v12 = (if got = ex then (1 : Int32) else (0 : Int32)) → Go p e below s K1 K2 QQ T6 (mkF m 182 #[.val (.long j0), .second, .val (.int i1), .val (.int i2), .val (.int i3), .val (.int i4), .val (.int i5), .val (.int xi), .val (.int yi), .val (.int cz), .val (.int cn), .val (.int rn), .val (.ref q), .val (.int got), .val (.long dx), .second, .val (.long dy), .second, .val (.long sx), .second, .val (.long sy), .second, .val (.int ex)] [(.int v12)]) by
    by_cases hc14 : got = ex
    · -- pc 174 yes
      refine Go.on (fun _ k => XS.icmpNo X6.here hx rfl (hb hby at_174) rfl (teq hc14).2 k) ?_
      show Go _ _ _ _ _ _ _ _ (mkF m 177 #[.val (.long j0), .second, .val (.int i1), .val (.int i2), .val (.int i3), .val (.int i4), .val (.int i5), .val (.int xi), .val (.int yi), .val (.int cz), .val (.int cn), .val (.int rn), .val (.ref q), .val (.int got), .val (.long dx), .second, .val (.long dy), .second, .val (.long sx), .second, .val (.long sy), .second, .val (.int ex)] [])
      refine Go.on (fun _ k => XS.iconst X6.here hx rfl (hb hby at_177) k) ?_
      show Go _ _ _ _ _ _ _ _ (mkF m 178 #[.val (.long j0), .second, .val (.int i1), .val (.int i2), .val (.int i3), .val (.int i4), .val (.int i5), .val (.int xi), .val (.int yi), .val (.int cz), .val (.int cn), .val (.int rn), .val (.ref q), .val (.int got), .val (.long dx), .second, .val (.long dy), .second, .val (.long sx), .second, .val (.long sy), .second, .val (.int ex)] [(.int (1 : Int32))])
      refine Go.on (fun _ k => XS.goto X6.here hx rfl (pc0 := 178) (pc' := 182) rfl (hb hby at_178) (by decide) (by decide) k) ?_
      show Go _ _ _ _ _ _ _ _ (mkF m 182 #[.val (.long j0), .second, .val (.int i1), .val (.int i2), .val (.int i3), .val (.int i4), .val (.int i5), .val (.int xi), .val (.int yi), .val (.int cz), .val (.int cn), .val (.int rn), .val (.ref q), .val (.int got), .val (.long dx), .second, .val (.long dy), .second, .val (.long sx), .second, .val (.long sy), .second, .val (.int ex)] [(.int (1 : Int32))])
      exact hJ13 _ (by rw [if_pos hc14])
    · -- pc 174 no
      refine Go.on (fun _ k => XS.icmpYes X6.here hx rfl (pc0 := 174) (pc' := 181) rfl (hb hby at_174) rfl (feq hc14).2 (by decide) (by decide) k) ?_
      show Go _ _ _ _ _ _ _ _ (mkF m 181 #[.val (.long j0), .second, .val (.int i1), .val (.int i2), .val (.int i3), .val (.int i4), .val (.int i5), .val (.int xi), .val (.int yi), .val (.int cz), .val (.int cn), .val (.int rn), .val (.ref q), .val (.int got), .val (.long dx), .second, .val (.long dy), .second, .val (.long sx), .second, .val (.long sy), .second, .val (.int ex)] [])
      refine Go.on (fun _ k => XS.iconst X6.here hx rfl (hb hby at_181) k) ?_
      show Go _ _ _ _ _ _ _ _ (mkF m 182 #[.val (.long j0), .second, .val (.int i1), .val (.int i2), .val (.int i3), .val (.int i4), .val (.int i5), .val (.int xi), .val (.int yi), .val (.int cz), .val (.int cn), .val (.int rn), .val (.ref q), .val (.int got), .val (.long dx), .second, .val (.long dy), .second, .val (.long sx), .second, .val (.long sy), .second, .val (.int ex)] [(.int (0 : Int32))])
      exact hJ13 _ (by rw [if_neg hc14])
  intro v12 hv12
  refine Go.retN X6 hx (t := .boolean) Bd.returns (by simp) (hb hby at_182) ?_ (by rw [hK1]; decide) (by rw [hK2]; decide)
  rw [e6, ← hQQ]
  have hres : v12 = 1 := own_pure hk hcn1 hrn1 hgot hdx hdy hsx hsy hex hv12
  rw [hres]
  exact ⟨rfl, N6⟩
set_option maxRecDepth 65536 in
set_option maxHeartbeats 40000000 in
theorem comes_1 {Post : Tables → Env → Array Value → State → Outcome → State → Prop} (hpost : ∀ tb e args s v u, (limb_1_1.after args s (.returned v) u = true ∧ limb_1_2.after args s (.returned v) u = true ∧ True) → FrameEnd s (.returned v) u (Jvm.fieldLocs frame_1_writes args s ++ Jvm.arrayLocs frame_1_arrays args s ++ Jvm.staticLocs frame_1_statics s) 16 128 → Post tb e args s (.returned v) u) :
    ArmFor flags0 classFile x code maxLocals ret World_1 tables_1 room_1 Calls_1 rest_1 Pre_1 Post := by
  intro l hfl _ _ p e ha hc hk s m args below hf hA hF happ hP
  obtain ⟨hcalls, hrest, hpre⟩ := hP
  obtain ⟨-, -, -, hnamed, -, -, -, hat⟩ := (Spec.applies_iff hf).mp happ
  obtain ⟨hg, hn⟩ := and_e (Cond.before_iff.mp (show (Jvm.Cond.and given_1 narrow_1).before args s = true from hpre))
  obtain ⟨g0, r0⟩ := and_e hg
  obtain ⟨g1, r1⟩ := and_e r0
  obtain ⟨g2, r2⟩ := and_e r1
  obtain ⟨g3, r3⟩ := and_e r2
  obtain ⟨g4, r4⟩ := and_e r3
  obtain ⟨g5, g6⟩ := and_e r4
  obtain ⟨w0, w1, w2, w3, w4, w5, rfl⟩ : ∃ w0 w1 w2 w3 w4 w5 : Value, args = #[w0, w1, w2, w3, w4, w5] := by
    have hs : args.size = 6 := by simpa [Cond.value, given_1] using g0
    obtain ⟨L⟩ := args
    match L, hs with
    | [w0, w1, w2, w3, w4, w5], _ => exact ⟨w0, w1, w2, w3, w4, w5, rfl⟩
  have hw := fun d (hd : d ∈ tables_1) => atoms_spec (ws := Jvm.Cond.code x code maxLocals ret :: tables_1) hat d (List.mem_cons_of_mem _ hd)
  have hfit : Fit s := fun {y c} hc i hi => by
    obtain ⟨ha, rfl⟩ := Array.getElem?_eq_some_iff.mp hc
    have q := List.all_eq_true.mp ((Array.all_eq_true_iff_forall_mem.mp hF) _ (Array.getElem_mem ha)) i (List.mem_range.mpr hi)
    simpa [Array.getElem?_eq_getElem hi] using q
  obtain ⟨i0, ei0⟩ := isL_v g1
  obtain rfl : w0 = (.long i0) := Option.some.inj ei0
  obtain ⟨i1, ei1⟩ := is_v g2
  obtain rfl : w1 = (.int i1) := Option.some.inj ei1
  obtain ⟨i2, ei2⟩ := is_v g3
  obtain rfl : w2 = (.int i2) := Option.some.inj ei2
  obtain ⟨i3, ei3⟩ := is_v g4
  obtain rfl : w3 = (.int i3) := Option.some.inj ei3
  obtain ⟨i4, ei4⟩ := is_v g5
  obtain rfl : w4 = (.int i4) := Option.some.inj ei4
  obtain ⟨i5, ei5⟩ := is_v g6
  obtain rfl : w5 = (.int i5) := Option.some.inj ei5
  obtain ⟨n, o, h1, h2, h3, _, L, rfl, ⟨rfl, N⟩, hq⟩ := rm0 l s _ hw tables_1 i0 i1 i2 i3 i4 i5 s.heap s.heap.size (Nat.le_refl _) p e ha hc hk s m _ below hf ((Spec.applies_iff_loose hf).mp happ).1 ⟨rfl, State.Warmed39.refl s, rfl⟩ trivial
  refine ⟨n, _, h1, h2, h3, hpost _ _ _ _ _ _ ⟨Cond.after_iff.mpr rfl, Cond.after_iff.mpr (eq_i res_at (Term.int_eval (1)) rfl), trivial⟩ ⟨hq.1, hq.2.1, (hq.2.2.sift fun y hy => Or.inr (N y hy)).mono (by decide) (by decide)⟩⟩
theorem main_1_1 : Claimed_1_1 := comes_1 fun _ _ _ _ _ _ h hF => ⟨h.1, hF⟩
theorem main_1_2 : Claimed_1_2 := comes_1 fun _ _ _ _ _ _ h hF => ⟨h.2.1, hF⟩
end Jvm.Pilot.@@N@@
namespace Jvm.Pilot.@@N@@
open Jvm Jvm.ClassFile Sem Op Lib Jvm.Free Jvm.Stand Jvm.Pilot.@@N@@.Jvm.D
/-! MADE BY PROGRAM (witnessworld.py) out of the Statement's table words and the real class files: 17 classes; the members and pool entries that the words name. The judged class is class 1, her method 1. -/
namespace start1
open Jvm.ClassFile
def u (s : String) : CpInfo := .utf8 (stringToUtf16 s)
/-- a pool by its gaps: so many unusable entries, then the entry; so many at the end -/
def gap : Nat → List CpInfo → List CpInfo
  | 0, r => r
  | n + 1, r => .unusable :: gap n r
def poolList (es : List (Nat × CpInfo)) (last : Nat) : List CpInfo := es.foldr (fun e r => gap e.1 (e.2 :: r)) (gap last [])
def pool (es : List (Nat × CpInfo)) (last : Nat) : Array CpInfo := ⟨poolList es last⟩
def fileOf (pool : Array CpInfo) (this : Nat) (attrs : Array Attribute := #[]) (ms : Array MethodInfo := #[]) (fl : Nat := 33) (sup : Nat := 0) (ifs : Array Nat := #[]) (fds : Array FieldInfo := #[]) : ClassFile where
  minorVersion := 0
  majorVersion := 65
  constantPool := pool
  accessFlags := fl
  thisClass := this
  superClass := sup
  interfaces := ifs
  fields := fds
  methods := ms
  attributes := attrs
def plain (name : String) (sup : Option ClassId) : Class where
  name := name
  kind := .ordinary
  loader := none
  accessFlags := 33
  super := sup
  interfaces := #[]
  cf := none
  fields := #[]
  methods := #[]
  instanceTypes := #[]
  staticTypes := #[]
  resolved := #[]
  callSites := []
  init := .initialized
  statics := none
  mirror := none

def pool0 : Array CpInfo := pool [(5, u "<init>"), (0, u "()V"), (1, .class_ 10), (1, u "java/lang/Object")] 113

def k0c0 : Code := { maxStack := 0, maxLocals := 1, code := object_method_1_code, exceptionTable := #[], attributes := #[] }
def k0m0 : Method := { name := "<init>", desc := "()V", sig := { parameters := [], returnType := none }, accessFlags := 1, code := some k0c0 }
/-- java/lang/Object -/
def k0 : Class := { plain "java/lang/Object" none with
  accessFlags := 33
  interfaces := #[]
  cf := some (fileOf pool0 8 #[] #[{ accessFlags := 1, nameIndex := 5, descriptorIndex := 6, attributes := #[] }] 33 0 #[] #[])
  fields := #[]
  methods := #[k0m0]
  instanceTypes := #[]
  staticTypes := #[]
  resolved := Array.replicate 124 none
  statics := none }

def pool1 : Array CpInfo := pool [(2, .class_ 4), (1, u "java/lang/Object"), (0, u "<init>"), (0, u "()V"), (0, .integer 2147483647), (0, .methodref 9 10), (0, .class_ 11), (0, .nameAndType 12 13), (0, u "java/lang/Math"), (0, u "max"), (0, u "(II)I"), (0, .class_ 15), (0, u "hermitage/Grid"), (0, .double 4620693217682128896), (1, .methodref 14 19), (0, .nameAndType 5 20), (0, u "(II[DDDD)V"), (0, .methodref 14 22), (0, .nameAndType 23 24), (0, u "covers"), (0, u "(DD)Z"), (0, .class_ 26), (0, u "hermitage/GridCoversPinLaw"), (2, u "law"), (0, u "(JIIIII)Z")] 3

def k1m0 : Method := { name := "<init>", desc := "()V", sig := { parameters := [], returnType := none }, accessFlags := 1, code := none }
def k1c1 : Code := { maxStack := 13, maxLocals := 23, code := code, exceptionTable := #[], attributes := #[] }
def k1m1 : Method := { name := "law", desc := "(JIIIII)Z", sig := { parameters := [.long, .int, .int, .int, .int, .int], returnType := some .boolean }, accessFlags := 9, code := some k1c1 }
/-- hermitage/GridCoversPinLaw -/
def k1 : Class := { plain "hermitage/GridCoversPinLaw" (some 0) with
  accessFlags := 49
  interfaces := #[]
  cf := some (fileOf pool1 25 #[] #[{ accessFlags := 1, nameIndex := 5, descriptorIndex := 6, attributes := #[] }, { accessFlags := 9, nameIndex := 29, descriptorIndex := 30, attributes := #[] }] 49 2 #[] #[])
  fields := #[]
  methods := #[k1m0, k1m1]
  instanceTypes := #[]
  staticTypes := #[]
  resolved := Array.replicate 34 none
  statics := none }

def pool2 : Array CpInfo := pool [(1, .class_ 2), (0, u "java/lang/Math"), (1, .class_ 6), (1, u "java/lang/Object"), (0, u "<init>"), (0, u "()V"), (5, u "(D)D"), (83, .class_ 100), (1, u "java/lang/Math$RandomNumberGeneratorHolder"), (23, u "abs"), (47, u "negativeZeroFloatBits"), (0, u "J"), (2, u "negativeZeroDoubleBits"), (21, u "max"), (46, u "$assertionsDisabled"), (0, u "Z"), (88, u "(II)I"), (2, u "twoToTheDoubleScaleDown"), (0, u "D"), (4, u "twoToTheDoubleScaleUp"), (9, u "E"), (3, u "PI"), (2, u "TAU"), (2, u "DEGREES_TO_RADIANS"), (0, u "RADIANS_TO_DEGREES")] 94

def k2m0 : Method := { name := "<init>", desc := "()V", sig := { parameters := [], returnType := none }, accessFlags := 2, code := none }
def k2c1 : Code := { maxStack := 4, maxLocals := 2, code := jdk_29_method_64_code, exceptionTable := #[], attributes := #[] }
def k2m1 : Method := { name := "abs", desc := "(D)D", sig := { parameters := [.double], returnType := some .double }, accessFlags := 9, code := some k2c1 }
def k2c2 : Code := { maxStack := 2, maxLocals := 2, code := jdk_29_method_65_code, exceptionTable := #[], attributes := #[] }
def k2m2 : Method := { name := "max", desc := "(II)I", sig := { parameters := [.int, .int], returnType := some .int }, accessFlags := 9, code := some k2c2 }
/-- java/lang/Math -/
def k2 : Class := { plain "java/lang/Math" (some 0) with
  accessFlags := 49
  interfaces := #[]
  cf := some (fileOf pool2 1 #[.nestMembers #[98]] #[{ accessFlags := 2, nameIndex := 7, descriptorIndex := 8, attributes := #[] }, { accessFlags := 9, nameIndex := 124, descriptorIndex := 14, attributes := #[] }, { accessFlags := 9, nameIndex := 198, descriptorIndex := 335, attributes := #[] }] 49 4 #[] #[{ accessFlags := 25, nameIndex := 354, descriptorIndex := 339, attributes := #[] }, { accessFlags := 25, nameIndex := 358, descriptorIndex := 339, attributes := #[] }, { accessFlags := 25, nameIndex := 361, descriptorIndex := 339, attributes := #[] }, { accessFlags := 26, nameIndex := 364, descriptorIndex := 339, attributes := #[] }, { accessFlags := 26, nameIndex := 365, descriptorIndex := 339, attributes := #[] }, { accessFlags := 26, nameIndex := 172, descriptorIndex := 173, attributes := #[] }, { accessFlags := 26, nameIndex := 176, descriptorIndex := 173, attributes := #[] }, { accessFlags := 8, nameIndex := 344, descriptorIndex := 339, attributes := #[] }, { accessFlags := 8, nameIndex := 338, descriptorIndex := 339, attributes := #[] }, { accessFlags := 4120, nameIndex := 245, descriptorIndex := 246, attributes := #[] }])
  fields := #[{ name := "E", type := .double, accessFlags := 25, slot := 0, constantValue := 0 }, { name := "PI", type := .double, accessFlags := 25, slot := 1, constantValue := 0 }, { name := "TAU", type := .double, accessFlags := 25, slot := 2, constantValue := 0 }, { name := "DEGREES_TO_RADIANS", type := .double, accessFlags := 26, slot := 3, constantValue := 0 }, { name := "RADIANS_TO_DEGREES", type := .double, accessFlags := 26, slot := 4, constantValue := 0 }, { name := "negativeZeroFloatBits", type := .long, accessFlags := 26, slot := 5, constantValue := 0 }, { name := "negativeZeroDoubleBits", type := .long, accessFlags := 26, slot := 6, constantValue := 0 }, { name := "twoToTheDoubleScaleUp", type := .double, accessFlags := 8, slot := 7, constantValue := 0 }, { name := "twoToTheDoubleScaleDown", type := .double, accessFlags := 8, slot := 8, constantValue := 0 }, { name := "$assertionsDisabled", type := .boolean, accessFlags := 4120, slot := 9, constantValue := 0 }]
  methods := #[k2m0, k2m1, k2m2]
  instanceTypes := #[]
  staticTypes := #[.double, .double, .double, .double, .double, .long, .long, .double, .double, .boolean]
  resolved := Array.replicate 460 none
  statics := none }

def pool3 : Array CpInfo := pool [(2, .class_ 4), (1, u "hermitage/Grid"), (4, u "<init>"), (0, u "(II[DDDD)V"), (0, .methodref 12 13), (0, .class_ 14), (0, .nameAndType 9 15), (0, u "java/lang/Object"), (0, u "()V"), (7, .methodref 24 25), (0, .class_ 26), (0, .nameAndType 27 28), (0, u "java/lang/Double"), (0, u "isFinite"), (0, u "(D)Z"), (4, .double 9218868437227405312), (4, .fieldref 2 39), (0, .nameAndType 40 41), (0, u "columns"), (0, u "I"), (0, .fieldref 2 43), (0, .nameAndType 44 41), (0, u "rows"), (0, .fieldref 2 46), (0, .nameAndType 47 48), (0, u "samples"), (0, u "[D"), (0, .fieldref 2 50), (0, .nameAndType 51 52), (0, u "west"), (0, u "D"), (0, .fieldref 2 54), (0, .nameAndType 55 52), (0, u "south"), (0, .fieldref 2 57), (0, .nameAndType 58 52), (0, u "cellSize"), (0, .methodref 24 60), (0, .nameAndType 61 28), (0, u "isNaN"), (0, .fieldref 2 63), (0, .nameAndType 64 65), (0, u "hasMissingCells"), (0, u "Z"), (39, u "covers"), (0, u "(DD)Z")] 24

def k3c0 : Code := { maxStack := 6, maxLocals := 12, code := prog_16_method_2_code, exceptionTable := #[], attributes := #[] }
def k3m0 : Method := { name := "<init>", desc := "(II[DDDD)V", sig := { parameters := [.int, .int, (.array .double), .double, .double, .double], returnType := none }, accessFlags := 0, code := some k3c0 }
def k3c1 : Code := { maxStack := 4, maxLocals := 9, code := prog_16_method_9_code, exceptionTable := #[], attributes := #[] }
def k3m1 : Method := { name := "covers", desc := "(DD)Z", sig := { parameters := [.double, .double], returnType := some .boolean }, accessFlags := 1, code := some k3c1 }
/-- hermitage/Grid -/
def k3 : Class := { plain "hermitage/Grid" (some 0) with
  accessFlags := 49
  interfaces := #[]
  cf := some (fileOf pool3 2 #[] #[{ accessFlags := 0, nameIndex := 9, descriptorIndex := 10, attributes := #[] }, { accessFlags := 1, nameIndex := 105, descriptorIndex := 106, attributes := #[] }] 49 12 #[] #[{ accessFlags := 18, nameIndex := 40, descriptorIndex := 41, attributes := #[] }, { accessFlags := 18, nameIndex := 44, descriptorIndex := 41, attributes := #[] }, { accessFlags := 18, nameIndex := 47, descriptorIndex := 48, attributes := #[] }, { accessFlags := 18, nameIndex := 51, descriptorIndex := 52, attributes := #[] }, { accessFlags := 18, nameIndex := 55, descriptorIndex := 52, attributes := #[] }, { accessFlags := 18, nameIndex := 58, descriptorIndex := 52, attributes := #[] }, { accessFlags := 18, nameIndex := 64, descriptorIndex := 65, attributes := #[] }])
  fields := #[{ name := "columns", type := .int, accessFlags := 18, slot := 0, constantValue := 0 }, { name := "rows", type := .int, accessFlags := 18, slot := 1, constantValue := 0 }, { name := "samples", type := (.array .double), accessFlags := 18, slot := 2, constantValue := 0 }, { name := "west", type := .double, accessFlags := 18, slot := 3, constantValue := 0 }, { name := "south", type := .double, accessFlags := 18, slot := 4, constantValue := 0 }, { name := "cellSize", type := .double, accessFlags := 18, slot := 5, constantValue := 0 }, { name := "hasMissingCells", type := .boolean, accessFlags := 18, slot := 6, constantValue := 0 }]
  methods := #[k3m0, k3m1]
  instanceTypes := #[.int, .int, (.array .double), .double, .double, .double, .boolean]
  staticTypes := #[]
  resolved := Array.replicate 131 none
  statics := none }

def pool4 : Array CpInfo := pool [(1, .class_ 2), (0, u "java/io/Serializable"), (0, .class_ 4), (0, u "java/lang/Object")] 2

/-- java/io/Serializable -/
def k4 : Class := { plain "java/io/Serializable" (some 0) with
  accessFlags := 1537
  interfaces := #[]
  cf := some (fileOf pool4 1 #[] #[] 1537 3 #[] #[])
  fields := #[]
  methods := #[]
  instanceTypes := #[]
  staticTypes := #[]
  resolved := Array.replicate 7 none
  statics := none }

def pool5 : Array CpInfo := pool [(2, .class_ 4), (1, u "java/lang/Object"), (0, u "<init>"), (0, u "()V"), (1, .class_ 10), (1, u "java/lang/Number"), (2, .class_ 14), (0, u "java/io/Serializable"), (0, u "serialVersionUID"), (0, u "J")] 20

def k5m0 : Method := { name := "<init>", desc := "()V", sig := { parameters := [], returnType := none }, accessFlags := 1, code := none }
/-- java/lang/Number -/
def k5 : Class := { plain "java/lang/Number" (some 0) with
  accessFlags := 1057
  interfaces := #[4]
  cf := some (fileOf pool5 8 #[] #[{ accessFlags := 1, nameIndex := 5, descriptorIndex := 6, attributes := #[] }] 1057 2 #[13] #[{ accessFlags := 26, nameIndex := 15, descriptorIndex := 16, attributes := #[] }])
  fields := #[{ name := "serialVersionUID", type := .long, accessFlags := 26, slot := 0, constantValue := 0 }]
  methods := #[k5m0]
  instanceTypes := #[]
  staticTypes := #[.long]
  resolved := Array.replicate 37 none
  statics := none }

def pool6 : Array CpInfo := pool [(1, .class_ 2), (0, u "java/lang/Comparable"), (0, .class_ 4), (0, u "java/lang/Object")] 7

/-- java/lang/Comparable -/
def k6 : Class := { plain "java/lang/Comparable" (some 0) with
  accessFlags := 1537
  interfaces := #[]
  cf := some (fileOf pool6 1 #[] #[] 1537 3 #[] #[])
  fields := #[]
  methods := #[]
  instanceTypes := #[]
  staticTypes := #[]
  resolved := Array.replicate 12 none
  statics := none }

def pool7 : Array CpInfo := pool [(1, .class_ 2), (0, u "java/lang/constant/Constable"), (0, .class_ 4), (0, u "java/lang/Object")] 6

/-- java/lang/constant/Constable -/
def k7 : Class := { plain "java/lang/constant/Constable" (some 0) with
  accessFlags := 1537
  interfaces := #[]
  cf := some (fileOf pool7 1 #[] #[] 1537 3 #[] #[])
  fields := #[]
  methods := #[]
  instanceTypes := #[]
  staticTypes := #[]
  resolved := Array.replicate 11 none
  statics := none }

def pool8 : Array CpInfo := pool [(1, .class_ 2), (0, u "java/lang/constant/ConstantDesc"), (0, .class_ 4), (0, u "java/lang/Object")] 32

/-- java/lang/constant/ConstantDesc -/
def k8 : Class := { plain "java/lang/constant/ConstantDesc" (some 0) with
  accessFlags := 1537
  interfaces := #[]
  cf := some (fileOf pool8 1 #[] #[] 1537 3 #[] #[])
  fields := #[]
  methods := #[]
  instanceTypes := #[]
  staticTypes := #[]
  resolved := Array.replicate 37 none
  statics := none }

def pool9 : Array CpInfo := pool [(1, .class_ 2), (0, u "java/lang/Double"), (10, u "isFinite"), (0, u "(D)Z"), (8, .class_ 25), (1, u "java/lang/Math"), (12, .methodref 23 39), (0, .nameAndType 40 41), (0, u "abs"), (0, u "(D)D"), (69, .double 9218868437227405311), (2, .class_ 116), (1, u "java/lang/Number"), (3, u "value"), (0, u "D"), (2, u "isNaN"), (48, u "TYPE"), (0, u "Ljava/lang/Class;"), (0, .class_ 176), (0, u "java/lang/Comparable"), (0, .class_ 178), (0, u "java/lang/constant/Constable"), (0, .class_ 180), (0, u "java/lang/constant/ConstantDesc"), (0, u "POSITIVE_INFINITY"), (3, u "NEGATIVE_INFINITY"), (2, u "NaN"), (2, u "MAX_VALUE"), (0, u "MIN_NORMAL"), (0, u "MIN_VALUE"), (2, u "SIZE"), (0, u "I"), (1, u "PRECISION"), (1, u "MAX_EXPONENT"), (1, u "MIN_EXPONENT"), (1, u "BYTES"), (3, u "serialVersionUID"), (0, u "J")] 79

def k9c0 : Code := { maxStack := 4, maxLocals := 2, code := jdk_117_method_6_code, exceptionTable := #[], attributes := #[] }
def k9m0 : Method := { name := "isNaN", desc := "(D)Z", sig := { parameters := [.double], returnType := some .boolean }, accessFlags := 9, code := some k9c0 }
def k9c1 : Code := { maxStack := 4, maxLocals := 2, code := jdk_117_method_8_code, exceptionTable := #[], attributes := #[] }
def k9m1 : Method := { name := "isFinite", desc := "(D)Z", sig := { parameters := [.double], returnType := some .boolean }, accessFlags := 9, code := some k9c1 }
/-- java/lang/Double -/
def k9 : Class := { plain "java/lang/Double" (some 5) with
  accessFlags := 49
  interfaces := #[6, 7, 8]
  cf := some (fileOf pool9 1 #[] #[{ accessFlags := 9, nameIndex := 124, descriptorIndex := 14, attributes := #[] }, { accessFlags := 9, nameIndex := 13, descriptorIndex := 14, attributes := #[] }] 49 114 #[175, 177, 179] #[{ accessFlags := 25, nameIndex := 181, descriptorIndex := 121, attributes := #[] }, { accessFlags := 25, nameIndex := 185, descriptorIndex := 121, attributes := #[] }, { accessFlags := 25, nameIndex := 188, descriptorIndex := 121, attributes := #[] }, { accessFlags := 25, nameIndex := 191, descriptorIndex := 121, attributes := #[] }, { accessFlags := 25, nameIndex := 192, descriptorIndex := 121, attributes := #[] }, { accessFlags := 25, nameIndex := 193, descriptorIndex := 121, attributes := #[] }, { accessFlags := 25, nameIndex := 196, descriptorIndex := 197, attributes := #[] }, { accessFlags := 25, nameIndex := 199, descriptorIndex := 197, attributes := #[] }, { accessFlags := 25, nameIndex := 201, descriptorIndex := 197, attributes := #[] }, { accessFlags := 25, nameIndex := 203, descriptorIndex := 197, attributes := #[] }, { accessFlags := 25, nameIndex := 205, descriptorIndex := 197, attributes := #[] }, { accessFlags := 25, nameIndex := 173, descriptorIndex := 174, attributes := #[] }, { accessFlags := 18, nameIndex := 120, descriptorIndex := 121, attributes := #[] }, { accessFlags := 26, nameIndex := 209, descriptorIndex := 210, attributes := #[] }])
  fields := #[{ name := "POSITIVE_INFINITY", type := .double, accessFlags := 25, slot := 0, constantValue := 0 }, { name := "NEGATIVE_INFINITY", type := .double, accessFlags := 25, slot := 1, constantValue := 0 }, { name := "NaN", type := .double, accessFlags := 25, slot := 2, constantValue := 0 }, { name := "MAX_VALUE", type := .double, accessFlags := 25, slot := 3, constantValue := 0 }, { name := "MIN_NORMAL", type := .double, accessFlags := 25, slot := 4, constantValue := 0 }, { name := "MIN_VALUE", type := .double, accessFlags := 25, slot := 5, constantValue := 0 }, { name := "SIZE", type := .int, accessFlags := 25, slot := 6, constantValue := 0 }, { name := "PRECISION", type := .int, accessFlags := 25, slot := 7, constantValue := 0 }, { name := "MAX_EXPONENT", type := .int, accessFlags := 25, slot := 8, constantValue := 0 }, { name := "MIN_EXPONENT", type := .int, accessFlags := 25, slot := 9, constantValue := 0 }, { name := "BYTES", type := .int, accessFlags := 25, slot := 10, constantValue := 0 }, { name := "TYPE", type := (.object "java/lang/Class"), accessFlags := 25, slot := 11, constantValue := 0 }, { name := "value", type := .double, accessFlags := 18, slot := 0, constantValue := 0 }, { name := "serialVersionUID", type := .long, accessFlags := 26, slot := 12, constantValue := 0 }]
  methods := #[k9m0, k9m1]
  instanceTypes := #[.double]
  staticTypes := #[.double, .double, .double, .double, .double, .double, .int, .int, .int, .int, .int, (.object "java/lang/Class"), .long]
  resolved := Array.replicate 290 none
  statics := none }

def pool10 : Array CpInfo := pool [(1, u "java/lang/Cloneable"), (0, .class_ 1), (0, u "java/lang/Object"), (0, .class_ 3)] 3

/-- java/lang/Cloneable -/
def k10 : Class := { plain "java/lang/Cloneable" (some 0) with
  accessFlags := 1537
  interfaces := #[]
  cf := some (fileOf pool10 2 #[] #[] 1537 4 #[] #[])
  fields := #[]
  methods := #[]
  instanceTypes := #[]
  staticTypes := #[]
  resolved := Array.replicate 8 none
  statics := none }

/-- the primitive byte -/
def k11 : Class := { plain "byte" none with kind := .primitive 'B', accessFlags := 0x411 }
/-- [B -/
def k12 : Class := { plain "[B" (some 0) with kind := .array 11 .byte, interfaces := #[10, 4], accessFlags := 1041 }

/-- the primitive double -/
def k13 : Class := { plain "double" none with kind := .primitive 'D', accessFlags := 0x411 }
/-- [D -/
def k14 : Class := { plain "[D" (some 0) with kind := .array 13 .double, interfaces := #[10, 4], accessFlags := 1041 }

/-- the primitive int -/
def k15 : Class := { plain "int" none with kind := .primitive 'I', accessFlags := 0x411 }
/-- [I -/
def k16 : Class := { plain "[I" (some 0) with kind := .array 15 .int, interfaces := #[10, 4], accessFlags := 1041 }

def heap : Heap := #[]
def classes : Array Class := #[k0, k1, k2, k3, k4, k5, k6, k7, k8, k9, k10, k11, k12, k13, k14, k15, k16]
def interned : List (Array UInt16 × Addr) := []
def slotsUsed : Nat := 0
def theMethod : MethodId := ⟨1, 1⟩
def args0 : Array Value := #[.long 5, .int 7, .int 3, .int 7, .int 3, .int 7]
def aboutOver (below : List Frame) : State where
  vm := { classes := classes, interned := interned.toArray }
  heap := heap
  slotsUsed := slotsUsed
  threads := #[{ frames := .invoking theMethod args0 :: below }]
def below0 : List Frame := [.native { method := ⟨0, 0⟩, args := #[] }]
def about1 : State := aboutOver below0
def p0 : Program := .bare "" "" ""
def e0 : Env := launch0.env 0 0 0
theorem w_frames : about1.frames = Frame.invoking theMethod args0 :: below0 := rfl
set_option maxRecDepth 65536 in
theorem w_args : argsFit about1.vm theMethod args0 = true := by decide +kernel
set_option maxRecDepth 65536 in
theorem w_heap : heapFits about1 = true := by decide +kernel
set_option maxRecDepth 65536 in
theorem w_runnable : about1.curStatus? = some .runnable := by decide +kernel
set_option maxRecDepth 65536 in
theorem w_alone : about1.alone = true := by decide +kernel
set_option maxRecDepth 65536 in
theorem w_named : about1.methodNamed? x = some theMethod := by decide +kernel
set_option maxRecDepth 65536 in
theorem w_hears : about1.hears theMethod below0 = true := by decide +kernel
set_option maxRecDepth 65536 in
theorem w_ripe : about1.ripe theMethod args0 below0 = true := by decide +kernel
theorem w_running : about1.status = .running := rfl
set_option maxRecDepth 65536 in
theorem w_room : about1.hasRoom e0.platform room_1 = true :=
  launch0.hasRoom_least _ room_1 (by decide +kernel) (by decide +kernel) (by decide +kernel) (by decide +kernel) (by decide +kernel) (by decide +kernel)
theorem allAtoms_all (ts : List Jvm.Cond) (a : Array Jvm.Value) (st : Jvm.State) : (allAtoms ts).before a st = ts.all (fun c => c.before a st) := by
  induction ts with
  | nil => rfl
  | cons c t ih =>
    show (Jvm.Cond.and c (allAtoms t)).before a st = _
    rw [Jvm.Cond.before_and, ih, List.all_cons]
def words1 : List Jvm.Cond := Jvm.Cond.code x code maxLocals ret :: tables_1
/-- a 'code' word, met by the world's own term for the bytes: nothing is compared byte by byte -/
theorem code_word {y : MethodName} {bytes : ByteArray} {mx : Nat} {rt : Option FieldType} {a : Array Value} {s : State} {m : MethodId} {meth : Method} {c : Code} (h1 : s.methodNamed? y = some m) (h2 : s.vm.method? m = some meth) (h3 : meth.code = some c) (h4 : c.code = bytes)
    (h5 : (c.maxLocals == mx && c.exceptionTable.isEmpty && decide (c.maxStack ≤ mostOperands) && decide (meth.sig.returnType = rt) && !meth.locks && decide (parseMethodDescriptor y.desc = some meth.sig)) = true) : (Jvm.Cond.code y bytes mx rt).before a s = true := by
  simp only [Bool.and_eq_true, beq_iff_eq, Bool.not_eq_true', decide_eq_true_eq] at h5
  obtain ⟨⟨⟨⟨⟨g1, g2⟩, g3⟩, g4⟩, g5⟩, g6⟩ := h5
  simp [Cond.before, Cond.holds, Cond.value, h1, h2, h3, h4, g1, g2, g3, g4, g5, g6]
def isCode : Jvm.Cond → Bool
  | .code _ _ _ _ => true
  | _ => false
theorem all_split {L : List Jvm.Cond} {P : Jvm.Cond → Bool} (h1 : L.all (fun c => isCode c || P c) = true) (h2 : ∀ c ∈ L.filter isCode, P c = true) : L.all P = true := by
  refine List.all_eq_true.mpr fun c hc => ?_
  have h := List.all_eq_true.mp h1 c hc
  rcases Bool.eq_false_or_eq_true (isCode c) with hi | hi
  · exact h2 c (List.mem_filter.mpr ⟨hc, hi⟩)
  · simpa [hi] using h
set_option maxRecDepth 65536 in
theorem w_c0 : (Jvm.Cond.code x code maxLocals ret).before args0 about1 = true := code_word (m := ⟨1, 1⟩) (meth := k1m1) (c := k1c1) (by decide +kernel) rfl rfl rfl (by decide +kernel)
set_option maxRecDepth 65536 in
theorem w_c1 : (Jvm.Cond.code ({ cls := "java/lang/Math", name := "max", desc := "(II)I" } : Jvm.MethodName) jdk_29_method_65_code (2 : Nat) (Option.some Jvm.ClassFile.FieldType.int)).before args0 about1 = true := code_word (m := ⟨2, 2⟩) (meth := k2m2) (c := k2c2) (by decide +kernel) rfl rfl rfl (by decide +kernel)
set_option maxRecDepth 65536 in
theorem w_c2 : (Jvm.Cond.code ({ cls := "hermitage/Grid", name := "<init>", desc := "(II[DDDD)V" } : Jvm.MethodName) prog_16_method_2_code (12 : Nat) (Option.none : Option Jvm.ClassFile.FieldType)).before args0 about1 = true := code_word (m := ⟨3, 0⟩) (meth := k3m0) (c := k3c0) (by decide +kernel) rfl rfl rfl (by decide +kernel)
set_option maxRecDepth 65536 in
theorem w_c3 : (Jvm.Cond.code ({ cls := "java/lang/Object", name := "<init>", desc := "()V" } : Jvm.MethodName) object_method_1_code (1 : Nat) (Option.none : Option Jvm.ClassFile.FieldType)).before args0 about1 = true := code_word (m := ⟨0, 0⟩) (meth := k0m0) (c := k0c0) (by decide +kernel) rfl rfl rfl (by decide +kernel)
set_option maxRecDepth 65536 in
theorem w_c4 : (Jvm.Cond.code ({ cls := "java/lang/Double", name := "isFinite", desc := "(D)Z" } : Jvm.MethodName) jdk_117_method_8_code (2 : Nat) (Option.some Jvm.ClassFile.FieldType.boolean)).before args0 about1 = true := code_word (m := ⟨9, 1⟩) (meth := k9m1) (c := k9c1) (by decide +kernel) rfl rfl rfl (by decide +kernel)
set_option maxRecDepth 65536 in
theorem w_c5 : (Jvm.Cond.code ({ cls := "java/lang/Math", name := "abs", desc := "(D)D" } : Jvm.MethodName) jdk_29_method_64_code (2 : Nat) (Option.some Jvm.ClassFile.FieldType.double)).before args0 about1 = true := code_word (m := ⟨2, 1⟩) (meth := k2m1) (c := k2c1) (by decide +kernel) rfl rfl rfl (by decide +kernel)
set_option maxRecDepth 65536 in
theorem w_c6 : (Jvm.Cond.code ({ cls := "java/lang/Double", name := "isNaN", desc := "(D)Z" } : Jvm.MethodName) jdk_117_method_6_code (2 : Nat) (Option.some Jvm.ClassFile.FieldType.boolean)).before args0 about1 = true := code_word (m := ⟨9, 0⟩) (meth := k9m0) (c := k9c0) (by decide +kernel) rfl rfl rfl (by decide +kernel)
set_option maxRecDepth 65536 in
theorem w_c7 : (Jvm.Cond.code ({ cls := "hermitage/Grid", name := "covers", desc := "(DD)Z" } : Jvm.MethodName) prog_16_method_9_code (9 : Nat) (Option.some Jvm.ClassFile.FieldType.boolean)).before args0 about1 = true := code_word (m := ⟨3, 1⟩) (meth := k3m1) (c := k3c1) (by decide +kernel) rfl rfl rfl (by decide +kernel)
def codes1 : List Jvm.Cond := [Jvm.Cond.code x code maxLocals ret, Jvm.Cond.code ({ cls := "java/lang/Math", name := "max", desc := "(II)I" } : Jvm.MethodName) jdk_29_method_65_code (2 : Nat) (Option.some Jvm.ClassFile.FieldType.int), Jvm.Cond.code ({ cls := "hermitage/Grid", name := "<init>", desc := "(II[DDDD)V" } : Jvm.MethodName) prog_16_method_2_code (12 : Nat) (Option.none : Option Jvm.ClassFile.FieldType), Jvm.Cond.code ({ cls := "java/lang/Object", name := "<init>", desc := "()V" } : Jvm.MethodName) object_method_1_code (1 : Nat) (Option.none : Option Jvm.ClassFile.FieldType), Jvm.Cond.code ({ cls := "java/lang/Double", name := "isFinite", desc := "(D)Z" } : Jvm.MethodName) jdk_117_method_8_code (2 : Nat) (Option.some Jvm.ClassFile.FieldType.boolean), Jvm.Cond.code ({ cls := "java/lang/Math", name := "abs", desc := "(D)D" } : Jvm.MethodName) jdk_29_method_64_code (2 : Nat) (Option.some Jvm.ClassFile.FieldType.double), Jvm.Cond.code ({ cls := "java/lang/Double", name := "isNaN", desc := "(D)Z" } : Jvm.MethodName) jdk_117_method_6_code (2 : Nat) (Option.some Jvm.ClassFile.FieldType.boolean), Jvm.Cond.code ({ cls := "hermitage/Grid", name := "covers", desc := "(DD)Z" } : Jvm.MethodName) prog_16_method_9_code (9 : Nat) (Option.some Jvm.ClassFile.FieldType.boolean)]
set_option maxRecDepth 65536 in
theorem codes_eq : words1.filter isCode = codes1 := rfl
theorem w_codes : ∀ c ∈ words1.filter isCode, c.before args0 about1 = true := by
  rw [codes_eq]
  intro c hc
  simp only [codes1, List.mem_cons, List.not_mem_nil, or_false] at hc
  rcases hc with rfl | rfl | rfl | rfl | rfl | rfl | rfl | rfl
  · exact w_c0
  · exact w_c1
  · exact w_c2
  · exact w_c3
  · exact w_c4
  · exact w_c5
  · exact w_c6
  · exact w_c7
set_option maxRecDepth 65536 in
theorem w_t1 : (words1.take 24).all (fun c => isCode c || c.before args0 about1) = true := by decide +kernel
set_option maxRecDepth 65536 in
theorem w_t2 : (words1.drop 24).all (fun c => isCode c || c.before args0 about1) = true := by decide +kernel
theorem w_tables : (allAtoms (Jvm.Cond.code x code maxLocals ret :: tables_1)).before args0 about1 = true := by
  rw [allAtoms_all]
  show words1.all (fun c => c.before args0 about1) = true
  refine all_split ?_ w_codes
  rw [← List.take_append_drop 24 words1, List.all_append, w_t1, w_t2]
  rfl
set_option maxRecDepth 65536 in
theorem w_case : (Jvm.Cond.and given_1 narrow_1).before args0 about1 = true := by decide +kernel
theorem w_applies : (headSpec (Jvm.Cond.code x code maxLocals ret :: tables_1) room_1).applies x e0.platform about1 = true :=
  (Spec.applies_iff w_frames).mpr ⟨w_running, w_runnable, w_alone, w_named, w_hears, w_ripe, w_room, w_tables⟩
theorem atStart : AtStart classFile x code maxLocals ret World_1 tables_1 room_1 Calls_1 rest_1 Pre_1 launch0 p0 e0 about1 theMethod args0 below0 :=
  ⟨lists_1, trivial, launch0.admits_env _ _ _, launch0.least_env, fairChoices_fair.cas, fairChoices_fair.clock, w_frames, w_args, w_heap, w_applies, trivial, trivial, w_case⟩
end start1
theorem witness_1 : WitnessClaimed_1 := ⟨start1.p0, start1.e0, start1.about1, start1.theMethod, start1.args0, start1.below0, start1.atStart⟩
end Jvm.Pilot.@@N@@
