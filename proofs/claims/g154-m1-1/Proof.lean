import JvmDerived
import JvmDerived.Pilot.@@N@@Statement
import JvmDerived.Pilot.@@N@@Code
set_option linter.unusedVariables false
set_option linter.unusedSimpArgs false
@@BLOCK:NumsL.lean.txt@@
namespace Jvm.Pilot.@@N@@
open Jvm Jvm.ClassFile Sem Op Lib Jvm.Free Jvm.Stand Jvm.LawKit Jvm.RoadKit Bundle Jvm.Pilot.@@N@@.Jvm.D
section OwnGo
variable {p : Program} {l : Launch} {e : Env} {R : Room} {s : State} {m : MethodId} {args : Array Value} {below : List Frame} {meth : Method} {c : Code} {T T' : State} {locs : List Loc} {cells slots K1 K2 : Nat} {Q : Option Value → Heap → List Loc → Prop}
/-- from T at the frame f the run comes to an end that meets Q -/
def Go (p : Program) (e : Env) (below : List Frame) (s : State) (K1 K2 : Nat) (Q : Option Value → Heap → List Loc → Prop) (T : State) (f : JFrame) : Prop :=
  ∃ s₂ o, Steps p.tables e below (T.setTop f) s₂ ∧ s₂.status = .running ∧ Ended s₂ below o ∧ ∃ v L, o = .returned v ∧ Q v s₂.heap L ∧ FrameEnd s o s₂ L K1 K2
theorem Go.on {f f' : JFrame} (h : ∀ t, Steps p.tables e below (T'.setTop f') t → Steps p.tables e below (T.setTop f) t) (g : Go p e below s K1 K2 Q T' f') : Go p e below s K1 K2 Q T f := by
  obtain ⟨s₂, o, h1, r⟩ := g
  exact ⟨s₂, o, h _ h1, r⟩
theorem Go.cast {f f' : JFrame} (h : f = f') (g : Go p e below s K1 K2 Q T f') : Go p e below s K1 K2 Q T f := h ▸ g
theorem Go.gen {f : JFrame} (h : ∀ k1 k2 q, k1 = K1 → k2 = K2 → Q = q → Go p e below s k1 k2 q T f) : Go p e below s K1 K2 Q T f := h _ _ _ rfl rfl rfl
theorem Go.retV (X : Stand p l e R s m args below meth c T locs cells slots) (hx : p.tables.exec = Jvm.exec) {pc : Nat} {Ls : Array Slot} {w : Value} {t : FieldType} {i : Instr} {rest : List Value} (hret : meth.sig.returnType = some t) (hn : narrow t w = w)
    (hi : (i = .ireturn ∧ (t = .int ∨ t = .boolean ∨ t = .byte ∨ t = .char ∨ t = .short) ∧ ∃ z, w = .int z) ∨ (i = .lreturn ∧ t = .long ∧ ∃ z, w = .long z) ∨ (i = .dreturn ∧ t = .double ∧ ∃ z, w = .double z) ∨ (i = .freturn ∧ t = .float ∧ ∃ z, w = .float z) ∨ (i = .areturn ∧ t.isReference = true ∧ w.isRef = true))
    (hd : decode c.code pc = .ok (i, 1)) (hq : Q (some w) T.heap locs) (hc : cells ≤ K1) (hs : slots ≤ K2) (hlk : meth.locks = false := by assumption) : Go p e below s K1 K2 Q T (mkF m pc Ls (w :: rest)) := by
  obtain ⟨fs, hr, hrun, hended, hW, hsame⟩ := X.leave (v := some w) (fun h => by rw [hret] at h; cases h) hlk
  exact ⟨_, _, retOut X hx hret hn hi hd hr, hrun, hended, _, _, rfl, hq, ⟨_, rfl⟩, hW, hsame.mono hc hs⟩
theorem Go.retN (X : Stand p l e R s m args below meth c T locs cells slots) (hx : p.tables.exec = Jvm.exec) {pc : Nat} {Ls : Array Slot} {z : Int32} {t : FieldType} {rest : List Value} (hret : meth.sig.returnType = some t) (ht : t = .boolean ∨ t = .byte ∨ t = .char ∨ t = .short)
    (hd : decode c.code pc = .ok (.ireturn, 1)) (hq : Q (some (.int (nar t z))) T.heap locs) (hc : cells ≤ K1) (hs : slots ≤ K2) (hlk : meth.locks = false := by assumption) : Go p e below s K1 K2 Q T (mkF m pc Ls (.int z :: rest)) := by
  obtain ⟨fs, hr, hrun, hended, hW, hsame⟩ := X.leave (v := some (.int (nar t z))) (fun h => by rw [hret] at h; cases h) hlk
  exact ⟨_, _, Jvm.RoadKit.retN X hx hret ht hd hr, hrun, hended, _, _, rfl, hq, ⟨_, rfl⟩, hW, hsame.mono hc hs⟩
theorem Go.ret0 (X : Stand p l e R s m args below meth c T locs cells slots) (hx : p.tables.exec = Jvm.exec) {pc : Nat} {Ls : Array Slot} (hret : meth.sig.returnType = none)
    (hd : decode c.code pc = .ok (.return_, 1)) (hq : Q none T.heap locs) (hc : cells ≤ K1) (hs : slots ≤ K2) (hlk : meth.locks = false := by assumption) : Go p e below s K1 K2 Q T (mkF m pc Ls []) := by
  obtain ⟨fs, hr, hrun, hended, hW, hsame⟩ := X.leave (v := none) (fun _ => rfl) hlk
  exact ⟨_, _, X.returnOut hx hret hd hr, hrun, hended, _, _, rfl, hq, ⟨_, rfl⟩, hW, hsame.mono hc hs⟩
theorem own_lc_lt {a b : Int64} : lcmpW a b < 0 ↔ a < b := by rw [lcW]; exact lc_lt a b
theorem own_lc_gt {a b : Int64} : 0 < lcmpW a b ↔ b < a := by rw [lcW]; exact lc_gt a b
theorem own_lc_eq {a b : Int64} : lcmpW a b = 0 ↔ a = b := by rw [lcW]; exact lc_eq a b
theorem own_lremM {g : JFrame} {target : State} (X : Stand p l e R s m args below meth c T locs cells slots) (hx : p.tables.exec = Jvm.exec) (hg : g.method = m) {x y : Int64} {rest : List Value} (hd : decode c.code g.pc = .ok (.lrem, 1)) (hs : g.stack = .long y :: .long x :: rest) (hy : y ≠ 0)
    (hr : Steps p.tables e below (T.setTop { g with pc := g.pc + 1, stack := .long (x % y) :: rest }) target) : Steps p.tables e below (T.setTop g) target := by
  have q : x - x / y * y = x % y := by
    apply Int64.toInt_inj.mp
    have h1 := Int64.le_toInt (x % y)
    have h2 := Int64.toInt_lt (x % y)
    rw [Int64.toInt_sub, Int64.toInt_mul, Int64.toInt_div, Int.bmod_mul_bmod, Int.sub_bmod_bmod, Int.mul_comm (x.toInt.tdiv y.toInt), ← Int.tmod_def, ← Int64.toInt_mod]
    exact Int.bmod_eq_of_le_mul_two (by omega) (by omega)
  exact XS.lrem X.here hx hg hd hs hy (by rw [q]; exact hr)
theorem own_cl_gt {o : Option Ordering} : 0 < cmpValue o .l ↔ o = some .gt := by rcases o with _ | (_ | _ | _) <;> decide
theorem own_cl_lt {o : Option Ordering} : cmpValue o .l < 0 ↔ ¬ (o = some .gt ∨ o = some .eq) := by rcases o with _ | (_ | _ | _) <;> decide
theorem own_cg_lt {o : Option Ordering} : cmpValue o .g < 0 ↔ o = some .lt := by rcases o with _ | (_ | _ | _) <;> decide
theorem own_cg_gt {o : Option Ordering} : 0 < cmpValue o .g ↔ ¬ (o = some .lt ∨ o = some .eq) := by rcases o with _ | (_ | _ | _) <;> decide
theorem own_c_eq {o : Option Ordering} {k : CmpOp} : cmpValue o k = 0 ↔ o = some .eq := by cases k <;> rcases o with _ | (_ | _ | _) <;> decide
end OwnGo
section OwnFp
open Jvm.FP.Core
variable {a b V : UInt64} {x y z v : Int}
/-- the double a is finite and worth x units of 2^-1074 -/
def ZV (a : UInt64) (x : Int) : Prop := DFin a ∧ zval b64 (val64 a) = x
theorem ZV.ne (h : ZV a x) : val64 a ≠ .nan := h.1.ne_nan
theorem ZV.nn (h : ZV a x) : Jvm.Free.Fl.NoNaN64 a := Jvm.Free.Fl.noNaN64_no.mpr h.1.notNaN
theorem ZV.cmp (ha : ZV a x) (hb : ZV b y) : FP.dcmp a b = some (compare x y) := by
  show FP.Core.dcmp a b = _
  rw [dcmp_zval ha.ne hb.ne, ha.2, hb.2]
theorem ZV.uniq (ha : ZV a x) (hb : ZV a y) : x = y := ha.2.symm.trans hb.2
theorem own_fin_of {W : UInt64} (hn : val64 a ≠ .nan) (hW : DFin W) (h : zmag b64 (val64 a) ≤ zmag b64 (val64 W)) : DFin a := by
  cases h2 : val64 a with
  | nan => exact absurd h2 hn
  | inf s =>
    rw [h2] at h
    have := hW.zval_lt
    have e : zmag b64 (.inf s) = b64.tails * 2 ^ (b64.exps - 2) := rfl
    rw [e] at h
    omega
  | fin s c q => exact ⟨s, c, q, h2⟩
theorem own_natAbs (d : Datum) : (zval b64 d).natAbs = zmag b64 d := natAbs_signed _ _
theorem own_fin_of_z {W : UInt64} (hn : val64 a ≠ .nan) (hW : DFin W) (h : (zval b64 (val64 a)).natAbs ≤ (zval b64 (val64 W)).natAbs) : DFin a := by
  rw [own_natAbs, own_natAbs] at h; exact own_fin_of hn hW h
theorem ZV.add (ha : ZV a x) (hb : ZV b y) (hv : ZV V (x + y)) : ZV (FP.dadd a b) (x + y) := by
  have hn : val64 (FP.Core.dadd a b) ≠ .nan := (notNaN_iff _).mp (FP.Core.dadd_out ha.1.notNaN hb.1)
  have e : zval b64 (val64 (FP.Core.dadd a b)) = x + y := by
    have h1 := sum_le good_b64 ha.1 hb.1 (val64_fits a) (val64_fits b) (val64_fits V) hv.ne (by rw [ha.2, hb.2, hv.2]; exact Int.le_refl _)
    have h2 := sum_ge good_b64 ha.1 hb.1 (val64_fits a) (val64_fits b) (val64_fits V) hv.ne (by rw [ha.2, hb.2, hv.2]; exact Int.le_refl _)
    rw [← val64_dadd, hv.2] at h1 h2
    exact Int.le_antisymm h1 h2
  exact ⟨own_fin_of_z hn hv.1 (by rw [e, hv.2]; exact Nat.le_refl _), e⟩
theorem own_neg_fin {d : Datum} (h : ∃ s c q, d = .fin s c q) : ∃ s c q, negate d = .fin s c q := by
  obtain ⟨s, c, q, rfl⟩ := h; exact ⟨_, _, _, rfl⟩
theorem ZV.sub (ha : ZV a x) (hb : ZV b y) (hv : ZV V (x - y)) : ZV (FP.dsub a b) (x - y) := by
  have hn : val64 (FP.Core.dsub a b) ≠ .nan := (notNaN_iff _).mp (FP.Core.dsub_out ha.1.notNaN hb.1)
  have e : zval b64 (val64 (FP.Core.dsub a b)) = x - y := by
    have h1 := sum_le good_b64 ha.1 (own_neg_fin hb.1) (val64_fits a) (negate_fits (val64_fits b)) (val64_fits V) hv.ne (by rw [ha.2, zval_negate, hb.2, hv.2]; omega)
    have h2 := sum_ge good_b64 ha.1 (own_neg_fin hb.1) (val64_fits a) (negate_fits (val64_fits b)) (val64_fits V) hv.ne (by rw [ha.2, zval_negate, hb.2, hv.2]; omega)
    rw [← val64_dsub, hv.2] at h1 h2
    exact Int.le_antisymm h1 h2
  exact ⟨own_fin_of_z hn hv.1 (by rw [e, hv.2]; exact Nat.le_refl _), e⟩
/-- a sum or a difference lies between what bounds it -/
theorem ZV.add_le (ha : ZV a x) (hb : ZV b y) (hv : ZV V v) (h : x + y ≤ v) : zval b64 (val64 (FP.dadd a b)) ≤ v := by
  have h1 := sum_le good_b64 ha.1 hb.1 (val64_fits a) (val64_fits b) (val64_fits V) hv.ne (by rw [ha.2, hb.2, hv.2]; exact h)
  rw [← val64_dadd, hv.2] at h1; exact h1
theorem ZV.add_ge (ha : ZV a x) (hb : ZV b y) (hv : ZV V v) (h : v ≤ x + y) : v ≤ zval b64 (val64 (FP.dadd a b)) := by
  have h1 := sum_ge good_b64 ha.1 hb.1 (val64_fits a) (val64_fits b) (val64_fits V) hv.ne (by rw [ha.2, hb.2, hv.2]; exact h)
  rw [← val64_dadd, hv.2] at h1; exact h1
theorem ZV.sub_le (ha : ZV a x) (hb : ZV b y) (hv : ZV V v) (h : x - y ≤ v) : zval b64 (val64 (FP.dsub a b)) ≤ v := by
  have h1 := sum_le good_b64 ha.1 (own_neg_fin hb.1) (val64_fits a) (negate_fits (val64_fits b)) (val64_fits V) hv.ne (by rw [ha.2, zval_negate, hb.2, hv.2]; omega)
  rw [← val64_dsub, hv.2] at h1; exact h1
theorem ZV.sub_ge (ha : ZV a x) (hb : ZV b y) (hv : ZV V v) (h : v ≤ x - y) : v ≤ zval b64 (val64 (FP.dsub a b)) := by
  have h1 := sum_ge good_b64 ha.1 (own_neg_fin hb.1) (val64_fits a) (negate_fits (val64_fits b)) (val64_fits V) hv.ne (by rw [ha.2, zval_negate, hb.2, hv.2]; omega)
  rw [← val64_dsub, hv.2] at h1; exact h1
/-- the product's bounds -/
theorem own_mul_le (ha : ZV a x) (hb : ZV b y) (hv : ZV V v) (h : x * y ≤ v * (one64 : Int)) : zval b64 (val64 (FP.dmul a b)) ≤ v := by
  obtain ⟨⟨s, c, q, h1⟩, ex⟩ := ha
  obtain ⟨⟨t, d, r, h2⟩, ey⟩ := hb
  have f1 := val64_fits a; have f2 := val64_fits b
  rw [h1] at f1 ex; rw [h2] at f2 ey
  obtain ⟨p1, p2, p3⟩ := product_units f1 f2
  show zval b64 (val64 (FP.Core.dmul a b)) ≤ v
  rw [val64_dmul, h1, h2, p1, ← hv.2]
  refine zval_round_le good_b64 (val64_fits V) hv.ne (e0 := 2 * b64.qmin) (by decide) p2 ?_
  rw [p3, show (b64.qmin - 2 * b64.qmin).toNat = (-b64.qmin).toNat from by decide, pow_qmin64, hv.2, signed_xor]
  have : zval b64 (.fin s c q) * zval b64 (.fin t d r) ≤ v * (one64 : Int) := by rw [ex, ey]; exact h
  exact this
theorem own_mul_ge (ha : ZV a x) (hb : ZV b y) (hv : ZV V v) (h : v * (one64 : Int) ≤ x * y) : v ≤ zval b64 (val64 (FP.dmul a b)) := by
  obtain ⟨⟨s, c, q, h1⟩, ex⟩ := ha
  obtain ⟨⟨t, d, r, h2⟩, ey⟩ := hb
  have f1 := val64_fits a; have f2 := val64_fits b
  rw [h1] at f1 ex; rw [h2] at f2 ey
  obtain ⟨p1, p2, p3⟩ := product_units f1 f2
  show v ≤ zval b64 (val64 (FP.Core.dmul a b))
  rw [val64_dmul, h1, h2, p1, ← hv.2]
  refine zval_round_ge good_b64 (val64_fits V) hv.ne (e0 := 2 * b64.qmin) (by decide) p2 ?_
  rw [p3, show (b64.qmin - 2 * b64.qmin).toNat = (-b64.qmin).toNat from by decide, pow_qmin64, hv.2, signed_xor]
  have : v * (one64 : Int) ≤ zval b64 (.fin s c q) * zval b64 (.fin t d r) := by rw [ex, ey]; exact h
  exact this
theorem ZV.mul (ha : ZV a x) (hb : ZV b y) (hv : ZV V z) (h : x * y = z * (one64 : Int)) : ZV (FP.dmul a b) z := by
  have hn : val64 (FP.Core.dmul a b) ≠ .nan := (notNaN_iff _).mp (FP.Core.dmul_out ha.1 hb.1)
  have e : zval b64 (val64 (FP.Core.dmul a b)) = z := Int.le_antisymm (own_mul_le ha hb hv (Int.le_of_eq h)) (own_mul_ge ha hb hv (Int.le_of_eq h.symm))
  exact ⟨own_fin_of_z hn hv.1 (by rw [e, hv.2]; exact Nat.le_refl _), e⟩
/-- the quotient of finite doubles, the divisor not nought: its datum -/
theorem own_quot (ha : ZV a x) (hb : ZV b y) (hy : y ≠ 0) : ∃ s c q t d r, val64 a = .fin s c q ∧ val64 b = .fin t d r ∧ 0 < d ∧ val64 (FP.ddiv a b) = roundRatio b64 (s != t) c d (q - r) ∧ FP.Core.fits b64 (.fin s c q) ∧ FP.Core.fits b64 (.fin t d r) := by
  obtain ⟨⟨s, c, q, h1⟩, ex⟩ := ha
  obtain ⟨⟨t, d, r, h2⟩, ey⟩ := hb
  have f1 := val64_fits a; have f2 := val64_fits b
  rw [h1] at f1; rw [h2] at f2
  have hd : d ≠ 0 := fun q => by
    subst q
    rw [h2] at ey
    apply hy; rw [← ey]; show signed t (inUnits 0 r _) = 0
    unfold inUnits; rw [Nat.zero_mul, signed_zero]
  refine ⟨s, c, q, t, d, r, h1, h2, Nat.pos_of_ne_zero hd, ?_, f1, f2⟩
  show val64 (FP.Core.ddiv a b) = _
  rw [val64_ddiv, h1, h2]
  show (if d = 0 then _ else _) = _
  rw [if_neg hd]
theorem own_div_mag_le {c d : Nat} {q r : Int} {s t sg : Bool} (f1 : FP.Core.fits b64 (.fin s c q)) (f2 : FP.Core.fits b64 (.fin t d r)) (hd : 0 < d) {W : Datum} (fW : FP.Core.fits b64 W) (hW : W ≠ .nan)
    (h : inUnits c q b64.qmin * one64 ≤ zmag b64 W * inUnits d r b64.qmin) : zmag b64 (roundRatio b64 sg c d (q - r)) ≤ zmag b64 W := by
  have h1 := f1.2.1
  have h2 := f2.2.1
  have hq : b64.qmin < 0 := by decide
  refine zmag_roundRatio_le good_b64 hd fW hW (e0 := 2 * b64.qmin - r) (by omega) (by omega) ?_
  have e1 : (b64.qmin - (2 * b64.qmin - r)).toNat = (r - b64.qmin).toNat := by congr 1; omega
  rw [e1]
  have e2 : inUnits c (q - r) (2 * b64.qmin - r) = inUnits c q b64.qmin * one64 := by
    unfold inUnits
    rw [← pow_qmin64, Nat.mul_assoc, ← Nat.pow_add]
    congr 2; omega
  rw [e2]
  refine Nat.le_trans h (Nat.le_of_eq ?_)
  unfold inUnits
  rw [Nat.mul_comm d, Nat.mul_assoc]
theorem own_div_mag_ge {c d : Nat} {q r : Int} {s t sg : Bool} (f1 : FP.Core.fits b64 (.fin s c q)) (f2 : FP.Core.fits b64 (.fin t d r)) (hd : 0 < d) {W : Datum} (fW : FP.Core.fits b64 W)
    (h : zmag b64 W * inUnits d r b64.qmin ≤ inUnits c q b64.qmin * one64) : zmag b64 W ≤ zmag b64 (roundRatio b64 sg c d (q - r)) := by
  have h1 := f1.2.1
  have h2 := f2.2.1
  have hq : b64.qmin < 0 := by decide
  refine zmag_roundRatio_ge good_b64 hd fW (e0 := 2 * b64.qmin - r) (by omega) (by omega) ?_
  have e1 : (b64.qmin - (2 * b64.qmin - r)).toNat = (r - b64.qmin).toNat := by congr 1; omega
  rw [e1]
  have e2 : inUnits c (q - r) (2 * b64.qmin - r) = inUnits c q b64.qmin * one64 := by
    unfold inUnits
    rw [← pow_qmin64, Nat.mul_assoc, ← Nat.pow_add]
    congr 2; omega
  rw [e2]
  refine Nat.le_trans (Nat.le_of_eq ?_) h
  unfold inUnits
  rw [Nat.mul_comm d, Nat.mul_assoc]
/-- what is said of a quotient: r its units -/
def Quo (x y r : Int) : Prop := ∀ (V : UInt64) (v : Int), ZV V v → (x * (one64 : Int) ≤ v * y → r ≤ v) ∧ (v * y ≤ x * (one64 : Int) → v ≤ r)
theorem own_sgn_z (s : Bool) (m : Nat) : signed s m = if s then -(m : Int) else m := rfl
theorem ZV.neg_ex (h : ZV a x) : ∃ V, ZV V (-x) := by
  refine ⟨FP.Core.dneg a, ?_, ?_⟩
  · obtain ⟨⟨s, c, q, h1⟩, -⟩ := h; exact ⟨!s, c, q, by rw [val64_dneg, h1]; rfl⟩
  · rw [val64_dneg, zval_negate, h.2]
theorem own_mag {s : Bool} {c : Nat} {q : Int} : zval b64 (.fin s c q) = signed s (inUnits c q b64.qmin) := rfl
/-- the quotient by a positive double of at least one -/
theorem ZV.div (ha : ZV a x) (hb : ZV b y) (hy : (one64 : Int) ≤ y) : ∃ r, ZV (FP.ddiv a b) r ∧ Quo x y r := by
  have o1 := one64_pos
  obtain ⟨s, c, q, t, d, r, h1, h2, hd, h3, f1, f2⟩ := own_quot ha hb (by omega)
  have ey := hb.2; rw [h2, own_mag] at ey
  have ex := ha.2; rw [h1, own_mag] at ex
  have t0 : t = false := by
    cases t
    · rfl
    · simp only [own_sgn_z, if_true] at ey; omega
  subst t0
  have hy0 : (0 : Int) < y := by omega
  have ey' : ((inUnits d r b64.qmin : Nat) : Int) = y := ey
  generalize hu : inUnits d r b64.qmin = u at *
  generalize hc : inUnits c q b64.qmin = k at *
  have hsg : sgn (val64 (FP.ddiv a b)) = s := by rw [h3, sgn_roundRatio]; cases s <;> rfl
  have hne : val64 (FP.ddiv a b) ≠ .nan := by rw [h3]; exact roundRatio_ne_nan _ _ _ _ _
  have hz : zval b64 (val64 (FP.ddiv a b)) = signed s (zmag b64 (val64 (FP.ddiv a b))) := by rw [zval, hsg]
  have up : ∀ W : UInt64, val64 W ≠ .nan → k * one64 ≤ zmag b64 (val64 W) * u → zmag b64 (val64 (FP.ddiv a b)) ≤ zmag b64 (val64 W) := fun W hW h => by
    rw [h3]; exact own_div_mag_le f1 f2 hd (val64_fits W) hW (by rw [hu, hc]; exact h)
  have dn : ∀ W : UInt64, zmag b64 (val64 W) * u ≤ k * one64 → zmag b64 (val64 W) ≤ zmag b64 (val64 (FP.ddiv a b)) := fun W h => by
    rw [h3]; exact own_div_mag_ge f1 f2 hd (val64_fits W) (by rw [hu, hc]; exact h)
  have hk : k = zmag b64 (val64 a) := by rw [h1]; exact hc.symm
  have hfin : DFin (FP.ddiv a b) := own_fin_of hne ha.1 (up a ha.ne (by rw [← hk]; exact Nat.mul_le_mul_left _ (by omega)))
  refine ⟨_, ⟨hfin, rfl⟩, fun V v hv => ?_⟩
  rw [hz]
  generalize hm : zmag b64 (val64 (FP.ddiv a b)) = m at *
  have hV := own_natAbs (val64 V)
  rw [hv.2] at hV
  have upV := up V hv.ne
  have dnV := dn V
  rw [← hV] at upV dnV
  clear up dn
  have cast : ∀ p q : Nat, ((p * q : Nat) : Int) = (p : Int) * q := fun p q => by simp
  cases s
  · have ex' : (k : Int) = x := ex
    have em : signed false m = (m : Int) := rfl
    rw [em]
    constructor
    · intro h
      by_cases hv0 : 0 ≤ v
      · have e1 : (v.natAbs : Int) = v := Int.natAbs_of_nonneg hv0
        have : k * one64 ≤ v.natAbs * u := by apply Int.ofNat_le.mp; rw [cast, cast, ex', e1, ey']; exact h
        have := upV this; omega
      · exfalso
        have h5 : v * y < 0 := Int.mul_neg_of_neg_of_pos (by omega) hy0
        have h6 : 0 ≤ x * (one64 : Int) := Int.mul_nonneg (by omega) (by omega)
        omega
    · intro h
      by_cases hv0 : 0 ≤ v
      · have e1 : (v.natAbs : Int) = v := Int.natAbs_of_nonneg hv0
        have : v.natAbs * u ≤ k * one64 := by apply Int.ofNat_le.mp; rw [cast, cast, ex', e1, ey']; exact h
        have := dnV this; omega
      · omega
  · have ex' : -(k : Int) = x := ex
    have em : signed true m = -(m : Int) := rfl
    rw [em]
    have ek : (k : Int) = -x := by omega
    constructor
    · intro h
      by_cases hv0 : 0 ≤ v
      · omega
      · have e1 : (v.natAbs : Int) = -v := by omega
        have : v.natAbs * u ≤ k * one64 := by
          apply Int.ofNat_le.mp; rw [cast, cast, ek, e1, ey', Int.neg_mul, Int.neg_mul]; omega
        have := dnV this; omega
    · intro h
      by_cases hv0 : v ≤ 0
      · have e1 : (v.natAbs : Int) = -v := by omega
        have : k * one64 ≤ v.natAbs * u := by
          apply Int.ofNat_le.mp; rw [cast, cast, ek, e1, ey', Int.neg_mul, Int.neg_mul]; omega
        have := upV this; omega
      · exfalso
        have h5 : 0 < v * y := Int.mul_pos (by omega) hy0
        have h6 : x * (one64 : Int) ≤ 0 := by
          have : 0 ≤ (k : Int) * (one64 : Int) := Int.mul_nonneg (by omega) (by omega)
          rw [ek, Int.neg_mul] at this; omega
        omega
theorem ZV.div_exact (ha : ZV a x) (hb : ZV b y) (hy : (one64 : Int) ≤ y) (hv : ZV V z) (h : x * (one64 : Int) = z * y) : ZV (FP.ddiv a b) z := by
  obtain ⟨r, h1, h2⟩ := ha.div hb hy
  have h3 := h2 V z hv
  have : r = z := Int.le_antisymm (h3.1 (Int.le_of_eq h)) (h3.2 (Int.le_of_eq h.symm))
  exact this ▸ h1
/-- i * 2^k units are a double -/
theorem own_rep (i : Int) (k : Nat) (hi : i.natAbs < 2 ^ 53) (hk : k ≤ 2045) : ∃ V, ZV V (i * ((2 ^ k : Nat) : Int)) := by
  obtain ⟨c', q', h1, h2⟩ := round_exact good_b64 (decide (i < 0)) (c := i.natAbs) (q := (k : Int) + b64.qmin) hi (by omega) (by rw [show b64.qmax = 971 from by decide, qmin_b64]; omega)
  have hf : FP.Core.fits b64 (.fin (decide (i < 0)) c' q') := by rw [← h1]; exact round_fits good_b64 _
  refine ⟨of64 (.fin (decide (i < 0)) c' q'), ⟨_, _, _, val64_of64 hf⟩, ?_⟩
  rw [val64_of64 hf, own_mag, h2]
  unfold inUnits
  rw [show ((k : Int) + b64.qmin - b64.qmin).toNat = k from by omega, signed_mul, own_sgn_z]
  congr 1
  by_cases h : i < 0
  · simp only [h, decide_true, if_true]; omega
  · simp only [h, decide_false]; simp only [Bool.false_eq_true, if_false]; omega
theorem own_one64 : (one64 : Int) = ((2 ^ 1074 : Nat) : Int) := rfl
theorem ZV.of_int {i : Int} (h : DInt i a) : ZV a (i * (one64 : Int)) := by
  refine ⟨?_, DInt_zval h⟩
  unfold DInt at h
  cases h2 : val64 a with
  | nan => rw [h2] at h; exact h.elim
  | inf s => rw [h2] at h; exact h.elim
  | fin s c q => exact ⟨s, c, q, h2⟩
theorem own_i2d (n : Int32) : ZV (FP.i2d n) (n.toInt * (one64 : Int)) := ZV.of_int (i2d_int n)
theorem own_l2d {n : Int64} (h : n.toInt.natAbs ≤ 2 ^ 53) : ZV (FP.l2d n) (n.toInt * (one64 : Int)) := ZV.of_int (l2d_int h)
theorem own_ddiv_nn (ha : DFin a) (hb : DFin b) : FP.ddiv (FP.Core.dneg a) (FP.Core.dneg b) = FP.ddiv a b ∨ val64 (FP.ddiv a b) = .nan := by
  by_cases hn : val64 (FP.ddiv a b) = .nan
  · exact Or.inr hn
  · refine Or.inl (val64_inj hn ?_).symm
    obtain ⟨s, c, q, h1⟩ := ha
    obtain ⟨t, d, r, h2⟩ := hb
    show val64 (FP.Core.ddiv a b) = val64 (FP.Core.ddiv _ _)
    rw [val64_ddiv, val64_ddiv, val64_dneg, val64_dneg, h1, h2]
    show quotient b64 (.fin s c q) (.fin t d r) = quotient b64 (.fin (!s) c q) (.fin (!t) d r)
    simp only [quotient]
    have : ((!s) != (!t)) = (s != t) := by cases s <;> cases t <;> rfl
    rw [this]
theorem ZV.dneg (h : ZV a x) : ZV (FP.Core.dneg a) (-x) := by
  refine ⟨?_, by rw [val64_dneg, zval_negate, h.2]⟩
  obtain ⟨⟨s, c, q, h1⟩, -⟩ := h; exact ⟨!s, c, q, by rw [val64_dneg, h1]; rfl⟩
/-- the quotient by a negative double of at most minus one -/
theorem ZV.div_neg (ha : ZV a x) (hb : ZV b y) (hy : y ≤ -(one64 : Int)) : ∃ r, ZV (FP.ddiv a b) r ∧ Quo (-x) (-y) r := by
  obtain ⟨r, h1, h2⟩ := ha.dneg.div hb.dneg (by omega)
  have o1 := one64_pos
  obtain ⟨s, c, q, t, d, r', -, -, -, h3, -⟩ := own_quot ha hb (by omega)
  rcases own_ddiv_nn ha.1 hb.1 with h | h
  · exact ⟨r, h ▸ h1, h2⟩
  · rw [h3] at h; exact absurd h (roundRatio_ne_nan _ _ _ _ _)
/-- n / D against i / 2^j -/
theorem own_quo_int {n D r : Int} (h : Quo (n * (one64 : Int)) (D * (one64 : Int)) r) (i : Int) (j : Nat) (hj : j ≤ 1074) (hi : i.natAbs < 2 ^ 53) :
    (n * ((2 ^ j : Nat) : Int) ≤ i * D → r ≤ i * ((2 ^ (1074 - j) : Nat) : Int)) ∧ (i * D ≤ n * ((2 ^ j : Nat) : Int) → i * ((2 ^ (1074 - j) : Nat) : Int) ≤ r) := by
  obtain ⟨V, hV⟩ := own_rep i (1074 - j) hi (by omega)
  have q := h V _ hV
  have e : (one64 : Int) = ((2 ^ j : Nat) : Int) * ((2 ^ (1074 - j) : Nat) : Int) := by
    rw [own_one64, ← Int.natCast_mul, ← Nat.pow_add]; congr 2; omega
  have hu : (0 : Int) ≤ ((2 ^ (1074 - j) : Nat) : Int) * (one64 : Int) := Int.mul_nonneg (Int.natCast_nonneg _) (Int.natCast_nonneg _)
  have e1 : n * (one64 : Int) * (one64 : Int) = n * ((2 ^ j : Nat) : Int) * (((2 ^ (1074 - j) : Nat) : Int) * (one64 : Int)) := by
    conv => lhs; arg 1; rw [e]
    rw [← Int.mul_assoc n, Int.mul_assoc (n * _)]
  have e2 : i * ((2 ^ (1074 - j) : Nat) : Int) * (D * (one64 : Int)) = i * D * (((2 ^ (1074 - j) : Nat) : Int) * (one64 : Int)) := by rw [Int.mul_assoc i, Int.mul_left_comm _ D, ← Int.mul_assoc i D]
  rw [e1, e2] at q
  exact ⟨fun z => q.1 (Int.mul_le_mul_of_nonneg_right z hu), fun z => q.2 (Int.mul_le_mul_of_nonneg_right z hu)⟩
theorem own_zero : ZV (0 : UInt64) 0 := ⟨⟨_, _, _, val64_zero⟩, zval64_zero⟩
theorem own_one : ZV (4607182418800017408 : UInt64) (one64 : Int) := by
  have := ZV.of_int dint_one; rwa [Int.one_mul] at this
theorem own_cmp_gt {x y : Int} : some (compare x y) = some Ordering.gt ↔ y < x := by rw [Option.some.injEq]; exact compare_gt_iff x y
theorem own_cmp_lt {x y : Int} : some (compare x y) = some Ordering.lt ↔ x < y := by rw [Option.some.injEq]; exact compare_lt_iff x y
theorem own_cmp_eq {x y : Int} : some (compare x y) = some Ordering.eq ↔ x = y := by rw [Option.some.injEq]; exact compare_eq_iff x y
theorem own_dnn {i : Int} {a : UInt64} (h : DInt i a) : Jvm.Free.Fl.NoNaN64 a := (ZV.of_int h).nn
theorem own_nnd' {a : UInt64} (ha : DFin a) (n : Int32) (hn : n ≠ 0) : Jvm.Free.Fl.NoNaN64 (FP.ddiv a (FP.i2d n)) :=
  Jvm.Free.Fl.noNaN64_no.mpr (FP.Core.ddiv_out ha.notNaN (i2d_fin n) (fun q => i2d_ne_zero hn (by rwa [zero_bits2] at q)))
theorem own_nnd (s : Int64) (n : Int32) (hn : n ≠ 0) : Jvm.Free.Fl.NoNaN64 (FP.ddiv (FP.l2d s) (FP.i2d n)) := own_nnd' (l2d_fin s) n hn
theorem own_dz : DInt 0 (0 : UInt64) := by
  have : (0 : UInt64) = FP.l2d 0 := FP.Core.l2d_zero.symm
  rw [this]; exact l2d_int (a := 0) (by decide)
theorem own_div_eq {S S' : UInt64} {s : Int} (h : DInt s S) (h' : DInt s S') (n : Int32) (hn : 1 ≤ n.toInt) : FP.dcmp (FP.ddiv S (FP.i2d n)) (FP.ddiv S' (FP.i2d n)) = some .eq := by
  have hy : (one64 : Int) ≤ n.toInt * (one64 : Int) := by
    have := Int.mul_le_mul_of_nonneg_right hn (show (0 : Int) ≤ (one64 : Int) by omega)
    rwa [Int.one_mul] at this
  by_cases hs : s = 0
  · subst hs
    have z1 := ZV.of_int h
    have z2 := ZV.of_int h'
    rw [Int.zero_mul] at z1 z2
    have q1 := z1.div_exact (own_i2d n) hy own_zero (by rw [Int.zero_mul, Int.zero_mul])
    have q2 := z2.div_exact (own_i2d n) hy own_zero (by rw [Int.zero_mul, Int.zero_mul])
    rw [q1.cmp q2, own_cmp_eq]
  · have e := dint_unique hs h h'
    subst e
    have hz : n ≠ 0 := fun q => by subst q; revert hn; decide
    exact dcmp_refl (Jvm.Free.Fl.noNaN64_no.mp (own_nnd' (ZV.of_int h).1 n hz))
theorem own_ib (x : Int32) : x.toInt.natAbs ≤ 2147483648 := by have := x.le_toInt; have := x.toInt_lt; omega
end OwnFp
section OwnSta
variable {Z : State} {h h' : Heap} {ws : List Addr} {a : Addr}
theorem own_ob0 : ∀ x ∈ ([] : List Addr), ∃ cell : Cell, h[x]? = some cell ∧ cell.vm.isStatics = false := nofun
theorem own_obS (q : ∃ cell : Cell, h[a]? = some cell ∧ cell.vm.isStatics = false) (r : ∀ x ∈ ws, ∃ cell : Cell, h[x]? = some cell ∧ cell.vm.isStatics = false) : ∀ x ∈ a :: ws, ∃ cell : Cell, h[x]? = some cell ∧ cell.vm.isStatics = false := fun x hx => by
  rcases List.mem_cons.mp hx with rfl | hx
  · exact q
  · exact r x hx
theorem own_cell0 {C : String} (E : Exa Z h a C) : ∃ cell : Cell, h[a]? = some cell ∧ cell.vm.isStatics = false := by
  obtain ⟨c, k, h1, h2, h3, h4, h5⟩ := E; exact ⟨c, h1, h4⟩
theorem own_sta_keep {C n d : String} {v : Value} (F : Sta Z h C n d v) (K : Keep h h' ws) (r : ∀ x ∈ ws, ∃ cell : Cell, h[x]? = some cell ∧ cell.vm.isStatics = false) : Sta Z h' C n d v := by
  obtain ⟨cf, i, k, f, st, cell, h1, h2, h3, h4, h5, h6, h7⟩ := F
  refine ⟨cf, i, k, f, st, cell, h1, h2, h3, h4, K.2.1 _ _ h5 ?_, h6, h7⟩
  intro hx
  obtain ⟨c', q1, q2⟩ := r st hx
  rw [h5] at q1; cases q1
  rw [h6] at q2; cases q2
theorem own_eqi {a : Term} {args : Array Value} {s : State} {i : Int32} (h : (Jvm.Cond.eq a (Term.int i)).value args s none s [] = some true) : a.eval args s none [] s = some (.int i) := by
  cases ha : a.eval args s none [] s with
  | none => simp [Cond.value, ha] at h
  | some v =>
    cases v <;> simp [Cond.value, ha, Term.eval] at h ⊢
    exact h
theorem own_fstart {args : Array Value} {C n d f g e' : String} {x : Addr} {i : Int32} (ex : (Term.static C n d).eval args Z none [] Z = some (.ref x)) (h1 : (Jvm.Cond.eq (Term.field (Term.static C n d) f g e') (Term.int i)).value args Z none Z [] = some true) : Fld Z Z.heap x f g e' (.int i) :=
  Fld.start ((fld_at ex).symm.trans (own_eqi h1))
end OwnSta
section PureLaw
open Jvm.FP.Core
/-- the double a is n halves -/
def HV (a : UInt64) (n : Int) : Prop := ZV a (n * ((2 ^ 1073 : Nat) : Int))
theorem own_split (j : Nat) (hj : j ≤ 1074) : (one64 : Int) = ((2 ^ j : Nat) : Int) * ((2 ^ (1074 - j) : Nat) : Int) := by
  rw [own_one64, ← Int.natCast_mul, ← Nat.pow_add]; congr 2; omega
theorem own_hone : (one64 : Int) = 2 * ((2 ^ 1073 : Nat) : Int) := by
  have h := own_split 1 (by omega)
  rw [show ((2 ^ 1 : Nat) : Int) = 2 from rfl, show 1074 - 1 = 1073 from rfl] at h; exact h
theorem HV.ex (n : Int) (h : n.natAbs < 2 ^ 53) : ∃ V, HV V n := own_rep n 1073 h (by omega)
variable {a b : UInt64} {n k z : Int}
theorem HV.add (ha : HV a n) (hb : HV b k) (h : (n + k).natAbs < 2 ^ 53) : HV (FP.dadd a b) (n + k) := by
  obtain ⟨V, hV⟩ := HV.ex _ h
  unfold HV at *
  rw [Int.add_mul] at *
  exact ZV.add ha hb hV
theorem HV.sub (ha : HV a n) (hb : HV b k) (h : (n - k).natAbs < 2 ^ 53) : HV (FP.dsub a b) (n - k) := by
  obtain ⟨V, hV⟩ := HV.ex _ h
  unfold HV at *
  rw [Int.sub_mul] at *
  exact ZV.sub ha hb hV
theorem HV.mul (ha : HV a n) (hb : HV b k) (e : n * k = 2 * z) (h : z.natAbs < 2 ^ 53) : HV (FP.dmul a b) z := by
  obtain ⟨V, hV⟩ := HV.ex _ h
  unfold HV at *
  refine ZV.mul ha hb hV ?_
  rw [own_hone]
  generalize ((2 ^ 1073 : Nat) : Int) = H
  calc n * H * (k * H) = (n * k) * (H * H) := by ac_rfl
    _ = z * H * (2 * H) := by rw [e]; ac_rfl
theorem own_hl (D : Int64) (h : D.toInt.natAbs ≤ 2 ^ 53) : HV (FP.l2d D) (2 * D.toInt) := by
  unfold HV
  have q := own_l2d h
  rw [own_hone] at q
  have e : 2 * D.toInt * ((2 ^ 1073 : Nat) : Int) = D.toInt * (2 * ((2 ^ 1073 : Nat) : Int)) := by generalize ((2 ^ 1073 : Nat) : Int) = H; ac_rfl
  rw [e]; exact q
theorem HV.div (ha : HV a n) {D : Int64} (h1 : 1 ≤ D.toInt) (h2 : D.toInt ≤ 4) (e : n = z * D.toInt) (h : z.natAbs < 2 ^ 53) : HV (FP.ddiv a (FP.l2d D)) z := by
  obtain ⟨V, hV⟩ := HV.ex _ h
  unfold HV at *
  have hy : (one64 : Int) ≤ D.toInt * (one64 : Int) := by
    have := Int.mul_le_mul_of_nonneg_right h1 (show (0 : Int) ≤ (one64 : Int) by omega)
    rwa [Int.one_mul] at this
  refine ZV.div_exact ha (own_l2d (by omega)) hy hV ?_
  rw [e]
  generalize ((2 ^ 1073 : Nat) : Int) = H
  generalize (one64 : Int) = o
  ac_rfl
theorem HV.nn (h : HV a n) : Jvm.Free.Fl.NoNaN64 a := ZV.nn h
theorem HV.eq (h : HV a n) (h' : HV b k) (e : n = k) : (cmpValue (FP.dcmp a b) .l) = (0 : Int32) := by
  subst e
  rw [own_c_eq, ZV.cmp h h', own_cmp_eq]
def AddA (d1 mn sd : UInt64) (ct : Int64) (U S : Int) : Prop :=
    Jvm.Free.Fl.NoNaN64 (FP.dsub d1 mn) ∧ Jvm.Free.Fl.NoNaN64 (FP.ddiv (FP.dsub d1 mn) (FP.l2d (ct + (1 : Int64)))) ∧ Jvm.Free.Fl.NoNaN64 (FP.dadd mn (FP.ddiv (FP.dsub d1 mn) (FP.l2d (ct + (1 : Int64))))) ∧
    Jvm.Free.Fl.NoNaN64 (FP.dsub d1 (FP.dadd mn (FP.ddiv (FP.dsub d1 mn) (FP.l2d (ct + (1 : Int64)))))) ∧ Jvm.Free.Fl.NoNaN64 (FP.dmul (FP.dsub d1 mn) (FP.dsub d1 (FP.dadd mn (FP.ddiv (FP.dsub d1 mn) (FP.l2d (ct + (1 : Int64))))))) ∧
    Jvm.Free.Fl.NoNaN64 (FP.dadd sd (FP.dmul (FP.dsub d1 mn) (FP.dsub d1 (FP.dadd mn (FP.ddiv (FP.dsub d1 mn) (FP.l2d (ct + (1 : Int64)))))))) ∧
    HV (FP.dadd mn (FP.ddiv (FP.dsub d1 mn) (FP.l2d (ct + (1 : Int64))))) U ∧ HV (FP.dadd sd (FP.dmul (FP.dsub d1 mn) (FP.dsub d1 (FP.dadd mn (FP.ddiv (FP.dsub d1 mn) (FP.l2d (ct + (1 : Int64)))))))) S
/-- one add: the six values are numbers, and what the three fields are worth -/
theorem own_addA {d1 mn sd : UInt64} {ct : Int64} {x u s D z p : Int} (h1 : HV d1 x) (hm : HV mn u) (hs : HV sd s) (hD : (ct + (1 : Int64)).toInt = D) (h0 : 1 ≤ D) (h4 : D ≤ 4) (hz : x - u = z * D) (hp : (x - u) * (x - (u + z)) = 2 * p)
    (b1 : (x - u).natAbs < 2 ^ 53) (b2 : z.natAbs < 2 ^ 53) (b3 : (u + z).natAbs < 2 ^ 53) (b4 : (x - (u + z)).natAbs < 2 ^ 53) (b5 : p.natAbs < 2 ^ 53) (b6 : (s + p).natAbs < 2 ^ 53) :
    AddA d1 mn sd ct (u + z) (s + p) := by
  have q1 := h1.sub hm b1
  have q2 := q1.div (D := ct + 1) (by omega) (by omega) (by rw [hD]; exact hz) b2
  have q3 := hm.add q2 b3
  have q4 := h1.sub q3 b4
  have q5 := q1.mul q4 hp b5
  have q6 := hs.add q5 b6
  exact ⟨q1.nn, q2.nn, q3.nn, q4.nn, q5.nn, q6.nn, q3, q6⟩
theorem own_k4 {i kk : Int32} (h : (i &&& (3 : Int32)) = kk) : kk = (0 : Int32) ∨ kk = (1 : Int32) ∨ kk = (2 : Int32) ∨ kk = (3 : Int32) := by
  have e1 : (i &&& 3).toInt = i.toInt % 2 ^ 2 := Jvm.Kit.i32_mask i 3 (k := 2) (by decide) (by decide)
  rw [h] at e1
  have k0 : (0 : Int32).toInt = 0 := by decide
  have k1 : (1 : Int32).toInt = 1 := by decide
  have k2 : (2 : Int32).toInt = 2 := by decide
  have k3 : (3 : Int32).toInt = 3 := by decide
  simp only [← Int32.toInt_inj, k0, k1, k2, k3]; omega
theorem own_rem {i : Int32} {j : Int64} (h : (i % (1000000 : Int32)).toInt64 = j) : j.toInt.natAbs < 1000000 := by
  subst h
  rw [Int32.toInt_toInt64, Int32.toInt_mod, show (1000000 : Int32).toInt = 1000000 from rfl]
  have h1 := Int.tmod_lt_of_pos i.toInt (show (0 : Int) < 1000000 by decide)
  have h2 := Int.lt_tmod_of_pos i.toInt (show (0 : Int) < 1000000 by decide)
  omega
theorem own_c3 {A B C : Int64} (h : (((2 : Int64) * B) - A) = C) (ha : A.toInt.natAbs < 1000000) (hb : B.toInt.natAbs < 1000000) : C.toInt = 2 * B.toInt - A.toInt := by
  have e1 : ((2 : Int64) * B).toInt = 2 * B.toInt := Jvm.Kit.i64_mul (by rw [show (2 : Int64).toInt = 2 from rfl]; omega) (by rw [show (2 : Int64).toInt = 2 from rfl]; omega)
  rw [← h, Jvm.Kit.i64_sub (by rw [e1]; omega) (by rw [e1]; omega), e1]
theorem own_dd {A B E : Int64} (h : (B - A) = E) (ha : A.toInt.natAbs < 1000000) (hb : B.toInt.natAbs < 1000000) : E.toInt = B.toInt - A.toInt := by
  rw [← h, Jvm.Kit.i64_sub (by omega) (by omega)]
theorem own_sqb {d : Int} (h : d.natAbs < 2000000) : (d * d).natAbs ≤ 4000000000000 ∧ 0 ≤ d * d := by
  refine ⟨?_, by rcases Int.le_total 0 d with h | h; exact Int.mul_nonneg h h; exact Int.mul_nonneg_of_nonpos_of_nonpos h h⟩
  rw [Int.natAbs_mul]
  exact Nat.mul_le_mul (show d.natAbs ≤ 2000000 by omega) (show d.natAbs ≤ 2000000 by omega)
theorem own_sqd {E : Int64} (h : E.toInt.natAbs < 2000000) : (E * E).toInt = E.toInt * E.toInt := by
  have := own_sqb h
  exact Jvm.Kit.i64_mul (by omega) (by omega)
variable {A B C : Int64}
/-- after one value: mean 2a halves, no deviation -/
theorem own_first (ha : A.toInt.natAbs < 1000000) : AddA (FP.l2d A) 0 0 0 (0 + 2 * A.toInt) (0 + 0) := own_addA (ct := 0) (sd := 0) (mn := 0) (d1 := FP.l2d A) (x := 2 * A.toInt) (u := 0) (s := 0) (D := 1) (z := 2 * A.toInt) (p := 0) (own_hl A (by omega)) (by unfold HV; rw [Int.zero_mul]; exact own_zero) (by unfold HV; rw [Int.zero_mul]; exact own_zero) rfl (by omega) (by omega) (by omega)
  (by rw [show 2 * A.toInt - (0 + 2 * A.toInt) = 0 by omega]; simp) (by omega) (by omega) (by omega) (by omega) (by decide) (by decide)
theorem own_second {mn sd : UInt64} (ha : A.toInt.natAbs < 1000000) (hb : B.toInt.natAbs < 1000000) (hm : HV mn (0 + 2 * A.toInt)) (hs : HV sd (0 + 0)) : AddA (FP.l2d B) mn sd 1 (0 + 2 * A.toInt + (B.toInt - A.toInt)) (0 + 0 + (B.toInt - A.toInt) * (B.toInt - A.toInt)) := own_addA (ct := 1) (sd := sd) (mn := mn) (d1 := FP.l2d B) (x := 2 * B.toInt) (D := 2) (z := B.toInt - A.toInt) (p := (B.toInt - A.toInt) * (B.toInt - A.toInt)) (own_hl B (by omega)) hm hs rfl (by omega) (by omega) (by omega)
  (by rw [show 2 * B.toInt - (0 + 2 * A.toInt) = 2 * (B.toInt - A.toInt) by omega, show 2 * B.toInt - (0 + 2 * A.toInt + (B.toInt - A.toInt)) = B.toInt - A.toInt by omega, Int.mul_assoc]) (by omega) (by omega) (by omega) (by omega)
  (by have := own_sqb (d := B.toInt - A.toInt) (by omega); omega) (by have := own_sqb (d := B.toInt - A.toInt) (by omega); omega)
theorem own_third {mn sd : UInt64} (ha : A.toInt.natAbs < 1000000) (hb : B.toInt.natAbs < 1000000) (hc : C.toInt = 2 * B.toInt - A.toInt) (hm : HV mn (0 + 2 * A.toInt + (B.toInt - A.toInt))) (hs : HV sd (0 + 0 + (B.toInt - A.toInt) * (B.toInt - A.toInt))) : AddA (FP.l2d C) mn sd 2 (0 + 2 * A.toInt + (B.toInt - A.toInt) + (B.toInt - A.toInt)) (0 + 0 + (B.toInt - A.toInt) * (B.toInt - A.toInt) + 3 * ((B.toInt - A.toInt) * (B.toInt - A.toInt))) :=
  own_addA (ct := 2) (sd := sd) (mn := mn) (d1 := FP.l2d C) (x := 2 * C.toInt) (D := 3) (z := B.toInt - A.toInt) (p := 3 * ((B.toInt - A.toInt) * (B.toInt - A.toInt))) (own_hl C (by omega)) hm hs rfl (by omega) (by omega) (by omega)
  (by rw [hc, show 2 * (2 * B.toInt - A.toInt) - (0 + 2 * A.toInt + (B.toInt - A.toInt)) = 3 * (B.toInt - A.toInt) by omega, show 2 * (2 * B.toInt - A.toInt) - (0 + 2 * A.toInt + (B.toInt - A.toInt) + (B.toInt - A.toInt)) = 2 * (B.toInt - A.toInt) by omega]; generalize B.toInt - A.toInt = d; ac_rfl) (by omega) (by omega) (by omega) (by omega)
  (by have := own_sqb (d := B.toInt - A.toInt) (by omega); omega) (by have := own_sqb (d := B.toInt - A.toInt) (by omega); omega)
theorem own_two : HV (4611686018427387904 : UInt64) 4 := by
  have h : (4611686018427387904 : UInt64) = FP.l2d 2 := by decide +kernel
  rw [h]; exact own_hl 2 (by decide)
theorem own_sumAB (ha : A.toInt.natAbs < 1000000) (hb : B.toInt.natAbs < 1000000) : (A + B).toInt = A.toInt + B.toInt := Jvm.Kit.i64_add (by omega) (by omega)
theorem own_m2 {mn : UInt64} {u : Int} (h : HV mn u) (hb : u.natAbs < 2 ^ 50) : HV (FP.dmul mn (4611686018427387904 : UInt64)) (2 * u) := h.mul own_two (by omega) (by omega)
theorem own_l1 {sd : UInt64} {u : Int} (h : HV sd u) (hb : u.natAbs < 2 ^ 50) : HV (FP.ddiv sd (FP.l2d ((2 : Int64) - (1 : Int64)))) u := by
  refine h.div (D := 2 - 1) (by decide) (by decide) ?_ (by omega)
  rw [show ((2 : Int64) - 1).toInt = 1 from by decide, Int.mul_one]
theorem own_l2 {sd : UInt64} {u : Int} (h : HV sd (2 * u)) (hb : u.natAbs < 2 ^ 50) : HV (FP.ddiv sd (FP.l2d ((3 : Int64) - (1 : Int64)))) u := by
  refine h.div (D := 3 - 1) (by decide) (by decide) ?_ (by omega)
  rw [show ((3 : Int64) - 1).toInt = 2 from by decide]; omega
theorem own_b2 (ha : A.toInt.natAbs < 1000000) (hb : B.toInt.natAbs < 1000000) : (0 + 0 + (B.toInt - A.toInt) * (B.toInt - A.toInt)).natAbs < 2 ^ 50 := by
  have := own_sqb (d := B.toInt - A.toInt) (by omega); omega
theorem own_b3 (ha : A.toInt.natAbs < 1000000) (hb : B.toInt.natAbs < 1000000) : (2 * ((B.toInt - A.toInt) * (B.toInt - A.toInt))).natAbs < 2 ^ 50 := by
  have := own_sqb (d := B.toInt - A.toInt) (by omega); omega
theorem own_s3 {sd : UInt64} (h : HV sd (0 + 0 + (B.toInt - A.toInt) * (B.toInt - A.toInt) + 3 * ((B.toInt - A.toInt) * (B.toInt - A.toInt)))) : HV sd (2 * (2 * ((B.toInt - A.toInt) * (B.toInt - A.toInt)))) := by
  have e : 0 + 0 + (B.toInt - A.toInt) * (B.toInt - A.toInt) + 3 * ((B.toInt - A.toInt) * (B.toInt - A.toInt)) = 2 * (2 * ((B.toInt - A.toInt) * (B.toInt - A.toInt))) := by omega
  rwa [e] at h
theorem own_e2 {je : Int64} {vv vq : UInt64} (hje : (B - A) = je) (hv : vq = vv) (ha : A.toInt.natAbs < 1000000) (hb : B.toInt.natAbs < 1000000) (H : HV vq (0 + 0 + (B.toInt - A.toInt) * (B.toInt - A.toInt))) : (cmpValue (FP.dcmp (FP.dmul vv (4611686018427387904 : UInt64)) (FP.l2d (je * je))) .l) = (0 : Int32) := by
  subst hv
  have e := own_dd hje ha hb
  have b := own_sqb (d := je.toInt) (by omega)
  have e2 := own_sqd (E := je) (by omega)
  refine HV.eq (own_m2 H (own_b2 ha hb)) (own_hl _ (by rw [e2]; omega)) ?_
  rw [e2, e]; omega
theorem own_e3 {je : Int64} {vv vq : UInt64} (hje : (B - A) = je) (hv : vq = vv) (ha : A.toInt.natAbs < 1000000) (hb : B.toInt.natAbs < 1000000) (H : HV vq (2 * ((B.toInt - A.toInt) * (B.toInt - A.toInt)))) : (cmpValue (FP.dcmp vv (FP.l2d (je * je))) .l) = (0 : Int32) := by
  subst hv
  have e := own_dd hje ha hb
  have b := own_sqb (d := je.toInt) (by omega)
  have e2 := own_sqd (E := je) (by omega)
  refine HV.eq H (own_hl _ (by rw [e2]; omega)) ?_
  rw [e2, e]
end PureLaw

theorem d1_0 : decode prog_4_method_1_code 0 = .ok (.aload_n 0, 1) := by decide +kernel
theorem d1_1 : decode prog_4_method_1_code 1 = .ok (.invokespecial 1, 3) := by decide +kernel
theorem d1_4 : decode prog_4_method_1_code 4 = .ok (.return_, 1) := by decide +kernel
theorem pn_0 : plainName "com/example/parley/parley/replication/SampleStatistics" = true := by first | (simp [plainName, overriddenIn]; done) | decide +kernel
theorem ef_rm1 (m : MethodId) (a0 : Addr) : entryFrame m #[(.ref a0)] 1 = mkF m 0 #[.val (.ref a0)] [] := by first | (simp [entryFrame, mkF, argsToLocals, Value.category]; done) | rfl
def Q_rm1 (Z : State) (a0 : Addr) (h0 : Heap) (n0 : Nat) (v : Option Value) (h : Heap) (L : List Loc) : Prop := v = none ∧ Fr n0 L ∧ h = h0
set_option maxRecDepth 65536 in
set_option maxHeartbeats 40000000 in
theorem rm1 (l : Launch) (Z : State) (aw : Array Value) (hw : ∀ d ∈ tables_1, d.before aw Z = true) (ws : List Jvm.Cond) (a0 : Addr) (h0 : Heap) (n0 : Nat) (Z0 : n0 ≤ h0.size) :
    MetFree l (⟨"com/example/parley/parley/replication/SampleStatistics", "<init>", "()V"⟩ : MethodName) (head1 (Jvm.Cond.code (⟨"com/example/parley/parley/replication/SampleStatistics", "<init>", "()V"⟩ : MethodName) prog_4_method_1_code 1 none :: ws) ({ frames := 1, cells := 0, slots := 0, locals := 12 } : Room)) (fun a U => a = #[(.ref a0)] ∧ Z.Warmed39 U.vm ∧ U.heap = h0) (fun _ _ _ _ _ => True) (fun _ U o U' => ∃ v L, o = .returned v ∧ Q_rm1 Z a0 h0 n0 v U'.heap L ∧ FrameEnd U o U' L ({ frames := 1, cells := 0, slots := 0, locals := 12 } : Room).cells ({ frames := 1, cells := 0, slots := 0, locals := 12 } : Room).slots) := by
  refine MetFree.of_bodySF (plainFor_of_name pn_0) hisR ?_
  intro p e s m args below meth c s₁ Bd hml0 hP hK
  obtain ⟨rfl, hZ, hh⟩ := hP
  have hx := Bd.exec
  have hby := Bd.bytes
  have hml : c.maxLocals = 1 := hml0
  have hown : s.vm.findClass "com/example/parley/parley/replication/SampleStatistics" = some m.cls := findClass_of_methodNamed Bd.named
  have hnm := (name_of_methodNamed Bd.named Bd.method).1
  have hlk : meth.locks = false := BodyLoose.notSynchronized Bd
  have X0 : Stand p l e ({ frames := 1, cells := 0, slots := 0, locals := 12 } : Room) s m #[(.ref a0)] below meth c s₁ [] 0 0 := Stand.of_body Bd
  have e0 : s₁.heap = h0 := by rw [← hh, Bd.state]; rfl
  have N0 := Fr.nil n0
  have ZZ := Z0
  show Go p e below s ({ frames := 1, cells := 0, slots := 0, locals := 12 } : Room).cells ({ frames := 1, cells := 0, slots := 0, locals := 12 } : Room).slots (fun v h L => Q_rm1 Z a0 h0 n0 v h L) s₁ (entryFrame m #[(.ref a0)] 1)
  refine Go.cast (ef_rm1 m a0) ?_
  refine Go.gen ?_
  intro K1 K2 QQ hK1 hK2 hQQ
  refine Go.on (fun _ k => XS.aloadN X0.here hx rfl (hb hby d1_0) rfl rfl k) ?_
  show Go _ _ _ _ _ _ _ _ (mkF m 1 #[.val (.ref a0)] [(.ref a0)])
  obtain ⟨T1, X1, e1, st1⟩ := initO X0 hx hZ hown (hw _ (List.mem_of_getElem? (i := 8) rfl)) (hw _ (List.mem_of_getElem? (i := 9) rfl)) (hw _ (List.mem_of_getElem? (i := 10) rfl)) e0 (g := (mkF m 1 #[.val (.ref a0)] [(.ref a0)])) rfl (by rw [hml]; rfl) rfl (hb hby d1_1) (by decide) (W := 0) (by show 2 * 0 + _ ≤ _; exact Nat.le_of_eq rfl) (by decide)
  refine Go.on st1 ?_
  show Go _ _ _ _ _ _ _ _ (mkF m 4 #[.val (.ref a0)] [])
  refine Go.ret0 X1 hx Bd.returns (hb hby d1_4) ?_ (by rw [hK1]; decide) (by rw [hK2]; decide)
  rw [e1, ← hQQ]
  exact ⟨rfl, N0, rfl⟩
theorem d3_0 : decode prog_4_method_2_code 0 = .ok (.aload_n 0, 1) := by decide +kernel
theorem d3_1 : decode prog_4_method_2_code 1 = .ok (.dup, 1) := by decide +kernel
theorem d3_2 : decode prog_4_method_2_code 2 = .ok (.getfield 7, 3) := by decide +kernel
theorem d3_5 : decode prog_4_method_2_code 5 = .ok (.lconst 1, 1) := by decide +kernel
theorem d3_6 : decode prog_4_method_2_code 6 = .ok (.ladd, 1) := by decide +kernel
theorem d3_7 : decode prog_4_method_2_code 7 = .ok (.putfield 7, 3) := by decide +kernel
theorem d3_10 : decode prog_4_method_2_code 10 = .ok (.dload_n 1, 1) := by decide +kernel
theorem d3_11 : decode prog_4_method_2_code 11 = .ok (.aload_n 0, 1) := by decide +kernel
theorem d3_12 : decode prog_4_method_2_code 12 = .ok (.getfield 13, 3) := by decide +kernel
theorem d3_15 : decode prog_4_method_2_code 15 = .ok (.dsub, 1) := by decide +kernel
theorem d3_16 : decode prog_4_method_2_code 16 = .ok (.dstore_n 3, 1) := by decide +kernel
theorem d3_17 : decode prog_4_method_2_code 17 = .ok (.aload_n 0, 1) := by decide +kernel
theorem d3_18 : decode prog_4_method_2_code 18 = .ok (.dup, 1) := by decide +kernel
theorem d3_19 : decode prog_4_method_2_code 19 = .ok (.getfield 13, 3) := by decide +kernel
theorem d3_22 : decode prog_4_method_2_code 22 = .ok (.dload_n 3, 1) := by decide +kernel
theorem d3_23 : decode prog_4_method_2_code 23 = .ok (.aload_n 0, 1) := by decide +kernel
theorem d3_24 : decode prog_4_method_2_code 24 = .ok (.getfield 7, 3) := by decide +kernel
theorem d3_27 : decode prog_4_method_2_code 27 = .ok (.l2d, 1) := by decide +kernel
theorem d3_28 : decode prog_4_method_2_code 28 = .ok (.ddiv, 1) := by decide +kernel
theorem d3_29 : decode prog_4_method_2_code 29 = .ok (.dadd, 1) := by decide +kernel
theorem d3_30 : decode prog_4_method_2_code 30 = .ok (.putfield 13, 3) := by decide +kernel
theorem d3_33 : decode prog_4_method_2_code 33 = .ok (.aload_n 0, 1) := by decide +kernel
theorem d3_34 : decode prog_4_method_2_code 34 = .ok (.dup, 1) := by decide +kernel
theorem d3_35 : decode prog_4_method_2_code 35 = .ok (.getfield 17, 3) := by decide +kernel
theorem d3_38 : decode prog_4_method_2_code 38 = .ok (.dload_n 3, 1) := by decide +kernel
theorem d3_39 : decode prog_4_method_2_code 39 = .ok (.dload_n 1, 1) := by decide +kernel
theorem d3_40 : decode prog_4_method_2_code 40 = .ok (.aload_n 0, 1) := by decide +kernel
theorem d3_41 : decode prog_4_method_2_code 41 = .ok (.getfield 13, 3) := by decide +kernel
theorem d3_44 : decode prog_4_method_2_code 44 = .ok (.dsub, 1) := by decide +kernel
theorem d3_45 : decode prog_4_method_2_code 45 = .ok (.dmul, 1) := by decide +kernel
theorem d3_46 : decode prog_4_method_2_code 46 = .ok (.dadd, 1) := by decide +kernel
theorem d3_47 : decode prog_4_method_2_code 47 = .ok (.putfield 17, 3) := by decide +kernel
theorem d3_50 : decode prog_4_method_2_code 50 = .ok (.return_, 1) := by decide +kernel
theorem ef_rm3 (m : MethodId) (a0 : Addr) (d1 : UInt64) : entryFrame m #[(.ref a0), (.double d1)] 5 = mkF m 0 #[.val (.ref a0), .val (.double d1), .second, .unset, .unset] [] := by first | (simp [entryFrame, mkF, argsToLocals, Value.category]; done) | rfl
def Q_rm3 (Z : State) (a0 : Addr) (d1 : UInt64) (ct : Int64) (mn : UInt64) (sd : UInt64) (h0 : Heap) (n0 : Nat) (v : Option Value) (h : Heap) (L : List Loc) : Prop := v = none ∧ Fr n0 L ∧ Keep h0 h [a0] ∧ Exa Z h a0 "com/example/parley/parley/replication/SampleStatistics" ∧ Fld Z h a0 "com/example/parley/parley/replication/SampleStatistics" "count" "J" (.long (ct + (1 : Int64))) ∧ Fld Z h a0 "com/example/parley/parley/replication/SampleStatistics" "mean" "D" (.double (FP.dadd mn (FP.ddiv (FP.dsub d1 mn) (FP.l2d (ct + (1 : Int64)))))) ∧ Fld Z h a0 "com/example/parley/parley/replication/SampleStatistics" "sumOfSquaredDeviations" "D" (.double (FP.dadd sd (FP.dmul (FP.dsub d1 mn) (FP.dsub d1 (FP.dadd mn (FP.ddiv (FP.dsub d1 mn) (FP.l2d (ct + (1 : Int64)))))))))
set_option maxRecDepth 65536 in
set_option maxHeartbeats 40000000 in
theorem rm3 (l : Launch) (Z : State) (aw : Array Value) (hw : ∀ d ∈ tables_1, d.before aw Z = true) (ws : List Jvm.Cond) (a0 : Addr) (d1 : UInt64) (ct : Int64) (mn : UInt64) (sd : UInt64) (h0 : Heap) (n0 : Nat) (Z0 : n0 ≤ h0.size) (E_a0 : Exa Z h0 a0 "com/example/parley/parley/replication/SampleStatistics") (F_count_a0 : Fld Z h0 a0 "com/example/parley/parley/replication/SampleStatistics" "count" "J" (.long ct)) (F_mean_a0 : Fld Z h0 a0 "com/example/parley/parley/replication/SampleStatistics" "mean" "D" (.double mn)) (F_sumOfSquaredDeviations_a0 : Fld Z h0 a0 "com/example/parley/parley/replication/SampleStatistics" "sumOfSquaredDeviations" "D" (.double sd)) (g_a0 : n0 ≤ a0) (hn0 : Jvm.Free.Fl.NoNaN64 (FP.dsub d1 mn)) (hn1 : Jvm.Free.Fl.NoNaN64 (FP.ddiv (FP.dsub d1 mn) (FP.l2d (ct + (1 : Int64))))) (hn2 : Jvm.Free.Fl.NoNaN64 (FP.dadd mn (FP.ddiv (FP.dsub d1 mn) (FP.l2d (ct + (1 : Int64)))))) (hn3 : Jvm.Free.Fl.NoNaN64 (FP.dsub d1 (FP.dadd mn (FP.ddiv (FP.dsub d1 mn) (FP.l2d (ct + (1 : Int64))))))) (hn4 : Jvm.Free.Fl.NoNaN64 (FP.dmul (FP.dsub d1 mn) (FP.dsub d1 (FP.dadd mn (FP.ddiv (FP.dsub d1 mn) (FP.l2d (ct + (1 : Int64)))))))) (hn5 : Jvm.Free.Fl.NoNaN64 (FP.dadd sd (FP.dmul (FP.dsub d1 mn) (FP.dsub d1 (FP.dadd mn (FP.ddiv (FP.dsub d1 mn) (FP.l2d (ct + (1 : Int64))))))))) :
    MetFree l (⟨"com/example/parley/parley/replication/SampleStatistics", "add", "(D)V"⟩ : MethodName) (head1 (Jvm.Cond.code (⟨"com/example/parley/parley/replication/SampleStatistics", "add", "(D)V"⟩ : MethodName) prog_4_method_2_code 5 none :: ws) ({ frames := 0, cells := 0, slots := 0, locals := 0 } : Room)) (fun a U => a = #[(.ref a0), (.double d1)] ∧ Z.Warmed39 U.vm ∧ U.heap = h0) (fun _ _ _ _ _ => True) (fun _ U o U' => ∃ v L, o = .returned v ∧ Q_rm3 Z a0 d1 ct mn sd h0 n0 v U'.heap L ∧ FrameEnd U o U' L ({ frames := 0, cells := 0, slots := 0, locals := 0 } : Room).cells ({ frames := 0, cells := 0, slots := 0, locals := 0 } : Room).slots) := by
  refine MetFree.of_bodySF (plainFor_of_name pn_0) hisR ?_
  intro p e s m args below meth c s₁ Bd hml0 hP hK
  obtain ⟨rfl, hZ, hh⟩ := hP
  have hx := Bd.exec
  have hby := Bd.bytes
  have hml : c.maxLocals = 5 := hml0
  have hown : s.vm.findClass "com/example/parley/parley/replication/SampleStatistics" = some m.cls := findClass_of_methodNamed Bd.named
  have hnm := (name_of_methodNamed Bd.named Bd.method).1
  have hlk : meth.locks = false := BodyLoose.notSynchronized Bd
  have X0 : Stand p l e ({ frames := 0, cells := 0, slots := 0, locals := 0 } : Room) s m #[(.ref a0), (.double d1)] below meth c s₁ [] 0 0 := Stand.of_body Bd
  have e0 : s₁.heap = h0 := by rw [← hh, Bd.state]; rfl
  have N0 := Fr.nil n0
  have ZZ := Z0
  show Go p e below s ({ frames := 0, cells := 0, slots := 0, locals := 0 } : Room).cells ({ frames := 0, cells := 0, slots := 0, locals := 0 } : Room).slots (fun v h L => Q_rm3 Z a0 d1 ct mn sd h0 n0 v h L) s₁ (entryFrame m #[(.ref a0), (.double d1)] 5)
  refine Go.cast (ef_rm3 m a0 d1) ?_
  refine Go.gen ?_
  intro K1 K2 QQ hK1 hK2 hQQ
  have KP : Keep h0 h0 [a0] := Keep.refl _ _
  refine Go.on (fun _ k => XS.aloadN X0.here hx rfl (hb hby d3_0) rfl rfl k) ?_
  show Go _ _ _ _ _ _ _ _ (mkF m 1 #[.val (.ref a0), .val (.double d1), .second, .unset, .unset] [(.ref a0)])
  refine Go.on (fun _ k => XS.dup X0.here hx rfl (hb hby d3_1) rfl rfl k) ?_
  show Go _ _ _ _ _ _ _ _ (mkF m 2 #[.val (.ref a0), .val (.double d1), .second, .unset, .unset] [(.ref a0), (.ref a0)])
  obtain ⟨T1, X1, e1, st1⟩ := getF X0 hx hZ hown (host := "") (Or.inl (hw _ (List.mem_of_getElem? (i := 16) rfl))) Via.refl e0 F_count_a0 (g := (mkF m 2 #[.val (.ref a0), .val (.double d1), .second, .unset, .unset] [(.ref a0), (.ref a0)])) rfl rfl (hb hby d3_2)
  refine Go.on st1 ?_
  show Go _ _ _ _ _ _ _ _ (mkF m 5 #[.val (.ref a0), .val (.double d1), .second, .unset, .unset] [(.long ct), (.ref a0)])
  refine Go.on (fun _ k => XS.lconst X1.here hx rfl (hb hby d3_5) k) ?_
  show Go _ _ _ _ _ _ _ _ (mkF m 6 #[.val (.ref a0), .val (.double d1), .second, .unset, .unset] [(.long (1 : Int64)), (.long ct), (.ref a0)])
  refine Go.on (fun _ k => XS.ladd X1.here hx rfl (hb hby d3_6) rfl k) ?_
  show Go _ _ _ _ _ _ _ _ (mkF m 7 #[.val (.ref a0), .val (.double d1), .second, .unset, .unset] [(.long (ct + (1 : Int64))), (.ref a0)])
  obtain ⟨T2, h2, X2, e2, W2, st2⟩ := putF X1 hx hZ hown (host := "") (Or.inl (hw _ (List.mem_of_getElem? (i := 16) rfl))) Via.refl e1 F_count_a0 E_a0 (Or.inl (hw _ (List.mem_of_getElem? (i := 17) rfl))) (hw _ (List.mem_of_getElem? (i := 3) rfl)) (ty := .long) (by decide) rfl rfl (g := (mkF m 7 #[.val (.ref a0), .val (.double d1), .second, .unset, .unset] [(.long (ct + (1 : Int64))), (.ref a0)])) rfl rfl (hb hby d3_7)
  refine Go.on st2 ?_
  replace F_count_a0 := F_count_a0.same W2
  replace E_a0 := E_a0.wr W2
  replace F_mean_a0 := F_mean_a0.other W2 (Or.inr (slot_ne (Or.inl (hw _ (List.mem_of_getElem? (i := 19) rfl))) (Or.inl (hw _ (List.mem_of_getElem? (i := 17) rfl))) (by decide) (t := .double) (t' := .long) (by decide) (by decide)))
  replace F_sumOfSquaredDeviations_a0 := F_sumOfSquaredDeviations_a0.other W2 (Or.inr (slot_ne (Or.inl (hw _ (List.mem_of_getElem? (i := 21) rfl))) (Or.inl (hw _ (List.mem_of_getElem? (i := 17) rfl))) (by decide) (t := .double) (t' := .long) (by decide) (by decide)))
  have N2 := Fr.snoc X2 N0 g_a0
  replace ZZ := Nat.le_trans ZZ (Keep.of_wr W2).1
  replace KP := KP.wr W2 (Or.inl (List.mem_of_getElem? (i := 0) rfl))
  show Go _ _ _ _ _ _ _ _ (mkF m 10 #[.val (.ref a0), .val (.double d1), .second, .unset, .unset] [])
  refine Go.on (fun _ k => XS.dloadN X2.here hx rfl (hb hby d3_10) rfl k) ?_
  show Go _ _ _ _ _ _ _ _ (mkF m 11 #[.val (.ref a0), .val (.double d1), .second, .unset, .unset] [(.double d1)])
  refine Go.on (fun _ k => XS.aloadN X2.here hx rfl (hb hby d3_11) rfl rfl k) ?_
  show Go _ _ _ _ _ _ _ _ (mkF m 12 #[.val (.ref a0), .val (.double d1), .second, .unset, .unset] [(.ref a0), (.double d1)])
  obtain ⟨T3, X3, e3, st3⟩ := getF X2 hx hZ hown (host := "") (Or.inl (hw _ (List.mem_of_getElem? (i := 18) rfl))) Via.refl e2 F_mean_a0 (g := (mkF m 12 #[.val (.ref a0), .val (.double d1), .second, .unset, .unset] [(.ref a0), (.double d1)])) rfl rfl (hb hby d3_12)
  refine Go.on st3 ?_
  show Go _ _ _ _ _ _ _ _ (mkF m 15 #[.val (.ref a0), .val (.double d1), .second, .unset, .unset] [(.double mn), (.double d1)])
  refine Go.on (fun _ k => XS.dsubS X3.here hx rfl (hb hby d3_15) rfl (hn0) rfl k) ?_
  show Go _ _ _ _ _ _ _ _ (mkF m 16 #[.val (.ref a0), .val (.double d1), .second, .unset, .unset] [(.double (FP.dsub d1 mn))])
  refine Go.on (fun _ k => XS.dstoreN X3.here hx rfl (hb hby d3_16) rfl (l' := #[.val (.ref a0), .val (.double d1), .second, .val (.double (FP.dsub d1 mn)), .second]) rfl k) ?_
  show Go _ _ _ _ _ _ _ _ (mkF m 17 #[.val (.ref a0), .val (.double d1), .second, .val (.double (FP.dsub d1 mn)), .second] [])
  refine Go.on (fun _ k => XS.aloadN X3.here hx rfl (hb hby d3_17) rfl rfl k) ?_
  show Go _ _ _ _ _ _ _ _ (mkF m 18 #[.val (.ref a0), .val (.double d1), .second, .val (.double (FP.dsub d1 mn)), .second] [(.ref a0)])
  refine Go.on (fun _ k => XS.dup X3.here hx rfl (hb hby d3_18) rfl rfl k) ?_
  show Go _ _ _ _ _ _ _ _ (mkF m 19 #[.val (.ref a0), .val (.double d1), .second, .val (.double (FP.dsub d1 mn)), .second] [(.ref a0), (.ref a0)])
  obtain ⟨T4, X4, e4, st4⟩ := getF X3 hx hZ hown (host := "") (Or.inl (hw _ (List.mem_of_getElem? (i := 18) rfl))) Via.refl e3 F_mean_a0 (g := (mkF m 19 #[.val (.ref a0), .val (.double d1), .second, .val (.double (FP.dsub d1 mn)), .second] [(.ref a0), (.ref a0)])) rfl rfl (hb hby d3_19)
  refine Go.on st4 ?_
  show Go _ _ _ _ _ _ _ _ (mkF m 22 #[.val (.ref a0), .val (.double d1), .second, .val (.double (FP.dsub d1 mn)), .second] [(.double mn), (.ref a0)])
  refine Go.on (fun _ k => XS.dloadN X4.here hx rfl (hb hby d3_22) rfl k) ?_
  show Go _ _ _ _ _ _ _ _ (mkF m 23 #[.val (.ref a0), .val (.double d1), .second, .val (.double (FP.dsub d1 mn)), .second] [(.double (FP.dsub d1 mn)), (.double mn), (.ref a0)])
  refine Go.on (fun _ k => XS.aloadN X4.here hx rfl (hb hby d3_23) rfl rfl k) ?_
  show Go _ _ _ _ _ _ _ _ (mkF m 24 #[.val (.ref a0), .val (.double d1), .second, .val (.double (FP.dsub d1 mn)), .second] [(.ref a0), (.double (FP.dsub d1 mn)), (.double mn), (.ref a0)])
  obtain ⟨T5, X5, e5, st5⟩ := getF X4 hx hZ hown (host := "") (Or.inl (hw _ (List.mem_of_getElem? (i := 16) rfl))) Via.refl e4 F_count_a0 (g := (mkF m 24 #[.val (.ref a0), .val (.double d1), .second, .val (.double (FP.dsub d1 mn)), .second] [(.ref a0), (.double (FP.dsub d1 mn)), (.double mn), (.ref a0)])) rfl rfl (hb hby d3_24)
  refine Go.on st5 ?_
  show Go _ _ _ _ _ _ _ _ (mkF m 27 #[.val (.ref a0), .val (.double d1), .second, .val (.double (FP.dsub d1 mn)), .second] [(.long (ct + (1 : Int64))), (.double (FP.dsub d1 mn)), (.double mn), (.ref a0)])
  refine Go.on (fun _ k => XS.l2dS X5.here hx rfl (hb hby d3_27) rfl rfl k) ?_
  show Go _ _ _ _ _ _ _ _ (mkF m 28 #[.val (.ref a0), .val (.double d1), .second, .val (.double (FP.dsub d1 mn)), .second] [(.double (FP.l2d (ct + (1 : Int64)))), (.double (FP.dsub d1 mn)), (.double mn), (.ref a0)])
  refine Go.on (fun _ k => XS.ddivS X5.here hx rfl (hb hby d3_28) rfl (hn1) rfl k) ?_
  show Go _ _ _ _ _ _ _ _ (mkF m 29 #[.val (.ref a0), .val (.double d1), .second, .val (.double (FP.dsub d1 mn)), .second] [(.double (FP.ddiv (FP.dsub d1 mn) (FP.l2d (ct + (1 : Int64))))), (.double mn), (.ref a0)])
  refine Go.on (fun _ k => XS.daddS X5.here hx rfl (hb hby d3_29) rfl (hn2) rfl k) ?_
  show Go _ _ _ _ _ _ _ _ (mkF m 30 #[.val (.ref a0), .val (.double d1), .second, .val (.double (FP.dsub d1 mn)), .second] [(.double (FP.dadd mn (FP.ddiv (FP.dsub d1 mn) (FP.l2d (ct + (1 : Int64)))))), (.ref a0)])
  obtain ⟨T6, h6, X6, e6, W6, st6⟩ := putF X5 hx hZ hown (host := "") (Or.inl (hw _ (List.mem_of_getElem? (i := 18) rfl))) Via.refl e5 F_mean_a0 E_a0 (Or.inl (hw _ (List.mem_of_getElem? (i := 19) rfl))) (hw _ (List.mem_of_getElem? (i := 3) rfl)) (ty := .double) (by decide) rfl rfl (g := (mkF m 30 #[.val (.ref a0), .val (.double d1), .second, .val (.double (FP.dsub d1 mn)), .second] [(.double (FP.dadd mn (FP.ddiv (FP.dsub d1 mn) (FP.l2d (ct + (1 : Int64)))))), (.ref a0)])) rfl rfl (hb hby d3_30)
  refine Go.on st6 ?_
  replace F_mean_a0 := F_mean_a0.same W6
  replace E_a0 := E_a0.wr W6
  replace F_count_a0 := F_count_a0.other W6 (Or.inr (slot_ne (Or.inl (hw _ (List.mem_of_getElem? (i := 17) rfl))) (Or.inl (hw _ (List.mem_of_getElem? (i := 19) rfl))) (by decide) (t := .long) (t' := .double) (by decide) (by decide)))
  replace F_sumOfSquaredDeviations_a0 := F_sumOfSquaredDeviations_a0.other W6 (Or.inr (slot_ne (Or.inl (hw _ (List.mem_of_getElem? (i := 21) rfl))) (Or.inl (hw _ (List.mem_of_getElem? (i := 19) rfl))) (by decide) (t := .double) (t' := .double) (by decide) (by decide)))
  have N6 := Fr.snoc X6 N2 g_a0
  replace ZZ := Nat.le_trans ZZ (Keep.of_wr W6).1
  replace KP := KP.wr W6 (Or.inl (List.mem_of_getElem? (i := 0) rfl))
  show Go _ _ _ _ _ _ _ _ (mkF m 33 #[.val (.ref a0), .val (.double d1), .second, .val (.double (FP.dsub d1 mn)), .second] [])
  refine Go.on (fun _ k => XS.aloadN X6.here hx rfl (hb hby d3_33) rfl rfl k) ?_
  show Go _ _ _ _ _ _ _ _ (mkF m 34 #[.val (.ref a0), .val (.double d1), .second, .val (.double (FP.dsub d1 mn)), .second] [(.ref a0)])
  refine Go.on (fun _ k => XS.dup X6.here hx rfl (hb hby d3_34) rfl rfl k) ?_
  show Go _ _ _ _ _ _ _ _ (mkF m 35 #[.val (.ref a0), .val (.double d1), .second, .val (.double (FP.dsub d1 mn)), .second] [(.ref a0), (.ref a0)])
  obtain ⟨T7, X7, e7, st7⟩ := getF X6 hx hZ hown (host := "") (Or.inl (hw _ (List.mem_of_getElem? (i := 20) rfl))) Via.refl e6 F_sumOfSquaredDeviations_a0 (g := (mkF m 35 #[.val (.ref a0), .val (.double d1), .second, .val (.double (FP.dsub d1 mn)), .second] [(.ref a0), (.ref a0)])) rfl rfl (hb hby d3_35)
  refine Go.on st7 ?_
  show Go _ _ _ _ _ _ _ _ (mkF m 38 #[.val (.ref a0), .val (.double d1), .second, .val (.double (FP.dsub d1 mn)), .second] [(.double sd), (.ref a0)])
  refine Go.on (fun _ k => XS.dloadN X7.here hx rfl (hb hby d3_38) rfl k) ?_
  show Go _ _ _ _ _ _ _ _ (mkF m 39 #[.val (.ref a0), .val (.double d1), .second, .val (.double (FP.dsub d1 mn)), .second] [(.double (FP.dsub d1 mn)), (.double sd), (.ref a0)])
  refine Go.on (fun _ k => XS.dloadN X7.here hx rfl (hb hby d3_39) rfl k) ?_
  show Go _ _ _ _ _ _ _ _ (mkF m 40 #[.val (.ref a0), .val (.double d1), .second, .val (.double (FP.dsub d1 mn)), .second] [(.double d1), (.double (FP.dsub d1 mn)), (.double sd), (.ref a0)])
  refine Go.on (fun _ k => XS.aloadN X7.here hx rfl (hb hby d3_40) rfl rfl k) ?_
  show Go _ _ _ _ _ _ _ _ (mkF m 41 #[.val (.ref a0), .val (.double d1), .second, .val (.double (FP.dsub d1 mn)), .second] [(.ref a0), (.double d1), (.double (FP.dsub d1 mn)), (.double sd), (.ref a0)])
  obtain ⟨T8, X8, e8, st8⟩ := getF X7 hx hZ hown (host := "") (Or.inl (hw _ (List.mem_of_getElem? (i := 18) rfl))) Via.refl e7 F_mean_a0 (g := (mkF m 41 #[.val (.ref a0), .val (.double d1), .second, .val (.double (FP.dsub d1 mn)), .second] [(.ref a0), (.double d1), (.double (FP.dsub d1 mn)), (.double sd), (.ref a0)])) rfl rfl (hb hby d3_41)
  refine Go.on st8 ?_
  show Go _ _ _ _ _ _ _ _ (mkF m 44 #[.val (.ref a0), .val (.double d1), .second, .val (.double (FP.dsub d1 mn)), .second] [(.double (FP.dadd mn (FP.ddiv (FP.dsub d1 mn) (FP.l2d (ct + (1 : Int64)))))), (.double d1), (.double (FP.dsub d1 mn)), (.double sd), (.ref a0)])
  refine Go.on (fun _ k => XS.dsubS X8.here hx rfl (hb hby d3_44) rfl (hn3) rfl k) ?_
  show Go _ _ _ _ _ _ _ _ (mkF m 45 #[.val (.ref a0), .val (.double d1), .second, .val (.double (FP.dsub d1 mn)), .second] [(.double (FP.dsub d1 (FP.dadd mn (FP.ddiv (FP.dsub d1 mn) (FP.l2d (ct + (1 : Int64))))))), (.double (FP.dsub d1 mn)), (.double sd), (.ref a0)])
  refine Go.on (fun _ k => XS.dmulS X8.here hx rfl (hb hby d3_45) rfl (hn4) rfl k) ?_
  show Go _ _ _ _ _ _ _ _ (mkF m 46 #[.val (.ref a0), .val (.double d1), .second, .val (.double (FP.dsub d1 mn)), .second] [(.double (FP.dmul (FP.dsub d1 mn) (FP.dsub d1 (FP.dadd mn (FP.ddiv (FP.dsub d1 mn) (FP.l2d (ct + (1 : Int64)))))))), (.double sd), (.ref a0)])
  refine Go.on (fun _ k => XS.daddS X8.here hx rfl (hb hby d3_46) rfl (hn5) rfl k) ?_
  show Go _ _ _ _ _ _ _ _ (mkF m 47 #[.val (.ref a0), .val (.double d1), .second, .val (.double (FP.dsub d1 mn)), .second] [(.double (FP.dadd sd (FP.dmul (FP.dsub d1 mn) (FP.dsub d1 (FP.dadd mn (FP.ddiv (FP.dsub d1 mn) (FP.l2d (ct + (1 : Int64))))))))), (.ref a0)])
  obtain ⟨T9, h9, X9, e9, W9, st9⟩ := putF X8 hx hZ hown (host := "") (Or.inl (hw _ (List.mem_of_getElem? (i := 20) rfl))) Via.refl e8 F_sumOfSquaredDeviations_a0 E_a0 (Or.inl (hw _ (List.mem_of_getElem? (i := 21) rfl))) (hw _ (List.mem_of_getElem? (i := 3) rfl)) (ty := .double) (by decide) rfl rfl (g := (mkF m 47 #[.val (.ref a0), .val (.double d1), .second, .val (.double (FP.dsub d1 mn)), .second] [(.double (FP.dadd sd (FP.dmul (FP.dsub d1 mn) (FP.dsub d1 (FP.dadd mn (FP.ddiv (FP.dsub d1 mn) (FP.l2d (ct + (1 : Int64))))))))), (.ref a0)])) rfl rfl (hb hby d3_47)
  refine Go.on st9 ?_
  replace F_sumOfSquaredDeviations_a0 := F_sumOfSquaredDeviations_a0.same W9
  replace E_a0 := E_a0.wr W9
  replace F_count_a0 := F_count_a0.other W9 (Or.inr (slot_ne (Or.inl (hw _ (List.mem_of_getElem? (i := 17) rfl))) (Or.inl (hw _ (List.mem_of_getElem? (i := 21) rfl))) (by decide) (t := .long) (t' := .double) (by decide) (by decide)))
  replace F_mean_a0 := F_mean_a0.other W9 (Or.inr (slot_ne (Or.inl (hw _ (List.mem_of_getElem? (i := 19) rfl))) (Or.inl (hw _ (List.mem_of_getElem? (i := 21) rfl))) (by decide) (t := .double) (t' := .double) (by decide) (by decide)))
  have N9 := Fr.snoc X9 N6 g_a0
  replace ZZ := Nat.le_trans ZZ (Keep.of_wr W9).1
  replace KP := KP.wr W9 (Or.inl (List.mem_of_getElem? (i := 0) rfl))
  show Go _ _ _ _ _ _ _ _ (mkF m 50 #[.val (.ref a0), .val (.double d1), .second, .val (.double (FP.dsub d1 mn)), .second] [])
  refine Go.ret0 X9 hx Bd.returns (hb hby d3_50) ?_ (by rw [hK1]; decide) (by rw [hK2]; decide)
  rw [e9, ← hQQ]
  exact ⟨rfl, N9, KP, E_a0, F_count_a0, F_mean_a0, F_sumOfSquaredDeviations_a0⟩
theorem d4_0 : decode prog_4_method_3_code 0 = .ok (.aload_n 0, 1) := by decide +kernel
theorem d4_1 : decode prog_4_method_3_code 1 = .ok (.getfield 7, 3) := by decide +kernel
theorem d4_4 : decode prog_4_method_3_code 4 = .ok (.lreturn, 1) := by decide +kernel
theorem ef_rm4 (m : MethodId) (a0 : Addr) : entryFrame m #[(.ref a0)] 1 = mkF m 0 #[.val (.ref a0)] [] := by first | (simp [entryFrame, mkF, argsToLocals, Value.category]; done) | rfl
def Q_rm4 (Z : State) (a0 : Addr) (ct : Int64) (h0 : Heap) (n0 : Nat) (v : Option Value) (h : Heap) (L : List Loc) : Prop := v = some (.long ct) ∧ Fr n0 L ∧ h = h0
set_option maxRecDepth 65536 in
set_option maxHeartbeats 40000000 in
theorem rm4 (l : Launch) (Z : State) (aw : Array Value) (hw : ∀ d ∈ tables_1, d.before aw Z = true) (ws : List Jvm.Cond) (a0 : Addr) (ct : Int64) (h0 : Heap) (n0 : Nat) (Z0 : n0 ≤ h0.size) (F_count_a0 : Fld Z h0 a0 "com/example/parley/parley/replication/SampleStatistics" "count" "J" (.long ct)) :
    MetFree l (⟨"com/example/parley/parley/replication/SampleStatistics", "getCount", "()J"⟩ : MethodName) (head1 (Jvm.Cond.code (⟨"com/example/parley/parley/replication/SampleStatistics", "getCount", "()J"⟩ : MethodName) prog_4_method_3_code 1 (some .long) :: ws) ({ frames := 0, cells := 0, slots := 0, locals := 0 } : Room)) (fun a U => a = #[(.ref a0)] ∧ Z.Warmed39 U.vm ∧ U.heap = h0) (fun _ _ _ _ _ => True) (fun _ U o U' => ∃ v L, o = .returned v ∧ Q_rm4 Z a0 ct h0 n0 v U'.heap L ∧ FrameEnd U o U' L ({ frames := 0, cells := 0, slots := 0, locals := 0 } : Room).cells ({ frames := 0, cells := 0, slots := 0, locals := 0 } : Room).slots) := by
  refine MetFree.of_bodySF (plainFor_of_name pn_0) hisR ?_
  intro p e s m args below meth c s₁ Bd hml0 hP hK
  obtain ⟨rfl, hZ, hh⟩ := hP
  have hx := Bd.exec
  have hby := Bd.bytes
  have hml : c.maxLocals = 1 := hml0
  have hown : s.vm.findClass "com/example/parley/parley/replication/SampleStatistics" = some m.cls := findClass_of_methodNamed Bd.named
  have hnm := (name_of_methodNamed Bd.named Bd.method).1
  have hlk : meth.locks = false := BodyLoose.notSynchronized Bd
  have X0 : Stand p l e ({ frames := 0, cells := 0, slots := 0, locals := 0 } : Room) s m #[(.ref a0)] below meth c s₁ [] 0 0 := Stand.of_body Bd
  have e0 : s₁.heap = h0 := by rw [← hh, Bd.state]; rfl
  have N0 := Fr.nil n0
  have ZZ := Z0
  show Go p e below s ({ frames := 0, cells := 0, slots := 0, locals := 0 } : Room).cells ({ frames := 0, cells := 0, slots := 0, locals := 0 } : Room).slots (fun v h L => Q_rm4 Z a0 ct h0 n0 v h L) s₁ (entryFrame m #[(.ref a0)] 1)
  refine Go.cast (ef_rm4 m a0) ?_
  refine Go.gen ?_
  intro K1 K2 QQ hK1 hK2 hQQ
  refine Go.on (fun _ k => XS.aloadN X0.here hx rfl (hb hby d4_0) rfl rfl k) ?_
  show Go _ _ _ _ _ _ _ _ (mkF m 1 #[.val (.ref a0)] [(.ref a0)])
  obtain ⟨T1, X1, e1, st1⟩ := getF X0 hx hZ hown (host := "") (Or.inl (hw _ (List.mem_of_getElem? (i := 16) rfl))) Via.refl e0 F_count_a0 (g := (mkF m 1 #[.val (.ref a0)] [(.ref a0)])) rfl rfl (hb hby d4_1)
  refine Go.on st1 ?_
  show Go _ _ _ _ _ _ _ _ (mkF m 4 #[.val (.ref a0)] [(.long ct)])
  refine Go.retV X1 hx Bd.returns rfl (Or.inr (Or.inl ⟨rfl, rfl, _, rfl⟩)) (hb hby d4_4) ?_ (by rw [hK1]; decide) (by rw [hK2]; decide)
  rw [e1, ← hQQ]
  exact ⟨rfl, N0, rfl⟩
theorem d11_0 : decode jdk_2648_method_2_code 0 = .ok (.getstatic 21, 3) := by decide +kernel
theorem d11_3 : decode jdk_2648_method_2_code 3 = .ok (.areturn, 1) := by decide +kernel
theorem pn_1 : plainName "java/util/OptionalDouble" = true := by first | (simp [plainName, overriddenIn]; done) | decide +kernel
theorem ef_rm11 (m : MethodId)  : entryFrame m #[] 0 = mkF m 0 #[] [] := by first | (simp [entryFrame, mkF, argsToLocals, Value.category]; done) | rfl
def Q_rm11 (Z : State) (em : Addr) (h0 : Heap) (n0 : Nat) (v : Option Value) (h : Heap) (L : List Loc) : Prop := v = some (.ref em) ∧ Fr n0 L ∧ h = h0
set_option maxRecDepth 65536 in
set_option maxHeartbeats 40000000 in
theorem rm11 (l : Launch) (Z : State) (aw : Array Value) (hw : ∀ d ∈ tables_1, d.before aw Z = true) (ws : List Jvm.Cond) (em : Addr) (h0 : Heap) (n0 : Nat) (Z0 : n0 ≤ h0.size) (S_EMPTY : Sta Z h0 "java/util/OptionalDouble" "EMPTY" "Ljava/util/OptionalDouble;" (.ref em)) :
    MetFree l (⟨"java/util/OptionalDouble", "empty", "()Ljava/util/OptionalDouble;"⟩ : MethodName) (head1 (Jvm.Cond.code (⟨"java/util/OptionalDouble", "empty", "()Ljava/util/OptionalDouble;"⟩ : MethodName) jdk_2648_method_2_code 0 (some (.object "java/util/OptionalDouble")) :: ws) ({ frames := 0, cells := 0, slots := 0, locals := 0 } : Room)) (fun a U => a = #[] ∧ Z.Warmed39 U.vm ∧ U.heap = h0) (fun _ _ _ _ _ => True) (fun _ U o U' => ∃ v L, o = .returned v ∧ Q_rm11 Z em h0 n0 v U'.heap L ∧ FrameEnd U o U' L ({ frames := 0, cells := 0, slots := 0, locals := 0 } : Room).cells ({ frames := 0, cells := 0, slots := 0, locals := 0 } : Room).slots) := by
  refine MetFree.of_bodySF (plainFor_of_name pn_1) hisR ?_
  intro p e s m args below meth c s₁ Bd hml0 hP hK
  obtain ⟨rfl, hZ, hh⟩ := hP
  have hx := Bd.exec
  have hby := Bd.bytes
  have hml : c.maxLocals = 0 := hml0
  have hown : s.vm.findClass "java/util/OptionalDouble" = some m.cls := findClass_of_methodNamed Bd.named
  have hnm := (name_of_methodNamed Bd.named Bd.method).1
  have hlk : meth.locks = false := BodyLoose.notSynchronized Bd
  have X0 : Stand p l e ({ frames := 0, cells := 0, slots := 0, locals := 0 } : Room) s m #[] below meth c s₁ [] 0 0 := Stand.of_body Bd
  have e0 : s₁.heap = h0 := by rw [← hh, Bd.state]; rfl
  have N0 := Fr.nil n0
  have ZZ := Z0
  show Go p e below s ({ frames := 0, cells := 0, slots := 0, locals := 0 } : Room).cells ({ frames := 0, cells := 0, slots := 0, locals := 0 } : Room).slots (fun v h L => Q_rm11 Z em h0 n0 v h L) s₁ (entryFrame m #[] 0)
  refine Go.cast (ef_rm11 m ) ?_
  refine Go.gen ?_
  intro K1 K2 QQ hK1 hK2 hQQ
  obtain ⟨T1, X1, e1, st1⟩ := getS2 X0 hx hZ hown (host := "") (Or.inl (hw _ (List.mem_of_getElem? (i := 67) rfl))) Via.refl e0 S_EMPTY (g := (mkF m 0 #[] [])) rfl (hb hby d11_0)
  refine Go.on st1 ?_
  show Go _ _ _ _ _ _ _ _ (mkF m 3 #[] [(.ref em)])
  refine Go.retV X1 hx Bd.returns rfl (Or.inr (Or.inr (Or.inr (Or.inr ⟨rfl, rfl, rfl⟩)))) (hb hby d11_3) ?_ (by rw [hK1]; decide) (by rw [hK2]; decide)
  rw [e1, ← hQQ]
  exact ⟨rfl, N0, rfl⟩
theorem d7_0 : decode jdk_2648_method_3_code 0 = .ok (.aload_n 0, 1) := by decide +kernel
theorem d7_1 : decode jdk_2648_method_3_code 1 = .ok (.invokespecial 1, 3) := by decide +kernel
theorem d7_4 : decode jdk_2648_method_3_code 4 = .ok (.aload_n 0, 1) := by decide +kernel
theorem d7_5 : decode jdk_2648_method_3_code 5 = .ok (.iconst 1, 1) := by decide +kernel
theorem d7_6 : decode jdk_2648_method_3_code 6 = .ok (.putfield 7, 3) := by decide +kernel
theorem d7_9 : decode jdk_2648_method_3_code 9 = .ok (.aload_n 0, 1) := by decide +kernel
theorem d7_10 : decode jdk_2648_method_3_code 10 = .ok (.dload_n 1, 1) := by decide +kernel
theorem d7_11 : decode jdk_2648_method_3_code 11 = .ok (.putfield 17, 3) := by decide +kernel
theorem d7_14 : decode jdk_2648_method_3_code 14 = .ok (.return_, 1) := by decide +kernel
theorem ef_rm7 (m : MethodId) (a0 : Addr) (d1 : UInt64) : entryFrame m #[(.ref a0), (.double d1)] 3 = mkF m 0 #[.val (.ref a0), .val (.double d1), .second] [] := by first | (simp [entryFrame, mkF, argsToLocals, Value.category]; done) | rfl
def Q_rm7 (Z : State) (a0 : Addr) (d1 : UInt64) (h0 : Heap) (n0 : Nat) (v : Option Value) (h : Heap) (L : List Loc) : Prop := v = none ∧ Fr n0 L ∧ Keep h0 h [a0] ∧ Exa Z h a0 "java/util/OptionalDouble" ∧ Fld Z h a0 "java/util/OptionalDouble" "isPresent" "Z" (.int (1 : Int32)) ∧ Fld Z h a0 "java/util/OptionalDouble" "value" "D" (.double d1)
set_option maxRecDepth 65536 in
set_option maxHeartbeats 40000000 in
theorem rm7 (l : Launch) (Z : State) (aw : Array Value) (hw : ∀ d ∈ tables_1, d.before aw Z = true) (ws : List Jvm.Cond) (a0 : Addr) (d1 : UInt64) (h0 : Heap) (n0 : Nat) (Z0 : n0 ≤ h0.size) (E_a0 : Exa Z h0 a0 "java/util/OptionalDouble") (F_isPresent_a0 : Fld Z h0 a0 "java/util/OptionalDouble" "isPresent" "Z" (.int (0 : Int32))) (F_value_a0 : Fld Z h0 a0 "java/util/OptionalDouble" "value" "D" (.double (0 : UInt64))) (g_a0 : n0 ≤ a0) :
    MetFree l (⟨"java/util/OptionalDouble", "<init>", "(D)V"⟩ : MethodName) (head1 (Jvm.Cond.code (⟨"java/util/OptionalDouble", "<init>", "(D)V"⟩ : MethodName) jdk_2648_method_3_code 3 none :: ws) ({ frames := 1, cells := 0, slots := 0, locals := 12 } : Room)) (fun a U => a = #[(.ref a0), (.double d1)] ∧ Z.Warmed39 U.vm ∧ U.heap = h0) (fun _ _ _ _ _ => True) (fun _ U o U' => ∃ v L, o = .returned v ∧ Q_rm7 Z a0 d1 h0 n0 v U'.heap L ∧ FrameEnd U o U' L ({ frames := 1, cells := 0, slots := 0, locals := 12 } : Room).cells ({ frames := 1, cells := 0, slots := 0, locals := 12 } : Room).slots) := by
  refine MetFree.of_bodySF (plainFor_of_name pn_1) hisR ?_
  intro p e s m args below meth c s₁ Bd hml0 hP hK
  obtain ⟨rfl, hZ, hh⟩ := hP
  have hx := Bd.exec
  have hby := Bd.bytes
  have hml : c.maxLocals = 3 := hml0
  have hown : s.vm.findClass "java/util/OptionalDouble" = some m.cls := findClass_of_methodNamed Bd.named
  have hnm := (name_of_methodNamed Bd.named Bd.method).1
  have hlk : meth.locks = false := BodyLoose.notSynchronized Bd
  have X0 : Stand p l e ({ frames := 1, cells := 0, slots := 0, locals := 12 } : Room) s m #[(.ref a0), (.double d1)] below meth c s₁ [] 0 0 := Stand.of_body Bd
  have e0 : s₁.heap = h0 := by rw [← hh, Bd.state]; rfl
  have N0 := Fr.nil n0
  have ZZ := Z0
  show Go p e below s ({ frames := 1, cells := 0, slots := 0, locals := 12 } : Room).cells ({ frames := 1, cells := 0, slots := 0, locals := 12 } : Room).slots (fun v h L => Q_rm7 Z a0 d1 h0 n0 v h L) s₁ (entryFrame m #[(.ref a0), (.double d1)] 3)
  refine Go.cast (ef_rm7 m a0 d1) ?_
  refine Go.gen ?_
  intro K1 K2 QQ hK1 hK2 hQQ
  have KP : Keep h0 h0 [a0] := Keep.refl _ _
  refine Go.on (fun _ k => XS.aloadN X0.here hx rfl (hb hby d7_0) rfl rfl k) ?_
  show Go _ _ _ _ _ _ _ _ (mkF m 1 #[.val (.ref a0), .val (.double d1), .second] [(.ref a0)])
  obtain ⟨T1, X1, e1, st1⟩ := initO X0 hx hZ hown (hw _ (List.mem_of_getElem? (i := 42) rfl)) (hw _ (List.mem_of_getElem? (i := 9) rfl)) (hw _ (List.mem_of_getElem? (i := 10) rfl)) e0 (g := (mkF m 1 #[.val (.ref a0), .val (.double d1), .second] [(.ref a0)])) rfl (by rw [hml]; rfl) rfl (hb hby d7_1) (by decide) (W := 0) (by show 2 * 0 + _ ≤ _; exact Nat.le_of_eq rfl) (by decide)
  refine Go.on st1 ?_
  show Go _ _ _ _ _ _ _ _ (mkF m 4 #[.val (.ref a0), .val (.double d1), .second] [])
  refine Go.on (fun _ k => XS.aloadN X1.here hx rfl (hb hby d7_4) rfl rfl k) ?_
  show Go _ _ _ _ _ _ _ _ (mkF m 5 #[.val (.ref a0), .val (.double d1), .second] [(.ref a0)])
  refine Go.on (fun _ k => XS.iconst X1.here hx rfl (hb hby d7_5) k) ?_
  show Go _ _ _ _ _ _ _ _ (mkF m 6 #[.val (.ref a0), .val (.double d1), .second] [(.int (1 : Int32)), (.ref a0)])
  obtain ⟨T2, h2, X2, e2, W2, st2⟩ := putFN X1 hx hZ hown (hw _ (List.mem_of_getElem? (i := 43) rfl)) Via.refl e1 F_isPresent_a0 E_a0 (Or.inr ⟨(hw _ (List.mem_of_getElem? (i := 44) rfl)), rfl, hnm⟩) (hw _ (List.mem_of_getElem? (i := 37) rfl)) (ty := .boolean) (v' := (.int (1 : Int32))) (by decide) rfl (by decide) (g := (mkF m 6 #[.val (.ref a0), .val (.double d1), .second] [(.int (1 : Int32)), (.ref a0)])) rfl rfl (hb hby d7_6)
  refine Go.on st2 ?_
  replace F_isPresent_a0 := F_isPresent_a0.same W2
  replace E_a0 := E_a0.wr W2
  replace F_value_a0 := F_value_a0.other W2 (Or.inr (slot_ne (Or.inr (hw _ (List.mem_of_getElem? (i := 46) rfl))) (Or.inr (hw _ (List.mem_of_getElem? (i := 44) rfl))) (by decide) (t := .double) (t' := .boolean) (by decide) (by decide)))
  have N2 := Fr.snoc X2 N0 g_a0
  replace ZZ := Nat.le_trans ZZ (Keep.of_wr W2).1
  replace KP := KP.wr W2 (Or.inl (List.mem_of_getElem? (i := 0) rfl))
  show Go _ _ _ _ _ _ _ _ (mkF m 9 #[.val (.ref a0), .val (.double d1), .second] [])
  refine Go.on (fun _ k => XS.aloadN X2.here hx rfl (hb hby d7_9) rfl rfl k) ?_
  show Go _ _ _ _ _ _ _ _ (mkF m 10 #[.val (.ref a0), .val (.double d1), .second] [(.ref a0)])
  refine Go.on (fun _ k => XS.dloadN X2.here hx rfl (hb hby d7_10) rfl k) ?_
  show Go _ _ _ _ _ _ _ _ (mkF m 11 #[.val (.ref a0), .val (.double d1), .second] [(.double d1), (.ref a0)])
  obtain ⟨T3, h3, X3, e3, W3, st3⟩ := putF X2 hx hZ hown (host := "") (Or.inl (hw _ (List.mem_of_getElem? (i := 45) rfl))) Via.refl e2 F_value_a0 E_a0 (Or.inr ⟨(hw _ (List.mem_of_getElem? (i := 46) rfl)), rfl, hnm⟩) (hw _ (List.mem_of_getElem? (i := 37) rfl)) (ty := .double) (by decide) rfl rfl (g := (mkF m 11 #[.val (.ref a0), .val (.double d1), .second] [(.double d1), (.ref a0)])) rfl rfl (hb hby d7_11)
  refine Go.on st3 ?_
  replace F_value_a0 := F_value_a0.same W3
  replace E_a0 := E_a0.wr W3
  replace F_isPresent_a0 := F_isPresent_a0.other W3 (Or.inr (slot_ne (Or.inr (hw _ (List.mem_of_getElem? (i := 44) rfl))) (Or.inr (hw _ (List.mem_of_getElem? (i := 46) rfl))) (by decide) (t := .boolean) (t' := .double) (by decide) (by decide)))
  have N3 := Fr.snoc X3 N2 g_a0
  replace ZZ := Nat.le_trans ZZ (Keep.of_wr W3).1
  replace KP := KP.wr W3 (Or.inl (List.mem_of_getElem? (i := 0) rfl))
  show Go _ _ _ _ _ _ _ _ (mkF m 14 #[.val (.ref a0), .val (.double d1), .second] [])
  refine Go.ret0 X3 hx Bd.returns (hb hby d7_14) ?_ (by rw [hK1]; decide) (by rw [hK2]; decide)
  rw [e3, ← hQQ]
  exact ⟨rfl, N3, KP, E_a0, F_isPresent_a0, F_value_a0⟩
theorem pd_0 : parseMethodDescriptor "(D)V" = some ⟨[.double], none⟩ := by decide +kernel
theorem d6_0 : decode jdk_2648_method_4_code 0 = .ok (.new 8, 3) := by decide +kernel
theorem d6_3 : decode jdk_2648_method_4_code 3 = .ok (.dup, 1) := by decide +kernel
theorem d6_4 : decode jdk_2648_method_4_code 4 = .ok (.dload_n 0, 1) := by decide +kernel
theorem d6_5 : decode jdk_2648_method_4_code 5 = .ok (.invokespecial 25, 3) := by decide +kernel
theorem d6_8 : decode jdk_2648_method_4_code 8 = .ok (.areturn, 1) := by decide +kernel
theorem ef_rm6 (m : MethodId) (d0 : UInt64) : entryFrame m #[(.double d0)] 2 = mkF m 0 #[.val (.double d0), .second] [] := by first | (simp [entryFrame, mkF, argsToLocals, Value.category]; done) | rfl
def Q_rm6 (Z : State) (d0 : UInt64) (h0 : Heap) (n0 : Nat) (v : Option Value) (h : Heap) (L : List Loc) : Prop := ∃ (ob : Addr), v = some (.ref ob) ∧ Fr n0 L ∧ Keep h0 h [] ∧ h0.size ≤ ob ∧ Exa Z h ob "java/util/OptionalDouble" ∧ Fld Z h ob "java/util/OptionalDouble" "isPresent" "Z" (.int (1 : Int32)) ∧ Fld Z h ob "java/util/OptionalDouble" "value" "D" (.double d0)
set_option maxRecDepth 65536 in
set_option maxHeartbeats 40000000 in
theorem rm6 (l : Launch) (Z : State) (aw : Array Value) (hw : ∀ d ∈ tables_1, d.before aw Z = true) (ws : List Jvm.Cond) (d0 : UInt64) (h0 : Heap) (n0 : Nat) (Z0 : n0 ≤ h0.size) :
    MetFree l (⟨"java/util/OptionalDouble", "of", "(D)Ljava/util/OptionalDouble;"⟩ : MethodName) (head1 (Jvm.Cond.code (⟨"java/util/OptionalDouble", "of", "(D)Ljava/util/OptionalDouble;"⟩ : MethodName) jdk_2648_method_4_code 2 (some (.object "java/util/OptionalDouble")) :: ws) ({ frames := 2, cells := 1, slots := 2, locals := 27 } : Room)) (fun a U => a = #[(.double d0)] ∧ Z.Warmed39 U.vm ∧ U.heap = h0) (fun _ _ _ _ _ => True) (fun _ U o U' => ∃ v L, o = .returned v ∧ Q_rm6 Z d0 h0 n0 v U'.heap L ∧ FrameEnd U o U' L ({ frames := 2, cells := 1, slots := 2, locals := 27 } : Room).cells ({ frames := 2, cells := 1, slots := 2, locals := 27 } : Room).slots) := by
  refine MetFree.of_bodySF (plainFor_of_name pn_1) hisR ?_
  intro p e s m args below meth c s₁ Bd hml0 hP hK
  obtain ⟨rfl, hZ, hh⟩ := hP
  have hx := Bd.exec
  have hby := Bd.bytes
  have hml : c.maxLocals = 2 := hml0
  have hown : s.vm.findClass "java/util/OptionalDouble" = some m.cls := findClass_of_methodNamed Bd.named
  have hnm := (name_of_methodNamed Bd.named Bd.method).1
  have hlk : meth.locks = false := BodyLoose.notSynchronized Bd
  have X0 : Stand p l e ({ frames := 2, cells := 1, slots := 2, locals := 27 } : Room) s m #[(.double d0)] below meth c s₁ [] 0 0 := Stand.of_body Bd
  have e0 : s₁.heap = h0 := by rw [← hh, Bd.state]; rfl
  have N0 := Fr.nil n0
  have ZZ := Z0
  show Go p e below s ({ frames := 2, cells := 1, slots := 2, locals := 27 } : Room).cells ({ frames := 2, cells := 1, slots := 2, locals := 27 } : Room).slots (fun v h L => Q_rm6 Z d0 h0 n0 v h L) s₁ (entryFrame m #[(.double d0)] 2)
  refine Go.cast (ef_rm6 m d0) ?_
  refine Go.gen ?_
  intro K1 K2 QQ hK1 hK2 hQQ
  have KP : Keep h0 h0 [] := Keep.refl _ _
  obtain ⟨T1, h1, X1, e1, E1, A1, D1, -, st1⟩ := newO X0 hx hZ hown (hw _ (List.mem_of_getElem? (i := 36) rfl)) (hw _ (List.mem_of_getElem? (i := 37) rfl)) (hw _ (List.mem_of_getElem? (i := 34) rfl)) e0 (g := (mkF m 0 #[.val (.double d0), .second] [])) rfl (hb hby d6_0) (by decide) (by decide)
  obtain ⟨ob, g1⟩ : ∃ z, z = h0.size := ⟨_, rfl⟩
  have g_ob : n0 ≤ ob := Nat.le_trans ZZ (Nat.le_of_eq g1.symm)
  have sz_ob : h0.size ≤ ob := Nat.le_trans KP.1 (Nat.le_of_eq g1.symm)
  rw [← g1] at A1 D1 st1
  replace ZZ := Nat.le_trans ZZ E1.1
  replace KP := KP.ext E1
  have E_ob := A1
  have F_isPresent_ob : Fld Z h1 ob "java/util/OptionalDouble" "isPresent" "Z" (.int (0 : Int32)) := D1 (Or.inr (hw _ (List.mem_of_getElem? (i := 44) rfl))) (ty := .boolean) (by decide)
  have F_value_ob : Fld Z h1 ob "java/util/OptionalDouble" "value" "D" (.double (0 : UInt64)) := D1 (Or.inr (hw _ (List.mem_of_getElem? (i := 46) rfl))) (ty := .double) (by decide)
  refine Go.on st1 ?_
  show Go _ _ _ _ _ _ _ _ (mkF m 3 #[.val (.double d0), .second] [(.ref ob)])
  refine Go.on (fun _ k => XS.dup X1.here hx rfl (hb hby d6_3) rfl rfl k) ?_
  show Go _ _ _ _ _ _ _ _ (mkF m 4 #[.val (.double d0), .second] [(.ref ob), (.ref ob)])
  refine Go.on (fun _ k => XS.dloadN X1.here hx rfl (hb hby d6_4) rfl k) ?_
  show Go _ _ _ _ _ _ _ _ (mkF m 5 #[.val (.double d0), .second] [(.double d0), (.ref ob), (.ref ob)])
  obtain ⟨_, _, ⟨T2, L2, k2, n2⟩, -, X2, ⟨Lc2, hQ2, l2, y2, z2⟩, st2⟩ := X1.specialBack hx (y := (⟨"java/util/OptionalDouble", "<init>", "(D)V"⟩ : MethodName)) rfl hown (mvT hZ (hw _ (List.mem_of_getElem? (i := 38) rfl))) (mvT hZ (hw _ (List.mem_of_getElem? (i := 39) rfl))) (mvT hZ (hw _ (List.mem_of_getElem? (i := 41) rfl))) (by decide) (backOf (W := 1) (rm7 l Z aw hw [] ob d0  h1 n0 ZZ E_ob F_isPresent_ob F_value_ob g_ob) hZ (hw _ (List.mem_of_getElem? (i := 41) rfl)) (hw _ (List.mem_of_getElem? (i := 34) rfl)) (by decide) (by decide)) (g := (mkF m 5 #[.val (.double d0), .second] [(.double d0), (.ref ob), (.ref ob)])) rfl (by rw [hml]; rfl) (Steps.refl _) (a := ob) (argsL := [(.double d0)]) (rest := [(.ref ob)]) (lenOf pd_0 rfl) rfl (by show 2 * 0 + _ ≤ _; exact Nat.le_of_eq rfl) (hb hby d6_5) (fun _ _ => ⟨rfl, e1, (by decide : 1 + 0 ≤ _), (by decide : 2 + 0 ≤ _)⟩)
  dsimp only [Pt.U, Pt.locs, Pt.cells, Pt.slots] at X2 l2 y2 z2 st2 hQ2
  subst l2 y2 z2
  obtain ⟨h2, e2⟩ : ∃ q, T2.heap = q := ⟨_, rfl⟩
  rw [e2] at hQ2
  obtain ⟨rfl, N2q, K2q, E_ob', F_isPresent_ob', F_value_ob'⟩ := hQ2
  have N2 := Fr.app N0 N2q
  replace E_ob := E_ob.keep K2q
  replace ZZ := Nat.le_trans ZZ K2q.1
  replace KP := KP.trans K2q (allS (Or.inr sz_ob) all0)
  replace E_ob := E_ob'
  have F_isPresent_ob := F_isPresent_ob'
  have F_value_ob := F_value_ob'
  refine Go.on (fun _ k => st2.trans k) ?_
  show Go _ _ _ _ _ _ _ _ (mkF m 8 #[.val (.double d0), .second] [(.ref ob)])
  refine Go.retV X2 hx Bd.returns rfl (Or.inr (Or.inr (Or.inr (Or.inr ⟨rfl, rfl, rfl⟩)))) (hb hby d6_8) ?_ (by rw [hK1]; decide) (by rw [hK2]; decide)
  rw [e2, ← hQQ]
  exact ⟨ob, rfl, N2, KP, sz_ob, E_ob, F_isPresent_ob, F_value_ob⟩
theorem pd_1 : parseMethodDescriptor "()Ljava/util/OptionalDouble;" = some ⟨[], some (.object "java/util/OptionalDouble")⟩ := by decide +kernel
theorem d5_0 : decode prog_4_method_4_code 0 = .ok (.aload_n 0, 1) := by decide +kernel
theorem d5_1 : decode prog_4_method_4_code 1 = .ok (.getfield 7, 3) := by decide +kernel
theorem d5_4 : decode prog_4_method_4_code 4 = .ok (.lconst 0, 1) := by decide +kernel
theorem d5_5 : decode prog_4_method_4_code 5 = .ok (.lcmp, 1) := by decide +kernel
theorem d5_6 : decode prog_4_method_4_code 6 = .ok (.ifCond .ne 9, 3) := by decide +kernel
theorem d5_9 : decode prog_4_method_4_code 9 = .ok (.invokestatic 20, 3) := by decide +kernel
theorem d5_12 : decode prog_4_method_4_code 12 = .ok (.goto 10, 3) := by decide +kernel
theorem d5_22 : decode prog_4_method_4_code 22 = .ok (.areturn, 1) := by decide +kernel
theorem ef_gm_e (m : MethodId) (a0 : Addr) : entryFrame m #[(.ref a0)] 1 = mkF m 0 #[.val (.ref a0)] [] := by first | (simp [entryFrame, mkF, argsToLocals, Value.category]; done) | rfl
def Q_gm_e (Z : State) (a0 : Addr) (em : Addr) (h0 : Heap) (n0 : Nat) (v : Option Value) (h : Heap) (L : List Loc) : Prop := v = some (.ref em) ∧ Fr n0 L ∧ h = h0
set_option maxRecDepth 65536 in
set_option maxHeartbeats 40000000 in
theorem gm_e (l : Launch) (Z : State) (aw : Array Value) (hw : ∀ d ∈ tables_1, d.before aw Z = true) (ws : List Jvm.Cond) (a0 : Addr) (em : Addr) (h0 : Heap) (n0 : Nat) (Z0 : n0 ≤ h0.size) (F_count_a0 : Fld Z h0 a0 "com/example/parley/parley/replication/SampleStatistics" "count" "J" (.long (0 : Int64))) (S_EMPTY : Sta Z h0 "java/util/OptionalDouble" "EMPTY" "Ljava/util/OptionalDouble;" (.ref em)) :
    MetFree l (⟨"com/example/parley/parley/replication/SampleStatistics", "getMean", "()Ljava/util/OptionalDouble;"⟩ : MethodName) (head1 (Jvm.Cond.code (⟨"com/example/parley/parley/replication/SampleStatistics", "getMean", "()Ljava/util/OptionalDouble;"⟩ : MethodName) prog_4_method_4_code 1 (some (.object "java/util/OptionalDouble")) :: ws) ({ frames := 1, cells := 0, slots := 0, locals := 11 } : Room)) (fun a U => a = #[(.ref a0)] ∧ Z.Warmed39 U.vm ∧ U.heap = h0) (fun _ _ _ _ _ => True) (fun _ U o U' => ∃ v L, o = .returned v ∧ Q_gm_e Z a0 em h0 n0 v U'.heap L ∧ FrameEnd U o U' L ({ frames := 1, cells := 0, slots := 0, locals := 11 } : Room).cells ({ frames := 1, cells := 0, slots := 0, locals := 11 } : Room).slots) := by
  refine MetFree.of_bodySF (plainFor_of_name pn_0) hisR ?_
  intro p e s m args below meth c s₁ Bd hml0 hP hK
  obtain ⟨rfl, hZ, hh⟩ := hP
  have hx := Bd.exec
  have hby := Bd.bytes
  have hml : c.maxLocals = 1 := hml0
  have hown : s.vm.findClass "com/example/parley/parley/replication/SampleStatistics" = some m.cls := findClass_of_methodNamed Bd.named
  have hnm := (name_of_methodNamed Bd.named Bd.method).1
  have hlk : meth.locks = false := BodyLoose.notSynchronized Bd
  have X0 : Stand p l e ({ frames := 1, cells := 0, slots := 0, locals := 11 } : Room) s m #[(.ref a0)] below meth c s₁ [] 0 0 := Stand.of_body Bd
  have e0 : s₁.heap = h0 := by rw [← hh, Bd.state]; rfl
  have N0 := Fr.nil n0
  have ZZ := Z0
  show Go p e below s ({ frames := 1, cells := 0, slots := 0, locals := 11 } : Room).cells ({ frames := 1, cells := 0, slots := 0, locals := 11 } : Room).slots (fun v h L => Q_gm_e Z a0 em h0 n0 v h L) s₁ (entryFrame m #[(.ref a0)] 1)
  refine Go.cast (ef_gm_e m a0) ?_
  refine Go.gen ?_
  intro K1 K2 QQ hK1 hK2 hQQ
  refine Go.on (fun _ k => XS.aloadN X0.here hx rfl (hb hby d5_0) rfl rfl k) ?_
  show Go _ _ _ _ _ _ _ _ (mkF m 1 #[.val (.ref a0)] [(.ref a0)])
  obtain ⟨T1, X1, e1, st1⟩ := getF X0 hx hZ hown (host := "") (Or.inl (hw _ (List.mem_of_getElem? (i := 16) rfl))) Via.refl e0 F_count_a0 (g := (mkF m 1 #[.val (.ref a0)] [(.ref a0)])) rfl rfl (hb hby d5_1)
  refine Go.on st1 ?_
  show Go _ _ _ _ _ _ _ _ (mkF m 4 #[.val (.ref a0)] [(.long (0 : Int64))])
  refine Go.on (fun _ k => XS.lconst X1.here hx rfl (hb hby d5_4) k) ?_
  show Go _ _ _ _ _ _ _ _ (mkF m 5 #[.val (.ref a0)] [(.long (0 : Int64)), (.long (0 : Int64))])
  refine Go.on (fun _ k => XS.lcmp X1.here hx rfl (hb hby d5_5) rfl k) ?_
  show Go _ _ _ _ _ _ _ _ (mkF m 6 #[.val (.ref a0)] [(.int (lcmpW (0 : Int64) (0 : Int64)))])
  have hc2 : (0 : Int64) = (0 : Int64) := rfl
  refine Go.on (fun _ k => XS.ifNo X1.here hx rfl (hb hby d5_6) rfl ((if0 _ _).trans (teq (own_lc_eq.mpr hc2)).2) k) ?_
  show Go _ _ _ _ _ _ _ _ (mkF m 9 #[.val (.ref a0)] [])
  obtain ⟨_, _, ⟨T3, L3, k3, n3⟩, -, X3, ⟨Lc3, hQ3, l3, y3, z3⟩, st3⟩ := Jvm.LawKit.callS X1 hx (y := (⟨"java/util/OptionalDouble", "empty", "()Ljava/util/OptionalDouble;"⟩ : MethodName)) hown (mvT hZ (hw _ (List.mem_of_getElem? (i := 64) rfl))) (mvT hZ (hw _ (List.mem_of_getElem? (i := 65) rfl))) (mvT hZ (hw _ (List.mem_of_getElem? (i := 34) rfl))) (mvT hZ (hw _ (List.mem_of_getElem? (i := 66) rfl))) (by decide) (backOf (W := 0) (rm11 l Z aw hw []  em h0 n0 ZZ S_EMPTY) hZ (hw _ (List.mem_of_getElem? (i := 66) rfl)) (hw _ (List.mem_of_getElem? (i := 34) rfl)) (by decide) (by decide)) (g := (mkF m 9 #[.val (.ref a0)] [])) rfl (by rw [hml]; rfl) (argsL := []) (rest := []) (lenOf pd_1 rfl) rfl (by show 2 * 0 + _ ≤ _; exact Nat.le_of_eq rfl) (hb hby d5_9) (fun _ _ => ⟨rfl, e1, (by decide : 0 + 0 ≤ _), (by decide : 0 + 0 ≤ _)⟩)
  dsimp only [Pt.U, Pt.locs, Pt.cells, Pt.slots] at X3 l3 y3 z3 st3 hQ3
  subst l3 y3 z3
  obtain ⟨rfl, N3q, e3⟩ := hQ3
  have N3 := Fr.app N0 N3q
  refine Go.on st3 ?_
  show Go _ _ _ _ _ _ _ _ (mkF m 12 #[.val (.ref a0)] [(.ref em)])
  refine Go.on (fun _ k => XS.goto X3.here hx rfl (pc0 := 12) (pc' := 22) rfl (hb hby d5_12) (by decide) (by decide) k) ?_
  show Go _ _ _ _ _ _ _ _ (mkF m 22 #[.val (.ref a0)] [(.ref em)])
  refine Go.retV X3 hx Bd.returns rfl (Or.inr (Or.inr (Or.inr (Or.inr ⟨rfl, rfl, rfl⟩)))) (hb hby d5_22) ?_ (by rw [hK1]; decide) (by rw [hK2]; decide)
  rw [e3, ← hQQ]
  exact ⟨rfl, N3, rfl⟩
theorem pd_2 : parseMethodDescriptor "(D)Ljava/util/OptionalDouble;" = some ⟨[.double], some (.object "java/util/OptionalDouble")⟩ := by decide +kernel
theorem d5_15 : decode prog_4_method_4_code 15 = .ok (.aload_n 0, 1) := by decide +kernel
theorem d5_16 : decode prog_4_method_4_code 16 = .ok (.getfield 13, 3) := by decide +kernel
theorem d5_19 : decode prog_4_method_4_code 19 = .ok (.invokestatic 26, 3) := by decide +kernel
theorem ef_gm_o (m : MethodId) (a0 : Addr) : entryFrame m #[(.ref a0)] 1 = mkF m 0 #[.val (.ref a0)] [] := by first | (simp [entryFrame, mkF, argsToLocals, Value.category]; done) | rfl
def Q_gm_o (Z : State) (a0 : Addr) (ct : Int64) (mn : UInt64) (h0 : Heap) (n0 : Nat) (v : Option Value) (h : Heap) (L : List Loc) : Prop := ∃ (ob : Addr), v = some (.ref ob) ∧ Fr n0 L ∧ Keep h0 h [] ∧ h0.size ≤ ob ∧ Exa Z h ob "java/util/OptionalDouble" ∧ Fld Z h ob "java/util/OptionalDouble" "isPresent" "Z" (.int (1 : Int32)) ∧ Fld Z h ob "java/util/OptionalDouble" "value" "D" (.double mn)
set_option maxRecDepth 65536 in
set_option maxHeartbeats 40000000 in
theorem gm_o (l : Launch) (Z : State) (aw : Array Value) (hw : ∀ d ∈ tables_1, d.before aw Z = true) (ws : List Jvm.Cond) (a0 : Addr) (ct : Int64) (mn : UInt64) (h0 : Heap) (n0 : Nat) (Z0 : n0 ≤ h0.size) (F_count_a0 : Fld Z h0 a0 "com/example/parley/parley/replication/SampleStatistics" "count" "J" (.long ct)) (F_mean_a0 : Fld Z h0 a0 "com/example/parley/parley/replication/SampleStatistics" "mean" "D" (.double mn)) (hc : ¬ (ct = (0 : Int64))) :
    MetFree l (⟨"com/example/parley/parley/replication/SampleStatistics", "getMean", "()Ljava/util/OptionalDouble;"⟩ : MethodName) (head1 (Jvm.Cond.code (⟨"com/example/parley/parley/replication/SampleStatistics", "getMean", "()Ljava/util/OptionalDouble;"⟩ : MethodName) prog_4_method_4_code 1 (some (.object "java/util/OptionalDouble")) :: ws) ({ frames := 3, cells := 1, slots := 2, locals := 40 } : Room)) (fun a U => a = #[(.ref a0)] ∧ Z.Warmed39 U.vm ∧ U.heap = h0) (fun _ _ _ _ _ => True) (fun _ U o U' => ∃ v L, o = .returned v ∧ Q_gm_o Z a0 ct mn h0 n0 v U'.heap L ∧ FrameEnd U o U' L ({ frames := 3, cells := 1, slots := 2, locals := 40 } : Room).cells ({ frames := 3, cells := 1, slots := 2, locals := 40 } : Room).slots) := by
  refine MetFree.of_bodySF (plainFor_of_name pn_0) hisR ?_
  intro p e s m args below meth c s₁ Bd hml0 hP hK
  obtain ⟨rfl, hZ, hh⟩ := hP
  have hx := Bd.exec
  have hby := Bd.bytes
  have hml : c.maxLocals = 1 := hml0
  have hown : s.vm.findClass "com/example/parley/parley/replication/SampleStatistics" = some m.cls := findClass_of_methodNamed Bd.named
  have hnm := (name_of_methodNamed Bd.named Bd.method).1
  have hlk : meth.locks = false := BodyLoose.notSynchronized Bd
  have X0 : Stand p l e ({ frames := 3, cells := 1, slots := 2, locals := 40 } : Room) s m #[(.ref a0)] below meth c s₁ [] 0 0 := Stand.of_body Bd
  have e0 : s₁.heap = h0 := by rw [← hh, Bd.state]; rfl
  have N0 := Fr.nil n0
  have ZZ := Z0
  show Go p e below s ({ frames := 3, cells := 1, slots := 2, locals := 40 } : Room).cells ({ frames := 3, cells := 1, slots := 2, locals := 40 } : Room).slots (fun v h L => Q_gm_o Z a0 ct mn h0 n0 v h L) s₁ (entryFrame m #[(.ref a0)] 1)
  refine Go.cast (ef_gm_o m a0) ?_
  refine Go.gen ?_
  intro K1 K2 QQ hK1 hK2 hQQ
  have KP : Keep h0 h0 [] := Keep.refl _ _
  refine Go.on (fun _ k => XS.aloadN X0.here hx rfl (hb hby d5_0) rfl rfl k) ?_
  show Go _ _ _ _ _ _ _ _ (mkF m 1 #[.val (.ref a0)] [(.ref a0)])
  obtain ⟨T1, X1, e1, st1⟩ := getF X0 hx hZ hown (host := "") (Or.inl (hw _ (List.mem_of_getElem? (i := 16) rfl))) Via.refl e0 F_count_a0 (g := (mkF m 1 #[.val (.ref a0)] [(.ref a0)])) rfl rfl (hb hby d5_1)
  refine Go.on st1 ?_
  show Go _ _ _ _ _ _ _ _ (mkF m 4 #[.val (.ref a0)] [(.long ct)])
  refine Go.on (fun _ k => XS.lconst X1.here hx rfl (hb hby d5_4) k) ?_
  show Go _ _ _ _ _ _ _ _ (mkF m 5 #[.val (.ref a0)] [(.long (0 : Int64)), (.long ct)])
  refine Go.on (fun _ k => XS.lcmp X1.here hx rfl (hb hby d5_5) rfl k) ?_
  show Go _ _ _ _ _ _ _ _ (mkF m 6 #[.val (.ref a0)] [(.int (lcmpW ct (0 : Int64)))])
  have hc2 : ¬ (ct = (0 : Int64)) := hc
  refine Go.on (fun _ k => XS.ifYes X1.here hx rfl (pc0 := 6) (pc' := 15) rfl (hb hby d5_6) rfl ((if0 _ _).trans (feq (fun q => hc2 (own_lc_eq.mp q))).2) (by decide) (by decide) k) ?_
  show Go _ _ _ _ _ _ _ _ (mkF m 15 #[.val (.ref a0)] [])
  refine Go.on (fun _ k => XS.aloadN X1.here hx rfl (hb hby d5_15) rfl rfl k) ?_
  show Go _ _ _ _ _ _ _ _ (mkF m 16 #[.val (.ref a0)] [(.ref a0)])
  obtain ⟨T3, X3, e3, st3⟩ := getF X1 hx hZ hown (host := "") (Or.inl (hw _ (List.mem_of_getElem? (i := 18) rfl))) Via.refl e1 F_mean_a0 (g := (mkF m 16 #[.val (.ref a0)] [(.ref a0)])) rfl rfl (hb hby d5_16)
  refine Go.on st3 ?_
  show Go _ _ _ _ _ _ _ _ (mkF m 19 #[.val (.ref a0)] [(.double mn)])
  obtain ⟨_, _, ⟨T4, L4, k4, n4⟩, -, X4, ⟨Lc4, hQ4, l4, y4, z4⟩, st4⟩ := Jvm.LawKit.callS X3 hx (y := (⟨"java/util/OptionalDouble", "of", "(D)Ljava/util/OptionalDouble;"⟩ : MethodName)) hown (mvT hZ (hw _ (List.mem_of_getElem? (i := 32) rfl))) (mvT hZ (hw _ (List.mem_of_getElem? (i := 33) rfl))) (mvT hZ (hw _ (List.mem_of_getElem? (i := 34) rfl))) (mvT hZ (hw _ (List.mem_of_getElem? (i := 35) rfl))) (by decide) (backOf (W := 0) (rm6 l Z aw hw [] mn  h0 n0 ZZ ) hZ (hw _ (List.mem_of_getElem? (i := 35) rfl)) (hw _ (List.mem_of_getElem? (i := 34) rfl)) (by decide) (by decide)) (g := (mkF m 19 #[.val (.ref a0)] [(.double mn)])) rfl (by rw [hml]; rfl) (argsL := [(.double mn)]) (rest := []) (lenOf pd_2 rfl) rfl (by show 2 * 0 + _ ≤ _; exact Nat.le_of_eq rfl) (hb hby d5_19) (fun _ _ => ⟨rfl, e3, (by decide : 0 + 1 ≤ _), (by decide : 0 + 2 ≤ _)⟩)
  dsimp only [Pt.U, Pt.locs, Pt.cells, Pt.slots] at X4 l4 y4 z4 st4 hQ4
  subst l4 y4 z4
  obtain ⟨h4, e4⟩ : ∃ q, T4.heap = q := ⟨_, rfl⟩
  rw [e4] at hQ4
  obtain ⟨ob, rfl, N4q, K4q, szq4, E_ob, F_isPresent_ob, F_value_ob⟩ := hQ4
  have N4 := Fr.app N0 N4q
  have g_ob : n0 ≤ ob := Nat.le_trans ZZ szq4
  have sz_ob : h0.size ≤ ob := Nat.le_trans KP.1 szq4
  have ne_a0_ob : a0 ≠ ob := Nat.ne_of_lt (Nat.lt_of_lt_of_le F_count_a0.lt szq4)
  replace F_count_a0 := F_count_a0.keep K4q nin0
  replace F_mean_a0 := F_mean_a0.keep K4q nin0
  replace ZZ := Nat.le_trans ZZ K4q.1
  replace KP := KP.trans K4q all0
  refine Go.on st4 ?_
  show Go _ _ _ _ _ _ _ _ (mkF m 22 #[.val (.ref a0)] [(.ref ob)])
  refine Go.retV X4 hx Bd.returns rfl (Or.inr (Or.inr (Or.inr (Or.inr ⟨rfl, rfl, rfl⟩)))) (hb hby d5_22) ?_ (by rw [hK1]; decide) (by rw [hK2]; decide)
  rw [e4, ← hQQ]
  exact ⟨ob, rfl, N4, KP, sz_ob, E_ob, F_isPresent_ob, F_value_ob⟩
theorem d8_0 : decode prog_4_method_5_code 0 = .ok (.aload_n 0, 1) := by decide +kernel
theorem d8_1 : decode prog_4_method_5_code 1 = .ok (.getfield 7, 3) := by decide +kernel
theorem d8_4 : decode prog_4_method_5_code 4 = .ok (.ldc2_w 30, 3) := by decide +kernel
theorem d8_7 : decode prog_4_method_5_code 7 = .ok (.lcmp, 1) := by decide +kernel
theorem d8_8 : decode prog_4_method_5_code 8 = .ok (.ifCond .ge 9, 3) := by decide +kernel
theorem d8_11 : decode prog_4_method_5_code 11 = .ok (.invokestatic 20, 3) := by decide +kernel
theorem d8_14 : decode prog_4_method_5_code 14 = .ok (.goto 18, 3) := by decide +kernel
theorem d8_32 : decode prog_4_method_5_code 32 = .ok (.areturn, 1) := by decide +kernel
theorem ef_gv_e (m : MethodId) (a0 : Addr) : entryFrame m #[(.ref a0)] 1 = mkF m 0 #[.val (.ref a0)] [] := by first | (simp [entryFrame, mkF, argsToLocals, Value.category]; done) | rfl
def Q_gv_e (Z : State) (a0 : Addr) (ct : Int64) (em : Addr) (h0 : Heap) (n0 : Nat) (v : Option Value) (h : Heap) (L : List Loc) : Prop := v = some (.ref em) ∧ Fr n0 L ∧ h = h0
set_option maxRecDepth 65536 in
set_option maxHeartbeats 40000000 in
theorem gv_e (l : Launch) (Z : State) (aw : Array Value) (hw : ∀ d ∈ tables_1, d.before aw Z = true) (ws : List Jvm.Cond) (a0 : Addr) (ct : Int64) (em : Addr) (h0 : Heap) (n0 : Nat) (Z0 : n0 ≤ h0.size) (F_count_a0 : Fld Z h0 a0 "com/example/parley/parley/replication/SampleStatistics" "count" "J" (.long ct)) (S_EMPTY : Sta Z h0 "java/util/OptionalDouble" "EMPTY" "Ljava/util/OptionalDouble;" (.ref em)) (hc : ct < (2 : Int64)) :
    MetFree l (⟨"com/example/parley/parley/replication/SampleStatistics", "getVariance", "()Ljava/util/OptionalDouble;"⟩ : MethodName) (head1 (Jvm.Cond.code (⟨"com/example/parley/parley/replication/SampleStatistics", "getVariance", "()Ljava/util/OptionalDouble;"⟩ : MethodName) prog_4_method_5_code 1 (some (.object "java/util/OptionalDouble")) :: ws) ({ frames := 1, cells := 0, slots := 0, locals := 11 } : Room)) (fun a U => a = #[(.ref a0)] ∧ Z.Warmed39 U.vm ∧ U.heap = h0) (fun _ _ _ _ _ => True) (fun _ U o U' => ∃ v L, o = .returned v ∧ Q_gv_e Z a0 ct em h0 n0 v U'.heap L ∧ FrameEnd U o U' L ({ frames := 1, cells := 0, slots := 0, locals := 11 } : Room).cells ({ frames := 1, cells := 0, slots := 0, locals := 11 } : Room).slots) := by
  refine MetFree.of_bodySF (plainFor_of_name pn_0) hisR ?_
  intro p e s m args below meth c s₁ Bd hml0 hP hK
  obtain ⟨rfl, hZ, hh⟩ := hP
  have hx := Bd.exec
  have hby := Bd.bytes
  have hml : c.maxLocals = 1 := hml0
  have hown : s.vm.findClass "com/example/parley/parley/replication/SampleStatistics" = some m.cls := findClass_of_methodNamed Bd.named
  have hnm := (name_of_methodNamed Bd.named Bd.method).1
  have hlk : meth.locks = false := BodyLoose.notSynchronized Bd
  have X0 : Stand p l e ({ frames := 1, cells := 0, slots := 0, locals := 11 } : Room) s m #[(.ref a0)] below meth c s₁ [] 0 0 := Stand.of_body Bd
  have e0 : s₁.heap = h0 := by rw [← hh, Bd.state]; rfl
  have N0 := Fr.nil n0
  have ZZ := Z0
  show Go p e below s ({ frames := 1, cells := 0, slots := 0, locals := 11 } : Room).cells ({ frames := 1, cells := 0, slots := 0, locals := 11 } : Room).slots (fun v h L => Q_gv_e Z a0 ct em h0 n0 v h L) s₁ (entryFrame m #[(.ref a0)] 1)
  refine Go.cast (ef_gv_e m a0) ?_
  refine Go.gen ?_
  intro K1 K2 QQ hK1 hK2 hQQ
  refine Go.on (fun _ k => XS.aloadN X0.here hx rfl (hb hby d8_0) rfl rfl k) ?_
  show Go _ _ _ _ _ _ _ _ (mkF m 1 #[.val (.ref a0)] [(.ref a0)])
  obtain ⟨T1, X1, e1, st1⟩ := getF X0 hx hZ hown (host := "") (Or.inl (hw _ (List.mem_of_getElem? (i := 16) rfl))) Via.refl e0 F_count_a0 (g := (mkF m 1 #[.val (.ref a0)] [(.ref a0)])) rfl rfl (hb hby d8_1)
  refine Go.on st1 ?_
  show Go _ _ _ _ _ _ _ _ (mkF m 4 #[.val (.ref a0)] [(.long ct)])
  refine Go.on (fun _ k => X1.ldc2J hx hown (mvT hZ (hw _ (List.mem_of_getElem? (i := 52) rfl))) rfl (hb hby d8_4) k) ?_
  show Go _ _ _ _ _ _ _ _ (mkF m 7 #[.val (.ref a0)] [(.long (2 : Int64)), (.long ct)])
  refine Go.on (fun _ k => XS.lcmp X1.here hx rfl (hb hby d8_7) rfl k) ?_
  show Go _ _ _ _ _ _ _ _ (mkF m 8 #[.val (.ref a0)] [(.int (lcmpW ct (2 : Int64)))])
  have hc2 : ct < (2 : Int64) := hc
  refine Go.on (fun _ k => XS.ifNo X1.here hx rfl (hb hby d8_8) rfl ((if0 _ _).trans (tlt (own_lc_lt.mpr hc2)).2.1) k) ?_
  show Go _ _ _ _ _ _ _ _ (mkF m 11 #[.val (.ref a0)] [])
  obtain ⟨_, _, ⟨T3, L3, k3, n3⟩, -, X3, ⟨Lc3, hQ3, l3, y3, z3⟩, st3⟩ := Jvm.LawKit.callS X1 hx (y := (⟨"java/util/OptionalDouble", "empty", "()Ljava/util/OptionalDouble;"⟩ : MethodName)) hown (mvT hZ (hw _ (List.mem_of_getElem? (i := 64) rfl))) (mvT hZ (hw _ (List.mem_of_getElem? (i := 65) rfl))) (mvT hZ (hw _ (List.mem_of_getElem? (i := 34) rfl))) (mvT hZ (hw _ (List.mem_of_getElem? (i := 66) rfl))) (by decide) (backOf (W := 0) (rm11 l Z aw hw []  em h0 n0 ZZ S_EMPTY) hZ (hw _ (List.mem_of_getElem? (i := 66) rfl)) (hw _ (List.mem_of_getElem? (i := 34) rfl)) (by decide) (by decide)) (g := (mkF m 11 #[.val (.ref a0)] [])) rfl (by rw [hml]; rfl) (argsL := []) (rest := []) (lenOf pd_1 rfl) rfl (by show 2 * 0 + _ ≤ _; exact Nat.le_of_eq rfl) (hb hby d8_11) (fun _ _ => ⟨rfl, e1, (by decide : 0 + 0 ≤ _), (by decide : 0 + 0 ≤ _)⟩)
  dsimp only [Pt.U, Pt.locs, Pt.cells, Pt.slots] at X3 l3 y3 z3 st3 hQ3
  subst l3 y3 z3
  obtain ⟨rfl, N3q, e3⟩ := hQ3
  have N3 := Fr.app N0 N3q
  refine Go.on st3 ?_
  show Go _ _ _ _ _ _ _ _ (mkF m 14 #[.val (.ref a0)] [(.ref em)])
  refine Go.on (fun _ k => XS.goto X3.here hx rfl (pc0 := 14) (pc' := 32) rfl (hb hby d8_14) (by decide) (by decide) k) ?_
  show Go _ _ _ _ _ _ _ _ (mkF m 32 #[.val (.ref a0)] [(.ref em)])
  refine Go.retV X3 hx Bd.returns rfl (Or.inr (Or.inr (Or.inr (Or.inr ⟨rfl, rfl, rfl⟩)))) (hb hby d8_32) ?_ (by rw [hK1]; decide) (by rw [hK2]; decide)
  rw [e3, ← hQQ]
  exact ⟨rfl, N3, rfl⟩
theorem d8_17 : decode prog_4_method_5_code 17 = .ok (.aload_n 0, 1) := by decide +kernel
theorem d8_18 : decode prog_4_method_5_code 18 = .ok (.getfield 17, 3) := by decide +kernel
theorem d8_21 : decode prog_4_method_5_code 21 = .ok (.aload_n 0, 1) := by decide +kernel
theorem d8_22 : decode prog_4_method_5_code 22 = .ok (.getfield 7, 3) := by decide +kernel
theorem d8_25 : decode prog_4_method_5_code 25 = .ok (.lconst 1, 1) := by decide +kernel
theorem d8_26 : decode prog_4_method_5_code 26 = .ok (.lsub, 1) := by decide +kernel
theorem d8_27 : decode prog_4_method_5_code 27 = .ok (.l2d, 1) := by decide +kernel
theorem d8_28 : decode prog_4_method_5_code 28 = .ok (.ddiv, 1) := by decide +kernel
theorem d8_29 : decode prog_4_method_5_code 29 = .ok (.invokestatic 26, 3) := by decide +kernel
theorem ef_gv_o (m : MethodId) (a0 : Addr) : entryFrame m #[(.ref a0)] 1 = mkF m 0 #[.val (.ref a0)] [] := by first | (simp [entryFrame, mkF, argsToLocals, Value.category]; done) | rfl
def Q_gv_o (Z : State) (a0 : Addr) (ct : Int64) (sd : UInt64) (h0 : Heap) (n0 : Nat) (v : Option Value) (h : Heap) (L : List Loc) : Prop := ∃ (ob : Addr), v = some (.ref ob) ∧ Fr n0 L ∧ Keep h0 h [] ∧ h0.size ≤ ob ∧ Exa Z h ob "java/util/OptionalDouble" ∧ Fld Z h ob "java/util/OptionalDouble" "isPresent" "Z" (.int (1 : Int32)) ∧ Fld Z h ob "java/util/OptionalDouble" "value" "D" (.double (FP.ddiv sd (FP.l2d (ct - (1 : Int64)))))
set_option maxRecDepth 65536 in
set_option maxHeartbeats 40000000 in
theorem gv_o (l : Launch) (Z : State) (aw : Array Value) (hw : ∀ d ∈ tables_1, d.before aw Z = true) (ws : List Jvm.Cond) (a0 : Addr) (ct : Int64) (sd : UInt64) (h0 : Heap) (n0 : Nat) (Z0 : n0 ≤ h0.size) (F_count_a0 : Fld Z h0 a0 "com/example/parley/parley/replication/SampleStatistics" "count" "J" (.long ct)) (F_sumOfSquaredDeviations_a0 : Fld Z h0 a0 "com/example/parley/parley/replication/SampleStatistics" "sumOfSquaredDeviations" "D" (.double sd)) (hc : ¬ (ct < (2 : Int64))) (hq : Jvm.Free.Fl.NoNaN64 (FP.ddiv sd (FP.l2d (ct - (1 : Int64))))) :
    MetFree l (⟨"com/example/parley/parley/replication/SampleStatistics", "getVariance", "()Ljava/util/OptionalDouble;"⟩ : MethodName) (head1 (Jvm.Cond.code (⟨"com/example/parley/parley/replication/SampleStatistics", "getVariance", "()Ljava/util/OptionalDouble;"⟩ : MethodName) prog_4_method_5_code 1 (some (.object "java/util/OptionalDouble")) :: ws) ({ frames := 3, cells := 1, slots := 2, locals := 40 } : Room)) (fun a U => a = #[(.ref a0)] ∧ Z.Warmed39 U.vm ∧ U.heap = h0) (fun _ _ _ _ _ => True) (fun _ U o U' => ∃ v L, o = .returned v ∧ Q_gv_o Z a0 ct sd h0 n0 v U'.heap L ∧ FrameEnd U o U' L ({ frames := 3, cells := 1, slots := 2, locals := 40 } : Room).cells ({ frames := 3, cells := 1, slots := 2, locals := 40 } : Room).slots) := by
  refine MetFree.of_bodySF (plainFor_of_name pn_0) hisR ?_
  intro p e s m args below meth c s₁ Bd hml0 hP hK
  obtain ⟨rfl, hZ, hh⟩ := hP
  have hx := Bd.exec
  have hby := Bd.bytes
  have hml : c.maxLocals = 1 := hml0
  have hown : s.vm.findClass "com/example/parley/parley/replication/SampleStatistics" = some m.cls := findClass_of_methodNamed Bd.named
  have hnm := (name_of_methodNamed Bd.named Bd.method).1
  have hlk : meth.locks = false := BodyLoose.notSynchronized Bd
  have X0 : Stand p l e ({ frames := 3, cells := 1, slots := 2, locals := 40 } : Room) s m #[(.ref a0)] below meth c s₁ [] 0 0 := Stand.of_body Bd
  have e0 : s₁.heap = h0 := by rw [← hh, Bd.state]; rfl
  have N0 := Fr.nil n0
  have ZZ := Z0
  show Go p e below s ({ frames := 3, cells := 1, slots := 2, locals := 40 } : Room).cells ({ frames := 3, cells := 1, slots := 2, locals := 40 } : Room).slots (fun v h L => Q_gv_o Z a0 ct sd h0 n0 v h L) s₁ (entryFrame m #[(.ref a0)] 1)
  refine Go.cast (ef_gv_o m a0) ?_
  refine Go.gen ?_
  intro K1 K2 QQ hK1 hK2 hQQ
  have KP : Keep h0 h0 [] := Keep.refl _ _
  refine Go.on (fun _ k => XS.aloadN X0.here hx rfl (hb hby d8_0) rfl rfl k) ?_
  show Go _ _ _ _ _ _ _ _ (mkF m 1 #[.val (.ref a0)] [(.ref a0)])
  obtain ⟨T1, X1, e1, st1⟩ := getF X0 hx hZ hown (host := "") (Or.inl (hw _ (List.mem_of_getElem? (i := 16) rfl))) Via.refl e0 F_count_a0 (g := (mkF m 1 #[.val (.ref a0)] [(.ref a0)])) rfl rfl (hb hby d8_1)
  refine Go.on st1 ?_
  show Go _ _ _ _ _ _ _ _ (mkF m 4 #[.val (.ref a0)] [(.long ct)])
  refine Go.on (fun _ k => X1.ldc2J hx hown (mvT hZ (hw _ (List.mem_of_getElem? (i := 52) rfl))) rfl (hb hby d8_4) k) ?_
  show Go _ _ _ _ _ _ _ _ (mkF m 7 #[.val (.ref a0)] [(.long (2 : Int64)), (.long ct)])
  refine Go.on (fun _ k => XS.lcmp X1.here hx rfl (hb hby d8_7) rfl k) ?_
  show Go _ _ _ _ _ _ _ _ (mkF m 8 #[.val (.ref a0)] [(.int (lcmpW ct (2 : Int64)))])
  have hc2 : ¬ (ct < (2 : Int64)) := hc
  refine Go.on (fun _ k => XS.ifYes X1.here hx rfl (pc0 := 8) (pc' := 17) rfl (hb hby d8_8) rfl ((if0 _ _).trans (flt (fun q => hc2 (own_lc_lt.mp q))).2.1) (by decide) (by decide) k) ?_
  show Go _ _ _ _ _ _ _ _ (mkF m 17 #[.val (.ref a0)] [])
  refine Go.on (fun _ k => XS.aloadN X1.here hx rfl (hb hby d8_17) rfl rfl k) ?_
  show Go _ _ _ _ _ _ _ _ (mkF m 18 #[.val (.ref a0)] [(.ref a0)])
  obtain ⟨T3, X3, e3, st3⟩ := getF X1 hx hZ hown (host := "") (Or.inl (hw _ (List.mem_of_getElem? (i := 20) rfl))) Via.refl e1 F_sumOfSquaredDeviations_a0 (g := (mkF m 18 #[.val (.ref a0)] [(.ref a0)])) rfl rfl (hb hby d8_18)
  refine Go.on st3 ?_
  show Go _ _ _ _ _ _ _ _ (mkF m 21 #[.val (.ref a0)] [(.double sd)])
  refine Go.on (fun _ k => XS.aloadN X3.here hx rfl (hb hby d8_21) rfl rfl k) ?_
  show Go _ _ _ _ _ _ _ _ (mkF m 22 #[.val (.ref a0)] [(.ref a0), (.double sd)])
  obtain ⟨T4, X4, e4, st4⟩ := getF X3 hx hZ hown (host := "") (Or.inl (hw _ (List.mem_of_getElem? (i := 16) rfl))) Via.refl e3 F_count_a0 (g := (mkF m 22 #[.val (.ref a0)] [(.ref a0), (.double sd)])) rfl rfl (hb hby d8_22)
  refine Go.on st4 ?_
  show Go _ _ _ _ _ _ _ _ (mkF m 25 #[.val (.ref a0)] [(.long ct), (.double sd)])
  refine Go.on (fun _ k => XS.lconst X4.here hx rfl (hb hby d8_25) k) ?_
  show Go _ _ _ _ _ _ _ _ (mkF m 26 #[.val (.ref a0)] [(.long (1 : Int64)), (.long ct), (.double sd)])
  refine Go.on (fun _ k => XS.lsub X4.here hx rfl (hb hby d8_26) rfl k) ?_
  show Go _ _ _ _ _ _ _ _ (mkF m 27 #[.val (.ref a0)] [(.long (ct - (1 : Int64))), (.double sd)])
  refine Go.on (fun _ k => XS.l2dS X4.here hx rfl (hb hby d8_27) rfl rfl k) ?_
  show Go _ _ _ _ _ _ _ _ (mkF m 28 #[.val (.ref a0)] [(.double (FP.l2d (ct - (1 : Int64)))), (.double sd)])
  refine Go.on (fun _ k => XS.ddivS X4.here hx rfl (hb hby d8_28) rfl (hq) rfl k) ?_
  show Go _ _ _ _ _ _ _ _ (mkF m 29 #[.val (.ref a0)] [(.double (FP.ddiv sd (FP.l2d (ct - (1 : Int64)))))])
  obtain ⟨_, _, ⟨T5, L5, k5, n5⟩, -, X5, ⟨Lc5, hQ5, l5, y5, z5⟩, st5⟩ := Jvm.LawKit.callS X4 hx (y := (⟨"java/util/OptionalDouble", "of", "(D)Ljava/util/OptionalDouble;"⟩ : MethodName)) hown (mvT hZ (hw _ (List.mem_of_getElem? (i := 32) rfl))) (mvT hZ (hw _ (List.mem_of_getElem? (i := 33) rfl))) (mvT hZ (hw _ (List.mem_of_getElem? (i := 34) rfl))) (mvT hZ (hw _ (List.mem_of_getElem? (i := 35) rfl))) (by decide) (backOf (W := 0) (rm6 l Z aw hw [] (FP.ddiv sd (FP.l2d (ct - (1 : Int64))))  h0 n0 ZZ ) hZ (hw _ (List.mem_of_getElem? (i := 35) rfl)) (hw _ (List.mem_of_getElem? (i := 34) rfl)) (by decide) (by decide)) (g := (mkF m 29 #[.val (.ref a0)] [(.double (FP.ddiv sd (FP.l2d (ct - (1 : Int64)))))])) rfl (by rw [hml]; rfl) (argsL := [(.double (FP.ddiv sd (FP.l2d (ct - (1 : Int64)))))]) (rest := []) (lenOf pd_2 rfl) rfl (by show 2 * 0 + _ ≤ _; exact Nat.le_of_eq rfl) (hb hby d8_29) (fun _ _ => ⟨rfl, e4, (by decide : 0 + 1 ≤ _), (by decide : 0 + 2 ≤ _)⟩)
  dsimp only [Pt.U, Pt.locs, Pt.cells, Pt.slots] at X5 l5 y5 z5 st5 hQ5
  subst l5 y5 z5
  obtain ⟨h5, e5⟩ : ∃ q, T5.heap = q := ⟨_, rfl⟩
  rw [e5] at hQ5
  obtain ⟨ob, rfl, N5q, K5q, szq5, E_ob, F_isPresent_ob, F_value_ob⟩ := hQ5
  have N5 := Fr.app N0 N5q
  have g_ob : n0 ≤ ob := Nat.le_trans ZZ szq5
  have sz_ob : h0.size ≤ ob := Nat.le_trans KP.1 szq5
  have ne_a0_ob : a0 ≠ ob := Nat.ne_of_lt (Nat.lt_of_lt_of_le F_count_a0.lt szq5)
  replace F_count_a0 := F_count_a0.keep K5q nin0
  replace F_sumOfSquaredDeviations_a0 := F_sumOfSquaredDeviations_a0.keep K5q nin0
  replace ZZ := Nat.le_trans ZZ K5q.1
  replace KP := KP.trans K5q all0
  refine Go.on st5 ?_
  show Go _ _ _ _ _ _ _ _ (mkF m 32 #[.val (.ref a0)] [(.ref ob)])
  refine Go.retV X5 hx Bd.returns rfl (Or.inr (Or.inr (Or.inr (Or.inr ⟨rfl, rfl, rfl⟩)))) (hb hby d8_32) ?_ (by rw [hK1]; decide) (by rw [hK2]; decide)
  rw [e5, ← hQQ]
  exact ⟨ob, rfl, N5, KP, sz_ob, E_ob, F_isPresent_ob, F_value_ob⟩
theorem d9_0 : decode jdk_2648_method_6_code 0 = .ok (.aload_n 0, 1) := by decide +kernel
theorem d9_1 : decode jdk_2648_method_6_code 1 = .ok (.getfield 7, 3) := by decide +kernel
theorem d9_4 : decode jdk_2648_method_6_code 4 = .ok (.ireturn, 1) := by decide +kernel
theorem ef_rm9 (m : MethodId) (a0 : Addr) : entryFrame m #[(.ref a0)] 1 = mkF m 0 #[.val (.ref a0)] [] := by first | (simp [entryFrame, mkF, argsToLocals, Value.category]; done) | rfl
def Q_rm9 (Z : State) (a0 : Addr) (ip : Int32) (h0 : Heap) (n0 : Nat) (v : Option Value) (h : Heap) (L : List Loc) : Prop := v = some (.int ip) ∧ Fr n0 L ∧ h = h0
set_option maxRecDepth 65536 in
set_option maxHeartbeats 40000000 in
theorem rm9 (l : Launch) (Z : State) (aw : Array Value) (hw : ∀ d ∈ tables_1, d.before aw Z = true) (ws : List Jvm.Cond) (a0 : Addr) (ip : Int32) (h0 : Heap) (n0 : Nat) (Z0 : n0 ≤ h0.size) (F_isPresent_a0 : Fld Z h0 a0 "java/util/OptionalDouble" "isPresent" "Z" (.int ip)) (hip : nar .boolean ip = ip) :
    MetFree l (⟨"java/util/OptionalDouble", "isPresent", "()Z"⟩ : MethodName) (head1 (Jvm.Cond.code (⟨"java/util/OptionalDouble", "isPresent", "()Z"⟩ : MethodName) jdk_2648_method_6_code 1 (some .boolean) :: ws) ({ frames := 0, cells := 0, slots := 0, locals := 0 } : Room)) (fun a U => a = #[(.ref a0)] ∧ Z.Warmed39 U.vm ∧ U.heap = h0) (fun _ _ _ _ _ => True) (fun _ U o U' => ∃ v L, o = .returned v ∧ Q_rm9 Z a0 ip h0 n0 v U'.heap L ∧ FrameEnd U o U' L ({ frames := 0, cells := 0, slots := 0, locals := 0 } : Room).cells ({ frames := 0, cells := 0, slots := 0, locals := 0 } : Room).slots) := by
  refine MetFree.of_bodySF (plainFor_of_name pn_1) hisR ?_
  intro p e s m args below meth c s₁ Bd hml0 hP hK
  obtain ⟨rfl, hZ, hh⟩ := hP
  have hx := Bd.exec
  have hby := Bd.bytes
  have hml : c.maxLocals = 1 := hml0
  have hown : s.vm.findClass "java/util/OptionalDouble" = some m.cls := findClass_of_methodNamed Bd.named
  have hnm := (name_of_methodNamed Bd.named Bd.method).1
  have hlk : meth.locks = false := BodyLoose.notSynchronized Bd
  have X0 : Stand p l e ({ frames := 0, cells := 0, slots := 0, locals := 0 } : Room) s m #[(.ref a0)] below meth c s₁ [] 0 0 := Stand.of_body Bd
  have e0 : s₁.heap = h0 := by rw [← hh, Bd.state]; rfl
  have N0 := Fr.nil n0
  have ZZ := Z0
  show Go p e below s ({ frames := 0, cells := 0, slots := 0, locals := 0 } : Room).cells ({ frames := 0, cells := 0, slots := 0, locals := 0 } : Room).slots (fun v h L => Q_rm9 Z a0 ip h0 n0 v h L) s₁ (entryFrame m #[(.ref a0)] 1)
  refine Go.cast (ef_rm9 m a0) ?_
  refine Go.gen ?_
  intro K1 K2 QQ hK1 hK2 hQQ
  refine Go.on (fun _ k => XS.aloadN X0.here hx rfl (hb hby d9_0) rfl rfl k) ?_
  show Go _ _ _ _ _ _ _ _ (mkF m 1 #[.val (.ref a0)] [(.ref a0)])
  obtain ⟨T1, X1, e1, st1⟩ := getF X0 hx hZ hown (host := "") (Or.inl (hw _ (List.mem_of_getElem? (i := 43) rfl))) Via.refl e0 F_isPresent_a0 (g := (mkF m 1 #[.val (.ref a0)] [(.ref a0)])) rfl rfl (hb hby d9_1)
  refine Go.on st1 ?_
  show Go _ _ _ _ _ _ _ _ (mkF m 4 #[.val (.ref a0)] [(.int ip)])
  refine Go.retN X1 hx (t := .boolean) Bd.returns (by simp) (hb hby d9_4) ?_ (by rw [hK1]; decide) (by rw [hK2]; decide)
  rw [e1, ← hQQ]
  exact ⟨by rw [hip], N0, rfl⟩
theorem d10_0 : decode jdk_2648_method_5_code 0 = .ok (.aload_n 0, 1) := by decide +kernel
theorem d10_1 : decode jdk_2648_method_5_code 1 = .ok (.getfield 7, 3) := by decide +kernel
theorem d10_4 : decode jdk_2648_method_5_code 4 = .ok (.ifCond .ne 13, 3) := by decide +kernel
theorem d10_17 : decode jdk_2648_method_5_code 17 = .ok (.aload_n 0, 1) := by decide +kernel
theorem d10_18 : decode jdk_2648_method_5_code 18 = .ok (.getfield 17, 3) := by decide +kernel
theorem d10_21 : decode jdk_2648_method_5_code 21 = .ok (.dreturn, 1) := by decide +kernel
theorem ef_rm10 (m : MethodId) (a0 : Addr) : entryFrame m #[(.ref a0)] 1 = mkF m 0 #[.val (.ref a0)] [] := by first | (simp [entryFrame, mkF, argsToLocals, Value.category]; done) | rfl
def Q_rm10 (Z : State) (a0 : Addr) (vl : UInt64) (h0 : Heap) (n0 : Nat) (v : Option Value) (h : Heap) (L : List Loc) : Prop := v = some (.double vl) ∧ Fr n0 L ∧ h = h0
set_option maxRecDepth 65536 in
set_option maxHeartbeats 40000000 in
theorem rm10 (l : Launch) (Z : State) (aw : Array Value) (hw : ∀ d ∈ tables_1, d.before aw Z = true) (ws : List Jvm.Cond) (a0 : Addr) (vl : UInt64) (h0 : Heap) (n0 : Nat) (Z0 : n0 ≤ h0.size) (F_isPresent_a0 : Fld Z h0 a0 "java/util/OptionalDouble" "isPresent" "Z" (.int (1 : Int32))) (F_value_a0 : Fld Z h0 a0 "java/util/OptionalDouble" "value" "D" (.double vl)) :
    MetFree l (⟨"java/util/OptionalDouble", "getAsDouble", "()D"⟩ : MethodName) (head1 (Jvm.Cond.code (⟨"java/util/OptionalDouble", "getAsDouble", "()D"⟩ : MethodName) jdk_2648_method_5_code 1 (some .double) :: ws) ({ frames := 0, cells := 0, slots := 0, locals := 0 } : Room)) (fun a U => a = #[(.ref a0)] ∧ Z.Warmed39 U.vm ∧ U.heap = h0) (fun _ _ _ _ _ => True) (fun _ U o U' => ∃ v L, o = .returned v ∧ Q_rm10 Z a0 vl h0 n0 v U'.heap L ∧ FrameEnd U o U' L ({ frames := 0, cells := 0, slots := 0, locals := 0 } : Room).cells ({ frames := 0, cells := 0, slots := 0, locals := 0 } : Room).slots) := by
  refine MetFree.of_bodySF (plainFor_of_name pn_1) hisR ?_
  intro p e s m args below meth c s₁ Bd hml0 hP hK
  obtain ⟨rfl, hZ, hh⟩ := hP
  have hx := Bd.exec
  have hby := Bd.bytes
  have hml : c.maxLocals = 1 := hml0
  have hown : s.vm.findClass "java/util/OptionalDouble" = some m.cls := findClass_of_methodNamed Bd.named
  have hnm := (name_of_methodNamed Bd.named Bd.method).1
  have hlk : meth.locks = false := BodyLoose.notSynchronized Bd
  have X0 : Stand p l e ({ frames := 0, cells := 0, slots := 0, locals := 0 } : Room) s m #[(.ref a0)] below meth c s₁ [] 0 0 := Stand.of_body Bd
  have e0 : s₁.heap = h0 := by rw [← hh, Bd.state]; rfl
  have N0 := Fr.nil n0
  have ZZ := Z0
  show Go p e below s ({ frames := 0, cells := 0, slots := 0, locals := 0 } : Room).cells ({ frames := 0, cells := 0, slots := 0, locals := 0 } : Room).slots (fun v h L => Q_rm10 Z a0 vl h0 n0 v h L) s₁ (entryFrame m #[(.ref a0)] 1)
  refine Go.cast (ef_rm10 m a0) ?_
  refine Go.gen ?_
  intro K1 K2 QQ hK1 hK2 hQQ
  refine Go.on (fun _ k => XS.aloadN X0.here hx rfl (hb hby d10_0) rfl rfl k) ?_
  show Go _ _ _ _ _ _ _ _ (mkF m 1 #[.val (.ref a0)] [(.ref a0)])
  obtain ⟨T1, X1, e1, st1⟩ := getF X0 hx hZ hown (host := "") (Or.inl (hw _ (List.mem_of_getElem? (i := 43) rfl))) Via.refl e0 F_isPresent_a0 (g := (mkF m 1 #[.val (.ref a0)] [(.ref a0)])) rfl rfl (hb hby d10_1)
  refine Go.on st1 ?_
  show Go _ _ _ _ _ _ _ _ (mkF m 4 #[.val (.ref a0)] [(.int (1 : Int32))])
  have hc2 : ¬ ((1 : Int32) = (0 : Int32)) := by decide
  refine Go.on (fun _ k => XS.ifYes X1.here hx rfl (pc0 := 4) (pc' := 17) rfl (hb hby d10_4) rfl ((if0 _ _).trans (feq hc2).2) (by decide) (by decide) k) ?_
  show Go _ _ _ _ _ _ _ _ (mkF m 17 #[.val (.ref a0)] [])
  refine Go.on (fun _ k => XS.aloadN X1.here hx rfl (hb hby d10_17) rfl rfl k) ?_
  show Go _ _ _ _ _ _ _ _ (mkF m 18 #[.val (.ref a0)] [(.ref a0)])
  obtain ⟨T3, X3, e3, st3⟩ := getF X1 hx hZ hown (host := "") (Or.inl (hw _ (List.mem_of_getElem? (i := 45) rfl))) Via.refl e1 F_value_a0 (g := (mkF m 18 #[.val (.ref a0)] [(.ref a0)])) rfl rfl (hb hby d10_18)
  refine Go.on st3 ?_
  show Go _ _ _ _ _ _ _ _ (mkF m 21 #[.val (.ref a0)] [(.double vl)])
  refine Go.retV X3 hx Bd.returns rfl (Or.inr (Or.inr (Or.inl ⟨rfl, rfl, _, rfl⟩))) (hb hby d10_21) ?_ (by rw [hK1]; decide) (by rw [hK2]; decide)
  rw [e3, ← hQQ]
  exact ⟨rfl, N0, rfl⟩
theorem pd_3 : parseMethodDescriptor "()V" = some ⟨[], none⟩ := by decide +kernel
theorem pd_4 : parseMethodDescriptor "()J" = some ⟨[], some .long⟩ := by decide +kernel
theorem pd_5 : parseMethodDescriptor "()Z" = some ⟨[], some .boolean⟩ := by decide +kernel
theorem pd_6 : parseMethodDescriptor "()D" = some ⟨[], some .double⟩ := by decide +kernel
theorem pn_2 : plainName "com/example/parley/parley/replication/SampleStatisticsAddPinLaw" = true := by first | (simp [plainName, overriddenIn]; done) | decide +kernel
theorem ef_rm0 (m : MethodId) (i0 : Int32) (i1 : Int32) (i2 : Int32) : entryFrame m #[(.int i0), (.int i1), (.int i2)] maxLocals = mkF m 0 #[.val (.int i0), .val (.int i1), .val (.int i2), .unset, .unset, .unset, .unset, .unset, .unset, .unset, .unset, .unset, .unset, .unset, .unset, .unset, .unset, .unset, .unset] [] := by first | (simp [entryFrame, mkF, argsToLocals, Value.category, maxLocals]; done) | rfl
def Q_rm0 (Z : State) (i0 : Int32) (i1 : Int32) (i2 : Int32) (em : Addr) (h0 : Heap) (n0 : Nat) (v : Option Value) (h : Heap) (L : List Loc) : Prop := v = some (.int 1) ∧ Fr n0 L
set_option maxRecDepth 65536 in
set_option maxHeartbeats 40000000 in
theorem rm0 (l : Launch) (Z : State) (aw : Array Value) (hw : ∀ d ∈ tables_1, d.before aw Z = true) (ws : List Jvm.Cond) (i0 : Int32) (i1 : Int32) (i2 : Int32) (em : Addr) (h0 : Heap) (n0 : Nat) (Z0 : n0 ≤ h0.size) (S_EMPTY : Sta Z h0 "java/util/OptionalDouble" "EMPTY" "Ljava/util/OptionalDouble;" (.ref em)) (E_em : Exa Z h0 em "java/util/OptionalDouble") (F_isPresent_em : Fld Z h0 em "java/util/OptionalDouble" "isPresent" "Z" (.int (0 : Int32))) :
    MetFree l x (head1 (Jvm.Cond.code x code maxLocals ret :: ws) room_1) (fun a U => a = #[(.int i0), (.int i1), (.int i2)] ∧ Z.Warmed39 U.vm ∧ U.heap = h0) (fun _ _ _ _ _ => True) (fun _ U o U' => ∃ v L, o = .returned v ∧ Q_rm0 Z i0 i1 i2 em h0 n0 v U'.heap L ∧ FrameEnd U o U' L 3 7) := by
  refine MetFree.of_bodySF (plainFor_of_name pn_2) hisR ?_
  intro p e s m args below meth c s₁ Bd hml0 hP hK
  obtain ⟨rfl, hZ, hh⟩ := hP
  have hx := Bd.exec
  have hby := Bd.bytes
  have hml : c.maxLocals = 19 := hml0
  have hown : s.vm.findClass "com/example/parley/parley/replication/SampleStatisticsAddPinLaw" = some m.cls := findClass_of_methodNamed Bd.named
  have hnm := (name_of_methodNamed Bd.named Bd.method).1
  have hlk : meth.locks = false := BodyLoose.notSynchronized Bd
  have X0 : Stand p l e room_1 s m #[(.int i0), (.int i1), (.int i2)] below meth c s₁ [] 0 0 := Stand.of_body Bd
  have e0 : s₁.heap = h0 := by rw [← hh, Bd.state]; rfl
  have N0 := Fr.nil n0
  have ZZ := Z0
  show Go p e below s 3 7 (fun v h L => Q_rm0 Z i0 i1 i2 em h0 n0 v h L) s₁ (entryFrame m #[(.int i0), (.int i1), (.int i2)] maxLocals)
  refine Go.cast (ef_rm0 m i0 i1 i2) ?_
  refine Go.gen ?_
  intro K1 K2 QQ hK1 hK2 hQQ
  refine Go.on (fun _ k => XS.iloadN X0.here hx rfl (hb hby at_0) rfl k) ?_
  show Go _ _ _ _ _ _ _ _ (mkF m 1 #[.val (.int i0), .val (.int i1), .val (.int i2), .unset, .unset, .unset, .unset, .unset, .unset, .unset, .unset, .unset, .unset, .unset, .unset, .unset, .unset, .unset, .unset] [(.int i2)])
  refine Go.on (fun _ k => XS.iconst X0.here hx rfl (hb hby at_1) k) ?_
  show Go _ _ _ _ _ _ _ _ (mkF m 2 #[.val (.int i0), .val (.int i1), .val (.int i2), .unset, .unset, .unset, .unset, .unset, .unset, .unset, .unset, .unset, .unset, .unset, .unset, .unset, .unset, .unset, .unset] [(.int (3 : Int32)), (.int i2)])
  refine Go.on (fun _ k => XS.iand X0.here hx rfl (hb hby at_2) rfl k) ?_
  show Go _ _ _ _ _ _ _ _ (mkF m 3 #[.val (.int i0), .val (.int i1), .val (.int i2), .unset, .unset, .unset, .unset, .unset, .unset, .unset, .unset, .unset, .unset, .unset, .unset, .unset, .unset, .unset, .unset] [(.int (i2 &&& (3 : Int32)))])
  refine Go.on (fun _ k => XS.istoreN X0.here hx rfl (hb hby at_3) rfl (l' := #[.val (.int i0), .val (.int i1), .val (.int i2), .val (.int (i2 &&& (3 : Int32))), .unset, .unset, .unset, .unset, .unset, .unset, .unset, .unset, .unset, .unset, .unset, .unset, .unset, .unset, .unset]) rfl k) ?_
  show Go _ _ _ _ _ _ _ _ (mkF m 4 #[.val (.int i0), .val (.int i1), .val (.int i2), .val (.int (i2 &&& (3 : Int32))), .unset, .unset, .unset, .unset, .unset, .unset, .unset, .unset, .unset, .unset, .unset, .unset, .unset, .unset, .unset] [])
  generalize hkk : (i2 &&& (3 : Int32)) = kk
  show Go _ _ _ _ _ _ _ _ (mkF m 4 #[.val (.int i0), .val (.int i1), .val (.int i2), .val (.int kk), .unset, .unset, .unset, .unset, .unset, .unset, .unset, .unset, .unset, .unset, .unset, .unset, .unset, .unset, .unset] [])
  refine Go.on (fun _ k => XS.iloadN X0.here hx rfl (hb hby at_4) rfl k) ?_
  show Go _ _ _ _ _ _ _ _ (mkF m 5 #[.val (.int i0), .val (.int i1), .val (.int i2), .val (.int kk), .unset, .unset, .unset, .unset, .unset, .unset, .unset, .unset, .unset, .unset, .unset, .unset, .unset, .unset, .unset] [(.int i0)])
  refine Go.on (fun _ k => X0.ldcI hx hown (mvT hZ (hw _ (List.mem_of_getElem? (i := 0) rfl))) rfl (hb hby at_5) k) ?_
  show Go _ _ _ _ _ _ _ _ (mkF m 7 #[.val (.int i0), .val (.int i1), .val (.int i2), .val (.int kk), .unset, .unset, .unset, .unset, .unset, .unset, .unset, .unset, .unset, .unset, .unset, .unset, .unset, .unset, .unset] [(.int (1000000 : Int32)), (.int i0)])
  refine Go.on (fun _ k => iremM X0 hx rfl (hb hby at_7) rfl (by decide) k) ?_
  show Go _ _ _ _ _ _ _ _ (mkF m 8 #[.val (.int i0), .val (.int i1), .val (.int i2), .val (.int kk), .unset, .unset, .unset, .unset, .unset, .unset, .unset, .unset, .unset, .unset, .unset, .unset, .unset, .unset, .unset] [(.int (i0 % (1000000 : Int32)))])
  refine Go.on (fun _ k => XS.i2l X0.here hx rfl (hb hby at_8) rfl k) ?_
  show Go _ _ _ _ _ _ _ _ (mkF m 9 #[.val (.int i0), .val (.int i1), .val (.int i2), .val (.int kk), .unset, .unset, .unset, .unset, .unset, .unset, .unset, .unset, .unset, .unset, .unset, .unset, .unset, .unset, .unset] [(.long ((i0 % (1000000 : Int32)).toInt64))])
  refine Go.on (fun _ k => XS.lstore X0.here hx rfl (hb hby at_9) rfl (l' := #[.val (.int i0), .val (.int i1), .val (.int i2), .val (.int kk), .val (.long ((i0 % (1000000 : Int32)).toInt64)), .second, .unset, .unset, .unset, .unset, .unset, .unset, .unset, .unset, .unset, .unset, .unset, .unset, .unset]) rfl k) ?_
  show Go _ _ _ _ _ _ _ _ (mkF m 11 #[.val (.int i0), .val (.int i1), .val (.int i2), .val (.int kk), .val (.long ((i0 % (1000000 : Int32)).toInt64)), .second, .unset, .unset, .unset, .unset, .unset, .unset, .unset, .unset, .unset, .unset, .unset, .unset, .unset] [])
  generalize hja : ((i0 % (1000000 : Int32)).toInt64) = ja
  show Go _ _ _ _ _ _ _ _ (mkF m 11 #[.val (.int i0), .val (.int i1), .val (.int i2), .val (.int kk), .val (.long ja), .second, .unset, .unset, .unset, .unset, .unset, .unset, .unset, .unset, .unset, .unset, .unset, .unset, .unset] [])
  refine Go.on (fun _ k => XS.iloadN X0.here hx rfl (hb hby at_11) rfl k) ?_
  show Go _ _ _ _ _ _ _ _ (mkF m 12 #[.val (.int i0), .val (.int i1), .val (.int i2), .val (.int kk), .val (.long ja), .second, .unset, .unset, .unset, .unset, .unset, .unset, .unset, .unset, .unset, .unset, .unset, .unset, .unset] [(.int i1)])
  refine Go.on (fun _ k => X0.ldcI hx hown (mvT hZ (hw _ (List.mem_of_getElem? (i := 0) rfl))) rfl (hb hby at_12) k) ?_
  show Go _ _ _ _ _ _ _ _ (mkF m 14 #[.val (.int i0), .val (.int i1), .val (.int i2), .val (.int kk), .val (.long ja), .second, .unset, .unset, .unset, .unset, .unset, .unset, .unset, .unset, .unset, .unset, .unset, .unset, .unset] [(.int (1000000 : Int32)), (.int i1)])
  refine Go.on (fun _ k => iremM X0 hx rfl (hb hby at_14) rfl (by decide) k) ?_
  show Go _ _ _ _ _ _ _ _ (mkF m 15 #[.val (.int i0), .val (.int i1), .val (.int i2), .val (.int kk), .val (.long ja), .second, .unset, .unset, .unset, .unset, .unset, .unset, .unset, .unset, .unset, .unset, .unset, .unset, .unset] [(.int (i1 % (1000000 : Int32)))])
  refine Go.on (fun _ k => XS.i2l X0.here hx rfl (hb hby at_15) rfl k) ?_
  show Go _ _ _ _ _ _ _ _ (mkF m 16 #[.val (.int i0), .val (.int i1), .val (.int i2), .val (.int kk), .val (.long ja), .second, .unset, .unset, .unset, .unset, .unset, .unset, .unset, .unset, .unset, .unset, .unset, .unset, .unset] [(.long ((i1 % (1000000 : Int32)).toInt64))])
  refine Go.on (fun _ k => XS.lstore X0.here hx rfl (hb hby at_16) rfl (l' := #[.val (.int i0), .val (.int i1), .val (.int i2), .val (.int kk), .val (.long ja), .second, .val (.long ((i1 % (1000000 : Int32)).toInt64)), .second, .unset, .unset, .unset, .unset, .unset, .unset, .unset, .unset, .unset, .unset, .unset]) rfl k) ?_
  show Go _ _ _ _ _ _ _ _ (mkF m 18 #[.val (.int i0), .val (.int i1), .val (.int i2), .val (.int kk), .val (.long ja), .second, .val (.long ((i1 % (1000000 : Int32)).toInt64)), .second, .unset, .unset, .unset, .unset, .unset, .unset, .unset, .unset, .unset, .unset, .unset] [])
  generalize hjb : ((i1 % (1000000 : Int32)).toInt64) = jb
  show Go _ _ _ _ _ _ _ _ (mkF m 18 #[.val (.int i0), .val (.int i1), .val (.int i2), .val (.int kk), .val (.long ja), .second, .val (.long jb), .second, .unset, .unset, .unset, .unset, .unset, .unset, .unset, .unset, .unset, .unset, .unset] [])
  refine Go.on (fun _ k => X0.ldc2J hx hown (mvT hZ (hw _ (List.mem_of_getElem? (i := 1) rfl))) rfl (hb hby at_18) k) ?_
  show Go _ _ _ _ _ _ _ _ (mkF m 21 #[.val (.int i0), .val (.int i1), .val (.int i2), .val (.int kk), .val (.long ja), .second, .val (.long jb), .second, .unset, .unset, .unset, .unset, .unset, .unset, .unset, .unset, .unset, .unset, .unset] [(.long (2 : Int64))])
  refine Go.on (fun _ k => XS.lload X0.here hx rfl (hb hby at_21) rfl k) ?_
  show Go _ _ _ _ _ _ _ _ (mkF m 23 #[.val (.int i0), .val (.int i1), .val (.int i2), .val (.int kk), .val (.long ja), .second, .val (.long jb), .second, .unset, .unset, .unset, .unset, .unset, .unset, .unset, .unset, .unset, .unset, .unset] [(.long jb), (.long (2 : Int64))])
  refine Go.on (fun _ k => XS.lmul X0.here hx rfl (hb hby at_23) rfl k) ?_
  show Go _ _ _ _ _ _ _ _ (mkF m 24 #[.val (.int i0), .val (.int i1), .val (.int i2), .val (.int kk), .val (.long ja), .second, .val (.long jb), .second, .unset, .unset, .unset, .unset, .unset, .unset, .unset, .unset, .unset, .unset, .unset] [(.long ((2 : Int64) * jb))])
  refine Go.on (fun _ k => XS.lload X0.here hx rfl (hb hby at_24) rfl k) ?_
  show Go _ _ _ _ _ _ _ _ (mkF m 26 #[.val (.int i0), .val (.int i1), .val (.int i2), .val (.int kk), .val (.long ja), .second, .val (.long jb), .second, .unset, .unset, .unset, .unset, .unset, .unset, .unset, .unset, .unset, .unset, .unset] [(.long ja), (.long ((2 : Int64) * jb))])
  refine Go.on (fun _ k => XS.lsub X0.here hx rfl (hb hby at_26) rfl k) ?_
  show Go _ _ _ _ _ _ _ _ (mkF m 27 #[.val (.int i0), .val (.int i1), .val (.int i2), .val (.int kk), .val (.long ja), .second, .val (.long jb), .second, .unset, .unset, .unset, .unset, .unset, .unset, .unset, .unset, .unset, .unset, .unset] [(.long (((2 : Int64) * jb) - ja))])
  refine Go.on (fun _ k => XS.lstore X0.here hx rfl (hb hby at_27) rfl (l' := #[.val (.int i0), .val (.int i1), .val (.int i2), .val (.int kk), .val (.long ja), .second, .val (.long jb), .second, .val (.long (((2 : Int64) * jb) - ja)), .second, .unset, .unset, .unset, .unset, .unset, .unset, .unset, .unset, .unset]) rfl k) ?_
  show Go _ _ _ _ _ _ _ _ (mkF m 29 #[.val (.int i0), .val (.int i1), .val (.int i2), .val (.int kk), .val (.long ja), .second, .val (.long jb), .second, .val (.long (((2 : Int64) * jb) - ja)), .second, .unset, .unset, .unset, .unset, .unset, .unset, .unset, .unset, .unset] [])
  generalize hjc : (((2 : Int64) * jb) - ja) = jc
  show Go _ _ _ _ _ _ _ _ (mkF m 29 #[.val (.int i0), .val (.int i1), .val (.int i2), .val (.int kk), .val (.long ja), .second, .val (.long jb), .second, .val (.long jc), .second, .unset, .unset, .unset, .unset, .unset, .unset, .unset, .unset, .unset] [])
  have ha := own_rem hja
  have hb_ := own_rem hjb
  have hc_ := own_c3 hjc ha hb_
  rcases own_k4 hkk with hk | hk | hk | hk
  · -- 0 values
    subst hk
    show Go _ _ _ _ _ _ _ _ (mkF m 29 #[.val (.int i0), .val (.int i1), .val (.int i2), .val (.int (0 : Int32)), .val (.long ja), .second, .val (.long jb), .second, .val (.long jc), .second, .unset, .unset, .unset, .unset, .unset, .unset, .unset, .unset, .unset] [])
    obtain ⟨T1, h1, X1, e1, E1, A1, D1, -, st1⟩ := newO X0 hx hZ hown (hw _ (List.mem_of_getElem? (i := 2) rfl)) (hw _ (List.mem_of_getElem? (i := 3) rfl)) (hw _ (List.mem_of_getElem? (i := 4) rfl)) e0 (g := (mkF m 29 #[.val (.int i0), .val (.int i1), .val (.int i2), .val (.int (0 : Int32)), .val (.long ja), .second, .val (.long jb), .second, .val (.long jc), .second, .unset, .unset, .unset, .unset, .unset, .unset, .unset, .unset, .unset] [])) rfl (hb hby at_29) (by decide) (by decide)
    obtain ⟨q, g1⟩ : ∃ z, z = h0.size := ⟨_, rfl⟩
    have ne_em_q : em ≠ q := Nat.ne_of_lt (Nat.lt_of_lt_of_le E_em.lt (Nat.le_of_eq g1.symm))
    have g_q : n0 ≤ q := Nat.le_trans ZZ (Nat.le_of_eq g1.symm)
    rw [← g1] at A1 D1 st1
    replace S_EMPTY := S_EMPTY.ext E1
    replace E_em := E_em.ext E1
    replace F_isPresent_em := F_isPresent_em.ext E1
    replace ZZ := Nat.le_trans ZZ E1.1
    have E_q := A1
    have F_count_q : Fld Z h1 q "com/example/parley/parley/replication/SampleStatistics" "count" "J" (.long (0 : Int64)) := D1 (Or.inl (hw _ (List.mem_of_getElem? (i := 17) rfl))) (ty := .long) (by decide)
    have F_mean_q : Fld Z h1 q "com/example/parley/parley/replication/SampleStatistics" "mean" "D" (.double (0 : UInt64)) := D1 (Or.inl (hw _ (List.mem_of_getElem? (i := 19) rfl))) (ty := .double) (by decide)
    have F_sumOfSquaredDeviations_q : Fld Z h1 q "com/example/parley/parley/replication/SampleStatistics" "sumOfSquaredDeviations" "D" (.double (0 : UInt64)) := D1 (Or.inl (hw _ (List.mem_of_getElem? (i := 21) rfl))) (ty := .double) (by decide)
    refine Go.on st1 ?_
    show Go _ _ _ _ _ _ _ _ (mkF m 32 #[.val (.int i0), .val (.int i1), .val (.int i2), .val (.int (0 : Int32)), .val (.long ja), .second, .val (.long jb), .second, .val (.long jc), .second, .unset, .unset, .unset, .unset, .unset, .unset, .unset, .unset, .unset] [(.ref q)])
    refine Go.on (fun _ k => XS.dup X1.here hx rfl (hb hby at_32) rfl rfl k) ?_
    show Go _ _ _ _ _ _ _ _ (mkF m 33 #[.val (.int i0), .val (.int i1), .val (.int i2), .val (.int (0 : Int32)), .val (.long ja), .second, .val (.long jb), .second, .val (.long jc), .second, .unset, .unset, .unset, .unset, .unset, .unset, .unset, .unset, .unset] [(.ref q), (.ref q)])
    obtain ⟨_, _, ⟨T2, L2, k2, n2⟩, -, X2, ⟨Lc2, hQ2, l2, y2, z2⟩, st2⟩ := X1.specialBack hx (y := (⟨"com/example/parley/parley/replication/SampleStatistics", "<init>", "()V"⟩ : MethodName)) rfl hown (mvT hZ (hw _ (List.mem_of_getElem? (i := 5) rfl))) (mvT hZ (hw _ (List.mem_of_getElem? (i := 6) rfl))) (mvT hZ (hw _ (List.mem_of_getElem? (i := 7) rfl))) (by decide) (backOf (W := 1) (rm1 l Z aw hw [] q  h1 n0 ZZ ) hZ (hw _ (List.mem_of_getElem? (i := 7) rfl)) (hw _ (List.mem_of_getElem? (i := 4) rfl)) (by decide) (by decide)) (g := (mkF m 33 #[.val (.int i0), .val (.int i1), .val (.int i2), .val (.int (0 : Int32)), .val (.long ja), .second, .val (.long jb), .second, .val (.long jc), .second, .unset, .unset, .unset, .unset, .unset, .unset, .unset, .unset, .unset] [(.ref q), (.ref q)])) rfl (by rw [hml]; rfl) (Steps.refl _) (a := q) (argsL := []) (rest := [(.ref q)]) (lenOf pd_3 rfl) rfl (by show 2 * 0 + _ ≤ _; exact Nat.le_of_eq rfl) (hb hby at_33) (fun _ _ => ⟨rfl, e1, (by decide : 1 + 0 ≤ _), (by decide : 3 + 0 ≤ _)⟩)
    dsimp only [Pt.U, Pt.locs, Pt.cells, Pt.slots] at X2 l2 y2 z2 st2 hQ2
    subst l2 y2 z2
    obtain ⟨rfl, N2q, e2⟩ := hQ2
    have N2 := Fr.app N0 N2q
    refine Go.on (fun _ k => st2.trans k) ?_
    show Go _ _ _ _ _ _ _ _ (mkF m 36 #[.val (.int i0), .val (.int i1), .val (.int i2), .val (.int (0 : Int32)), .val (.long ja), .second, .val (.long jb), .second, .val (.long jc), .second, .unset, .unset, .unset, .unset, .unset, .unset, .unset, .unset, .unset] [(.ref q)])
    refine Go.on (fun _ k => XS.astore X2.here hx rfl (hb hby at_36) rfl rfl (l' := #[.val (.int i0), .val (.int i1), .val (.int i2), .val (.int (0 : Int32)), .val (.long ja), .second, .val (.long jb), .second, .val (.long jc), .second, .val (.ref q), .unset, .unset, .unset, .unset, .unset, .unset, .unset, .unset]) rfl k) ?_
    show Go _ _ _ _ _ _ _ _ (mkF m 38 #[.val (.int i0), .val (.int i1), .val (.int i2), .val (.int (0 : Int32)), .val (.long ja), .second, .val (.long jb), .second, .val (.long jc), .second, .val (.ref q), .unset, .unset, .unset, .unset, .unset, .unset, .unset, .unset] [])
    refine Go.on (fun _ k => XS.iloadN X2.here hx rfl (hb hby at_38) rfl k) ?_
    show Go _ _ _ _ _ _ _ _ (mkF m 39 #[.val (.int i0), .val (.int i1), .val (.int i2), .val (.int (0 : Int32)), .val (.long ja), .second, .val (.long jb), .second, .val (.long jc), .second, .val (.ref q), .unset, .unset, .unset, .unset, .unset, .unset, .unset, .unset] [(.int (0 : Int32))])
    refine Go.on (fun _ k => XS.iconst X2.here hx rfl (hb hby at_39) k) ?_
    show Go _ _ _ _ _ _ _ _ (mkF m 40 #[.val (.int i0), .val (.int i1), .val (.int i2), .val (.int (0 : Int32)), .val (.long ja), .second, .val (.long jb), .second, .val (.long jc), .second, .val (.ref q), .unset, .unset, .unset, .unset, .unset, .unset, .unset, .unset] [(.int (1 : Int32)), (.int (0 : Int32))])
    have hc3 : (0 : Int32) < (1 : Int32) := by decide
    refine Go.on (fun _ k => XS.icmpYes X2.here hx rfl (pc0 := 40) (pc' := 51) rfl (hb hby at_40) rfl (tlt hc3).1 (by decide) (by decide) k) ?_
    show Go _ _ _ _ _ _ _ _ (mkF m 51 #[.val (.int i0), .val (.int i1), .val (.int i2), .val (.int (0 : Int32)), .val (.long ja), .second, .val (.long jb), .second, .val (.long jc), .second, .val (.ref q), .unset, .unset, .unset, .unset, .unset, .unset, .unset, .unset] [])
    refine Go.on (fun _ k => XS.iloadN X2.here hx rfl (hb hby at_51) rfl k) ?_
    show Go _ _ _ _ _ _ _ _ (mkF m 52 #[.val (.int i0), .val (.int i1), .val (.int i2), .val (.int (0 : Int32)), .val (.long ja), .second, .val (.long jb), .second, .val (.long jc), .second, .val (.ref q), .unset, .unset, .unset, .unset, .unset, .unset, .unset, .unset] [(.int (0 : Int32))])
    refine Go.on (fun _ k => XS.iconst X2.here hx rfl (hb hby at_52) k) ?_
    show Go _ _ _ _ _ _ _ _ (mkF m 53 #[.val (.int i0), .val (.int i1), .val (.int i2), .val (.int (0 : Int32)), .val (.long ja), .second, .val (.long jb), .second, .val (.long jc), .second, .val (.ref q), .unset, .unset, .unset, .unset, .unset, .unset, .unset, .unset] [(.int (2 : Int32)), (.int (0 : Int32))])
    have hc4 : (0 : Int32) < (2 : Int32) := by decide
    refine Go.on (fun _ k => XS.icmpYes X2.here hx rfl (pc0 := 53) (pc' := 64) rfl (hb hby at_53) rfl (tlt hc4).1 (by decide) (by decide) k) ?_
    show Go _ _ _ _ _ _ _ _ (mkF m 64 #[.val (.int i0), .val (.int i1), .val (.int i2), .val (.int (0 : Int32)), .val (.long ja), .second, .val (.long jb), .second, .val (.long jc), .second, .val (.ref q), .unset, .unset, .unset, .unset, .unset, .unset, .unset, .unset] [])
    refine Go.on (fun _ k => XS.iloadN X2.here hx rfl (hb hby at_64) rfl k) ?_
    show Go _ _ _ _ _ _ _ _ (mkF m 65 #[.val (.int i0), .val (.int i1), .val (.int i2), .val (.int (0 : Int32)), .val (.long ja), .second, .val (.long jb), .second, .val (.long jc), .second, .val (.ref q), .unset, .unset, .unset, .unset, .unset, .unset, .unset, .unset] [(.int (0 : Int32))])
    refine Go.on (fun _ k => XS.iconst X2.here hx rfl (hb hby at_65) k) ?_
    show Go _ _ _ _ _ _ _ _ (mkF m 66 #[.val (.int i0), .val (.int i1), .val (.int i2), .val (.int (0 : Int32)), .val (.long ja), .second, .val (.long jb), .second, .val (.long jc), .second, .val (.ref q), .unset, .unset, .unset, .unset, .unset, .unset, .unset, .unset] [(.int (3 : Int32)), (.int (0 : Int32))])
    have hc5 : (0 : Int32) < (3 : Int32) := by decide
    refine Go.on (fun _ k => XS.icmpYes X2.here hx rfl (pc0 := 66) (pc' := 77) rfl (hb hby at_66) rfl (tlt hc5).1 (by decide) (by decide) k) ?_
    show Go _ _ _ _ _ _ _ _ (mkF m 77 #[.val (.int i0), .val (.int i1), .val (.int i2), .val (.int (0 : Int32)), .val (.long ja), .second, .val (.long jb), .second, .val (.long jc), .second, .val (.ref q), .unset, .unset, .unset, .unset, .unset, .unset, .unset, .unset] [])
    refine Go.on (fun _ k => XS.aload X2.here hx rfl (hb hby at_77) rfl rfl k) ?_
    show Go _ _ _ _ _ _ _ _ (mkF m 79 #[.val (.int i0), .val (.int i1), .val (.int i2), .val (.int (0 : Int32)), .val (.long ja), .second, .val (.long jb), .second, .val (.long jc), .second, .val (.ref q), .unset, .unset, .unset, .unset, .unset, .unset, .unset, .unset] [(.ref q)])
    obtain ⟨cq6, kq6, q6a, q6b, q6c⟩ := isOf hZ e2 E_q
    obtain ⟨_, _, ⟨T6, L6, k6, n6⟩, -, X6, ⟨Lc6, hQ6, l6, y6, z6⟩, st6⟩ := X2.virtualBack hx (y := (⟨"com/example/parley/parley/replication/SampleStatistics", "getCount", "()J"⟩ : MethodName)) (z := (⟨"com/example/parley/parley/replication/SampleStatistics", "getCount", "()J"⟩ : MethodName)) hown (mvT hZ (hw _ (List.mem_of_getElem? (i := 22) rfl))) (mvT hZ (hw _ (List.mem_of_getElem? (i := 23) rfl))) (notFace_of_selects (args := #[]) (mvT hZ (hw _ (List.mem_of_getElem? (i := 25) rfl)))) (mvT hZ (hw _ (List.mem_of_getElem? (i := 25) rfl))) (mvT hZ (hw _ (List.mem_of_getElem? (i := 24) rfl))) (by decide) (backOf (W := 0) (rm4 l Z aw hw [] q (0 : Int64) h1 n0 ZZ F_count_q) hZ (hw _ (List.mem_of_getElem? (i := 26) rfl)) (hw _ (List.mem_of_getElem? (i := 4) rfl)) (by decide) (by decide)) q6a q6c (g := (mkF m 79 #[.val (.int i0), .val (.int i1), .val (.int i2), .val (.int (0 : Int32)), .val (.long ja), .second, .val (.long jb), .second, .val (.long jc), .second, .val (.ref q), .unset, .unset, .unset, .unset, .unset, .unset, .unset, .unset] [(.ref q)])) rfl (by rw [hml]; rfl) (Steps.refl _) (argsL := []) (rest := []) (lenOf pd_4 rfl) rfl (by show 2 * 0 + _ ≤ _; exact Nat.le_of_eq rfl) (hb hby at_79) (fun _ _ => ⟨rfl, e2, (by decide : 1 + 0 ≤ _), (by decide : 3 + 0 ≤ _)⟩)
    dsimp only [Pt.U, Pt.locs, Pt.cells, Pt.slots] at X6 l6 y6 z6 st6 hQ6
    subst l6 y6 z6
    obtain ⟨rfl, N6q, e6⟩ := hQ6
    have N6 := Fr.app N2 N6q
    refine Go.on (fun _ k => st6.trans k) ?_
    show Go _ _ _ _ _ _ _ _ (mkF m 82 #[.val (.int i0), .val (.int i1), .val (.int i2), .val (.int (0 : Int32)), .val (.long ja), .second, .val (.long jb), .second, .val (.long jc), .second, .val (.ref q), .unset, .unset, .unset, .unset, .unset, .unset, .unset, .unset] [(.long (0 : Int64))])
    refine Go.on (fun _ k => XS.iloadN X6.here hx rfl (hb hby at_82) rfl k) ?_
    show Go _ _ _ _ _ _ _ _ (mkF m 83 #[.val (.int i0), .val (.int i1), .val (.int i2), .val (.int (0 : Int32)), .val (.long ja), .second, .val (.long jb), .second, .val (.long jc), .second, .val (.ref q), .unset, .unset, .unset, .unset, .unset, .unset, .unset, .unset] [(.int (0 : Int32)), (.long (0 : Int64))])
    refine Go.on (fun _ k => XS.i2l X6.here hx rfl (hb hby at_83) rfl k) ?_
    show Go _ _ _ _ _ _ _ _ (mkF m 84 #[.val (.int i0), .val (.int i1), .val (.int i2), .val (.int (0 : Int32)), .val (.long ja), .second, .val (.long jb), .second, .val (.long jc), .second, .val (.ref q), .unset, .unset, .unset, .unset, .unset, .unset, .unset, .unset] [(.long ((0 : Int32).toInt64)), (.long (0 : Int64))])
    refine Go.on (fun _ k => XS.lcmp X6.here hx rfl (hb hby at_84) rfl k) ?_
    show Go _ _ _ _ _ _ _ _ (mkF m 85 #[.val (.int i0), .val (.int i1), .val (.int i2), .val (.int (0 : Int32)), .val (.long ja), .second, .val (.long jb), .second, .val (.long jc), .second, .val (.ref q), .unset, .unset, .unset, .unset, .unset, .unset, .unset, .unset] [(.int (lcmpW (0 : Int64) ((0 : Int32).toInt64)))])
    have hc7 : (0 : Int64) = ((0 : Int32).toInt64) := by decide
    refine Go.on (fun _ k => XS.ifYes X6.here hx rfl (pc0 := 85) (pc' := 90) rfl (hb hby at_85) rfl ((if0 _ _).trans (teq (own_lc_eq.mpr hc7)).1) (by decide) (by decide) k) ?_
    show Go _ _ _ _ _ _ _ _ (mkF m 90 #[.val (.int i0), .val (.int i1), .val (.int i2), .val (.int (0 : Int32)), .val (.long ja), .second, .val (.long jb), .second, .val (.long jc), .second, .val (.ref q), .unset, .unset, .unset, .unset, .unset, .unset, .unset, .unset] [])
    refine Go.on (fun _ k => XS.aload X6.here hx rfl (hb hby at_90) rfl rfl k) ?_
    show Go _ _ _ _ _ _ _ _ (mkF m 92 #[.val (.int i0), .val (.int i1), .val (.int i2), .val (.int (0 : Int32)), .val (.long ja), .second, .val (.long jb), .second, .val (.long jc), .second, .val (.ref q), .unset, .unset, .unset, .unset, .unset, .unset, .unset, .unset] [(.ref q)])
    obtain ⟨cq8, kq8, q8a, q8b, q8c⟩ := isOf hZ e6 E_q
    obtain ⟨_, _, ⟨T8, L8, k8, n8⟩, -, X8, ⟨Lc8, hQ8, l8, y8, z8⟩, st8⟩ := X6.virtualBack hx (y := (⟨"com/example/parley/parley/replication/SampleStatistics", "getMean", "()Ljava/util/OptionalDouble;"⟩ : MethodName)) (z := (⟨"com/example/parley/parley/replication/SampleStatistics", "getMean", "()Ljava/util/OptionalDouble;"⟩ : MethodName)) hown (mvT hZ (hw _ (List.mem_of_getElem? (i := 27) rfl))) (mvT hZ (hw _ (List.mem_of_getElem? (i := 28) rfl))) (notFace_of_selects (args := #[]) (mvT hZ (hw _ (List.mem_of_getElem? (i := 30) rfl)))) (mvT hZ (hw _ (List.mem_of_getElem? (i := 30) rfl))) (mvT hZ (hw _ (List.mem_of_getElem? (i := 29) rfl))) (by decide) (backOf (W := 0) (gm_e l Z aw hw [] q em h1 n0 ZZ F_count_q S_EMPTY) hZ (hw _ (List.mem_of_getElem? (i := 31) rfl)) (hw _ (List.mem_of_getElem? (i := 4) rfl)) (by decide) (by decide)) q8a q8c (g := (mkF m 92 #[.val (.int i0), .val (.int i1), .val (.int i2), .val (.int (0 : Int32)), .val (.long ja), .second, .val (.long jb), .second, .val (.long jc), .second, .val (.ref q), .unset, .unset, .unset, .unset, .unset, .unset, .unset, .unset] [(.ref q)])) rfl (by rw [hml]; rfl) (Steps.refl _) (argsL := []) (rest := []) (lenOf pd_1 rfl) rfl (by show 2 * 0 + _ ≤ _; exact Nat.le_of_eq rfl) (hb hby at_92) (fun _ _ => ⟨rfl, e6, (by decide : 1 + 0 ≤ _), (by decide : 3 + 0 ≤ _)⟩)
    dsimp only [Pt.U, Pt.locs, Pt.cells, Pt.slots] at X8 l8 y8 z8 st8 hQ8
    subst l8 y8 z8
    obtain ⟨rfl, N8q, e8⟩ := hQ8
    have N8 := Fr.app N6 N8q
    refine Go.on (fun _ k => st8.trans k) ?_
    show Go _ _ _ _ _ _ _ _ (mkF m 95 #[.val (.int i0), .val (.int i1), .val (.int i2), .val (.int (0 : Int32)), .val (.long ja), .second, .val (.long jb), .second, .val (.long jc), .second, .val (.ref q), .unset, .unset, .unset, .unset, .unset, .unset, .unset, .unset] [(.ref em)])
    refine Go.on (fun _ k => XS.astore X8.here hx rfl (hb hby at_95) rfl rfl (l' := #[.val (.int i0), .val (.int i1), .val (.int i2), .val (.int (0 : Int32)), .val (.long ja), .second, .val (.long jb), .second, .val (.long jc), .second, .val (.ref q), .val (.ref em), .unset, .unset, .unset, .unset, .unset, .unset, .unset]) rfl k) ?_
    show Go _ _ _ _ _ _ _ _ (mkF m 97 #[.val (.int i0), .val (.int i1), .val (.int i2), .val (.int (0 : Int32)), .val (.long ja), .second, .val (.long jb), .second, .val (.long jc), .second, .val (.ref q), .val (.ref em), .unset, .unset, .unset, .unset, .unset, .unset, .unset] [])
    refine Go.on (fun _ k => XS.aload X8.here hx rfl (hb hby at_97) rfl rfl k) ?_
    show Go _ _ _ _ _ _ _ _ (mkF m 99 #[.val (.int i0), .val (.int i1), .val (.int i2), .val (.int (0 : Int32)), .val (.long ja), .second, .val (.long jb), .second, .val (.long jc), .second, .val (.ref q), .val (.ref em), .unset, .unset, .unset, .unset, .unset, .unset, .unset] [(.ref q)])
    obtain ⟨cq9, kq9, q9a, q9b, q9c⟩ := isOf hZ e8 E_q
    obtain ⟨_, _, ⟨T9, L9, k9, n9⟩, -, X9, ⟨Lc9, hQ9, l9, y9, z9⟩, st9⟩ := X8.virtualBack hx (y := (⟨"com/example/parley/parley/replication/SampleStatistics", "getVariance", "()Ljava/util/OptionalDouble;"⟩ : MethodName)) (z := (⟨"com/example/parley/parley/replication/SampleStatistics", "getVariance", "()Ljava/util/OptionalDouble;"⟩ : MethodName)) hown (mvT hZ (hw _ (List.mem_of_getElem? (i := 47) rfl))) (mvT hZ (hw _ (List.mem_of_getElem? (i := 48) rfl))) (notFace_of_selects (args := #[]) (mvT hZ (hw _ (List.mem_of_getElem? (i := 50) rfl)))) (mvT hZ (hw _ (List.mem_of_getElem? (i := 50) rfl))) (mvT hZ (hw _ (List.mem_of_getElem? (i := 49) rfl))) (by decide) (backOf (W := 0) (gv_e l Z aw hw [] q (0 : Int64) em h1 n0 ZZ F_count_q S_EMPTY (by decide)) hZ (hw _ (List.mem_of_getElem? (i := 51) rfl)) (hw _ (List.mem_of_getElem? (i := 4) rfl)) (by decide) (by decide)) q9a q9c (g := (mkF m 99 #[.val (.int i0), .val (.int i1), .val (.int i2), .val (.int (0 : Int32)), .val (.long ja), .second, .val (.long jb), .second, .val (.long jc), .second, .val (.ref q), .val (.ref em), .unset, .unset, .unset, .unset, .unset, .unset, .unset] [(.ref q)])) rfl (by rw [hml]; rfl) (Steps.refl _) (argsL := []) (rest := []) (lenOf pd_1 rfl) rfl (by show 2 * 0 + _ ≤ _; exact Nat.le_of_eq rfl) (hb hby at_99) (fun _ _ => ⟨rfl, e8, (by decide : 1 + 0 ≤ _), (by decide : 3 + 0 ≤ _)⟩)
    dsimp only [Pt.U, Pt.locs, Pt.cells, Pt.slots] at X9 l9 y9 z9 st9 hQ9
    subst l9 y9 z9
    obtain ⟨rfl, N9q, e9⟩ := hQ9
    have N9 := Fr.app N8 N9q
    refine Go.on (fun _ k => st9.trans k) ?_
    show Go _ _ _ _ _ _ _ _ (mkF m 102 #[.val (.int i0), .val (.int i1), .val (.int i2), .val (.int (0 : Int32)), .val (.long ja), .second, .val (.long jb), .second, .val (.long jc), .second, .val (.ref q), .val (.ref em), .unset, .unset, .unset, .unset, .unset, .unset, .unset] [(.ref em)])
    refine Go.on (fun _ k => XS.astore X9.here hx rfl (hb hby at_102) rfl rfl (l' := #[.val (.int i0), .val (.int i1), .val (.int i2), .val (.int (0 : Int32)), .val (.long ja), .second, .val (.long jb), .second, .val (.long jc), .second, .val (.ref q), .val (.ref em), .val (.ref em), .unset, .unset, .unset, .unset, .unset, .unset]) rfl k) ?_
    show Go _ _ _ _ _ _ _ _ (mkF m 104 #[.val (.int i0), .val (.int i1), .val (.int i2), .val (.int (0 : Int32)), .val (.long ja), .second, .val (.long jb), .second, .val (.long jc), .second, .val (.ref q), .val (.ref em), .val (.ref em), .unset, .unset, .unset, .unset, .unset, .unset] [])
    refine Go.on (fun _ k => XS.iloadN X9.here hx rfl (hb hby at_104) rfl k) ?_
    show Go _ _ _ _ _ _ _ _ (mkF m 105 #[.val (.int i0), .val (.int i1), .val (.int i2), .val (.int (0 : Int32)), .val (.long ja), .second, .val (.long jb), .second, .val (.long jc), .second, .val (.ref q), .val (.ref em), .val (.ref em), .unset, .unset, .unset, .unset, .unset, .unset] [(.int (0 : Int32))])
    have hc10 : (0 : Int32) = (0 : Int32) := by decide
    refine Go.on (fun _ k => XS.ifNo X9.here hx rfl (hb hby at_105) rfl ((if0 _ _).trans (teq hc10).2) k) ?_
    show Go _ _ _ _ _ _ _ _ (mkF m 108 #[.val (.int i0), .val (.int i1), .val (.int i2), .val (.int (0 : Int32)), .val (.long ja), .second, .val (.long jb), .second, .val (.long jc), .second, .val (.ref q), .val (.ref em), .val (.ref em), .unset, .unset, .unset, .unset, .unset, .unset] [])
    refine Go.on (fun _ k => XS.aload X9.here hx rfl (hb hby at_108) rfl rfl k) ?_
    show Go _ _ _ _ _ _ _ _ (mkF m 110 #[.val (.int i0), .val (.int i1), .val (.int i2), .val (.int (0 : Int32)), .val (.long ja), .second, .val (.long jb), .second, .val (.long jc), .second, .val (.ref q), .val (.ref em), .val (.ref em), .unset, .unset, .unset, .unset, .unset, .unset] [(.ref em)])
    obtain ⟨cq11, kq11, q11a, q11b, q11c⟩ := isOf hZ e9 E_em
    obtain ⟨_, _, ⟨T11, L11, k11, n11⟩, -, X11, ⟨Lc11, hQ11, l11, y11, z11⟩, st11⟩ := X9.virtualBack hx (y := (⟨"java/util/OptionalDouble", "isPresent", "()Z"⟩ : MethodName)) (z := (⟨"java/util/OptionalDouble", "isPresent", "()Z"⟩ : MethodName)) hown (mvT hZ (hw _ (List.mem_of_getElem? (i := 53) rfl))) (mvT hZ (hw _ (List.mem_of_getElem? (i := 54) rfl))) (notFace_of_selects (args := #[]) (mvT hZ (hw _ (List.mem_of_getElem? (i := 56) rfl)))) (mvT hZ (hw _ (List.mem_of_getElem? (i := 56) rfl))) (mvT hZ (hw _ (List.mem_of_getElem? (i := 55) rfl))) (by decide) (backOf (W := 0) (rm9 l Z aw hw [] em (0 : Int32) h1 n0 ZZ F_isPresent_em (by decide)) hZ (hw _ (List.mem_of_getElem? (i := 57) rfl)) (hw _ (List.mem_of_getElem? (i := 34) rfl)) (by decide) (by decide)) q11a q11c (g := (mkF m 110 #[.val (.int i0), .val (.int i1), .val (.int i2), .val (.int (0 : Int32)), .val (.long ja), .second, .val (.long jb), .second, .val (.long jc), .second, .val (.ref q), .val (.ref em), .val (.ref em), .unset, .unset, .unset, .unset, .unset, .unset] [(.ref em)])) rfl (by rw [hml]; rfl) (Steps.refl _) (argsL := []) (rest := []) (lenOf pd_5 rfl) rfl (by show 2 * 0 + _ ≤ _; exact Nat.le_of_eq rfl) (hb hby at_110) (fun _ _ => ⟨rfl, e9, (by decide : 1 + 0 ≤ _), (by decide : 3 + 0 ≤ _)⟩)
    dsimp only [Pt.U, Pt.locs, Pt.cells, Pt.slots] at X11 l11 y11 z11 st11 hQ11
    subst l11 y11 z11
    obtain ⟨rfl, N11q, e11⟩ := hQ11
    have N11 := Fr.app N9 N11q
    refine Go.on (fun _ k => st11.trans k) ?_
    show Go _ _ _ _ _ _ _ _ (mkF m 113 #[.val (.int i0), .val (.int i1), .val (.int i2), .val (.int (0 : Int32)), .val (.long ja), .second, .val (.long jb), .second, .val (.long jc), .second, .val (.ref q), .val (.ref em), .val (.ref em), .unset, .unset, .unset, .unset, .unset, .unset] [(.int (0 : Int32))])
    have hc12 : (0 : Int32) = (0 : Int32) := by decide
    refine Go.on (fun _ k => XS.ifNo X11.here hx rfl (hb hby at_113) rfl ((if0 _ _).trans (teq hc12).2) k) ?_
    show Go _ _ _ _ _ _ _ _ (mkF m 116 #[.val (.int i0), .val (.int i1), .val (.int i2), .val (.int (0 : Int32)), .val (.long ja), .second, .val (.long jb), .second, .val (.long jc), .second, .val (.ref q), .val (.ref em), .val (.ref em), .unset, .unset, .unset, .unset, .unset, .unset] [])
    refine Go.on (fun _ k => XS.aload X11.here hx rfl (hb hby at_116) rfl rfl k) ?_
    show Go _ _ _ _ _ _ _ _ (mkF m 118 #[.val (.int i0), .val (.int i1), .val (.int i2), .val (.int (0 : Int32)), .val (.long ja), .second, .val (.long jb), .second, .val (.long jc), .second, .val (.ref q), .val (.ref em), .val (.ref em), .unset, .unset, .unset, .unset, .unset, .unset] [(.ref em)])
    obtain ⟨cq13, kq13, q13a, q13b, q13c⟩ := isOf hZ e11 E_em
    obtain ⟨_, _, ⟨T13, L13, k13, n13⟩, -, X13, ⟨Lc13, hQ13, l13, y13, z13⟩, st13⟩ := X11.virtualBack hx (y := (⟨"java/util/OptionalDouble", "isPresent", "()Z"⟩ : MethodName)) (z := (⟨"java/util/OptionalDouble", "isPresent", "()Z"⟩ : MethodName)) hown (mvT hZ (hw _ (List.mem_of_getElem? (i := 53) rfl))) (mvT hZ (hw _ (List.mem_of_getElem? (i := 54) rfl))) (notFace_of_selects (args := #[]) (mvT hZ (hw _ (List.mem_of_getElem? (i := 56) rfl)))) (mvT hZ (hw _ (List.mem_of_getElem? (i := 56) rfl))) (mvT hZ (hw _ (List.mem_of_getElem? (i := 55) rfl))) (by decide) (backOf (W := 0) (rm9 l Z aw hw [] em (0 : Int32) h1 n0 ZZ F_isPresent_em (by decide)) hZ (hw _ (List.mem_of_getElem? (i := 57) rfl)) (hw _ (List.mem_of_getElem? (i := 34) rfl)) (by decide) (by decide)) q13a q13c (g := (mkF m 118 #[.val (.int i0), .val (.int i1), .val (.int i2), .val (.int (0 : Int32)), .val (.long ja), .second, .val (.long jb), .second, .val (.long jc), .second, .val (.ref q), .val (.ref em), .val (.ref em), .unset, .unset, .unset, .unset, .unset, .unset] [(.ref em)])) rfl (by rw [hml]; rfl) (Steps.refl _) (argsL := []) (rest := []) (lenOf pd_5 rfl) rfl (by show 2 * 0 + _ ≤ _; exact Nat.le_of_eq rfl) (hb hby at_118) (fun _ _ => ⟨rfl, e11, (by decide : 1 + 0 ≤ _), (by decide : 3 + 0 ≤ _)⟩)
    dsimp only [Pt.U, Pt.locs, Pt.cells, Pt.slots] at X13 l13 y13 z13 st13 hQ13
    subst l13 y13 z13
    obtain ⟨rfl, N13q, e13⟩ := hQ13
    have N13 := Fr.app N11 N13q
    refine Go.on (fun _ k => st13.trans k) ?_
    show Go _ _ _ _ _ _ _ _ (mkF m 121 #[.val (.int i0), .val (.int i1), .val (.int i2), .val (.int (0 : Int32)), .val (.long ja), .second, .val (.long jb), .second, .val (.long jc), .second, .val (.ref q), .val (.ref em), .val (.ref em), .unset, .unset, .unset, .unset, .unset, .unset] [(.int (0 : Int32))])
    have hc14 : (0 : Int32) = (0 : Int32) := by decide
    refine Go.on (fun _ k => XS.ifNo X13.here hx rfl (hb hby at_121) rfl ((if0 _ _).trans (teq hc14).2) k) ?_
    show Go _ _ _ _ _ _ _ _ (mkF m 124 #[.val (.int i0), .val (.int i1), .val (.int i2), .val (.int (0 : Int32)), .val (.long ja), .second, .val (.long jb), .second, .val (.long jc), .second, .val (.ref q), .val (.ref em), .val (.ref em), .unset, .unset, .unset, .unset, .unset, .unset] [])
    refine Go.on (fun _ k => XS.iconst X13.here hx rfl (hb hby at_124) k) ?_
    show Go _ _ _ _ _ _ _ _ (mkF m 125 #[.val (.int i0), .val (.int i1), .val (.int i2), .val (.int (0 : Int32)), .val (.long ja), .second, .val (.long jb), .second, .val (.long jc), .second, .val (.ref q), .val (.ref em), .val (.ref em), .unset, .unset, .unset, .unset, .unset, .unset] [(.int (1 : Int32))])
    refine Go.on (fun _ k => XS.goto X13.here hx rfl (pc0 := 125) (pc' := 129) rfl (hb hby at_125) (by decide) (by decide) k) ?_
    show Go _ _ _ _ _ _ _ _ (mkF m 129 #[.val (.int i0), .val (.int i1), .val (.int i2), .val (.int (0 : Int32)), .val (.long ja), .second, .val (.long jb), .second, .val (.long jc), .second, .val (.ref q), .val (.ref em), .val (.ref em), .unset, .unset, .unset, .unset, .unset, .unset] [(.int (1 : Int32))])
    refine Go.retN X13 hx (t := .boolean) Bd.returns (by simp) (hb hby at_129) ?_ (by rw [hK1]; decide) (by rw [hK2]; decide)
    rw [e13, ← hQQ]
    exact ⟨rfl, N13⟩
  · -- 1 values
    subst hk
    show Go _ _ _ _ _ _ _ _ (mkF m 29 #[.val (.int i0), .val (.int i1), .val (.int i2), .val (.int (1 : Int32)), .val (.long ja), .second, .val (.long jb), .second, .val (.long jc), .second, .unset, .unset, .unset, .unset, .unset, .unset, .unset, .unset, .unset] [])
    obtain ⟨T15, h15, X15, e15, E15, A15, D15, -, st15⟩ := newO X0 hx hZ hown (hw _ (List.mem_of_getElem? (i := 2) rfl)) (hw _ (List.mem_of_getElem? (i := 3) rfl)) (hw _ (List.mem_of_getElem? (i := 4) rfl)) e0 (g := (mkF m 29 #[.val (.int i0), .val (.int i1), .val (.int i2), .val (.int (1 : Int32)), .val (.long ja), .second, .val (.long jb), .second, .val (.long jc), .second, .unset, .unset, .unset, .unset, .unset, .unset, .unset, .unset, .unset] [])) rfl (hb hby at_29) (by decide) (by decide)
    obtain ⟨q, g15⟩ : ∃ z, z = h0.size := ⟨_, rfl⟩
    have ne_em_q : em ≠ q := Nat.ne_of_lt (Nat.lt_of_lt_of_le E_em.lt (Nat.le_of_eq g15.symm))
    have g_q : n0 ≤ q := Nat.le_trans ZZ (Nat.le_of_eq g15.symm)
    rw [← g15] at A15 D15 st15
    replace S_EMPTY := S_EMPTY.ext E15
    replace E_em := E_em.ext E15
    replace F_isPresent_em := F_isPresent_em.ext E15
    replace ZZ := Nat.le_trans ZZ E15.1
    have E_q := A15
    have F_count_q : Fld Z h15 q "com/example/parley/parley/replication/SampleStatistics" "count" "J" (.long (0 : Int64)) := D15 (Or.inl (hw _ (List.mem_of_getElem? (i := 17) rfl))) (ty := .long) (by decide)
    have F_mean_q : Fld Z h15 q "com/example/parley/parley/replication/SampleStatistics" "mean" "D" (.double (0 : UInt64)) := D15 (Or.inl (hw _ (List.mem_of_getElem? (i := 19) rfl))) (ty := .double) (by decide)
    have F_sumOfSquaredDeviations_q : Fld Z h15 q "com/example/parley/parley/replication/SampleStatistics" "sumOfSquaredDeviations" "D" (.double (0 : UInt64)) := D15 (Or.inl (hw _ (List.mem_of_getElem? (i := 21) rfl))) (ty := .double) (by decide)
    refine Go.on st15 ?_
    show Go _ _ _ _ _ _ _ _ (mkF m 32 #[.val (.int i0), .val (.int i1), .val (.int i2), .val (.int (1 : Int32)), .val (.long ja), .second, .val (.long jb), .second, .val (.long jc), .second, .unset, .unset, .unset, .unset, .unset, .unset, .unset, .unset, .unset] [(.ref q)])
    refine Go.on (fun _ k => XS.dup X15.here hx rfl (hb hby at_32) rfl rfl k) ?_
    show Go _ _ _ _ _ _ _ _ (mkF m 33 #[.val (.int i0), .val (.int i1), .val (.int i2), .val (.int (1 : Int32)), .val (.long ja), .second, .val (.long jb), .second, .val (.long jc), .second, .unset, .unset, .unset, .unset, .unset, .unset, .unset, .unset, .unset] [(.ref q), (.ref q)])
    obtain ⟨_, _, ⟨T16, L16, k16, n16⟩, -, X16, ⟨Lc16, hQ16, l16, y16, z16⟩, st16⟩ := X15.specialBack hx (y := (⟨"com/example/parley/parley/replication/SampleStatistics", "<init>", "()V"⟩ : MethodName)) rfl hown (mvT hZ (hw _ (List.mem_of_getElem? (i := 5) rfl))) (mvT hZ (hw _ (List.mem_of_getElem? (i := 6) rfl))) (mvT hZ (hw _ (List.mem_of_getElem? (i := 7) rfl))) (by decide) (backOf (W := 1) (rm1 l Z aw hw [] q  h15 n0 ZZ ) hZ (hw _ (List.mem_of_getElem? (i := 7) rfl)) (hw _ (List.mem_of_getElem? (i := 4) rfl)) (by decide) (by decide)) (g := (mkF m 33 #[.val (.int i0), .val (.int i1), .val (.int i2), .val (.int (1 : Int32)), .val (.long ja), .second, .val (.long jb), .second, .val (.long jc), .second, .unset, .unset, .unset, .unset, .unset, .unset, .unset, .unset, .unset] [(.ref q), (.ref q)])) rfl (by rw [hml]; rfl) (Steps.refl _) (a := q) (argsL := []) (rest := [(.ref q)]) (lenOf pd_3 rfl) rfl (by show 2 * 0 + _ ≤ _; exact Nat.le_of_eq rfl) (hb hby at_33) (fun _ _ => ⟨rfl, e15, (by decide : 1 + 0 ≤ _), (by decide : 3 + 0 ≤ _)⟩)
    dsimp only [Pt.U, Pt.locs, Pt.cells, Pt.slots] at X16 l16 y16 z16 st16 hQ16
    subst l16 y16 z16
    obtain ⟨rfl, N16q, e16⟩ := hQ16
    have N16 := Fr.app N0 N16q
    refine Go.on (fun _ k => st16.trans k) ?_
    show Go _ _ _ _ _ _ _ _ (mkF m 36 #[.val (.int i0), .val (.int i1), .val (.int i2), .val (.int (1 : Int32)), .val (.long ja), .second, .val (.long jb), .second, .val (.long jc), .second, .unset, .unset, .unset, .unset, .unset, .unset, .unset, .unset, .unset] [(.ref q)])
    refine Go.on (fun _ k => XS.astore X16.here hx rfl (hb hby at_36) rfl rfl (l' := #[.val (.int i0), .val (.int i1), .val (.int i2), .val (.int (1 : Int32)), .val (.long ja), .second, .val (.long jb), .second, .val (.long jc), .second, .val (.ref q), .unset, .unset, .unset, .unset, .unset, .unset, .unset, .unset]) rfl k) ?_
    show Go _ _ _ _ _ _ _ _ (mkF m 38 #[.val (.int i0), .val (.int i1), .val (.int i2), .val (.int (1 : Int32)), .val (.long ja), .second, .val (.long jb), .second, .val (.long jc), .second, .val (.ref q), .unset, .unset, .unset, .unset, .unset, .unset, .unset, .unset] [])
    refine Go.on (fun _ k => XS.iloadN X16.here hx rfl (hb hby at_38) rfl k) ?_
    show Go _ _ _ _ _ _ _ _ (mkF m 39 #[.val (.int i0), .val (.int i1), .val (.int i2), .val (.int (1 : Int32)), .val (.long ja), .second, .val (.long jb), .second, .val (.long jc), .second, .val (.ref q), .unset, .unset, .unset, .unset, .unset, .unset, .unset, .unset] [(.int (1 : Int32))])
    refine Go.on (fun _ k => XS.iconst X16.here hx rfl (hb hby at_39) k) ?_
    show Go _ _ _ _ _ _ _ _ (mkF m 40 #[.val (.int i0), .val (.int i1), .val (.int i2), .val (.int (1 : Int32)), .val (.long ja), .second, .val (.long jb), .second, .val (.long jc), .second, .val (.ref q), .unset, .unset, .unset, .unset, .unset, .unset, .unset, .unset] [(.int (1 : Int32)), (.int (1 : Int32))])
    have hc17 : ¬ ((1 : Int32) < (1 : Int32)) := by decide
    refine Go.on (fun _ k => XS.icmpNo X16.here hx rfl (hb hby at_40) rfl (flt hc17).1 k) ?_
    show Go _ _ _ _ _ _ _ _ (mkF m 43 #[.val (.int i0), .val (.int i1), .val (.int i2), .val (.int (1 : Int32)), .val (.long ja), .second, .val (.long jb), .second, .val (.long jc), .second, .val (.ref q), .unset, .unset, .unset, .unset, .unset, .unset, .unset, .unset] [])
    refine Go.on (fun _ k => XS.aload X16.here hx rfl (hb hby at_43) rfl rfl k) ?_
    show Go _ _ _ _ _ _ _ _ (mkF m 45 #[.val (.int i0), .val (.int i1), .val (.int i2), .val (.int (1 : Int32)), .val (.long ja), .second, .val (.long jb), .second, .val (.long jc), .second, .val (.ref q), .unset, .unset, .unset, .unset, .unset, .unset, .unset, .unset] [(.ref q)])
    refine Go.on (fun _ k => XS.lload X16.here hx rfl (hb hby at_45) rfl k) ?_
    show Go _ _ _ _ _ _ _ _ (mkF m 47 #[.val (.int i0), .val (.int i1), .val (.int i2), .val (.int (1 : Int32)), .val (.long ja), .second, .val (.long jb), .second, .val (.long jc), .second, .val (.ref q), .unset, .unset, .unset, .unset, .unset, .unset, .unset, .unset] [(.long ja), (.ref q)])
    refine Go.on (fun _ k => XS.l2dS X16.here hx rfl (hb hby at_47) rfl rfl k) ?_
    show Go _ _ _ _ _ _ _ _ (mkF m 48 #[.val (.int i0), .val (.int i1), .val (.int i2), .val (.int (1 : Int32)), .val (.long ja), .second, .val (.long jb), .second, .val (.long jc), .second, .val (.ref q), .unset, .unset, .unset, .unset, .unset, .unset, .unset, .unset] [(.double (FP.l2d ja)), (.ref q)])
    have hAd1 := own_first ha
    obtain ⟨cq18, kq18, q18a, q18b, q18c⟩ := isOf hZ e16 E_q
    obtain ⟨_, _, ⟨T18, L18, k18, n18⟩, -, X18, ⟨Lc18, hQ18, l18, y18, z18⟩, st18⟩ := X16.virtualBack hx (y := (⟨"com/example/parley/parley/replication/SampleStatistics", "add", "(D)V"⟩ : MethodName)) (z := (⟨"com/example/parley/parley/replication/SampleStatistics", "add", "(D)V"⟩ : MethodName)) hown (mvT hZ (hw _ (List.mem_of_getElem? (i := 11) rfl))) (mvT hZ (hw _ (List.mem_of_getElem? (i := 12) rfl))) (notFace_of_selects (args := #[]) (mvT hZ (hw _ (List.mem_of_getElem? (i := 14) rfl)))) (mvT hZ (hw _ (List.mem_of_getElem? (i := 14) rfl))) (mvT hZ (hw _ (List.mem_of_getElem? (i := 13) rfl))) (by decide) (backOf (W := 0) (rm3 l Z aw hw [] q (FP.l2d ja) (0 : Int64) (0 : UInt64) (0 : UInt64) h15 n0 ZZ E_q F_count_q F_mean_q F_sumOfSquaredDeviations_q g_q hAd1.1 hAd1.2.1 hAd1.2.2.1 hAd1.2.2.2.1 hAd1.2.2.2.2.1 hAd1.2.2.2.2.2.1) hZ (hw _ (List.mem_of_getElem? (i := 15) rfl)) (hw _ (List.mem_of_getElem? (i := 4) rfl)) (by decide) (by decide)) q18a q18c (g := (mkF m 48 #[.val (.int i0), .val (.int i1), .val (.int i2), .val (.int (1 : Int32)), .val (.long ja), .second, .val (.long jb), .second, .val (.long jc), .second, .val (.ref q), .unset, .unset, .unset, .unset, .unset, .unset, .unset, .unset] [(.double (FP.l2d ja)), (.ref q)])) rfl (by rw [hml]; rfl) (Steps.refl _) (argsL := [(.double (FP.l2d ja))]) (rest := []) (lenOf pd_0 rfl) rfl (by show 2 * 0 + _ ≤ _; exact Nat.le_of_eq rfl) (hb hby at_48) (fun _ _ => ⟨rfl, e16, (by decide : 1 + 0 ≤ _), (by decide : 3 + 0 ≤ _)⟩)
    dsimp only [Pt.U, Pt.locs, Pt.cells, Pt.slots] at X18 l18 y18 z18 st18 hQ18
    subst l18 y18 z18
    obtain ⟨h18, e18⟩ : ∃ q, T18.heap = q := ⟨_, rfl⟩
    rw [e18] at hQ18
    obtain ⟨rfl, N18q, K18q, E_q', F_count_q', F_mean_q', F_sumOfSquaredDeviations_q'⟩ := hQ18
    have N18 := Fr.app N16 N18q
    replace S_EMPTY := own_sta_keep S_EMPTY K18q (own_obS (own_cell0 E_q) own_ob0)
    replace E_em := E_em.keep K18q
    replace F_isPresent_em := F_isPresent_em.keep K18q (ninS ne_em_q nin0)
    replace E_q := E_q.keep K18q
    replace ZZ := Nat.le_trans ZZ K18q.1
    replace E_q := E_q'
    have F_count_q := F_count_q'
    have F_mean_q := F_mean_q'
    have F_sumOfSquaredDeviations_q := F_sumOfSquaredDeviations_q'
    replace F_count_q : Fld Z h18 q "com/example/parley/parley/replication/SampleStatistics" "count" "J" (.long (1 : Int64)) := F_count_q
    obtain ⟨mn1, hmn1⟩ : ∃ z, z = (FP.dadd (0 : UInt64) (FP.ddiv (FP.dsub (FP.l2d ja) (0 : UInt64)) (FP.l2d ((0 : Int64) + (1 : Int64))))) := ⟨_, rfl⟩
    rw [← hmn1] at F_mean_q
    obtain ⟨sd1, hsd1⟩ : ∃ z, z = (FP.dadd (0 : UInt64) (FP.dmul (FP.dsub (FP.l2d ja) (0 : UInt64)) (FP.dsub (FP.l2d ja) (FP.dadd (0 : UInt64) (FP.ddiv (FP.dsub (FP.l2d ja) (0 : UInt64)) (FP.l2d ((0 : Int64) + (1 : Int64)))))))) := ⟨_, rfl⟩
    rw [← hsd1] at F_sumOfSquaredDeviations_q
    have Hm1 := hAd1.2.2.2.2.2.2.1
    have Hs1 := hAd1.2.2.2.2.2.2.2
    rw [← hmn1] at Hm1
    rw [← hsd1] at Hs1
    refine Go.on (fun _ k => st18.trans k) ?_
    show Go _ _ _ _ _ _ _ _ (mkF m 51 #[.val (.int i0), .val (.int i1), .val (.int i2), .val (.int (1 : Int32)), .val (.long ja), .second, .val (.long jb), .second, .val (.long jc), .second, .val (.ref q), .unset, .unset, .unset, .unset, .unset, .unset, .unset, .unset] [])
    refine Go.on (fun _ k => XS.iloadN X18.here hx rfl (hb hby at_51) rfl k) ?_
    show Go _ _ _ _ _ _ _ _ (mkF m 52 #[.val (.int i0), .val (.int i1), .val (.int i2), .val (.int (1 : Int32)), .val (.long ja), .second, .val (.long jb), .second, .val (.long jc), .second, .val (.ref q), .unset, .unset, .unset, .unset, .unset, .unset, .unset, .unset] [(.int (1 : Int32))])
    refine Go.on (fun _ k => XS.iconst X18.here hx rfl (hb hby at_52) k) ?_
    show Go _ _ _ _ _ _ _ _ (mkF m 53 #[.val (.int i0), .val (.int i1), .val (.int i2), .val (.int (1 : Int32)), .val (.long ja), .second, .val (.long jb), .second, .val (.long jc), .second, .val (.ref q), .unset, .unset, .unset, .unset, .unset, .unset, .unset, .unset] [(.int (2 : Int32)), (.int (1 : Int32))])
    have hc19 : (1 : Int32) < (2 : Int32) := by decide
    refine Go.on (fun _ k => XS.icmpYes X18.here hx rfl (pc0 := 53) (pc' := 64) rfl (hb hby at_53) rfl (tlt hc19).1 (by decide) (by decide) k) ?_
    show Go _ _ _ _ _ _ _ _ (mkF m 64 #[.val (.int i0), .val (.int i1), .val (.int i2), .val (.int (1 : Int32)), .val (.long ja), .second, .val (.long jb), .second, .val (.long jc), .second, .val (.ref q), .unset, .unset, .unset, .unset, .unset, .unset, .unset, .unset] [])
    refine Go.on (fun _ k => XS.iloadN X18.here hx rfl (hb hby at_64) rfl k) ?_
    show Go _ _ _ _ _ _ _ _ (mkF m 65 #[.val (.int i0), .val (.int i1), .val (.int i2), .val (.int (1 : Int32)), .val (.long ja), .second, .val (.long jb), .second, .val (.long jc), .second, .val (.ref q), .unset, .unset, .unset, .unset, .unset, .unset, .unset, .unset] [(.int (1 : Int32))])
    refine Go.on (fun _ k => XS.iconst X18.here hx rfl (hb hby at_65) k) ?_
    show Go _ _ _ _ _ _ _ _ (mkF m 66 #[.val (.int i0), .val (.int i1), .val (.int i2), .val (.int (1 : Int32)), .val (.long ja), .second, .val (.long jb), .second, .val (.long jc), .second, .val (.ref q), .unset, .unset, .unset, .unset, .unset, .unset, .unset, .unset] [(.int (3 : Int32)), (.int (1 : Int32))])
    have hc20 : (1 : Int32) < (3 : Int32) := by decide
    refine Go.on (fun _ k => XS.icmpYes X18.here hx rfl (pc0 := 66) (pc' := 77) rfl (hb hby at_66) rfl (tlt hc20).1 (by decide) (by decide) k) ?_
    show Go _ _ _ _ _ _ _ _ (mkF m 77 #[.val (.int i0), .val (.int i1), .val (.int i2), .val (.int (1 : Int32)), .val (.long ja), .second, .val (.long jb), .second, .val (.long jc), .second, .val (.ref q), .unset, .unset, .unset, .unset, .unset, .unset, .unset, .unset] [])
    refine Go.on (fun _ k => XS.aload X18.here hx rfl (hb hby at_77) rfl rfl k) ?_
    show Go _ _ _ _ _ _ _ _ (mkF m 79 #[.val (.int i0), .val (.int i1), .val (.int i2), .val (.int (1 : Int32)), .val (.long ja), .second, .val (.long jb), .second, .val (.long jc), .second, .val (.ref q), .unset, .unset, .unset, .unset, .unset, .unset, .unset, .unset] [(.ref q)])
    obtain ⟨cq21, kq21, q21a, q21b, q21c⟩ := isOf hZ e18 E_q
    obtain ⟨_, _, ⟨T21, L21, k21, n21⟩, -, X21, ⟨Lc21, hQ21, l21, y21, z21⟩, st21⟩ := X18.virtualBack hx (y := (⟨"com/example/parley/parley/replication/SampleStatistics", "getCount", "()J"⟩ : MethodName)) (z := (⟨"com/example/parley/parley/replication/SampleStatistics", "getCount", "()J"⟩ : MethodName)) hown (mvT hZ (hw _ (List.mem_of_getElem? (i := 22) rfl))) (mvT hZ (hw _ (List.mem_of_getElem? (i := 23) rfl))) (notFace_of_selects (args := #[]) (mvT hZ (hw _ (List.mem_of_getElem? (i := 25) rfl)))) (mvT hZ (hw _ (List.mem_of_getElem? (i := 25) rfl))) (mvT hZ (hw _ (List.mem_of_getElem? (i := 24) rfl))) (by decide) (backOf (W := 0) (rm4 l Z aw hw [] q (1 : Int64) h18 n0 ZZ F_count_q) hZ (hw _ (List.mem_of_getElem? (i := 26) rfl)) (hw _ (List.mem_of_getElem? (i := 4) rfl)) (by decide) (by decide)) q21a q21c (g := (mkF m 79 #[.val (.int i0), .val (.int i1), .val (.int i2), .val (.int (1 : Int32)), .val (.long ja), .second, .val (.long jb), .second, .val (.long jc), .second, .val (.ref q), .unset, .unset, .unset, .unset, .unset, .unset, .unset, .unset] [(.ref q)])) rfl (by rw [hml]; rfl) (Steps.refl _) (argsL := []) (rest := []) (lenOf pd_4 rfl) rfl (by show 2 * 0 + _ ≤ _; exact Nat.le_of_eq rfl) (hb hby at_79) (fun _ _ => ⟨rfl, e18, (by decide : 1 + 0 ≤ _), (by decide : 3 + 0 ≤ _)⟩)
    dsimp only [Pt.U, Pt.locs, Pt.cells, Pt.slots] at X21 l21 y21 z21 st21 hQ21
    subst l21 y21 z21
    obtain ⟨rfl, N21q, e21⟩ := hQ21
    have N21 := Fr.app N18 N21q
    refine Go.on (fun _ k => st21.trans k) ?_
    show Go _ _ _ _ _ _ _ _ (mkF m 82 #[.val (.int i0), .val (.int i1), .val (.int i2), .val (.int (1 : Int32)), .val (.long ja), .second, .val (.long jb), .second, .val (.long jc), .second, .val (.ref q), .unset, .unset, .unset, .unset, .unset, .unset, .unset, .unset] [(.long (1 : Int64))])
    refine Go.on (fun _ k => XS.iloadN X21.here hx rfl (hb hby at_82) rfl k) ?_
    show Go _ _ _ _ _ _ _ _ (mkF m 83 #[.val (.int i0), .val (.int i1), .val (.int i2), .val (.int (1 : Int32)), .val (.long ja), .second, .val (.long jb), .second, .val (.long jc), .second, .val (.ref q), .unset, .unset, .unset, .unset, .unset, .unset, .unset, .unset] [(.int (1 : Int32)), (.long (1 : Int64))])
    refine Go.on (fun _ k => XS.i2l X21.here hx rfl (hb hby at_83) rfl k) ?_
    show Go _ _ _ _ _ _ _ _ (mkF m 84 #[.val (.int i0), .val (.int i1), .val (.int i2), .val (.int (1 : Int32)), .val (.long ja), .second, .val (.long jb), .second, .val (.long jc), .second, .val (.ref q), .unset, .unset, .unset, .unset, .unset, .unset, .unset, .unset] [(.long ((1 : Int32).toInt64)), (.long (1 : Int64))])
    refine Go.on (fun _ k => XS.lcmp X21.here hx rfl (hb hby at_84) rfl k) ?_
    show Go _ _ _ _ _ _ _ _ (mkF m 85 #[.val (.int i0), .val (.int i1), .val (.int i2), .val (.int (1 : Int32)), .val (.long ja), .second, .val (.long jb), .second, .val (.long jc), .second, .val (.ref q), .unset, .unset, .unset, .unset, .unset, .unset, .unset, .unset] [(.int (lcmpW (1 : Int64) ((1 : Int32).toInt64)))])
    have hc22 : (1 : Int64) = ((1 : Int32).toInt64) := by decide
    refine Go.on (fun _ k => XS.ifYes X21.here hx rfl (pc0 := 85) (pc' := 90) rfl (hb hby at_85) rfl ((if0 _ _).trans (teq (own_lc_eq.mpr hc22)).1) (by decide) (by decide) k) ?_
    show Go _ _ _ _ _ _ _ _ (mkF m 90 #[.val (.int i0), .val (.int i1), .val (.int i2), .val (.int (1 : Int32)), .val (.long ja), .second, .val (.long jb), .second, .val (.long jc), .second, .val (.ref q), .unset, .unset, .unset, .unset, .unset, .unset, .unset, .unset] [])
    refine Go.on (fun _ k => XS.aload X21.here hx rfl (hb hby at_90) rfl rfl k) ?_
    show Go _ _ _ _ _ _ _ _ (mkF m 92 #[.val (.int i0), .val (.int i1), .val (.int i2), .val (.int (1 : Int32)), .val (.long ja), .second, .val (.long jb), .second, .val (.long jc), .second, .val (.ref q), .unset, .unset, .unset, .unset, .unset, .unset, .unset, .unset] [(.ref q)])
    obtain ⟨cq23, kq23, q23a, q23b, q23c⟩ := isOf hZ e21 E_q
    obtain ⟨_, _, ⟨T23, L23, k23, n23⟩, -, X23, ⟨Lc23, hQ23, l23, y23, z23⟩, st23⟩ := X21.virtualBack hx (y := (⟨"com/example/parley/parley/replication/SampleStatistics", "getMean", "()Ljava/util/OptionalDouble;"⟩ : MethodName)) (z := (⟨"com/example/parley/parley/replication/SampleStatistics", "getMean", "()Ljava/util/OptionalDouble;"⟩ : MethodName)) hown (mvT hZ (hw _ (List.mem_of_getElem? (i := 27) rfl))) (mvT hZ (hw _ (List.mem_of_getElem? (i := 28) rfl))) (notFace_of_selects (args := #[]) (mvT hZ (hw _ (List.mem_of_getElem? (i := 30) rfl)))) (mvT hZ (hw _ (List.mem_of_getElem? (i := 30) rfl))) (mvT hZ (hw _ (List.mem_of_getElem? (i := 29) rfl))) (by decide) (backOf (W := 0) (gm_o l Z aw hw [] q (1 : Int64) mn1 h18 n0 ZZ F_count_q F_mean_q (by decide)) hZ (hw _ (List.mem_of_getElem? (i := 31) rfl)) (hw _ (List.mem_of_getElem? (i := 4) rfl)) (by decide) (by decide)) q23a q23c (g := (mkF m 92 #[.val (.int i0), .val (.int i1), .val (.int i2), .val (.int (1 : Int32)), .val (.long ja), .second, .val (.long jb), .second, .val (.long jc), .second, .val (.ref q), .unset, .unset, .unset, .unset, .unset, .unset, .unset, .unset] [(.ref q)])) rfl (by rw [hml]; rfl) (Steps.refl _) (argsL := []) (rest := []) (lenOf pd_1 rfl) rfl (by show 2 * 0 + _ ≤ _; exact Nat.le_of_eq rfl) (hb hby at_92) (fun _ _ => ⟨rfl, e21, (by decide : 1 + 1 ≤ _), (by decide : 3 + 2 ≤ _)⟩)
    dsimp only [Pt.U, Pt.locs, Pt.cells, Pt.slots] at X23 l23 y23 z23 st23 hQ23
    subst l23 y23 z23
    obtain ⟨h23, e23⟩ : ∃ q, T23.heap = q := ⟨_, rfl⟩
    rw [e23] at hQ23
    obtain ⟨om, rfl, N23q, K23q, szq23, E_om, F_isPresent_om, F_value_om⟩ := hQ23
    have N23 := Fr.app N21 N23q
    have g_om : n0 ≤ om := Nat.le_trans ZZ szq23
    have ne_em_om : em ≠ om := Nat.ne_of_lt (Nat.lt_of_lt_of_le E_em.lt szq23)
    have ne_q_om : q ≠ om := Nat.ne_of_lt (Nat.lt_of_lt_of_le E_q.lt szq23)
    replace S_EMPTY := own_sta_keep S_EMPTY K23q own_ob0
    replace E_em := E_em.keep K23q
    replace F_isPresent_em := F_isPresent_em.keep K23q nin0
    replace E_q := E_q.keep K23q
    replace F_count_q := F_count_q.keep K23q nin0
    replace F_mean_q := F_mean_q.keep K23q nin0
    replace F_sumOfSquaredDeviations_q := F_sumOfSquaredDeviations_q.keep K23q nin0
    replace ZZ := Nat.le_trans ZZ K23q.1
    refine Go.on (fun _ k => st23.trans k) ?_
    show Go _ _ _ _ _ _ _ _ (mkF m 95 #[.val (.int i0), .val (.int i1), .val (.int i2), .val (.int (1 : Int32)), .val (.long ja), .second, .val (.long jb), .second, .val (.long jc), .second, .val (.ref q), .unset, .unset, .unset, .unset, .unset, .unset, .unset, .unset] [(.ref om)])
    refine Go.on (fun _ k => XS.astore X23.here hx rfl (hb hby at_95) rfl rfl (l' := #[.val (.int i0), .val (.int i1), .val (.int i2), .val (.int (1 : Int32)), .val (.long ja), .second, .val (.long jb), .second, .val (.long jc), .second, .val (.ref q), .val (.ref om), .unset, .unset, .unset, .unset, .unset, .unset, .unset]) rfl k) ?_
    show Go _ _ _ _ _ _ _ _ (mkF m 97 #[.val (.int i0), .val (.int i1), .val (.int i2), .val (.int (1 : Int32)), .val (.long ja), .second, .val (.long jb), .second, .val (.long jc), .second, .val (.ref q), .val (.ref om), .unset, .unset, .unset, .unset, .unset, .unset, .unset] [])
    refine Go.on (fun _ k => XS.aload X23.here hx rfl (hb hby at_97) rfl rfl k) ?_
    show Go _ _ _ _ _ _ _ _ (mkF m 99 #[.val (.int i0), .val (.int i1), .val (.int i2), .val (.int (1 : Int32)), .val (.long ja), .second, .val (.long jb), .second, .val (.long jc), .second, .val (.ref q), .val (.ref om), .unset, .unset, .unset, .unset, .unset, .unset, .unset] [(.ref q)])
    obtain ⟨cq24, kq24, q24a, q24b, q24c⟩ := isOf hZ e23 E_q
    obtain ⟨_, _, ⟨T24, L24, k24, n24⟩, -, X24, ⟨Lc24, hQ24, l24, y24, z24⟩, st24⟩ := X23.virtualBack hx (y := (⟨"com/example/parley/parley/replication/SampleStatistics", "getVariance", "()Ljava/util/OptionalDouble;"⟩ : MethodName)) (z := (⟨"com/example/parley/parley/replication/SampleStatistics", "getVariance", "()Ljava/util/OptionalDouble;"⟩ : MethodName)) hown (mvT hZ (hw _ (List.mem_of_getElem? (i := 47) rfl))) (mvT hZ (hw _ (List.mem_of_getElem? (i := 48) rfl))) (notFace_of_selects (args := #[]) (mvT hZ (hw _ (List.mem_of_getElem? (i := 50) rfl)))) (mvT hZ (hw _ (List.mem_of_getElem? (i := 50) rfl))) (mvT hZ (hw _ (List.mem_of_getElem? (i := 49) rfl))) (by decide) (backOf (W := 0) (gv_e l Z aw hw [] q (1 : Int64) em h23 n0 ZZ F_count_q S_EMPTY (by decide)) hZ (hw _ (List.mem_of_getElem? (i := 51) rfl)) (hw _ (List.mem_of_getElem? (i := 4) rfl)) (by decide) (by decide)) q24a q24c (g := (mkF m 99 #[.val (.int i0), .val (.int i1), .val (.int i2), .val (.int (1 : Int32)), .val (.long ja), .second, .val (.long jb), .second, .val (.long jc), .second, .val (.ref q), .val (.ref om), .unset, .unset, .unset, .unset, .unset, .unset, .unset] [(.ref q)])) rfl (by rw [hml]; rfl) (Steps.refl _) (argsL := []) (rest := []) (lenOf pd_1 rfl) rfl (by show 2 * 0 + _ ≤ _; exact Nat.le_of_eq rfl) (hb hby at_99) (fun _ _ => ⟨rfl, e23, (by decide : 2 + 0 ≤ _), (by decide : 5 + 0 ≤ _)⟩)
    dsimp only [Pt.U, Pt.locs, Pt.cells, Pt.slots] at X24 l24 y24 z24 st24 hQ24
    subst l24 y24 z24
    obtain ⟨rfl, N24q, e24⟩ := hQ24
    have N24 := Fr.app N23 N24q
    refine Go.on (fun _ k => st24.trans k) ?_
    show Go _ _ _ _ _ _ _ _ (mkF m 102 #[.val (.int i0), .val (.int i1), .val (.int i2), .val (.int (1 : Int32)), .val (.long ja), .second, .val (.long jb), .second, .val (.long jc), .second, .val (.ref q), .val (.ref om), .unset, .unset, .unset, .unset, .unset, .unset, .unset] [(.ref em)])
    refine Go.on (fun _ k => XS.astore X24.here hx rfl (hb hby at_102) rfl rfl (l' := #[.val (.int i0), .val (.int i1), .val (.int i2), .val (.int (1 : Int32)), .val (.long ja), .second, .val (.long jb), .second, .val (.long jc), .second, .val (.ref q), .val (.ref om), .val (.ref em), .unset, .unset, .unset, .unset, .unset, .unset]) rfl k) ?_
    show Go _ _ _ _ _ _ _ _ (mkF m 104 #[.val (.int i0), .val (.int i1), .val (.int i2), .val (.int (1 : Int32)), .val (.long ja), .second, .val (.long jb), .second, .val (.long jc), .second, .val (.ref q), .val (.ref om), .val (.ref em), .unset, .unset, .unset, .unset, .unset, .unset] [])
    refine Go.on (fun _ k => XS.iloadN X24.here hx rfl (hb hby at_104) rfl k) ?_
    show Go _ _ _ _ _ _ _ _ (mkF m 105 #[.val (.int i0), .val (.int i1), .val (.int i2), .val (.int (1 : Int32)), .val (.long ja), .second, .val (.long jb), .second, .val (.long jc), .second, .val (.ref q), .val (.ref om), .val (.ref em), .unset, .unset, .unset, .unset, .unset, .unset] [(.int (1 : Int32))])
    have hc25 : ¬ ((1 : Int32) = (0 : Int32)) := by decide
    refine Go.on (fun _ k => XS.ifYes X24.here hx rfl (pc0 := 105) (pc' := 130) rfl (hb hby at_105) rfl ((if0 _ _).trans (feq hc25).2) (by decide) (by decide) k) ?_
    show Go _ _ _ _ _ _ _ _ (mkF m 130 #[.val (.int i0), .val (.int i1), .val (.int i2), .val (.int (1 : Int32)), .val (.long ja), .second, .val (.long jb), .second, .val (.long jc), .second, .val (.ref q), .val (.ref om), .val (.ref em), .unset, .unset, .unset, .unset, .unset, .unset] [])
    refine Go.on (fun _ k => XS.aload X24.here hx rfl (hb hby at_130) rfl rfl k) ?_
    show Go _ _ _ _ _ _ _ _ (mkF m 132 #[.val (.int i0), .val (.int i1), .val (.int i2), .val (.int (1 : Int32)), .val (.long ja), .second, .val (.long jb), .second, .val (.long jc), .second, .val (.ref q), .val (.ref om), .val (.ref em), .unset, .unset, .unset, .unset, .unset, .unset] [(.ref om)])
    obtain ⟨cq26, kq26, q26a, q26b, q26c⟩ := isOf hZ e24 E_om
    obtain ⟨_, _, ⟨T26, L26, k26, n26⟩, -, X26, ⟨Lc26, hQ26, l26, y26, z26⟩, st26⟩ := X24.virtualBack hx (y := (⟨"java/util/OptionalDouble", "isPresent", "()Z"⟩ : MethodName)) (z := (⟨"java/util/OptionalDouble", "isPresent", "()Z"⟩ : MethodName)) hown (mvT hZ (hw _ (List.mem_of_getElem? (i := 53) rfl))) (mvT hZ (hw _ (List.mem_of_getElem? (i := 54) rfl))) (notFace_of_selects (args := #[]) (mvT hZ (hw _ (List.mem_of_getElem? (i := 56) rfl)))) (mvT hZ (hw _ (List.mem_of_getElem? (i := 56) rfl))) (mvT hZ (hw _ (List.mem_of_getElem? (i := 55) rfl))) (by decide) (backOf (W := 0) (rm9 l Z aw hw [] om (1 : Int32) h23 n0 ZZ F_isPresent_om (by decide)) hZ (hw _ (List.mem_of_getElem? (i := 57) rfl)) (hw _ (List.mem_of_getElem? (i := 34) rfl)) (by decide) (by decide)) q26a q26c (g := (mkF m 132 #[.val (.int i0), .val (.int i1), .val (.int i2), .val (.int (1 : Int32)), .val (.long ja), .second, .val (.long jb), .second, .val (.long jc), .second, .val (.ref q), .val (.ref om), .val (.ref em), .unset, .unset, .unset, .unset, .unset, .unset] [(.ref om)])) rfl (by rw [hml]; rfl) (Steps.refl _) (argsL := []) (rest := []) (lenOf pd_5 rfl) rfl (by show 2 * 0 + _ ≤ _; exact Nat.le_of_eq rfl) (hb hby at_132) (fun _ _ => ⟨rfl, e24, (by decide : 2 + 0 ≤ _), (by decide : 5 + 0 ≤ _)⟩)
    dsimp only [Pt.U, Pt.locs, Pt.cells, Pt.slots] at X26 l26 y26 z26 st26 hQ26
    subst l26 y26 z26
    obtain ⟨rfl, N26q, e26⟩ := hQ26
    have N26 := Fr.app N24 N26q
    refine Go.on (fun _ k => st26.trans k) ?_
    show Go _ _ _ _ _ _ _ _ (mkF m 135 #[.val (.int i0), .val (.int i1), .val (.int i2), .val (.int (1 : Int32)), .val (.long ja), .second, .val (.long jb), .second, .val (.long jc), .second, .val (.ref q), .val (.ref om), .val (.ref em), .unset, .unset, .unset, .unset, .unset, .unset] [(.int (1 : Int32))])
    have hc27 : ¬ ((1 : Int32) = (0 : Int32)) := by decide
    refine Go.on (fun _ k => XS.ifYes X26.here hx rfl (pc0 := 135) (pc' := 140) rfl (hb hby at_135) rfl ((if0 _ _).trans (feq hc27).2) (by decide) (by decide) k) ?_
    show Go _ _ _ _ _ _ _ _ (mkF m 140 #[.val (.int i0), .val (.int i1), .val (.int i2), .val (.int (1 : Int32)), .val (.long ja), .second, .val (.long jb), .second, .val (.long jc), .second, .val (.ref q), .val (.ref om), .val (.ref em), .unset, .unset, .unset, .unset, .unset, .unset] [])
    refine Go.on (fun _ k => XS.aload X26.here hx rfl (hb hby at_140) rfl rfl k) ?_
    show Go _ _ _ _ _ _ _ _ (mkF m 142 #[.val (.int i0), .val (.int i1), .val (.int i2), .val (.int (1 : Int32)), .val (.long ja), .second, .val (.long jb), .second, .val (.long jc), .second, .val (.ref q), .val (.ref om), .val (.ref em), .unset, .unset, .unset, .unset, .unset, .unset] [(.ref om)])
    obtain ⟨cq28, kq28, q28a, q28b, q28c⟩ := isOf hZ e26 E_om
    obtain ⟨_, _, ⟨T28, L28, k28, n28⟩, -, X28, ⟨Lc28, hQ28, l28, y28, z28⟩, st28⟩ := X26.virtualBack hx (y := (⟨"java/util/OptionalDouble", "getAsDouble", "()D"⟩ : MethodName)) (z := (⟨"java/util/OptionalDouble", "getAsDouble", "()D"⟩ : MethodName)) hown (mvT hZ (hw _ (List.mem_of_getElem? (i := 58) rfl))) (mvT hZ (hw _ (List.mem_of_getElem? (i := 59) rfl))) (notFace_of_selects (args := #[]) (mvT hZ (hw _ (List.mem_of_getElem? (i := 61) rfl)))) (mvT hZ (hw _ (List.mem_of_getElem? (i := 61) rfl))) (mvT hZ (hw _ (List.mem_of_getElem? (i := 60) rfl))) (by decide) (backOf (W := 0) (rm10 l Z aw hw [] om mn1 h23 n0 ZZ F_isPresent_om F_value_om) hZ (hw _ (List.mem_of_getElem? (i := 62) rfl)) (hw _ (List.mem_of_getElem? (i := 34) rfl)) (by decide) (by decide)) q28a q28c (g := (mkF m 142 #[.val (.int i0), .val (.int i1), .val (.int i2), .val (.int (1 : Int32)), .val (.long ja), .second, .val (.long jb), .second, .val (.long jc), .second, .val (.ref q), .val (.ref om), .val (.ref em), .unset, .unset, .unset, .unset, .unset, .unset] [(.ref om)])) rfl (by rw [hml]; rfl) (Steps.refl _) (argsL := []) (rest := []) (lenOf pd_6 rfl) rfl (by show 2 * 0 + _ ≤ _; exact Nat.le_of_eq rfl) (hb hby at_142) (fun _ _ => ⟨rfl, e26, (by decide : 2 + 0 ≤ _), (by decide : 5 + 0 ≤ _)⟩)
    dsimp only [Pt.U, Pt.locs, Pt.cells, Pt.slots] at X28 l28 y28 z28 st28 hQ28
    subst l28 y28 z28
    obtain ⟨rfl, N28q, e28⟩ := hQ28
    have N28 := Fr.app N26 N28q
    refine Go.on (fun _ k => st28.trans k) ?_
    show Go _ _ _ _ _ _ _ _ (mkF m 145 #[.val (.int i0), .val (.int i1), .val (.int i2), .val (.int (1 : Int32)), .val (.long ja), .second, .val (.long jb), .second, .val (.long jc), .second, .val (.ref q), .val (.ref om), .val (.ref em), .unset, .unset, .unset, .unset, .unset, .unset] [(.double mn1)])
    refine Go.on (fun _ k => XS.dstore X28.here hx rfl (hb hby at_145) rfl (l' := #[.val (.int i0), .val (.int i1), .val (.int i2), .val (.int (1 : Int32)), .val (.long ja), .second, .val (.long jb), .second, .val (.long jc), .second, .val (.ref q), .val (.ref om), .val (.ref em), .val (.double mn1), .second, .unset, .unset, .unset, .unset]) rfl k) ?_
    show Go _ _ _ _ _ _ _ _ (mkF m 147 #[.val (.int i0), .val (.int i1), .val (.int i2), .val (.int (1 : Int32)), .val (.long ja), .second, .val (.long jb), .second, .val (.long jc), .second, .val (.ref q), .val (.ref om), .val (.ref em), .val (.double mn1), .second, .unset, .unset, .unset, .unset] [])
    refine Go.on (fun _ k => XS.iloadN X28.here hx rfl (hb hby at_147) rfl k) ?_
    show Go _ _ _ _ _ _ _ _ (mkF m 148 #[.val (.int i0), .val (.int i1), .val (.int i2), .val (.int (1 : Int32)), .val (.long ja), .second, .val (.long jb), .second, .val (.long jc), .second, .val (.ref q), .val (.ref om), .val (.ref em), .val (.double mn1), .second, .unset, .unset, .unset, .unset] [(.int (1 : Int32))])
    refine Go.on (fun _ k => XS.iconst X28.here hx rfl (hb hby at_148) k) ?_
    show Go _ _ _ _ _ _ _ _ (mkF m 149 #[.val (.int i0), .val (.int i1), .val (.int i2), .val (.int (1 : Int32)), .val (.long ja), .second, .val (.long jb), .second, .val (.long jc), .second, .val (.ref q), .val (.ref om), .val (.ref em), .val (.double mn1), .second, .unset, .unset, .unset, .unset] [(.int (1 : Int32)), (.int (1 : Int32))])
    have hc29 : (1 : Int32) = (1 : Int32) := by decide
    refine Go.on (fun _ k => XS.icmpNo X28.here hx rfl (hb hby at_149) rfl (teq hc29).2 k) ?_
    show Go _ _ _ _ _ _ _ _ (mkF m 152 #[.val (.int i0), .val (.int i1), .val (.int i2), .val (.int (1 : Int32)), .val (.long ja), .second, .val (.long jb), .second, .val (.long jc), .second, .val (.ref q), .val (.ref om), .val (.ref em), .val (.double mn1), .second, .unset, .unset, .unset, .unset] [])
    refine Go.on (fun _ k => XS.dload X28.here hx rfl (hb hby at_152) rfl k) ?_
    show Go _ _ _ _ _ _ _ _ (mkF m 154 #[.val (.int i0), .val (.int i1), .val (.int i2), .val (.int (1 : Int32)), .val (.long ja), .second, .val (.long jb), .second, .val (.long jc), .second, .val (.ref q), .val (.ref om), .val (.ref em), .val (.double mn1), .second, .unset, .unset, .unset, .unset] [(.double mn1)])
    refine Go.on (fun _ k => XS.lload X28.here hx rfl (hb hby at_154) rfl k) ?_
    show Go _ _ _ _ _ _ _ _ (mkF m 156 #[.val (.int i0), .val (.int i1), .val (.int i2), .val (.int (1 : Int32)), .val (.long ja), .second, .val (.long jb), .second, .val (.long jc), .second, .val (.ref q), .val (.ref om), .val (.ref em), .val (.double mn1), .second, .unset, .unset, .unset, .unset] [(.long ja), (.double mn1)])
    refine Go.on (fun _ k => XS.l2dS X28.here hx rfl (hb hby at_156) rfl rfl k) ?_
    show Go _ _ _ _ _ _ _ _ (mkF m 157 #[.val (.int i0), .val (.int i1), .val (.int i2), .val (.int (1 : Int32)), .val (.long ja), .second, .val (.long jb), .second, .val (.long jc), .second, .val (.ref q), .val (.ref om), .val (.ref em), .val (.double mn1), .second, .unset, .unset, .unset, .unset] [(.double (FP.l2d ja)), (.double mn1)])
    refine Go.on (fun _ k => XS.dcmpS X28.here hx rfl (hb hby at_157) rfl rfl k) ?_
    show Go _ _ _ _ _ _ _ _ (mkF m 158 #[.val (.int i0), .val (.int i1), .val (.int i2), .val (.int (1 : Int32)), .val (.long ja), .second, .val (.long jb), .second, .val (.long jc), .second, .val (.ref q), .val (.ref om), .val (.ref em), .val (.double mn1), .second, .unset, .unset, .unset, .unset] [(.int (cmpValue (FP.dcmp mn1 (FP.l2d ja)) .l))])
    have hc30 : (cmpValue (FP.dcmp mn1 (FP.l2d ja)) .l) = (0 : Int32) := HV.eq Hm1 (own_hl _ (by omega)) (by omega)
    refine Go.on (fun _ k => XS.ifNo X28.here hx rfl (hb hby at_158) rfl ((if0 _ _).trans (teq hc30).2) k) ?_
    show Go _ _ _ _ _ _ _ _ (mkF m 161 #[.val (.int i0), .val (.int i1), .val (.int i2), .val (.int (1 : Int32)), .val (.long ja), .second, .val (.long jb), .second, .val (.long jc), .second, .val (.ref q), .val (.ref om), .val (.ref em), .val (.double mn1), .second, .unset, .unset, .unset, .unset] [])
    refine Go.on (fun _ k => XS.aload X28.here hx rfl (hb hby at_161) rfl rfl k) ?_
    show Go _ _ _ _ _ _ _ _ (mkF m 163 #[.val (.int i0), .val (.int i1), .val (.int i2), .val (.int (1 : Int32)), .val (.long ja), .second, .val (.long jb), .second, .val (.long jc), .second, .val (.ref q), .val (.ref om), .val (.ref em), .val (.double mn1), .second, .unset, .unset, .unset, .unset] [(.ref em)])
    obtain ⟨cq31, kq31, q31a, q31b, q31c⟩ := isOf hZ e28 E_em
    obtain ⟨_, _, ⟨T31, L31, k31, n31⟩, -, X31, ⟨Lc31, hQ31, l31, y31, z31⟩, st31⟩ := X28.virtualBack hx (y := (⟨"java/util/OptionalDouble", "isPresent", "()Z"⟩ : MethodName)) (z := (⟨"java/util/OptionalDouble", "isPresent", "()Z"⟩ : MethodName)) hown (mvT hZ (hw _ (List.mem_of_getElem? (i := 53) rfl))) (mvT hZ (hw _ (List.mem_of_getElem? (i := 54) rfl))) (notFace_of_selects (args := #[]) (mvT hZ (hw _ (List.mem_of_getElem? (i := 56) rfl)))) (mvT hZ (hw _ (List.mem_of_getElem? (i := 56) rfl))) (mvT hZ (hw _ (List.mem_of_getElem? (i := 55) rfl))) (by decide) (backOf (W := 0) (rm9 l Z aw hw [] em (0 : Int32) h23 n0 ZZ F_isPresent_em (by decide)) hZ (hw _ (List.mem_of_getElem? (i := 57) rfl)) (hw _ (List.mem_of_getElem? (i := 34) rfl)) (by decide) (by decide)) q31a q31c (g := (mkF m 163 #[.val (.int i0), .val (.int i1), .val (.int i2), .val (.int (1 : Int32)), .val (.long ja), .second, .val (.long jb), .second, .val (.long jc), .second, .val (.ref q), .val (.ref om), .val (.ref em), .val (.double mn1), .second, .unset, .unset, .unset, .unset] [(.ref em)])) rfl (by rw [hml]; rfl) (Steps.refl _) (argsL := []) (rest := []) (lenOf pd_5 rfl) rfl (by show 2 * 0 + _ ≤ _; exact Nat.le_of_eq rfl) (hb hby at_163) (fun _ _ => ⟨rfl, e28, (by decide : 2 + 0 ≤ _), (by decide : 5 + 0 ≤ _)⟩)
    dsimp only [Pt.U, Pt.locs, Pt.cells, Pt.slots] at X31 l31 y31 z31 st31 hQ31
    subst l31 y31 z31
    obtain ⟨rfl, N31q, e31⟩ := hQ31
    have N31 := Fr.app N28 N31q
    refine Go.on (fun _ k => st31.trans k) ?_
    show Go _ _ _ _ _ _ _ _ (mkF m 166 #[.val (.int i0), .val (.int i1), .val (.int i2), .val (.int (1 : Int32)), .val (.long ja), .second, .val (.long jb), .second, .val (.long jc), .second, .val (.ref q), .val (.ref om), .val (.ref em), .val (.double mn1), .second, .unset, .unset, .unset, .unset] [(.int (0 : Int32))])
    have hc32 : (0 : Int32) = (0 : Int32) := by decide
    refine Go.on (fun _ k => XS.ifNo X31.here hx rfl (hb hby at_166) rfl ((if0 _ _).trans (teq hc32).2) k) ?_
    show Go _ _ _ _ _ _ _ _ (mkF m 169 #[.val (.int i0), .val (.int i1), .val (.int i2), .val (.int (1 : Int32)), .val (.long ja), .second, .val (.long jb), .second, .val (.long jc), .second, .val (.ref q), .val (.ref om), .val (.ref em), .val (.double mn1), .second, .unset, .unset, .unset, .unset] [])
    refine Go.on (fun _ k => XS.iconst X31.here hx rfl (hb hby at_169) k) ?_
    show Go _ _ _ _ _ _ _ _ (mkF m 170 #[.val (.int i0), .val (.int i1), .val (.int i2), .val (.int (1 : Int32)), .val (.long ja), .second, .val (.long jb), .second, .val (.long jc), .second, .val (.ref q), .val (.ref om), .val (.ref em), .val (.double mn1), .second, .unset, .unset, .unset, .unset] [(.int (1 : Int32))])
    refine Go.on (fun _ k => XS.goto X31.here hx rfl (pc0 := 170) (pc' := 174) rfl (hb hby at_170) (by decide) (by decide) k) ?_
    show Go _ _ _ _ _ _ _ _ (mkF m 174 #[.val (.int i0), .val (.int i1), .val (.int i2), .val (.int (1 : Int32)), .val (.long ja), .second, .val (.long jb), .second, .val (.long jc), .second, .val (.ref q), .val (.ref om), .val (.ref em), .val (.double mn1), .second, .unset, .unset, .unset, .unset] [(.int (1 : Int32))])
    refine Go.retN X31 hx (t := .boolean) Bd.returns (by simp) (hb hby at_174) ?_ (by rw [hK1]; decide) (by rw [hK2]; decide)
    rw [e31, ← hQQ]
    exact ⟨rfl, N31⟩
  · -- 2 values
    subst hk
    show Go _ _ _ _ _ _ _ _ (mkF m 29 #[.val (.int i0), .val (.int i1), .val (.int i2), .val (.int (2 : Int32)), .val (.long ja), .second, .val (.long jb), .second, .val (.long jc), .second, .unset, .unset, .unset, .unset, .unset, .unset, .unset, .unset, .unset] [])
    obtain ⟨T33, h33, X33, e33, E33, A33, D33, -, st33⟩ := newO X0 hx hZ hown (hw _ (List.mem_of_getElem? (i := 2) rfl)) (hw _ (List.mem_of_getElem? (i := 3) rfl)) (hw _ (List.mem_of_getElem? (i := 4) rfl)) e0 (g := (mkF m 29 #[.val (.int i0), .val (.int i1), .val (.int i2), .val (.int (2 : Int32)), .val (.long ja), .second, .val (.long jb), .second, .val (.long jc), .second, .unset, .unset, .unset, .unset, .unset, .unset, .unset, .unset, .unset] [])) rfl (hb hby at_29) (by decide) (by decide)
    obtain ⟨q, g33⟩ : ∃ z, z = h0.size := ⟨_, rfl⟩
    have ne_em_q : em ≠ q := Nat.ne_of_lt (Nat.lt_of_lt_of_le E_em.lt (Nat.le_of_eq g33.symm))
    have g_q : n0 ≤ q := Nat.le_trans ZZ (Nat.le_of_eq g33.symm)
    rw [← g33] at A33 D33 st33
    replace S_EMPTY := S_EMPTY.ext E33
    replace E_em := E_em.ext E33
    replace F_isPresent_em := F_isPresent_em.ext E33
    replace ZZ := Nat.le_trans ZZ E33.1
    have E_q := A33
    have F_count_q : Fld Z h33 q "com/example/parley/parley/replication/SampleStatistics" "count" "J" (.long (0 : Int64)) := D33 (Or.inl (hw _ (List.mem_of_getElem? (i := 17) rfl))) (ty := .long) (by decide)
    have F_mean_q : Fld Z h33 q "com/example/parley/parley/replication/SampleStatistics" "mean" "D" (.double (0 : UInt64)) := D33 (Or.inl (hw _ (List.mem_of_getElem? (i := 19) rfl))) (ty := .double) (by decide)
    have F_sumOfSquaredDeviations_q : Fld Z h33 q "com/example/parley/parley/replication/SampleStatistics" "sumOfSquaredDeviations" "D" (.double (0 : UInt64)) := D33 (Or.inl (hw _ (List.mem_of_getElem? (i := 21) rfl))) (ty := .double) (by decide)
    refine Go.on st33 ?_
    show Go _ _ _ _ _ _ _ _ (mkF m 32 #[.val (.int i0), .val (.int i1), .val (.int i2), .val (.int (2 : Int32)), .val (.long ja), .second, .val (.long jb), .second, .val (.long jc), .second, .unset, .unset, .unset, .unset, .unset, .unset, .unset, .unset, .unset] [(.ref q)])
    refine Go.on (fun _ k => XS.dup X33.here hx rfl (hb hby at_32) rfl rfl k) ?_
    show Go _ _ _ _ _ _ _ _ (mkF m 33 #[.val (.int i0), .val (.int i1), .val (.int i2), .val (.int (2 : Int32)), .val (.long ja), .second, .val (.long jb), .second, .val (.long jc), .second, .unset, .unset, .unset, .unset, .unset, .unset, .unset, .unset, .unset] [(.ref q), (.ref q)])
    obtain ⟨_, _, ⟨T34, L34, k34, n34⟩, -, X34, ⟨Lc34, hQ34, l34, y34, z34⟩, st34⟩ := X33.specialBack hx (y := (⟨"com/example/parley/parley/replication/SampleStatistics", "<init>", "()V"⟩ : MethodName)) rfl hown (mvT hZ (hw _ (List.mem_of_getElem? (i := 5) rfl))) (mvT hZ (hw _ (List.mem_of_getElem? (i := 6) rfl))) (mvT hZ (hw _ (List.mem_of_getElem? (i := 7) rfl))) (by decide) (backOf (W := 1) (rm1 l Z aw hw [] q  h33 n0 ZZ ) hZ (hw _ (List.mem_of_getElem? (i := 7) rfl)) (hw _ (List.mem_of_getElem? (i := 4) rfl)) (by decide) (by decide)) (g := (mkF m 33 #[.val (.int i0), .val (.int i1), .val (.int i2), .val (.int (2 : Int32)), .val (.long ja), .second, .val (.long jb), .second, .val (.long jc), .second, .unset, .unset, .unset, .unset, .unset, .unset, .unset, .unset, .unset] [(.ref q), (.ref q)])) rfl (by rw [hml]; rfl) (Steps.refl _) (a := q) (argsL := []) (rest := [(.ref q)]) (lenOf pd_3 rfl) rfl (by show 2 * 0 + _ ≤ _; exact Nat.le_of_eq rfl) (hb hby at_33) (fun _ _ => ⟨rfl, e33, (by decide : 1 + 0 ≤ _), (by decide : 3 + 0 ≤ _)⟩)
    dsimp only [Pt.U, Pt.locs, Pt.cells, Pt.slots] at X34 l34 y34 z34 st34 hQ34
    subst l34 y34 z34
    obtain ⟨rfl, N34q, e34⟩ := hQ34
    have N34 := Fr.app N0 N34q
    refine Go.on (fun _ k => st34.trans k) ?_
    show Go _ _ _ _ _ _ _ _ (mkF m 36 #[.val (.int i0), .val (.int i1), .val (.int i2), .val (.int (2 : Int32)), .val (.long ja), .second, .val (.long jb), .second, .val (.long jc), .second, .unset, .unset, .unset, .unset, .unset, .unset, .unset, .unset, .unset] [(.ref q)])
    refine Go.on (fun _ k => XS.astore X34.here hx rfl (hb hby at_36) rfl rfl (l' := #[.val (.int i0), .val (.int i1), .val (.int i2), .val (.int (2 : Int32)), .val (.long ja), .second, .val (.long jb), .second, .val (.long jc), .second, .val (.ref q), .unset, .unset, .unset, .unset, .unset, .unset, .unset, .unset]) rfl k) ?_
    show Go _ _ _ _ _ _ _ _ (mkF m 38 #[.val (.int i0), .val (.int i1), .val (.int i2), .val (.int (2 : Int32)), .val (.long ja), .second, .val (.long jb), .second, .val (.long jc), .second, .val (.ref q), .unset, .unset, .unset, .unset, .unset, .unset, .unset, .unset] [])
    refine Go.on (fun _ k => XS.iloadN X34.here hx rfl (hb hby at_38) rfl k) ?_
    show Go _ _ _ _ _ _ _ _ (mkF m 39 #[.val (.int i0), .val (.int i1), .val (.int i2), .val (.int (2 : Int32)), .val (.long ja), .second, .val (.long jb), .second, .val (.long jc), .second, .val (.ref q), .unset, .unset, .unset, .unset, .unset, .unset, .unset, .unset] [(.int (2 : Int32))])
    refine Go.on (fun _ k => XS.iconst X34.here hx rfl (hb hby at_39) k) ?_
    show Go _ _ _ _ _ _ _ _ (mkF m 40 #[.val (.int i0), .val (.int i1), .val (.int i2), .val (.int (2 : Int32)), .val (.long ja), .second, .val (.long jb), .second, .val (.long jc), .second, .val (.ref q), .unset, .unset, .unset, .unset, .unset, .unset, .unset, .unset] [(.int (1 : Int32)), (.int (2 : Int32))])
    have hc35 : ¬ ((2 : Int32) < (1 : Int32)) := by decide
    refine Go.on (fun _ k => XS.icmpNo X34.here hx rfl (hb hby at_40) rfl (flt hc35).1 k) ?_
    show Go _ _ _ _ _ _ _ _ (mkF m 43 #[.val (.int i0), .val (.int i1), .val (.int i2), .val (.int (2 : Int32)), .val (.long ja), .second, .val (.long jb), .second, .val (.long jc), .second, .val (.ref q), .unset, .unset, .unset, .unset, .unset, .unset, .unset, .unset] [])
    refine Go.on (fun _ k => XS.aload X34.here hx rfl (hb hby at_43) rfl rfl k) ?_
    show Go _ _ _ _ _ _ _ _ (mkF m 45 #[.val (.int i0), .val (.int i1), .val (.int i2), .val (.int (2 : Int32)), .val (.long ja), .second, .val (.long jb), .second, .val (.long jc), .second, .val (.ref q), .unset, .unset, .unset, .unset, .unset, .unset, .unset, .unset] [(.ref q)])
    refine Go.on (fun _ k => XS.lload X34.here hx rfl (hb hby at_45) rfl k) ?_
    show Go _ _ _ _ _ _ _ _ (mkF m 47 #[.val (.int i0), .val (.int i1), .val (.int i2), .val (.int (2 : Int32)), .val (.long ja), .second, .val (.long jb), .second, .val (.long jc), .second, .val (.ref q), .unset, .unset, .unset, .unset, .unset, .unset, .unset, .unset] [(.long ja), (.ref q)])
    refine Go.on (fun _ k => XS.l2dS X34.here hx rfl (hb hby at_47) rfl rfl k) ?_
    show Go _ _ _ _ _ _ _ _ (mkF m 48 #[.val (.int i0), .val (.int i1), .val (.int i2), .val (.int (2 : Int32)), .val (.long ja), .second, .val (.long jb), .second, .val (.long jc), .second, .val (.ref q), .unset, .unset, .unset, .unset, .unset, .unset, .unset, .unset] [(.double (FP.l2d ja)), (.ref q)])
    have hAd1 := own_first ha
    obtain ⟨cq36, kq36, q36a, q36b, q36c⟩ := isOf hZ e34 E_q
    obtain ⟨_, _, ⟨T36, L36, k36, n36⟩, -, X36, ⟨Lc36, hQ36, l36, y36, z36⟩, st36⟩ := X34.virtualBack hx (y := (⟨"com/example/parley/parley/replication/SampleStatistics", "add", "(D)V"⟩ : MethodName)) (z := (⟨"com/example/parley/parley/replication/SampleStatistics", "add", "(D)V"⟩ : MethodName)) hown (mvT hZ (hw _ (List.mem_of_getElem? (i := 11) rfl))) (mvT hZ (hw _ (List.mem_of_getElem? (i := 12) rfl))) (notFace_of_selects (args := #[]) (mvT hZ (hw _ (List.mem_of_getElem? (i := 14) rfl)))) (mvT hZ (hw _ (List.mem_of_getElem? (i := 14) rfl))) (mvT hZ (hw _ (List.mem_of_getElem? (i := 13) rfl))) (by decide) (backOf (W := 0) (rm3 l Z aw hw [] q (FP.l2d ja) (0 : Int64) (0 : UInt64) (0 : UInt64) h33 n0 ZZ E_q F_count_q F_mean_q F_sumOfSquaredDeviations_q g_q hAd1.1 hAd1.2.1 hAd1.2.2.1 hAd1.2.2.2.1 hAd1.2.2.2.2.1 hAd1.2.2.2.2.2.1) hZ (hw _ (List.mem_of_getElem? (i := 15) rfl)) (hw _ (List.mem_of_getElem? (i := 4) rfl)) (by decide) (by decide)) q36a q36c (g := (mkF m 48 #[.val (.int i0), .val (.int i1), .val (.int i2), .val (.int (2 : Int32)), .val (.long ja), .second, .val (.long jb), .second, .val (.long jc), .second, .val (.ref q), .unset, .unset, .unset, .unset, .unset, .unset, .unset, .unset] [(.double (FP.l2d ja)), (.ref q)])) rfl (by rw [hml]; rfl) (Steps.refl _) (argsL := [(.double (FP.l2d ja))]) (rest := []) (lenOf pd_0 rfl) rfl (by show 2 * 0 + _ ≤ _; exact Nat.le_of_eq rfl) (hb hby at_48) (fun _ _ => ⟨rfl, e34, (by decide : 1 + 0 ≤ _), (by decide : 3 + 0 ≤ _)⟩)
    dsimp only [Pt.U, Pt.locs, Pt.cells, Pt.slots] at X36 l36 y36 z36 st36 hQ36
    subst l36 y36 z36
    obtain ⟨h36, e36⟩ : ∃ q, T36.heap = q := ⟨_, rfl⟩
    rw [e36] at hQ36
    obtain ⟨rfl, N36q, K36q, E_q', F_count_q', F_mean_q', F_sumOfSquaredDeviations_q'⟩ := hQ36
    have N36 := Fr.app N34 N36q
    replace S_EMPTY := own_sta_keep S_EMPTY K36q (own_obS (own_cell0 E_q) own_ob0)
    replace E_em := E_em.keep K36q
    replace F_isPresent_em := F_isPresent_em.keep K36q (ninS ne_em_q nin0)
    replace E_q := E_q.keep K36q
    replace ZZ := Nat.le_trans ZZ K36q.1
    replace E_q := E_q'
    have F_count_q := F_count_q'
    have F_mean_q := F_mean_q'
    have F_sumOfSquaredDeviations_q := F_sumOfSquaredDeviations_q'
    replace F_count_q : Fld Z h36 q "com/example/parley/parley/replication/SampleStatistics" "count" "J" (.long (1 : Int64)) := F_count_q
    obtain ⟨mn1, hmn1⟩ : ∃ z, z = (FP.dadd (0 : UInt64) (FP.ddiv (FP.dsub (FP.l2d ja) (0 : UInt64)) (FP.l2d ((0 : Int64) + (1 : Int64))))) := ⟨_, rfl⟩
    rw [← hmn1] at F_mean_q
    obtain ⟨sd1, hsd1⟩ : ∃ z, z = (FP.dadd (0 : UInt64) (FP.dmul (FP.dsub (FP.l2d ja) (0 : UInt64)) (FP.dsub (FP.l2d ja) (FP.dadd (0 : UInt64) (FP.ddiv (FP.dsub (FP.l2d ja) (0 : UInt64)) (FP.l2d ((0 : Int64) + (1 : Int64)))))))) := ⟨_, rfl⟩
    rw [← hsd1] at F_sumOfSquaredDeviations_q
    have Hm1 := hAd1.2.2.2.2.2.2.1
    have Hs1 := hAd1.2.2.2.2.2.2.2
    rw [← hmn1] at Hm1
    rw [← hsd1] at Hs1
    refine Go.on (fun _ k => st36.trans k) ?_
    show Go _ _ _ _ _ _ _ _ (mkF m 51 #[.val (.int i0), .val (.int i1), .val (.int i2), .val (.int (2 : Int32)), .val (.long ja), .second, .val (.long jb), .second, .val (.long jc), .second, .val (.ref q), .unset, .unset, .unset, .unset, .unset, .unset, .unset, .unset] [])
    refine Go.on (fun _ k => XS.iloadN X36.here hx rfl (hb hby at_51) rfl k) ?_
    show Go _ _ _ _ _ _ _ _ (mkF m 52 #[.val (.int i0), .val (.int i1), .val (.int i2), .val (.int (2 : Int32)), .val (.long ja), .second, .val (.long jb), .second, .val (.long jc), .second, .val (.ref q), .unset, .unset, .unset, .unset, .unset, .unset, .unset, .unset] [(.int (2 : Int32))])
    refine Go.on (fun _ k => XS.iconst X36.here hx rfl (hb hby at_52) k) ?_
    show Go _ _ _ _ _ _ _ _ (mkF m 53 #[.val (.int i0), .val (.int i1), .val (.int i2), .val (.int (2 : Int32)), .val (.long ja), .second, .val (.long jb), .second, .val (.long jc), .second, .val (.ref q), .unset, .unset, .unset, .unset, .unset, .unset, .unset, .unset] [(.int (2 : Int32)), (.int (2 : Int32))])
    have hc37 : ¬ ((2 : Int32) < (2 : Int32)) := by decide
    refine Go.on (fun _ k => XS.icmpNo X36.here hx rfl (hb hby at_53) rfl (flt hc37).1 k) ?_
    show Go _ _ _ _ _ _ _ _ (mkF m 56 #[.val (.int i0), .val (.int i1), .val (.int i2), .val (.int (2 : Int32)), .val (.long ja), .second, .val (.long jb), .second, .val (.long jc), .second, .val (.ref q), .unset, .unset, .unset, .unset, .unset, .unset, .unset, .unset] [])
    refine Go.on (fun _ k => XS.aload X36.here hx rfl (hb hby at_56) rfl rfl k) ?_
    show Go _ _ _ _ _ _ _ _ (mkF m 58 #[.val (.int i0), .val (.int i1), .val (.int i2), .val (.int (2 : Int32)), .val (.long ja), .second, .val (.long jb), .second, .val (.long jc), .second, .val (.ref q), .unset, .unset, .unset, .unset, .unset, .unset, .unset, .unset] [(.ref q)])
    refine Go.on (fun _ k => XS.lload X36.here hx rfl (hb hby at_58) rfl k) ?_
    show Go _ _ _ _ _ _ _ _ (mkF m 60 #[.val (.int i0), .val (.int i1), .val (.int i2), .val (.int (2 : Int32)), .val (.long ja), .second, .val (.long jb), .second, .val (.long jc), .second, .val (.ref q), .unset, .unset, .unset, .unset, .unset, .unset, .unset, .unset] [(.long jb), (.ref q)])
    refine Go.on (fun _ k => XS.l2dS X36.here hx rfl (hb hby at_60) rfl rfl k) ?_
    show Go _ _ _ _ _ _ _ _ (mkF m 61 #[.val (.int i0), .val (.int i1), .val (.int i2), .val (.int (2 : Int32)), .val (.long ja), .second, .val (.long jb), .second, .val (.long jc), .second, .val (.ref q), .unset, .unset, .unset, .unset, .unset, .unset, .unset, .unset] [(.double (FP.l2d jb)), (.ref q)])
    have hAd2 := own_second ha hb_ Hm1 Hs1
    obtain ⟨cq38, kq38, q38a, q38b, q38c⟩ := isOf hZ e36 E_q
    obtain ⟨_, _, ⟨T38, L38, k38, n38⟩, -, X38, ⟨Lc38, hQ38, l38, y38, z38⟩, st38⟩ := X36.virtualBack hx (y := (⟨"com/example/parley/parley/replication/SampleStatistics", "add", "(D)V"⟩ : MethodName)) (z := (⟨"com/example/parley/parley/replication/SampleStatistics", "add", "(D)V"⟩ : MethodName)) hown (mvT hZ (hw _ (List.mem_of_getElem? (i := 11) rfl))) (mvT hZ (hw _ (List.mem_of_getElem? (i := 12) rfl))) (notFace_of_selects (args := #[]) (mvT hZ (hw _ (List.mem_of_getElem? (i := 14) rfl)))) (mvT hZ (hw _ (List.mem_of_getElem? (i := 14) rfl))) (mvT hZ (hw _ (List.mem_of_getElem? (i := 13) rfl))) (by decide) (backOf (W := 0) (rm3 l Z aw hw [] q (FP.l2d jb) (1 : Int64) mn1 sd1 h36 n0 ZZ E_q F_count_q F_mean_q F_sumOfSquaredDeviations_q g_q hAd2.1 hAd2.2.1 hAd2.2.2.1 hAd2.2.2.2.1 hAd2.2.2.2.2.1 hAd2.2.2.2.2.2.1) hZ (hw _ (List.mem_of_getElem? (i := 15) rfl)) (hw _ (List.mem_of_getElem? (i := 4) rfl)) (by decide) (by decide)) q38a q38c (g := (mkF m 61 #[.val (.int i0), .val (.int i1), .val (.int i2), .val (.int (2 : Int32)), .val (.long ja), .second, .val (.long jb), .second, .val (.long jc), .second, .val (.ref q), .unset, .unset, .unset, .unset, .unset, .unset, .unset, .unset] [(.double (FP.l2d jb)), (.ref q)])) rfl (by rw [hml]; rfl) (Steps.refl _) (argsL := [(.double (FP.l2d jb))]) (rest := []) (lenOf pd_0 rfl) rfl (by show 2 * 0 + _ ≤ _; exact Nat.le_of_eq rfl) (hb hby at_61) (fun _ _ => ⟨rfl, e36, (by decide : 1 + 0 ≤ _), (by decide : 3 + 0 ≤ _)⟩)
    dsimp only [Pt.U, Pt.locs, Pt.cells, Pt.slots] at X38 l38 y38 z38 st38 hQ38
    subst l38 y38 z38
    obtain ⟨h38, e38⟩ : ∃ q, T38.heap = q := ⟨_, rfl⟩
    rw [e38] at hQ38
    obtain ⟨rfl, N38q, K38q, E_q', F_count_q', F_mean_q', F_sumOfSquaredDeviations_q'⟩ := hQ38
    have N38 := Fr.app N36 N38q
    replace S_EMPTY := own_sta_keep S_EMPTY K38q (own_obS (own_cell0 E_q) own_ob0)
    replace E_em := E_em.keep K38q
    replace F_isPresent_em := F_isPresent_em.keep K38q (ninS ne_em_q nin0)
    replace E_q := E_q.keep K38q
    replace ZZ := Nat.le_trans ZZ K38q.1
    replace E_q := E_q'
    have F_count_q := F_count_q'
    have F_mean_q := F_mean_q'
    have F_sumOfSquaredDeviations_q := F_sumOfSquaredDeviations_q'
    replace F_count_q : Fld Z h38 q "com/example/parley/parley/replication/SampleStatistics" "count" "J" (.long (2 : Int64)) := F_count_q
    obtain ⟨mn2, hmn2⟩ : ∃ z, z = (FP.dadd mn1 (FP.ddiv (FP.dsub (FP.l2d jb) mn1) (FP.l2d ((1 : Int64) + (1 : Int64))))) := ⟨_, rfl⟩
    rw [← hmn2] at F_mean_q
    obtain ⟨sd2, hsd2⟩ : ∃ z, z = (FP.dadd sd1 (FP.dmul (FP.dsub (FP.l2d jb) mn1) (FP.dsub (FP.l2d jb) (FP.dadd mn1 (FP.ddiv (FP.dsub (FP.l2d jb) mn1) (FP.l2d ((1 : Int64) + (1 : Int64)))))))) := ⟨_, rfl⟩
    rw [← hsd2] at F_sumOfSquaredDeviations_q
    have Hm2 := hAd2.2.2.2.2.2.2.1
    have Hs2 := hAd2.2.2.2.2.2.2.2
    rw [← hmn2] at Hm2
    rw [← hsd2] at Hs2
    refine Go.on (fun _ k => st38.trans k) ?_
    show Go _ _ _ _ _ _ _ _ (mkF m 64 #[.val (.int i0), .val (.int i1), .val (.int i2), .val (.int (2 : Int32)), .val (.long ja), .second, .val (.long jb), .second, .val (.long jc), .second, .val (.ref q), .unset, .unset, .unset, .unset, .unset, .unset, .unset, .unset] [])
    refine Go.on (fun _ k => XS.iloadN X38.here hx rfl (hb hby at_64) rfl k) ?_
    show Go _ _ _ _ _ _ _ _ (mkF m 65 #[.val (.int i0), .val (.int i1), .val (.int i2), .val (.int (2 : Int32)), .val (.long ja), .second, .val (.long jb), .second, .val (.long jc), .second, .val (.ref q), .unset, .unset, .unset, .unset, .unset, .unset, .unset, .unset] [(.int (2 : Int32))])
    refine Go.on (fun _ k => XS.iconst X38.here hx rfl (hb hby at_65) k) ?_
    show Go _ _ _ _ _ _ _ _ (mkF m 66 #[.val (.int i0), .val (.int i1), .val (.int i2), .val (.int (2 : Int32)), .val (.long ja), .second, .val (.long jb), .second, .val (.long jc), .second, .val (.ref q), .unset, .unset, .unset, .unset, .unset, .unset, .unset, .unset] [(.int (3 : Int32)), (.int (2 : Int32))])
    have hc39 : (2 : Int32) < (3 : Int32) := by decide
    refine Go.on (fun _ k => XS.icmpYes X38.here hx rfl (pc0 := 66) (pc' := 77) rfl (hb hby at_66) rfl (tlt hc39).1 (by decide) (by decide) k) ?_
    show Go _ _ _ _ _ _ _ _ (mkF m 77 #[.val (.int i0), .val (.int i1), .val (.int i2), .val (.int (2 : Int32)), .val (.long ja), .second, .val (.long jb), .second, .val (.long jc), .second, .val (.ref q), .unset, .unset, .unset, .unset, .unset, .unset, .unset, .unset] [])
    refine Go.on (fun _ k => XS.aload X38.here hx rfl (hb hby at_77) rfl rfl k) ?_
    show Go _ _ _ _ _ _ _ _ (mkF m 79 #[.val (.int i0), .val (.int i1), .val (.int i2), .val (.int (2 : Int32)), .val (.long ja), .second, .val (.long jb), .second, .val (.long jc), .second, .val (.ref q), .unset, .unset, .unset, .unset, .unset, .unset, .unset, .unset] [(.ref q)])
    obtain ⟨cq40, kq40, q40a, q40b, q40c⟩ := isOf hZ e38 E_q
    obtain ⟨_, _, ⟨T40, L40, k40, n40⟩, -, X40, ⟨Lc40, hQ40, l40, y40, z40⟩, st40⟩ := X38.virtualBack hx (y := (⟨"com/example/parley/parley/replication/SampleStatistics", "getCount", "()J"⟩ : MethodName)) (z := (⟨"com/example/parley/parley/replication/SampleStatistics", "getCount", "()J"⟩ : MethodName)) hown (mvT hZ (hw _ (List.mem_of_getElem? (i := 22) rfl))) (mvT hZ (hw _ (List.mem_of_getElem? (i := 23) rfl))) (notFace_of_selects (args := #[]) (mvT hZ (hw _ (List.mem_of_getElem? (i := 25) rfl)))) (mvT hZ (hw _ (List.mem_of_getElem? (i := 25) rfl))) (mvT hZ (hw _ (List.mem_of_getElem? (i := 24) rfl))) (by decide) (backOf (W := 0) (rm4 l Z aw hw [] q (2 : Int64) h38 n0 ZZ F_count_q) hZ (hw _ (List.mem_of_getElem? (i := 26) rfl)) (hw _ (List.mem_of_getElem? (i := 4) rfl)) (by decide) (by decide)) q40a q40c (g := (mkF m 79 #[.val (.int i0), .val (.int i1), .val (.int i2), .val (.int (2 : Int32)), .val (.long ja), .second, .val (.long jb), .second, .val (.long jc), .second, .val (.ref q), .unset, .unset, .unset, .unset, .unset, .unset, .unset, .unset] [(.ref q)])) rfl (by rw [hml]; rfl) (Steps.refl _) (argsL := []) (rest := []) (lenOf pd_4 rfl) rfl (by show 2 * 0 + _ ≤ _; exact Nat.le_of_eq rfl) (hb hby at_79) (fun _ _ => ⟨rfl, e38, (by decide : 1 + 0 ≤ _), (by decide : 3 + 0 ≤ _)⟩)
    dsimp only [Pt.U, Pt.locs, Pt.cells, Pt.slots] at X40 l40 y40 z40 st40 hQ40
    subst l40 y40 z40
    obtain ⟨rfl, N40q, e40⟩ := hQ40
    have N40 := Fr.app N38 N40q
    refine Go.on (fun _ k => st40.trans k) ?_
    show Go _ _ _ _ _ _ _ _ (mkF m 82 #[.val (.int i0), .val (.int i1), .val (.int i2), .val (.int (2 : Int32)), .val (.long ja), .second, .val (.long jb), .second, .val (.long jc), .second, .val (.ref q), .unset, .unset, .unset, .unset, .unset, .unset, .unset, .unset] [(.long (2 : Int64))])
    refine Go.on (fun _ k => XS.iloadN X40.here hx rfl (hb hby at_82) rfl k) ?_
    show Go _ _ _ _ _ _ _ _ (mkF m 83 #[.val (.int i0), .val (.int i1), .val (.int i2), .val (.int (2 : Int32)), .val (.long ja), .second, .val (.long jb), .second, .val (.long jc), .second, .val (.ref q), .unset, .unset, .unset, .unset, .unset, .unset, .unset, .unset] [(.int (2 : Int32)), (.long (2 : Int64))])
    refine Go.on (fun _ k => XS.i2l X40.here hx rfl (hb hby at_83) rfl k) ?_
    show Go _ _ _ _ _ _ _ _ (mkF m 84 #[.val (.int i0), .val (.int i1), .val (.int i2), .val (.int (2 : Int32)), .val (.long ja), .second, .val (.long jb), .second, .val (.long jc), .second, .val (.ref q), .unset, .unset, .unset, .unset, .unset, .unset, .unset, .unset] [(.long ((2 : Int32).toInt64)), (.long (2 : Int64))])
    refine Go.on (fun _ k => XS.lcmp X40.here hx rfl (hb hby at_84) rfl k) ?_
    show Go _ _ _ _ _ _ _ _ (mkF m 85 #[.val (.int i0), .val (.int i1), .val (.int i2), .val (.int (2 : Int32)), .val (.long ja), .second, .val (.long jb), .second, .val (.long jc), .second, .val (.ref q), .unset, .unset, .unset, .unset, .unset, .unset, .unset, .unset] [(.int (lcmpW (2 : Int64) ((2 : Int32).toInt64)))])
    have hc41 : (2 : Int64) = ((2 : Int32).toInt64) := by decide
    refine Go.on (fun _ k => XS.ifYes X40.here hx rfl (pc0 := 85) (pc' := 90) rfl (hb hby at_85) rfl ((if0 _ _).trans (teq (own_lc_eq.mpr hc41)).1) (by decide) (by decide) k) ?_
    show Go _ _ _ _ _ _ _ _ (mkF m 90 #[.val (.int i0), .val (.int i1), .val (.int i2), .val (.int (2 : Int32)), .val (.long ja), .second, .val (.long jb), .second, .val (.long jc), .second, .val (.ref q), .unset, .unset, .unset, .unset, .unset, .unset, .unset, .unset] [])
    refine Go.on (fun _ k => XS.aload X40.here hx rfl (hb hby at_90) rfl rfl k) ?_
    show Go _ _ _ _ _ _ _ _ (mkF m 92 #[.val (.int i0), .val (.int i1), .val (.int i2), .val (.int (2 : Int32)), .val (.long ja), .second, .val (.long jb), .second, .val (.long jc), .second, .val (.ref q), .unset, .unset, .unset, .unset, .unset, .unset, .unset, .unset] [(.ref q)])
    obtain ⟨cq42, kq42, q42a, q42b, q42c⟩ := isOf hZ e40 E_q
    obtain ⟨_, _, ⟨T42, L42, k42, n42⟩, -, X42, ⟨Lc42, hQ42, l42, y42, z42⟩, st42⟩ := X40.virtualBack hx (y := (⟨"com/example/parley/parley/replication/SampleStatistics", "getMean", "()Ljava/util/OptionalDouble;"⟩ : MethodName)) (z := (⟨"com/example/parley/parley/replication/SampleStatistics", "getMean", "()Ljava/util/OptionalDouble;"⟩ : MethodName)) hown (mvT hZ (hw _ (List.mem_of_getElem? (i := 27) rfl))) (mvT hZ (hw _ (List.mem_of_getElem? (i := 28) rfl))) (notFace_of_selects (args := #[]) (mvT hZ (hw _ (List.mem_of_getElem? (i := 30) rfl)))) (mvT hZ (hw _ (List.mem_of_getElem? (i := 30) rfl))) (mvT hZ (hw _ (List.mem_of_getElem? (i := 29) rfl))) (by decide) (backOf (W := 0) (gm_o l Z aw hw [] q (2 : Int64) mn2 h38 n0 ZZ F_count_q F_mean_q (by decide)) hZ (hw _ (List.mem_of_getElem? (i := 31) rfl)) (hw _ (List.mem_of_getElem? (i := 4) rfl)) (by decide) (by decide)) q42a q42c (g := (mkF m 92 #[.val (.int i0), .val (.int i1), .val (.int i2), .val (.int (2 : Int32)), .val (.long ja), .second, .val (.long jb), .second, .val (.long jc), .second, .val (.ref q), .unset, .unset, .unset, .unset, .unset, .unset, .unset, .unset] [(.ref q)])) rfl (by rw [hml]; rfl) (Steps.refl _) (argsL := []) (rest := []) (lenOf pd_1 rfl) rfl (by show 2 * 0 + _ ≤ _; exact Nat.le_of_eq rfl) (hb hby at_92) (fun _ _ => ⟨rfl, e40, (by decide : 1 + 1 ≤ _), (by decide : 3 + 2 ≤ _)⟩)
    dsimp only [Pt.U, Pt.locs, Pt.cells, Pt.slots] at X42 l42 y42 z42 st42 hQ42
    subst l42 y42 z42
    obtain ⟨h42, e42⟩ : ∃ q, T42.heap = q := ⟨_, rfl⟩
    rw [e42] at hQ42
    obtain ⟨om, rfl, N42q, K42q, szq42, E_om, F_isPresent_om, F_value_om⟩ := hQ42
    have N42 := Fr.app N40 N42q
    have g_om : n0 ≤ om := Nat.le_trans ZZ szq42
    have ne_em_om : em ≠ om := Nat.ne_of_lt (Nat.lt_of_lt_of_le E_em.lt szq42)
    have ne_q_om : q ≠ om := Nat.ne_of_lt (Nat.lt_of_lt_of_le E_q.lt szq42)
    replace S_EMPTY := own_sta_keep S_EMPTY K42q own_ob0
    replace E_em := E_em.keep K42q
    replace F_isPresent_em := F_isPresent_em.keep K42q nin0
    replace E_q := E_q.keep K42q
    replace F_count_q := F_count_q.keep K42q nin0
    replace F_mean_q := F_mean_q.keep K42q nin0
    replace F_sumOfSquaredDeviations_q := F_sumOfSquaredDeviations_q.keep K42q nin0
    replace ZZ := Nat.le_trans ZZ K42q.1
    refine Go.on (fun _ k => st42.trans k) ?_
    show Go _ _ _ _ _ _ _ _ (mkF m 95 #[.val (.int i0), .val (.int i1), .val (.int i2), .val (.int (2 : Int32)), .val (.long ja), .second, .val (.long jb), .second, .val (.long jc), .second, .val (.ref q), .unset, .unset, .unset, .unset, .unset, .unset, .unset, .unset] [(.ref om)])
    refine Go.on (fun _ k => XS.astore X42.here hx rfl (hb hby at_95) rfl rfl (l' := #[.val (.int i0), .val (.int i1), .val (.int i2), .val (.int (2 : Int32)), .val (.long ja), .second, .val (.long jb), .second, .val (.long jc), .second, .val (.ref q), .val (.ref om), .unset, .unset, .unset, .unset, .unset, .unset, .unset]) rfl k) ?_
    show Go _ _ _ _ _ _ _ _ (mkF m 97 #[.val (.int i0), .val (.int i1), .val (.int i2), .val (.int (2 : Int32)), .val (.long ja), .second, .val (.long jb), .second, .val (.long jc), .second, .val (.ref q), .val (.ref om), .unset, .unset, .unset, .unset, .unset, .unset, .unset] [])
    refine Go.on (fun _ k => XS.aload X42.here hx rfl (hb hby at_97) rfl rfl k) ?_
    show Go _ _ _ _ _ _ _ _ (mkF m 99 #[.val (.int i0), .val (.int i1), .val (.int i2), .val (.int (2 : Int32)), .val (.long ja), .second, .val (.long jb), .second, .val (.long jc), .second, .val (.ref q), .val (.ref om), .unset, .unset, .unset, .unset, .unset, .unset, .unset] [(.ref q)])
    have Hv := own_l1 Hs2 (own_b2 ha hb_)
    obtain ⟨cq43, kq43, q43a, q43b, q43c⟩ := isOf hZ e42 E_q
    obtain ⟨_, _, ⟨T43, L43, k43, n43⟩, -, X43, ⟨Lc43, hQ43, l43, y43, z43⟩, st43⟩ := X42.virtualBack hx (y := (⟨"com/example/parley/parley/replication/SampleStatistics", "getVariance", "()Ljava/util/OptionalDouble;"⟩ : MethodName)) (z := (⟨"com/example/parley/parley/replication/SampleStatistics", "getVariance", "()Ljava/util/OptionalDouble;"⟩ : MethodName)) hown (mvT hZ (hw _ (List.mem_of_getElem? (i := 47) rfl))) (mvT hZ (hw _ (List.mem_of_getElem? (i := 48) rfl))) (notFace_of_selects (args := #[]) (mvT hZ (hw _ (List.mem_of_getElem? (i := 50) rfl)))) (mvT hZ (hw _ (List.mem_of_getElem? (i := 50) rfl))) (mvT hZ (hw _ (List.mem_of_getElem? (i := 49) rfl))) (by decide) (backOf (W := 0) (gv_o l Z aw hw [] q (2 : Int64) sd2 h42 n0 ZZ F_count_q F_sumOfSquaredDeviations_q (by decide) Hv.nn) hZ (hw _ (List.mem_of_getElem? (i := 51) rfl)) (hw _ (List.mem_of_getElem? (i := 4) rfl)) (by decide) (by decide)) q43a q43c (g := (mkF m 99 #[.val (.int i0), .val (.int i1), .val (.int i2), .val (.int (2 : Int32)), .val (.long ja), .second, .val (.long jb), .second, .val (.long jc), .second, .val (.ref q), .val (.ref om), .unset, .unset, .unset, .unset, .unset, .unset, .unset] [(.ref q)])) rfl (by rw [hml]; rfl) (Steps.refl _) (argsL := []) (rest := []) (lenOf pd_1 rfl) rfl (by show 2 * 0 + _ ≤ _; exact Nat.le_of_eq rfl) (hb hby at_99) (fun _ _ => ⟨rfl, e42, (by decide : 2 + 1 ≤ _), (by decide : 5 + 2 ≤ _)⟩)
    dsimp only [Pt.U, Pt.locs, Pt.cells, Pt.slots] at X43 l43 y43 z43 st43 hQ43
    subst l43 y43 z43
    obtain ⟨h43, e43⟩ : ∃ q, T43.heap = q := ⟨_, rfl⟩
    rw [e43] at hQ43
    obtain ⟨ov, rfl, N43q, K43q, szq43, E_ov, F_isPresent_ov, F_value_ov⟩ := hQ43
    have N43 := Fr.app N42 N43q
    have g_ov : n0 ≤ ov := Nat.le_trans ZZ szq43
    have ne_em_ov : em ≠ ov := Nat.ne_of_lt (Nat.lt_of_lt_of_le E_em.lt szq43)
    have ne_q_ov : q ≠ ov := Nat.ne_of_lt (Nat.lt_of_lt_of_le E_q.lt szq43)
    have ne_om_ov : om ≠ ov := Nat.ne_of_lt (Nat.lt_of_lt_of_le E_om.lt szq43)
    replace S_EMPTY := own_sta_keep S_EMPTY K43q own_ob0
    replace E_em := E_em.keep K43q
    replace F_isPresent_em := F_isPresent_em.keep K43q nin0
    replace E_q := E_q.keep K43q
    replace F_count_q := F_count_q.keep K43q nin0
    replace F_mean_q := F_mean_q.keep K43q nin0
    replace F_sumOfSquaredDeviations_q := F_sumOfSquaredDeviations_q.keep K43q nin0
    replace E_om := E_om.keep K43q
    replace F_isPresent_om := F_isPresent_om.keep K43q nin0
    replace F_value_om := F_value_om.keep K43q nin0
    replace ZZ := Nat.le_trans ZZ K43q.1
    refine Go.on (fun _ k => st43.trans k) ?_
    show Go _ _ _ _ _ _ _ _ (mkF m 102 #[.val (.int i0), .val (.int i1), .val (.int i2), .val (.int (2 : Int32)), .val (.long ja), .second, .val (.long jb), .second, .val (.long jc), .second, .val (.ref q), .val (.ref om), .unset, .unset, .unset, .unset, .unset, .unset, .unset] [(.ref ov)])
    refine Go.on (fun _ k => XS.astore X43.here hx rfl (hb hby at_102) rfl rfl (l' := #[.val (.int i0), .val (.int i1), .val (.int i2), .val (.int (2 : Int32)), .val (.long ja), .second, .val (.long jb), .second, .val (.long jc), .second, .val (.ref q), .val (.ref om), .val (.ref ov), .unset, .unset, .unset, .unset, .unset, .unset]) rfl k) ?_
    show Go _ _ _ _ _ _ _ _ (mkF m 104 #[.val (.int i0), .val (.int i1), .val (.int i2), .val (.int (2 : Int32)), .val (.long ja), .second, .val (.long jb), .second, .val (.long jc), .second, .val (.ref q), .val (.ref om), .val (.ref ov), .unset, .unset, .unset, .unset, .unset, .unset] [])
    refine Go.on (fun _ k => XS.iloadN X43.here hx rfl (hb hby at_104) rfl k) ?_
    show Go _ _ _ _ _ _ _ _ (mkF m 105 #[.val (.int i0), .val (.int i1), .val (.int i2), .val (.int (2 : Int32)), .val (.long ja), .second, .val (.long jb), .second, .val (.long jc), .second, .val (.ref q), .val (.ref om), .val (.ref ov), .unset, .unset, .unset, .unset, .unset, .unset] [(.int (2 : Int32))])
    have hc44 : ¬ ((2 : Int32) = (0 : Int32)) := by decide
    refine Go.on (fun _ k => XS.ifYes X43.here hx rfl (pc0 := 105) (pc' := 130) rfl (hb hby at_105) rfl ((if0 _ _).trans (feq hc44).2) (by decide) (by decide) k) ?_
    show Go _ _ _ _ _ _ _ _ (mkF m 130 #[.val (.int i0), .val (.int i1), .val (.int i2), .val (.int (2 : Int32)), .val (.long ja), .second, .val (.long jb), .second, .val (.long jc), .second, .val (.ref q), .val (.ref om), .val (.ref ov), .unset, .unset, .unset, .unset, .unset, .unset] [])
    refine Go.on (fun _ k => XS.aload X43.here hx rfl (hb hby at_130) rfl rfl k) ?_
    show Go _ _ _ _ _ _ _ _ (mkF m 132 #[.val (.int i0), .val (.int i1), .val (.int i2), .val (.int (2 : Int32)), .val (.long ja), .second, .val (.long jb), .second, .val (.long jc), .second, .val (.ref q), .val (.ref om), .val (.ref ov), .unset, .unset, .unset, .unset, .unset, .unset] [(.ref om)])
    obtain ⟨cq45, kq45, q45a, q45b, q45c⟩ := isOf hZ e43 E_om
    obtain ⟨_, _, ⟨T45, L45, k45, n45⟩, -, X45, ⟨Lc45, hQ45, l45, y45, z45⟩, st45⟩ := X43.virtualBack hx (y := (⟨"java/util/OptionalDouble", "isPresent", "()Z"⟩ : MethodName)) (z := (⟨"java/util/OptionalDouble", "isPresent", "()Z"⟩ : MethodName)) hown (mvT hZ (hw _ (List.mem_of_getElem? (i := 53) rfl))) (mvT hZ (hw _ (List.mem_of_getElem? (i := 54) rfl))) (notFace_of_selects (args := #[]) (mvT hZ (hw _ (List.mem_of_getElem? (i := 56) rfl)))) (mvT hZ (hw _ (List.mem_of_getElem? (i := 56) rfl))) (mvT hZ (hw _ (List.mem_of_getElem? (i := 55) rfl))) (by decide) (backOf (W := 0) (rm9 l Z aw hw [] om (1 : Int32) h43 n0 ZZ F_isPresent_om (by decide)) hZ (hw _ (List.mem_of_getElem? (i := 57) rfl)) (hw _ (List.mem_of_getElem? (i := 34) rfl)) (by decide) (by decide)) q45a q45c (g := (mkF m 132 #[.val (.int i0), .val (.int i1), .val (.int i2), .val (.int (2 : Int32)), .val (.long ja), .second, .val (.long jb), .second, .val (.long jc), .second, .val (.ref q), .val (.ref om), .val (.ref ov), .unset, .unset, .unset, .unset, .unset, .unset] [(.ref om)])) rfl (by rw [hml]; rfl) (Steps.refl _) (argsL := []) (rest := []) (lenOf pd_5 rfl) rfl (by show 2 * 0 + _ ≤ _; exact Nat.le_of_eq rfl) (hb hby at_132) (fun _ _ => ⟨rfl, e43, (by decide : 3 + 0 ≤ _), (by decide : 7 + 0 ≤ _)⟩)
    dsimp only [Pt.U, Pt.locs, Pt.cells, Pt.slots] at X45 l45 y45 z45 st45 hQ45
    subst l45 y45 z45
    obtain ⟨rfl, N45q, e45⟩ := hQ45
    have N45 := Fr.app N43 N45q
    refine Go.on (fun _ k => st45.trans k) ?_
    show Go _ _ _ _ _ _ _ _ (mkF m 135 #[.val (.int i0), .val (.int i1), .val (.int i2), .val (.int (2 : Int32)), .val (.long ja), .second, .val (.long jb), .second, .val (.long jc), .second, .val (.ref q), .val (.ref om), .val (.ref ov), .unset, .unset, .unset, .unset, .unset, .unset] [(.int (1 : Int32))])
    have hc46 : ¬ ((1 : Int32) = (0 : Int32)) := by decide
    refine Go.on (fun _ k => XS.ifYes X45.here hx rfl (pc0 := 135) (pc' := 140) rfl (hb hby at_135) rfl ((if0 _ _).trans (feq hc46).2) (by decide) (by decide) k) ?_
    show Go _ _ _ _ _ _ _ _ (mkF m 140 #[.val (.int i0), .val (.int i1), .val (.int i2), .val (.int (2 : Int32)), .val (.long ja), .second, .val (.long jb), .second, .val (.long jc), .second, .val (.ref q), .val (.ref om), .val (.ref ov), .unset, .unset, .unset, .unset, .unset, .unset] [])
    refine Go.on (fun _ k => XS.aload X45.here hx rfl (hb hby at_140) rfl rfl k) ?_
    show Go _ _ _ _ _ _ _ _ (mkF m 142 #[.val (.int i0), .val (.int i1), .val (.int i2), .val (.int (2 : Int32)), .val (.long ja), .second, .val (.long jb), .second, .val (.long jc), .second, .val (.ref q), .val (.ref om), .val (.ref ov), .unset, .unset, .unset, .unset, .unset, .unset] [(.ref om)])
    obtain ⟨cq47, kq47, q47a, q47b, q47c⟩ := isOf hZ e45 E_om
    obtain ⟨_, _, ⟨T47, L47, k47, n47⟩, -, X47, ⟨Lc47, hQ47, l47, y47, z47⟩, st47⟩ := X45.virtualBack hx (y := (⟨"java/util/OptionalDouble", "getAsDouble", "()D"⟩ : MethodName)) (z := (⟨"java/util/OptionalDouble", "getAsDouble", "()D"⟩ : MethodName)) hown (mvT hZ (hw _ (List.mem_of_getElem? (i := 58) rfl))) (mvT hZ (hw _ (List.mem_of_getElem? (i := 59) rfl))) (notFace_of_selects (args := #[]) (mvT hZ (hw _ (List.mem_of_getElem? (i := 61) rfl)))) (mvT hZ (hw _ (List.mem_of_getElem? (i := 61) rfl))) (mvT hZ (hw _ (List.mem_of_getElem? (i := 60) rfl))) (by decide) (backOf (W := 0) (rm10 l Z aw hw [] om mn2 h43 n0 ZZ F_isPresent_om F_value_om) hZ (hw _ (List.mem_of_getElem? (i := 62) rfl)) (hw _ (List.mem_of_getElem? (i := 34) rfl)) (by decide) (by decide)) q47a q47c (g := (mkF m 142 #[.val (.int i0), .val (.int i1), .val (.int i2), .val (.int (2 : Int32)), .val (.long ja), .second, .val (.long jb), .second, .val (.long jc), .second, .val (.ref q), .val (.ref om), .val (.ref ov), .unset, .unset, .unset, .unset, .unset, .unset] [(.ref om)])) rfl (by rw [hml]; rfl) (Steps.refl _) (argsL := []) (rest := []) (lenOf pd_6 rfl) rfl (by show 2 * 0 + _ ≤ _; exact Nat.le_of_eq rfl) (hb hby at_142) (fun _ _ => ⟨rfl, e45, (by decide : 3 + 0 ≤ _), (by decide : 7 + 0 ≤ _)⟩)
    dsimp only [Pt.U, Pt.locs, Pt.cells, Pt.slots] at X47 l47 y47 z47 st47 hQ47
    subst l47 y47 z47
    obtain ⟨rfl, N47q, e47⟩ := hQ47
    have N47 := Fr.app N45 N47q
    refine Go.on (fun _ k => st47.trans k) ?_
    show Go _ _ _ _ _ _ _ _ (mkF m 145 #[.val (.int i0), .val (.int i1), .val (.int i2), .val (.int (2 : Int32)), .val (.long ja), .second, .val (.long jb), .second, .val (.long jc), .second, .val (.ref q), .val (.ref om), .val (.ref ov), .unset, .unset, .unset, .unset, .unset, .unset] [(.double mn2)])
    refine Go.on (fun _ k => XS.dstore X47.here hx rfl (hb hby at_145) rfl (l' := #[.val (.int i0), .val (.int i1), .val (.int i2), .val (.int (2 : Int32)), .val (.long ja), .second, .val (.long jb), .second, .val (.long jc), .second, .val (.ref q), .val (.ref om), .val (.ref ov), .val (.double mn2), .second, .unset, .unset, .unset, .unset]) rfl k) ?_
    show Go _ _ _ _ _ _ _ _ (mkF m 147 #[.val (.int i0), .val (.int i1), .val (.int i2), .val (.int (2 : Int32)), .val (.long ja), .second, .val (.long jb), .second, .val (.long jc), .second, .val (.ref q), .val (.ref om), .val (.ref ov), .val (.double mn2), .second, .unset, .unset, .unset, .unset] [])
    refine Go.on (fun _ k => XS.iloadN X47.here hx rfl (hb hby at_147) rfl k) ?_
    show Go _ _ _ _ _ _ _ _ (mkF m 148 #[.val (.int i0), .val (.int i1), .val (.int i2), .val (.int (2 : Int32)), .val (.long ja), .second, .val (.long jb), .second, .val (.long jc), .second, .val (.ref q), .val (.ref om), .val (.ref ov), .val (.double mn2), .second, .unset, .unset, .unset, .unset] [(.int (2 : Int32))])
    refine Go.on (fun _ k => XS.iconst X47.here hx rfl (hb hby at_148) k) ?_
    show Go _ _ _ _ _ _ _ _ (mkF m 149 #[.val (.int i0), .val (.int i1), .val (.int i2), .val (.int (2 : Int32)), .val (.long ja), .second, .val (.long jb), .second, .val (.long jc), .second, .val (.ref q), .val (.ref om), .val (.ref ov), .val (.double mn2), .second, .unset, .unset, .unset, .unset] [(.int (1 : Int32)), (.int (2 : Int32))])
    have hc48 : ¬ ((2 : Int32) = (1 : Int32)) := by decide
    refine Go.on (fun _ k => XS.icmpYes X47.here hx rfl (pc0 := 149) (pc' := 175) rfl (hb hby at_149) rfl (feq hc48).2 (by decide) (by decide) k) ?_
    show Go _ _ _ _ _ _ _ _ (mkF m 175 #[.val (.int i0), .val (.int i1), .val (.int i2), .val (.int (2 : Int32)), .val (.long ja), .second, .val (.long jb), .second, .val (.long jc), .second, .val (.ref q), .val (.ref om), .val (.ref ov), .val (.double mn2), .second, .unset, .unset, .unset, .unset] [])
    refine Go.on (fun _ k => XS.aload X47.here hx rfl (hb hby at_175) rfl rfl k) ?_
    show Go _ _ _ _ _ _ _ _ (mkF m 177 #[.val (.int i0), .val (.int i1), .val (.int i2), .val (.int (2 : Int32)), .val (.long ja), .second, .val (.long jb), .second, .val (.long jc), .second, .val (.ref q), .val (.ref om), .val (.ref ov), .val (.double mn2), .second, .unset, .unset, .unset, .unset] [(.ref ov)])
    obtain ⟨cq49, kq49, q49a, q49b, q49c⟩ := isOf hZ e47 E_ov
    obtain ⟨_, _, ⟨T49, L49, k49, n49⟩, -, X49, ⟨Lc49, hQ49, l49, y49, z49⟩, st49⟩ := X47.virtualBack hx (y := (⟨"java/util/OptionalDouble", "isPresent", "()Z"⟩ : MethodName)) (z := (⟨"java/util/OptionalDouble", "isPresent", "()Z"⟩ : MethodName)) hown (mvT hZ (hw _ (List.mem_of_getElem? (i := 53) rfl))) (mvT hZ (hw _ (List.mem_of_getElem? (i := 54) rfl))) (notFace_of_selects (args := #[]) (mvT hZ (hw _ (List.mem_of_getElem? (i := 56) rfl)))) (mvT hZ (hw _ (List.mem_of_getElem? (i := 56) rfl))) (mvT hZ (hw _ (List.mem_of_getElem? (i := 55) rfl))) (by decide) (backOf (W := 0) (rm9 l Z aw hw [] ov (1 : Int32) h43 n0 ZZ F_isPresent_ov (by decide)) hZ (hw _ (List.mem_of_getElem? (i := 57) rfl)) (hw _ (List.mem_of_getElem? (i := 34) rfl)) (by decide) (by decide)) q49a q49c (g := (mkF m 177 #[.val (.int i0), .val (.int i1), .val (.int i2), .val (.int (2 : Int32)), .val (.long ja), .second, .val (.long jb), .second, .val (.long jc), .second, .val (.ref q), .val (.ref om), .val (.ref ov), .val (.double mn2), .second, .unset, .unset, .unset, .unset] [(.ref ov)])) rfl (by rw [hml]; rfl) (Steps.refl _) (argsL := []) (rest := []) (lenOf pd_5 rfl) rfl (by show 2 * 0 + _ ≤ _; exact Nat.le_of_eq rfl) (hb hby at_177) (fun _ _ => ⟨rfl, e47, (by decide : 3 + 0 ≤ _), (by decide : 7 + 0 ≤ _)⟩)
    dsimp only [Pt.U, Pt.locs, Pt.cells, Pt.slots] at X49 l49 y49 z49 st49 hQ49
    subst l49 y49 z49
    obtain ⟨rfl, N49q, e49⟩ := hQ49
    have N49 := Fr.app N47 N49q
    refine Go.on (fun _ k => st49.trans k) ?_
    show Go _ _ _ _ _ _ _ _ (mkF m 180 #[.val (.int i0), .val (.int i1), .val (.int i2), .val (.int (2 : Int32)), .val (.long ja), .second, .val (.long jb), .second, .val (.long jc), .second, .val (.ref q), .val (.ref om), .val (.ref ov), .val (.double mn2), .second, .unset, .unset, .unset, .unset] [(.int (1 : Int32))])
    have hc50 : ¬ ((1 : Int32) = (0 : Int32)) := by decide
    refine Go.on (fun _ k => XS.ifYes X49.here hx rfl (pc0 := 180) (pc' := 185) rfl (hb hby at_180) rfl ((if0 _ _).trans (feq hc50).2) (by decide) (by decide) k) ?_
    show Go _ _ _ _ _ _ _ _ (mkF m 185 #[.val (.int i0), .val (.int i1), .val (.int i2), .val (.int (2 : Int32)), .val (.long ja), .second, .val (.long jb), .second, .val (.long jc), .second, .val (.ref q), .val (.ref om), .val (.ref ov), .val (.double mn2), .second, .unset, .unset, .unset, .unset] [])
    refine Go.on (fun _ k => XS.aload X49.here hx rfl (hb hby at_185) rfl rfl k) ?_
    show Go _ _ _ _ _ _ _ _ (mkF m 187 #[.val (.int i0), .val (.int i1), .val (.int i2), .val (.int (2 : Int32)), .val (.long ja), .second, .val (.long jb), .second, .val (.long jc), .second, .val (.ref q), .val (.ref om), .val (.ref ov), .val (.double mn2), .second, .unset, .unset, .unset, .unset] [(.ref ov)])
    obtain ⟨cq51, kq51, q51a, q51b, q51c⟩ := isOf hZ e49 E_ov
    obtain ⟨_, _, ⟨T51, L51, k51, n51⟩, -, X51, ⟨Lc51, hQ51, l51, y51, z51⟩, st51⟩ := X49.virtualBack hx (y := (⟨"java/util/OptionalDouble", "getAsDouble", "()D"⟩ : MethodName)) (z := (⟨"java/util/OptionalDouble", "getAsDouble", "()D"⟩ : MethodName)) hown (mvT hZ (hw _ (List.mem_of_getElem? (i := 58) rfl))) (mvT hZ (hw _ (List.mem_of_getElem? (i := 59) rfl))) (notFace_of_selects (args := #[]) (mvT hZ (hw _ (List.mem_of_getElem? (i := 61) rfl)))) (mvT hZ (hw _ (List.mem_of_getElem? (i := 61) rfl))) (mvT hZ (hw _ (List.mem_of_getElem? (i := 60) rfl))) (by decide) (backOf (W := 0) (rm10 l Z aw hw [] ov (FP.ddiv sd2 (FP.l2d ((2 : Int64) - (1 : Int64)))) h43 n0 ZZ F_isPresent_ov F_value_ov) hZ (hw _ (List.mem_of_getElem? (i := 62) rfl)) (hw _ (List.mem_of_getElem? (i := 34) rfl)) (by decide) (by decide)) q51a q51c (g := (mkF m 187 #[.val (.int i0), .val (.int i1), .val (.int i2), .val (.int (2 : Int32)), .val (.long ja), .second, .val (.long jb), .second, .val (.long jc), .second, .val (.ref q), .val (.ref om), .val (.ref ov), .val (.double mn2), .second, .unset, .unset, .unset, .unset] [(.ref ov)])) rfl (by rw [hml]; rfl) (Steps.refl _) (argsL := []) (rest := []) (lenOf pd_6 rfl) rfl (by show 2 * 0 + _ ≤ _; exact Nat.le_of_eq rfl) (hb hby at_187) (fun _ _ => ⟨rfl, e49, (by decide : 3 + 0 ≤ _), (by decide : 7 + 0 ≤ _)⟩)
    dsimp only [Pt.U, Pt.locs, Pt.cells, Pt.slots] at X51 l51 y51 z51 st51 hQ51
    subst l51 y51 z51
    obtain ⟨rfl, N51q, e51⟩ := hQ51
    have N51 := Fr.app N49 N51q
    refine Go.on (fun _ k => st51.trans k) ?_
    show Go _ _ _ _ _ _ _ _ (mkF m 190 #[.val (.int i0), .val (.int i1), .val (.int i2), .val (.int (2 : Int32)), .val (.long ja), .second, .val (.long jb), .second, .val (.long jc), .second, .val (.ref q), .val (.ref om), .val (.ref ov), .val (.double mn2), .second, .unset, .unset, .unset, .unset] [(.double (FP.ddiv sd2 (FP.l2d ((2 : Int64) - (1 : Int64)))))])
    refine Go.on (fun _ k => XS.dstore X51.here hx rfl (hb hby at_190) rfl (l' := #[.val (.int i0), .val (.int i1), .val (.int i2), .val (.int (2 : Int32)), .val (.long ja), .second, .val (.long jb), .second, .val (.long jc), .second, .val (.ref q), .val (.ref om), .val (.ref ov), .val (.double mn2), .second, .val (.double (FP.ddiv sd2 (FP.l2d ((2 : Int64) - (1 : Int64))))), .second, .unset, .unset]) rfl k) ?_
    show Go _ _ _ _ _ _ _ _ (mkF m 192 #[.val (.int i0), .val (.int i1), .val (.int i2), .val (.int (2 : Int32)), .val (.long ja), .second, .val (.long jb), .second, .val (.long jc), .second, .val (.ref q), .val (.ref om), .val (.ref ov), .val (.double mn2), .second, .val (.double (FP.ddiv sd2 (FP.l2d ((2 : Int64) - (1 : Int64))))), .second, .unset, .unset] [])
    generalize hvv : (FP.ddiv sd2 (FP.l2d ((2 : Int64) - (1 : Int64)))) = vv
    show Go _ _ _ _ _ _ _ _ (mkF m 192 #[.val (.int i0), .val (.int i1), .val (.int i2), .val (.int (2 : Int32)), .val (.long ja), .second, .val (.long jb), .second, .val (.long jc), .second, .val (.ref q), .val (.ref om), .val (.ref ov), .val (.double mn2), .second, .val (.double vv), .second, .unset, .unset] [])
    refine Go.on (fun _ k => XS.lload X51.here hx rfl (hb hby at_192) rfl k) ?_
    show Go _ _ _ _ _ _ _ _ (mkF m 194 #[.val (.int i0), .val (.int i1), .val (.int i2), .val (.int (2 : Int32)), .val (.long ja), .second, .val (.long jb), .second, .val (.long jc), .second, .val (.ref q), .val (.ref om), .val (.ref ov), .val (.double mn2), .second, .val (.double vv), .second, .unset, .unset] [(.long jb)])
    refine Go.on (fun _ k => XS.lload X51.here hx rfl (hb hby at_194) rfl k) ?_
    show Go _ _ _ _ _ _ _ _ (mkF m 196 #[.val (.int i0), .val (.int i1), .val (.int i2), .val (.int (2 : Int32)), .val (.long ja), .second, .val (.long jb), .second, .val (.long jc), .second, .val (.ref q), .val (.ref om), .val (.ref ov), .val (.double mn2), .second, .val (.double vv), .second, .unset, .unset] [(.long ja), (.long jb)])
    refine Go.on (fun _ k => XS.lsub X51.here hx rfl (hb hby at_196) rfl k) ?_
    show Go _ _ _ _ _ _ _ _ (mkF m 197 #[.val (.int i0), .val (.int i1), .val (.int i2), .val (.int (2 : Int32)), .val (.long ja), .second, .val (.long jb), .second, .val (.long jc), .second, .val (.ref q), .val (.ref om), .val (.ref ov), .val (.double mn2), .second, .val (.double vv), .second, .unset, .unset] [(.long (jb - ja))])
    refine Go.on (fun _ k => XS.lstore X51.here hx rfl (hb hby at_197) rfl (l' := #[.val (.int i0), .val (.int i1), .val (.int i2), .val (.int (2 : Int32)), .val (.long ja), .second, .val (.long jb), .second, .val (.long jc), .second, .val (.ref q), .val (.ref om), .val (.ref ov), .val (.double mn2), .second, .val (.double vv), .second, .val (.long (jb - ja)), .second]) rfl k) ?_
    show Go _ _ _ _ _ _ _ _ (mkF m 199 #[.val (.int i0), .val (.int i1), .val (.int i2), .val (.int (2 : Int32)), .val (.long ja), .second, .val (.long jb), .second, .val (.long jc), .second, .val (.ref q), .val (.ref om), .val (.ref ov), .val (.double mn2), .second, .val (.double vv), .second, .val (.long (jb - ja)), .second] [])
    generalize hje : (jb - ja) = je
    show Go _ _ _ _ _ _ _ _ (mkF m 199 #[.val (.int i0), .val (.int i1), .val (.int i2), .val (.int (2 : Int32)), .val (.long ja), .second, .val (.long jb), .second, .val (.long jc), .second, .val (.ref q), .val (.ref om), .val (.ref ov), .val (.double mn2), .second, .val (.double vv), .second, .val (.long je), .second] [])
    refine Go.on (fun _ k => XS.iloadN X51.here hx rfl (hb hby at_199) rfl k) ?_
    show Go _ _ _ _ _ _ _ _ (mkF m 200 #[.val (.int i0), .val (.int i1), .val (.int i2), .val (.int (2 : Int32)), .val (.long ja), .second, .val (.long jb), .second, .val (.long jc), .second, .val (.ref q), .val (.ref om), .val (.ref ov), .val (.double mn2), .second, .val (.double vv), .second, .val (.long je), .second] [(.int (2 : Int32))])
    refine Go.on (fun _ k => XS.iconst X51.here hx rfl (hb hby at_200) k) ?_
    show Go _ _ _ _ _ _ _ _ (mkF m 201 #[.val (.int i0), .val (.int i1), .val (.int i2), .val (.int (2 : Int32)), .val (.long ja), .second, .val (.long jb), .second, .val (.long jc), .second, .val (.ref q), .val (.ref om), .val (.ref ov), .val (.double mn2), .second, .val (.double vv), .second, .val (.long je), .second] [(.int (2 : Int32)), (.int (2 : Int32))])
    have hc52 : (2 : Int32) = (2 : Int32) := by decide
    refine Go.on (fun _ k => XS.icmpNo X51.here hx rfl (hb hby at_201) rfl (teq hc52).2 k) ?_
    show Go _ _ _ _ _ _ _ _ (mkF m 204 #[.val (.int i0), .val (.int i1), .val (.int i2), .val (.int (2 : Int32)), .val (.long ja), .second, .val (.long jb), .second, .val (.long jc), .second, .val (.ref q), .val (.ref om), .val (.ref ov), .val (.double mn2), .second, .val (.double vv), .second, .val (.long je), .second] [])
    refine Go.on (fun _ k => XS.dload X51.here hx rfl (hb hby at_204) rfl k) ?_
    show Go _ _ _ _ _ _ _ _ (mkF m 206 #[.val (.int i0), .val (.int i1), .val (.int i2), .val (.int (2 : Int32)), .val (.long ja), .second, .val (.long jb), .second, .val (.long jc), .second, .val (.ref q), .val (.ref om), .val (.ref ov), .val (.double mn2), .second, .val (.double vv), .second, .val (.long je), .second] [(.double mn2)])
    refine Go.on (X51.ldc2DoubleC hx hown (mvT hZ (hw _ (List.mem_of_getElem? (i := 63) rfl))) (g := (mkF m 206 #[.val (.int i0), .val (.int i1), .val (.int i2), .val (.int (2 : Int32)), .val (.long ja), .second, .val (.long jb), .second, .val (.long jc), .second, .val (.ref q), .val (.ref om), .val (.ref ov), .val (.double mn2), .second, .val (.double vv), .second, .val (.long je), .second] [(.double mn2)])) rfl (hb hby at_206)) ?_
    show Go _ _ _ _ _ _ _ _ (mkF m 209 #[.val (.int i0), .val (.int i1), .val (.int i2), .val (.int (2 : Int32)), .val (.long ja), .second, .val (.long jb), .second, .val (.long jc), .second, .val (.ref q), .val (.ref om), .val (.ref ov), .val (.double mn2), .second, .val (.double vv), .second, .val (.long je), .second] [(.double (4611686018427387904 : UInt64)), (.double mn2)])
    refine Go.on (fun _ k => XS.dmulS X51.here hx rfl (hb hby at_209) rfl ((own_m2 Hm2 (by omega)).nn) rfl k) ?_
    show Go _ _ _ _ _ _ _ _ (mkF m 210 #[.val (.int i0), .val (.int i1), .val (.int i2), .val (.int (2 : Int32)), .val (.long ja), .second, .val (.long jb), .second, .val (.long jc), .second, .val (.ref q), .val (.ref om), .val (.ref ov), .val (.double mn2), .second, .val (.double vv), .second, .val (.long je), .second] [(.double (FP.dmul mn2 (4611686018427387904 : UInt64)))])
    refine Go.on (fun _ k => XS.lload X51.here hx rfl (hb hby at_210) rfl k) ?_
    show Go _ _ _ _ _ _ _ _ (mkF m 212 #[.val (.int i0), .val (.int i1), .val (.int i2), .val (.int (2 : Int32)), .val (.long ja), .second, .val (.long jb), .second, .val (.long jc), .second, .val (.ref q), .val (.ref om), .val (.ref ov), .val (.double mn2), .second, .val (.double vv), .second, .val (.long je), .second] [(.long ja), (.double (FP.dmul mn2 (4611686018427387904 : UInt64)))])
    refine Go.on (fun _ k => XS.lload X51.here hx rfl (hb hby at_212) rfl k) ?_
    show Go _ _ _ _ _ _ _ _ (mkF m 214 #[.val (.int i0), .val (.int i1), .val (.int i2), .val (.int (2 : Int32)), .val (.long ja), .second, .val (.long jb), .second, .val (.long jc), .second, .val (.ref q), .val (.ref om), .val (.ref ov), .val (.double mn2), .second, .val (.double vv), .second, .val (.long je), .second] [(.long jb), (.long ja), (.double (FP.dmul mn2 (4611686018427387904 : UInt64)))])
    refine Go.on (fun _ k => XS.ladd X51.here hx rfl (hb hby at_214) rfl k) ?_
    show Go _ _ _ _ _ _ _ _ (mkF m 215 #[.val (.int i0), .val (.int i1), .val (.int i2), .val (.int (2 : Int32)), .val (.long ja), .second, .val (.long jb), .second, .val (.long jc), .second, .val (.ref q), .val (.ref om), .val (.ref ov), .val (.double mn2), .second, .val (.double vv), .second, .val (.long je), .second] [(.long (ja + jb)), (.double (FP.dmul mn2 (4611686018427387904 : UInt64)))])
    refine Go.on (fun _ k => XS.l2dS X51.here hx rfl (hb hby at_215) rfl rfl k) ?_
    show Go _ _ _ _ _ _ _ _ (mkF m 216 #[.val (.int i0), .val (.int i1), .val (.int i2), .val (.int (2 : Int32)), .val (.long ja), .second, .val (.long jb), .second, .val (.long jc), .second, .val (.ref q), .val (.ref om), .val (.ref ov), .val (.double mn2), .second, .val (.double vv), .second, .val (.long je), .second] [(.double (FP.l2d (ja + jb))), (.double (FP.dmul mn2 (4611686018427387904 : UInt64)))])
    refine Go.on (fun _ k => XS.dcmpS X51.here hx rfl (hb hby at_216) rfl rfl k) ?_
    show Go _ _ _ _ _ _ _ _ (mkF m 217 #[.val (.int i0), .val (.int i1), .val (.int i2), .val (.int (2 : Int32)), .val (.long ja), .second, .val (.long jb), .second, .val (.long jc), .second, .val (.ref q), .val (.ref om), .val (.ref ov), .val (.double mn2), .second, .val (.double vv), .second, .val (.long je), .second] [(.int (cmpValue (FP.dcmp (FP.dmul mn2 (4611686018427387904 : UInt64)) (FP.l2d (ja + jb))) .l))])
    have hc53 : (cmpValue (FP.dcmp (FP.dmul mn2 (4611686018427387904 : UInt64)) (FP.l2d (ja + jb))) .l) = (0 : Int32) := HV.eq (own_m2 Hm2 (by omega)) (own_hl _ (by rw [own_sumAB ha hb_]; omega)) (by rw [own_sumAB ha hb_]; omega)
    refine Go.on (fun _ k => XS.ifNo X51.here hx rfl (hb hby at_217) rfl ((if0 _ _).trans (teq hc53).2) k) ?_
    show Go _ _ _ _ _ _ _ _ (mkF m 220 #[.val (.int i0), .val (.int i1), .val (.int i2), .val (.int (2 : Int32)), .val (.long ja), .second, .val (.long jb), .second, .val (.long jc), .second, .val (.ref q), .val (.ref om), .val (.ref ov), .val (.double mn2), .second, .val (.double vv), .second, .val (.long je), .second] [])
    refine Go.on (fun _ k => XS.dload X51.here hx rfl (hb hby at_220) rfl k) ?_
    show Go _ _ _ _ _ _ _ _ (mkF m 222 #[.val (.int i0), .val (.int i1), .val (.int i2), .val (.int (2 : Int32)), .val (.long ja), .second, .val (.long jb), .second, .val (.long jc), .second, .val (.ref q), .val (.ref om), .val (.ref ov), .val (.double mn2), .second, .val (.double vv), .second, .val (.long je), .second] [(.double vv)])
    refine Go.on (X51.ldc2DoubleC hx hown (mvT hZ (hw _ (List.mem_of_getElem? (i := 63) rfl))) (g := (mkF m 222 #[.val (.int i0), .val (.int i1), .val (.int i2), .val (.int (2 : Int32)), .val (.long ja), .second, .val (.long jb), .second, .val (.long jc), .second, .val (.ref q), .val (.ref om), .val (.ref ov), .val (.double mn2), .second, .val (.double vv), .second, .val (.long je), .second] [(.double vv)])) rfl (hb hby at_222)) ?_
    show Go _ _ _ _ _ _ _ _ (mkF m 225 #[.val (.int i0), .val (.int i1), .val (.int i2), .val (.int (2 : Int32)), .val (.long ja), .second, .val (.long jb), .second, .val (.long jc), .second, .val (.ref q), .val (.ref om), .val (.ref ov), .val (.double mn2), .second, .val (.double vv), .second, .val (.long je), .second] [(.double (4611686018427387904 : UInt64)), (.double vv)])
    refine Go.on (fun _ k => XS.dmulS X51.here hx rfl (hb hby at_225) rfl ((own_m2 (hvv ▸ Hv) (own_b2 ha hb_)).nn) rfl k) ?_
    show Go _ _ _ _ _ _ _ _ (mkF m 226 #[.val (.int i0), .val (.int i1), .val (.int i2), .val (.int (2 : Int32)), .val (.long ja), .second, .val (.long jb), .second, .val (.long jc), .second, .val (.ref q), .val (.ref om), .val (.ref ov), .val (.double mn2), .second, .val (.double vv), .second, .val (.long je), .second] [(.double (FP.dmul vv (4611686018427387904 : UInt64)))])
    refine Go.on (fun _ k => XS.lload X51.here hx rfl (hb hby at_226) rfl k) ?_
    show Go _ _ _ _ _ _ _ _ (mkF m 228 #[.val (.int i0), .val (.int i1), .val (.int i2), .val (.int (2 : Int32)), .val (.long ja), .second, .val (.long jb), .second, .val (.long jc), .second, .val (.ref q), .val (.ref om), .val (.ref ov), .val (.double mn2), .second, .val (.double vv), .second, .val (.long je), .second] [(.long je), (.double (FP.dmul vv (4611686018427387904 : UInt64)))])
    refine Go.on (fun _ k => XS.lload X51.here hx rfl (hb hby at_228) rfl k) ?_
    show Go _ _ _ _ _ _ _ _ (mkF m 230 #[.val (.int i0), .val (.int i1), .val (.int i2), .val (.int (2 : Int32)), .val (.long ja), .second, .val (.long jb), .second, .val (.long jc), .second, .val (.ref q), .val (.ref om), .val (.ref ov), .val (.double mn2), .second, .val (.double vv), .second, .val (.long je), .second] [(.long je), (.long je), (.double (FP.dmul vv (4611686018427387904 : UInt64)))])
    refine Go.on (fun _ k => XS.lmul X51.here hx rfl (hb hby at_230) rfl k) ?_
    show Go _ _ _ _ _ _ _ _ (mkF m 231 #[.val (.int i0), .val (.int i1), .val (.int i2), .val (.int (2 : Int32)), .val (.long ja), .second, .val (.long jb), .second, .val (.long jc), .second, .val (.ref q), .val (.ref om), .val (.ref ov), .val (.double mn2), .second, .val (.double vv), .second, .val (.long je), .second] [(.long (je * je)), (.double (FP.dmul vv (4611686018427387904 : UInt64)))])
    refine Go.on (fun _ k => XS.l2dS X51.here hx rfl (hb hby at_231) rfl rfl k) ?_
    show Go _ _ _ _ _ _ _ _ (mkF m 232 #[.val (.int i0), .val (.int i1), .val (.int i2), .val (.int (2 : Int32)), .val (.long ja), .second, .val (.long jb), .second, .val (.long jc), .second, .val (.ref q), .val (.ref om), .val (.ref ov), .val (.double mn2), .second, .val (.double vv), .second, .val (.long je), .second] [(.double (FP.l2d (je * je))), (.double (FP.dmul vv (4611686018427387904 : UInt64)))])
    refine Go.on (fun _ k => XS.dcmpS X51.here hx rfl (hb hby at_232) rfl rfl k) ?_
    show Go _ _ _ _ _ _ _ _ (mkF m 233 #[.val (.int i0), .val (.int i1), .val (.int i2), .val (.int (2 : Int32)), .val (.long ja), .second, .val (.long jb), .second, .val (.long jc), .second, .val (.ref q), .val (.ref om), .val (.ref ov), .val (.double mn2), .second, .val (.double vv), .second, .val (.long je), .second] [(.int (cmpValue (FP.dcmp (FP.dmul vv (4611686018427387904 : UInt64)) (FP.l2d (je * je))) .l))])
    have hc54 : (cmpValue (FP.dcmp (FP.dmul vv (4611686018427387904 : UInt64)) (FP.l2d (je * je))) .l) = (0 : Int32) := own_e2 hje hvv ha hb_ Hv
    refine Go.on (fun _ k => XS.ifNo X51.here hx rfl (hb hby at_233) rfl ((if0 _ _).trans (teq hc54).2) k) ?_
    show Go _ _ _ _ _ _ _ _ (mkF m 236 #[.val (.int i0), .val (.int i1), .val (.int i2), .val (.int (2 : Int32)), .val (.long ja), .second, .val (.long jb), .second, .val (.long jc), .second, .val (.ref q), .val (.ref om), .val (.ref ov), .val (.double mn2), .second, .val (.double vv), .second, .val (.long je), .second] [])
    refine Go.on (fun _ k => XS.iconst X51.here hx rfl (hb hby at_236) k) ?_
    show Go _ _ _ _ _ _ _ _ (mkF m 237 #[.val (.int i0), .val (.int i1), .val (.int i2), .val (.int (2 : Int32)), .val (.long ja), .second, .val (.long jb), .second, .val (.long jc), .second, .val (.ref q), .val (.ref om), .val (.ref ov), .val (.double mn2), .second, .val (.double vv), .second, .val (.long je), .second] [(.int (1 : Int32))])
    refine Go.on (fun _ k => XS.goto X51.here hx rfl (pc0 := 237) (pc' := 241) rfl (hb hby at_237) (by decide) (by decide) k) ?_
    show Go _ _ _ _ _ _ _ _ (mkF m 241 #[.val (.int i0), .val (.int i1), .val (.int i2), .val (.int (2 : Int32)), .val (.long ja), .second, .val (.long jb), .second, .val (.long jc), .second, .val (.ref q), .val (.ref om), .val (.ref ov), .val (.double mn2), .second, .val (.double vv), .second, .val (.long je), .second] [(.int (1 : Int32))])
    refine Go.retN X51 hx (t := .boolean) Bd.returns (by simp) (hb hby at_241) ?_ (by rw [hK1]; decide) (by rw [hK2]; decide)
    rw [e51, ← hQQ]
    exact ⟨rfl, N51⟩
  · -- 3 values
    subst hk
    show Go _ _ _ _ _ _ _ _ (mkF m 29 #[.val (.int i0), .val (.int i1), .val (.int i2), .val (.int (3 : Int32)), .val (.long ja), .second, .val (.long jb), .second, .val (.long jc), .second, .unset, .unset, .unset, .unset, .unset, .unset, .unset, .unset, .unset] [])
    obtain ⟨T55, h55, X55, e55, E55, A55, D55, -, st55⟩ := newO X0 hx hZ hown (hw _ (List.mem_of_getElem? (i := 2) rfl)) (hw _ (List.mem_of_getElem? (i := 3) rfl)) (hw _ (List.mem_of_getElem? (i := 4) rfl)) e0 (g := (mkF m 29 #[.val (.int i0), .val (.int i1), .val (.int i2), .val (.int (3 : Int32)), .val (.long ja), .second, .val (.long jb), .second, .val (.long jc), .second, .unset, .unset, .unset, .unset, .unset, .unset, .unset, .unset, .unset] [])) rfl (hb hby at_29) (by decide) (by decide)
    obtain ⟨q, g55⟩ : ∃ z, z = h0.size := ⟨_, rfl⟩
    have ne_em_q : em ≠ q := Nat.ne_of_lt (Nat.lt_of_lt_of_le E_em.lt (Nat.le_of_eq g55.symm))
    have g_q : n0 ≤ q := Nat.le_trans ZZ (Nat.le_of_eq g55.symm)
    rw [← g55] at A55 D55 st55
    replace S_EMPTY := S_EMPTY.ext E55
    replace E_em := E_em.ext E55
    replace F_isPresent_em := F_isPresent_em.ext E55
    replace ZZ := Nat.le_trans ZZ E55.1
    have E_q := A55
    have F_count_q : Fld Z h55 q "com/example/parley/parley/replication/SampleStatistics" "count" "J" (.long (0 : Int64)) := D55 (Or.inl (hw _ (List.mem_of_getElem? (i := 17) rfl))) (ty := .long) (by decide)
    have F_mean_q : Fld Z h55 q "com/example/parley/parley/replication/SampleStatistics" "mean" "D" (.double (0 : UInt64)) := D55 (Or.inl (hw _ (List.mem_of_getElem? (i := 19) rfl))) (ty := .double) (by decide)
    have F_sumOfSquaredDeviations_q : Fld Z h55 q "com/example/parley/parley/replication/SampleStatistics" "sumOfSquaredDeviations" "D" (.double (0 : UInt64)) := D55 (Or.inl (hw _ (List.mem_of_getElem? (i := 21) rfl))) (ty := .double) (by decide)
    refine Go.on st55 ?_
    show Go _ _ _ _ _ _ _ _ (mkF m 32 #[.val (.int i0), .val (.int i1), .val (.int i2), .val (.int (3 : Int32)), .val (.long ja), .second, .val (.long jb), .second, .val (.long jc), .second, .unset, .unset, .unset, .unset, .unset, .unset, .unset, .unset, .unset] [(.ref q)])
    refine Go.on (fun _ k => XS.dup X55.here hx rfl (hb hby at_32) rfl rfl k) ?_
    show Go _ _ _ _ _ _ _ _ (mkF m 33 #[.val (.int i0), .val (.int i1), .val (.int i2), .val (.int (3 : Int32)), .val (.long ja), .second, .val (.long jb), .second, .val (.long jc), .second, .unset, .unset, .unset, .unset, .unset, .unset, .unset, .unset, .unset] [(.ref q), (.ref q)])
    obtain ⟨_, _, ⟨T56, L56, k56, n56⟩, -, X56, ⟨Lc56, hQ56, l56, y56, z56⟩, st56⟩ := X55.specialBack hx (y := (⟨"com/example/parley/parley/replication/SampleStatistics", "<init>", "()V"⟩ : MethodName)) rfl hown (mvT hZ (hw _ (List.mem_of_getElem? (i := 5) rfl))) (mvT hZ (hw _ (List.mem_of_getElem? (i := 6) rfl))) (mvT hZ (hw _ (List.mem_of_getElem? (i := 7) rfl))) (by decide) (backOf (W := 1) (rm1 l Z aw hw [] q  h55 n0 ZZ ) hZ (hw _ (List.mem_of_getElem? (i := 7) rfl)) (hw _ (List.mem_of_getElem? (i := 4) rfl)) (by decide) (by decide)) (g := (mkF m 33 #[.val (.int i0), .val (.int i1), .val (.int i2), .val (.int (3 : Int32)), .val (.long ja), .second, .val (.long jb), .second, .val (.long jc), .second, .unset, .unset, .unset, .unset, .unset, .unset, .unset, .unset, .unset] [(.ref q), (.ref q)])) rfl (by rw [hml]; rfl) (Steps.refl _) (a := q) (argsL := []) (rest := [(.ref q)]) (lenOf pd_3 rfl) rfl (by show 2 * 0 + _ ≤ _; exact Nat.le_of_eq rfl) (hb hby at_33) (fun _ _ => ⟨rfl, e55, (by decide : 1 + 0 ≤ _), (by decide : 3 + 0 ≤ _)⟩)
    dsimp only [Pt.U, Pt.locs, Pt.cells, Pt.slots] at X56 l56 y56 z56 st56 hQ56
    subst l56 y56 z56
    obtain ⟨rfl, N56q, e56⟩ := hQ56
    have N56 := Fr.app N0 N56q
    refine Go.on (fun _ k => st56.trans k) ?_
    show Go _ _ _ _ _ _ _ _ (mkF m 36 #[.val (.int i0), .val (.int i1), .val (.int i2), .val (.int (3 : Int32)), .val (.long ja), .second, .val (.long jb), .second, .val (.long jc), .second, .unset, .unset, .unset, .unset, .unset, .unset, .unset, .unset, .unset] [(.ref q)])
    refine Go.on (fun _ k => XS.astore X56.here hx rfl (hb hby at_36) rfl rfl (l' := #[.val (.int i0), .val (.int i1), .val (.int i2), .val (.int (3 : Int32)), .val (.long ja), .second, .val (.long jb), .second, .val (.long jc), .second, .val (.ref q), .unset, .unset, .unset, .unset, .unset, .unset, .unset, .unset]) rfl k) ?_
    show Go _ _ _ _ _ _ _ _ (mkF m 38 #[.val (.int i0), .val (.int i1), .val (.int i2), .val (.int (3 : Int32)), .val (.long ja), .second, .val (.long jb), .second, .val (.long jc), .second, .val (.ref q), .unset, .unset, .unset, .unset, .unset, .unset, .unset, .unset] [])
    refine Go.on (fun _ k => XS.iloadN X56.here hx rfl (hb hby at_38) rfl k) ?_
    show Go _ _ _ _ _ _ _ _ (mkF m 39 #[.val (.int i0), .val (.int i1), .val (.int i2), .val (.int (3 : Int32)), .val (.long ja), .second, .val (.long jb), .second, .val (.long jc), .second, .val (.ref q), .unset, .unset, .unset, .unset, .unset, .unset, .unset, .unset] [(.int (3 : Int32))])
    refine Go.on (fun _ k => XS.iconst X56.here hx rfl (hb hby at_39) k) ?_
    show Go _ _ _ _ _ _ _ _ (mkF m 40 #[.val (.int i0), .val (.int i1), .val (.int i2), .val (.int (3 : Int32)), .val (.long ja), .second, .val (.long jb), .second, .val (.long jc), .second, .val (.ref q), .unset, .unset, .unset, .unset, .unset, .unset, .unset, .unset] [(.int (1 : Int32)), (.int (3 : Int32))])
    have hc57 : ¬ ((3 : Int32) < (1 : Int32)) := by decide
    refine Go.on (fun _ k => XS.icmpNo X56.here hx rfl (hb hby at_40) rfl (flt hc57).1 k) ?_
    show Go _ _ _ _ _ _ _ _ (mkF m 43 #[.val (.int i0), .val (.int i1), .val (.int i2), .val (.int (3 : Int32)), .val (.long ja), .second, .val (.long jb), .second, .val (.long jc), .second, .val (.ref q), .unset, .unset, .unset, .unset, .unset, .unset, .unset, .unset] [])
    refine Go.on (fun _ k => XS.aload X56.here hx rfl (hb hby at_43) rfl rfl k) ?_
    show Go _ _ _ _ _ _ _ _ (mkF m 45 #[.val (.int i0), .val (.int i1), .val (.int i2), .val (.int (3 : Int32)), .val (.long ja), .second, .val (.long jb), .second, .val (.long jc), .second, .val (.ref q), .unset, .unset, .unset, .unset, .unset, .unset, .unset, .unset] [(.ref q)])
    refine Go.on (fun _ k => XS.lload X56.here hx rfl (hb hby at_45) rfl k) ?_
    show Go _ _ _ _ _ _ _ _ (mkF m 47 #[.val (.int i0), .val (.int i1), .val (.int i2), .val (.int (3 : Int32)), .val (.long ja), .second, .val (.long jb), .second, .val (.long jc), .second, .val (.ref q), .unset, .unset, .unset, .unset, .unset, .unset, .unset, .unset] [(.long ja), (.ref q)])
    refine Go.on (fun _ k => XS.l2dS X56.here hx rfl (hb hby at_47) rfl rfl k) ?_
    show Go _ _ _ _ _ _ _ _ (mkF m 48 #[.val (.int i0), .val (.int i1), .val (.int i2), .val (.int (3 : Int32)), .val (.long ja), .second, .val (.long jb), .second, .val (.long jc), .second, .val (.ref q), .unset, .unset, .unset, .unset, .unset, .unset, .unset, .unset] [(.double (FP.l2d ja)), (.ref q)])
    have hAd1 := own_first ha
    obtain ⟨cq58, kq58, q58a, q58b, q58c⟩ := isOf hZ e56 E_q
    obtain ⟨_, _, ⟨T58, L58, k58, n58⟩, -, X58, ⟨Lc58, hQ58, l58, y58, z58⟩, st58⟩ := X56.virtualBack hx (y := (⟨"com/example/parley/parley/replication/SampleStatistics", "add", "(D)V"⟩ : MethodName)) (z := (⟨"com/example/parley/parley/replication/SampleStatistics", "add", "(D)V"⟩ : MethodName)) hown (mvT hZ (hw _ (List.mem_of_getElem? (i := 11) rfl))) (mvT hZ (hw _ (List.mem_of_getElem? (i := 12) rfl))) (notFace_of_selects (args := #[]) (mvT hZ (hw _ (List.mem_of_getElem? (i := 14) rfl)))) (mvT hZ (hw _ (List.mem_of_getElem? (i := 14) rfl))) (mvT hZ (hw _ (List.mem_of_getElem? (i := 13) rfl))) (by decide) (backOf (W := 0) (rm3 l Z aw hw [] q (FP.l2d ja) (0 : Int64) (0 : UInt64) (0 : UInt64) h55 n0 ZZ E_q F_count_q F_mean_q F_sumOfSquaredDeviations_q g_q hAd1.1 hAd1.2.1 hAd1.2.2.1 hAd1.2.2.2.1 hAd1.2.2.2.2.1 hAd1.2.2.2.2.2.1) hZ (hw _ (List.mem_of_getElem? (i := 15) rfl)) (hw _ (List.mem_of_getElem? (i := 4) rfl)) (by decide) (by decide)) q58a q58c (g := (mkF m 48 #[.val (.int i0), .val (.int i1), .val (.int i2), .val (.int (3 : Int32)), .val (.long ja), .second, .val (.long jb), .second, .val (.long jc), .second, .val (.ref q), .unset, .unset, .unset, .unset, .unset, .unset, .unset, .unset] [(.double (FP.l2d ja)), (.ref q)])) rfl (by rw [hml]; rfl) (Steps.refl _) (argsL := [(.double (FP.l2d ja))]) (rest := []) (lenOf pd_0 rfl) rfl (by show 2 * 0 + _ ≤ _; exact Nat.le_of_eq rfl) (hb hby at_48) (fun _ _ => ⟨rfl, e56, (by decide : 1 + 0 ≤ _), (by decide : 3 + 0 ≤ _)⟩)
    dsimp only [Pt.U, Pt.locs, Pt.cells, Pt.slots] at X58 l58 y58 z58 st58 hQ58
    subst l58 y58 z58
    obtain ⟨h58, e58⟩ : ∃ q, T58.heap = q := ⟨_, rfl⟩
    rw [e58] at hQ58
    obtain ⟨rfl, N58q, K58q, E_q', F_count_q', F_mean_q', F_sumOfSquaredDeviations_q'⟩ := hQ58
    have N58 := Fr.app N56 N58q
    replace S_EMPTY := own_sta_keep S_EMPTY K58q (own_obS (own_cell0 E_q) own_ob0)
    replace E_em := E_em.keep K58q
    replace F_isPresent_em := F_isPresent_em.keep K58q (ninS ne_em_q nin0)
    replace E_q := E_q.keep K58q
    replace ZZ := Nat.le_trans ZZ K58q.1
    replace E_q := E_q'
    have F_count_q := F_count_q'
    have F_mean_q := F_mean_q'
    have F_sumOfSquaredDeviations_q := F_sumOfSquaredDeviations_q'
    replace F_count_q : Fld Z h58 q "com/example/parley/parley/replication/SampleStatistics" "count" "J" (.long (1 : Int64)) := F_count_q
    obtain ⟨mn1, hmn1⟩ : ∃ z, z = (FP.dadd (0 : UInt64) (FP.ddiv (FP.dsub (FP.l2d ja) (0 : UInt64)) (FP.l2d ((0 : Int64) + (1 : Int64))))) := ⟨_, rfl⟩
    rw [← hmn1] at F_mean_q
    obtain ⟨sd1, hsd1⟩ : ∃ z, z = (FP.dadd (0 : UInt64) (FP.dmul (FP.dsub (FP.l2d ja) (0 : UInt64)) (FP.dsub (FP.l2d ja) (FP.dadd (0 : UInt64) (FP.ddiv (FP.dsub (FP.l2d ja) (0 : UInt64)) (FP.l2d ((0 : Int64) + (1 : Int64)))))))) := ⟨_, rfl⟩
    rw [← hsd1] at F_sumOfSquaredDeviations_q
    have Hm1 := hAd1.2.2.2.2.2.2.1
    have Hs1 := hAd1.2.2.2.2.2.2.2
    rw [← hmn1] at Hm1
    rw [← hsd1] at Hs1
    refine Go.on (fun _ k => st58.trans k) ?_
    show Go _ _ _ _ _ _ _ _ (mkF m 51 #[.val (.int i0), .val (.int i1), .val (.int i2), .val (.int (3 : Int32)), .val (.long ja), .second, .val (.long jb), .second, .val (.long jc), .second, .val (.ref q), .unset, .unset, .unset, .unset, .unset, .unset, .unset, .unset] [])
    refine Go.on (fun _ k => XS.iloadN X58.here hx rfl (hb hby at_51) rfl k) ?_
    show Go _ _ _ _ _ _ _ _ (mkF m 52 #[.val (.int i0), .val (.int i1), .val (.int i2), .val (.int (3 : Int32)), .val (.long ja), .second, .val (.long jb), .second, .val (.long jc), .second, .val (.ref q), .unset, .unset, .unset, .unset, .unset, .unset, .unset, .unset] [(.int (3 : Int32))])
    refine Go.on (fun _ k => XS.iconst X58.here hx rfl (hb hby at_52) k) ?_
    show Go _ _ _ _ _ _ _ _ (mkF m 53 #[.val (.int i0), .val (.int i1), .val (.int i2), .val (.int (3 : Int32)), .val (.long ja), .second, .val (.long jb), .second, .val (.long jc), .second, .val (.ref q), .unset, .unset, .unset, .unset, .unset, .unset, .unset, .unset] [(.int (2 : Int32)), (.int (3 : Int32))])
    have hc59 : ¬ ((3 : Int32) < (2 : Int32)) := by decide
    refine Go.on (fun _ k => XS.icmpNo X58.here hx rfl (hb hby at_53) rfl (flt hc59).1 k) ?_
    show Go _ _ _ _ _ _ _ _ (mkF m 56 #[.val (.int i0), .val (.int i1), .val (.int i2), .val (.int (3 : Int32)), .val (.long ja), .second, .val (.long jb), .second, .val (.long jc), .second, .val (.ref q), .unset, .unset, .unset, .unset, .unset, .unset, .unset, .unset] [])
    refine Go.on (fun _ k => XS.aload X58.here hx rfl (hb hby at_56) rfl rfl k) ?_
    show Go _ _ _ _ _ _ _ _ (mkF m 58 #[.val (.int i0), .val (.int i1), .val (.int i2), .val (.int (3 : Int32)), .val (.long ja), .second, .val (.long jb), .second, .val (.long jc), .second, .val (.ref q), .unset, .unset, .unset, .unset, .unset, .unset, .unset, .unset] [(.ref q)])
    refine Go.on (fun _ k => XS.lload X58.here hx rfl (hb hby at_58) rfl k) ?_
    show Go _ _ _ _ _ _ _ _ (mkF m 60 #[.val (.int i0), .val (.int i1), .val (.int i2), .val (.int (3 : Int32)), .val (.long ja), .second, .val (.long jb), .second, .val (.long jc), .second, .val (.ref q), .unset, .unset, .unset, .unset, .unset, .unset, .unset, .unset] [(.long jb), (.ref q)])
    refine Go.on (fun _ k => XS.l2dS X58.here hx rfl (hb hby at_60) rfl rfl k) ?_
    show Go _ _ _ _ _ _ _ _ (mkF m 61 #[.val (.int i0), .val (.int i1), .val (.int i2), .val (.int (3 : Int32)), .val (.long ja), .second, .val (.long jb), .second, .val (.long jc), .second, .val (.ref q), .unset, .unset, .unset, .unset, .unset, .unset, .unset, .unset] [(.double (FP.l2d jb)), (.ref q)])
    have hAd2 := own_second ha hb_ Hm1 Hs1
    obtain ⟨cq60, kq60, q60a, q60b, q60c⟩ := isOf hZ e58 E_q
    obtain ⟨_, _, ⟨T60, L60, k60, n60⟩, -, X60, ⟨Lc60, hQ60, l60, y60, z60⟩, st60⟩ := X58.virtualBack hx (y := (⟨"com/example/parley/parley/replication/SampleStatistics", "add", "(D)V"⟩ : MethodName)) (z := (⟨"com/example/parley/parley/replication/SampleStatistics", "add", "(D)V"⟩ : MethodName)) hown (mvT hZ (hw _ (List.mem_of_getElem? (i := 11) rfl))) (mvT hZ (hw _ (List.mem_of_getElem? (i := 12) rfl))) (notFace_of_selects (args := #[]) (mvT hZ (hw _ (List.mem_of_getElem? (i := 14) rfl)))) (mvT hZ (hw _ (List.mem_of_getElem? (i := 14) rfl))) (mvT hZ (hw _ (List.mem_of_getElem? (i := 13) rfl))) (by decide) (backOf (W := 0) (rm3 l Z aw hw [] q (FP.l2d jb) (1 : Int64) mn1 sd1 h58 n0 ZZ E_q F_count_q F_mean_q F_sumOfSquaredDeviations_q g_q hAd2.1 hAd2.2.1 hAd2.2.2.1 hAd2.2.2.2.1 hAd2.2.2.2.2.1 hAd2.2.2.2.2.2.1) hZ (hw _ (List.mem_of_getElem? (i := 15) rfl)) (hw _ (List.mem_of_getElem? (i := 4) rfl)) (by decide) (by decide)) q60a q60c (g := (mkF m 61 #[.val (.int i0), .val (.int i1), .val (.int i2), .val (.int (3 : Int32)), .val (.long ja), .second, .val (.long jb), .second, .val (.long jc), .second, .val (.ref q), .unset, .unset, .unset, .unset, .unset, .unset, .unset, .unset] [(.double (FP.l2d jb)), (.ref q)])) rfl (by rw [hml]; rfl) (Steps.refl _) (argsL := [(.double (FP.l2d jb))]) (rest := []) (lenOf pd_0 rfl) rfl (by show 2 * 0 + _ ≤ _; exact Nat.le_of_eq rfl) (hb hby at_61) (fun _ _ => ⟨rfl, e58, (by decide : 1 + 0 ≤ _), (by decide : 3 + 0 ≤ _)⟩)
    dsimp only [Pt.U, Pt.locs, Pt.cells, Pt.slots] at X60 l60 y60 z60 st60 hQ60
    subst l60 y60 z60
    obtain ⟨h60, e60⟩ : ∃ q, T60.heap = q := ⟨_, rfl⟩
    rw [e60] at hQ60
    obtain ⟨rfl, N60q, K60q, E_q', F_count_q', F_mean_q', F_sumOfSquaredDeviations_q'⟩ := hQ60
    have N60 := Fr.app N58 N60q
    replace S_EMPTY := own_sta_keep S_EMPTY K60q (own_obS (own_cell0 E_q) own_ob0)
    replace E_em := E_em.keep K60q
    replace F_isPresent_em := F_isPresent_em.keep K60q (ninS ne_em_q nin0)
    replace E_q := E_q.keep K60q
    replace ZZ := Nat.le_trans ZZ K60q.1
    replace E_q := E_q'
    have F_count_q := F_count_q'
    have F_mean_q := F_mean_q'
    have F_sumOfSquaredDeviations_q := F_sumOfSquaredDeviations_q'
    replace F_count_q : Fld Z h60 q "com/example/parley/parley/replication/SampleStatistics" "count" "J" (.long (2 : Int64)) := F_count_q
    obtain ⟨mn2, hmn2⟩ : ∃ z, z = (FP.dadd mn1 (FP.ddiv (FP.dsub (FP.l2d jb) mn1) (FP.l2d ((1 : Int64) + (1 : Int64))))) := ⟨_, rfl⟩
    rw [← hmn2] at F_mean_q
    obtain ⟨sd2, hsd2⟩ : ∃ z, z = (FP.dadd sd1 (FP.dmul (FP.dsub (FP.l2d jb) mn1) (FP.dsub (FP.l2d jb) (FP.dadd mn1 (FP.ddiv (FP.dsub (FP.l2d jb) mn1) (FP.l2d ((1 : Int64) + (1 : Int64)))))))) := ⟨_, rfl⟩
    rw [← hsd2] at F_sumOfSquaredDeviations_q
    have Hm2 := hAd2.2.2.2.2.2.2.1
    have Hs2 := hAd2.2.2.2.2.2.2.2
    rw [← hmn2] at Hm2
    rw [← hsd2] at Hs2
    refine Go.on (fun _ k => st60.trans k) ?_
    show Go _ _ _ _ _ _ _ _ (mkF m 64 #[.val (.int i0), .val (.int i1), .val (.int i2), .val (.int (3 : Int32)), .val (.long ja), .second, .val (.long jb), .second, .val (.long jc), .second, .val (.ref q), .unset, .unset, .unset, .unset, .unset, .unset, .unset, .unset] [])
    refine Go.on (fun _ k => XS.iloadN X60.here hx rfl (hb hby at_64) rfl k) ?_
    show Go _ _ _ _ _ _ _ _ (mkF m 65 #[.val (.int i0), .val (.int i1), .val (.int i2), .val (.int (3 : Int32)), .val (.long ja), .second, .val (.long jb), .second, .val (.long jc), .second, .val (.ref q), .unset, .unset, .unset, .unset, .unset, .unset, .unset, .unset] [(.int (3 : Int32))])
    refine Go.on (fun _ k => XS.iconst X60.here hx rfl (hb hby at_65) k) ?_
    show Go _ _ _ _ _ _ _ _ (mkF m 66 #[.val (.int i0), .val (.int i1), .val (.int i2), .val (.int (3 : Int32)), .val (.long ja), .second, .val (.long jb), .second, .val (.long jc), .second, .val (.ref q), .unset, .unset, .unset, .unset, .unset, .unset, .unset, .unset] [(.int (3 : Int32)), (.int (3 : Int32))])
    have hc61 : ¬ ((3 : Int32) < (3 : Int32)) := by decide
    refine Go.on (fun _ k => XS.icmpNo X60.here hx rfl (hb hby at_66) rfl (flt hc61).1 k) ?_
    show Go _ _ _ _ _ _ _ _ (mkF m 69 #[.val (.int i0), .val (.int i1), .val (.int i2), .val (.int (3 : Int32)), .val (.long ja), .second, .val (.long jb), .second, .val (.long jc), .second, .val (.ref q), .unset, .unset, .unset, .unset, .unset, .unset, .unset, .unset] [])
    refine Go.on (fun _ k => XS.aload X60.here hx rfl (hb hby at_69) rfl rfl k) ?_
    show Go _ _ _ _ _ _ _ _ (mkF m 71 #[.val (.int i0), .val (.int i1), .val (.int i2), .val (.int (3 : Int32)), .val (.long ja), .second, .val (.long jb), .second, .val (.long jc), .second, .val (.ref q), .unset, .unset, .unset, .unset, .unset, .unset, .unset, .unset] [(.ref q)])
    refine Go.on (fun _ k => XS.lload X60.here hx rfl (hb hby at_71) rfl k) ?_
    show Go _ _ _ _ _ _ _ _ (mkF m 73 #[.val (.int i0), .val (.int i1), .val (.int i2), .val (.int (3 : Int32)), .val (.long ja), .second, .val (.long jb), .second, .val (.long jc), .second, .val (.ref q), .unset, .unset, .unset, .unset, .unset, .unset, .unset, .unset] [(.long jc), (.ref q)])
    refine Go.on (fun _ k => XS.l2dS X60.here hx rfl (hb hby at_73) rfl rfl k) ?_
    show Go _ _ _ _ _ _ _ _ (mkF m 74 #[.val (.int i0), .val (.int i1), .val (.int i2), .val (.int (3 : Int32)), .val (.long ja), .second, .val (.long jb), .second, .val (.long jc), .second, .val (.ref q), .unset, .unset, .unset, .unset, .unset, .unset, .unset, .unset] [(.double (FP.l2d jc)), (.ref q)])
    have hAd3 := own_third ha hb_ hc_ Hm2 Hs2
    obtain ⟨cq62, kq62, q62a, q62b, q62c⟩ := isOf hZ e60 E_q
    obtain ⟨_, _, ⟨T62, L62, k62, n62⟩, -, X62, ⟨Lc62, hQ62, l62, y62, z62⟩, st62⟩ := X60.virtualBack hx (y := (⟨"com/example/parley/parley/replication/SampleStatistics", "add", "(D)V"⟩ : MethodName)) (z := (⟨"com/example/parley/parley/replication/SampleStatistics", "add", "(D)V"⟩ : MethodName)) hown (mvT hZ (hw _ (List.mem_of_getElem? (i := 11) rfl))) (mvT hZ (hw _ (List.mem_of_getElem? (i := 12) rfl))) (notFace_of_selects (args := #[]) (mvT hZ (hw _ (List.mem_of_getElem? (i := 14) rfl)))) (mvT hZ (hw _ (List.mem_of_getElem? (i := 14) rfl))) (mvT hZ (hw _ (List.mem_of_getElem? (i := 13) rfl))) (by decide) (backOf (W := 0) (rm3 l Z aw hw [] q (FP.l2d jc) (2 : Int64) mn2 sd2 h60 n0 ZZ E_q F_count_q F_mean_q F_sumOfSquaredDeviations_q g_q hAd3.1 hAd3.2.1 hAd3.2.2.1 hAd3.2.2.2.1 hAd3.2.2.2.2.1 hAd3.2.2.2.2.2.1) hZ (hw _ (List.mem_of_getElem? (i := 15) rfl)) (hw _ (List.mem_of_getElem? (i := 4) rfl)) (by decide) (by decide)) q62a q62c (g := (mkF m 74 #[.val (.int i0), .val (.int i1), .val (.int i2), .val (.int (3 : Int32)), .val (.long ja), .second, .val (.long jb), .second, .val (.long jc), .second, .val (.ref q), .unset, .unset, .unset, .unset, .unset, .unset, .unset, .unset] [(.double (FP.l2d jc)), (.ref q)])) rfl (by rw [hml]; rfl) (Steps.refl _) (argsL := [(.double (FP.l2d jc))]) (rest := []) (lenOf pd_0 rfl) rfl (by show 2 * 0 + _ ≤ _; exact Nat.le_of_eq rfl) (hb hby at_74) (fun _ _ => ⟨rfl, e60, (by decide : 1 + 0 ≤ _), (by decide : 3 + 0 ≤ _)⟩)
    dsimp only [Pt.U, Pt.locs, Pt.cells, Pt.slots] at X62 l62 y62 z62 st62 hQ62
    subst l62 y62 z62
    obtain ⟨h62, e62⟩ : ∃ q, T62.heap = q := ⟨_, rfl⟩
    rw [e62] at hQ62
    obtain ⟨rfl, N62q, K62q, E_q', F_count_q', F_mean_q', F_sumOfSquaredDeviations_q'⟩ := hQ62
    have N62 := Fr.app N60 N62q
    replace S_EMPTY := own_sta_keep S_EMPTY K62q (own_obS (own_cell0 E_q) own_ob0)
    replace E_em := E_em.keep K62q
    replace F_isPresent_em := F_isPresent_em.keep K62q (ninS ne_em_q nin0)
    replace E_q := E_q.keep K62q
    replace ZZ := Nat.le_trans ZZ K62q.1
    replace E_q := E_q'
    have F_count_q := F_count_q'
    have F_mean_q := F_mean_q'
    have F_sumOfSquaredDeviations_q := F_sumOfSquaredDeviations_q'
    replace F_count_q : Fld Z h62 q "com/example/parley/parley/replication/SampleStatistics" "count" "J" (.long (3 : Int64)) := F_count_q
    obtain ⟨mn3, hmn3⟩ : ∃ z, z = (FP.dadd mn2 (FP.ddiv (FP.dsub (FP.l2d jc) mn2) (FP.l2d ((2 : Int64) + (1 : Int64))))) := ⟨_, rfl⟩
    rw [← hmn3] at F_mean_q
    obtain ⟨sd3, hsd3⟩ : ∃ z, z = (FP.dadd sd2 (FP.dmul (FP.dsub (FP.l2d jc) mn2) (FP.dsub (FP.l2d jc) (FP.dadd mn2 (FP.ddiv (FP.dsub (FP.l2d jc) mn2) (FP.l2d ((2 : Int64) + (1 : Int64)))))))) := ⟨_, rfl⟩
    rw [← hsd3] at F_sumOfSquaredDeviations_q
    have Hm3 := hAd3.2.2.2.2.2.2.1
    have Hs3 := hAd3.2.2.2.2.2.2.2
    rw [← hmn3] at Hm3
    rw [← hsd3] at Hs3
    refine Go.on (fun _ k => st62.trans k) ?_
    show Go _ _ _ _ _ _ _ _ (mkF m 77 #[.val (.int i0), .val (.int i1), .val (.int i2), .val (.int (3 : Int32)), .val (.long ja), .second, .val (.long jb), .second, .val (.long jc), .second, .val (.ref q), .unset, .unset, .unset, .unset, .unset, .unset, .unset, .unset] [])
    refine Go.on (fun _ k => XS.aload X62.here hx rfl (hb hby at_77) rfl rfl k) ?_
    show Go _ _ _ _ _ _ _ _ (mkF m 79 #[.val (.int i0), .val (.int i1), .val (.int i2), .val (.int (3 : Int32)), .val (.long ja), .second, .val (.long jb), .second, .val (.long jc), .second, .val (.ref q), .unset, .unset, .unset, .unset, .unset, .unset, .unset, .unset] [(.ref q)])
    obtain ⟨cq63, kq63, q63a, q63b, q63c⟩ := isOf hZ e62 E_q
    obtain ⟨_, _, ⟨T63, L63, k63, n63⟩, -, X63, ⟨Lc63, hQ63, l63, y63, z63⟩, st63⟩ := X62.virtualBack hx (y := (⟨"com/example/parley/parley/replication/SampleStatistics", "getCount", "()J"⟩ : MethodName)) (z := (⟨"com/example/parley/parley/replication/SampleStatistics", "getCount", "()J"⟩ : MethodName)) hown (mvT hZ (hw _ (List.mem_of_getElem? (i := 22) rfl))) (mvT hZ (hw _ (List.mem_of_getElem? (i := 23) rfl))) (notFace_of_selects (args := #[]) (mvT hZ (hw _ (List.mem_of_getElem? (i := 25) rfl)))) (mvT hZ (hw _ (List.mem_of_getElem? (i := 25) rfl))) (mvT hZ (hw _ (List.mem_of_getElem? (i := 24) rfl))) (by decide) (backOf (W := 0) (rm4 l Z aw hw [] q (3 : Int64) h62 n0 ZZ F_count_q) hZ (hw _ (List.mem_of_getElem? (i := 26) rfl)) (hw _ (List.mem_of_getElem? (i := 4) rfl)) (by decide) (by decide)) q63a q63c (g := (mkF m 79 #[.val (.int i0), .val (.int i1), .val (.int i2), .val (.int (3 : Int32)), .val (.long ja), .second, .val (.long jb), .second, .val (.long jc), .second, .val (.ref q), .unset, .unset, .unset, .unset, .unset, .unset, .unset, .unset] [(.ref q)])) rfl (by rw [hml]; rfl) (Steps.refl _) (argsL := []) (rest := []) (lenOf pd_4 rfl) rfl (by show 2 * 0 + _ ≤ _; exact Nat.le_of_eq rfl) (hb hby at_79) (fun _ _ => ⟨rfl, e62, (by decide : 1 + 0 ≤ _), (by decide : 3 + 0 ≤ _)⟩)
    dsimp only [Pt.U, Pt.locs, Pt.cells, Pt.slots] at X63 l63 y63 z63 st63 hQ63
    subst l63 y63 z63
    obtain ⟨rfl, N63q, e63⟩ := hQ63
    have N63 := Fr.app N62 N63q
    refine Go.on (fun _ k => st63.trans k) ?_
    show Go _ _ _ _ _ _ _ _ (mkF m 82 #[.val (.int i0), .val (.int i1), .val (.int i2), .val (.int (3 : Int32)), .val (.long ja), .second, .val (.long jb), .second, .val (.long jc), .second, .val (.ref q), .unset, .unset, .unset, .unset, .unset, .unset, .unset, .unset] [(.long (3 : Int64))])
    refine Go.on (fun _ k => XS.iloadN X63.here hx rfl (hb hby at_82) rfl k) ?_
    show Go _ _ _ _ _ _ _ _ (mkF m 83 #[.val (.int i0), .val (.int i1), .val (.int i2), .val (.int (3 : Int32)), .val (.long ja), .second, .val (.long jb), .second, .val (.long jc), .second, .val (.ref q), .unset, .unset, .unset, .unset, .unset, .unset, .unset, .unset] [(.int (3 : Int32)), (.long (3 : Int64))])
    refine Go.on (fun _ k => XS.i2l X63.here hx rfl (hb hby at_83) rfl k) ?_
    show Go _ _ _ _ _ _ _ _ (mkF m 84 #[.val (.int i0), .val (.int i1), .val (.int i2), .val (.int (3 : Int32)), .val (.long ja), .second, .val (.long jb), .second, .val (.long jc), .second, .val (.ref q), .unset, .unset, .unset, .unset, .unset, .unset, .unset, .unset] [(.long ((3 : Int32).toInt64)), (.long (3 : Int64))])
    refine Go.on (fun _ k => XS.lcmp X63.here hx rfl (hb hby at_84) rfl k) ?_
    show Go _ _ _ _ _ _ _ _ (mkF m 85 #[.val (.int i0), .val (.int i1), .val (.int i2), .val (.int (3 : Int32)), .val (.long ja), .second, .val (.long jb), .second, .val (.long jc), .second, .val (.ref q), .unset, .unset, .unset, .unset, .unset, .unset, .unset, .unset] [(.int (lcmpW (3 : Int64) ((3 : Int32).toInt64)))])
    have hc64 : (3 : Int64) = ((3 : Int32).toInt64) := by decide
    refine Go.on (fun _ k => XS.ifYes X63.here hx rfl (pc0 := 85) (pc' := 90) rfl (hb hby at_85) rfl ((if0 _ _).trans (teq (own_lc_eq.mpr hc64)).1) (by decide) (by decide) k) ?_
    show Go _ _ _ _ _ _ _ _ (mkF m 90 #[.val (.int i0), .val (.int i1), .val (.int i2), .val (.int (3 : Int32)), .val (.long ja), .second, .val (.long jb), .second, .val (.long jc), .second, .val (.ref q), .unset, .unset, .unset, .unset, .unset, .unset, .unset, .unset] [])
    refine Go.on (fun _ k => XS.aload X63.here hx rfl (hb hby at_90) rfl rfl k) ?_
    show Go _ _ _ _ _ _ _ _ (mkF m 92 #[.val (.int i0), .val (.int i1), .val (.int i2), .val (.int (3 : Int32)), .val (.long ja), .second, .val (.long jb), .second, .val (.long jc), .second, .val (.ref q), .unset, .unset, .unset, .unset, .unset, .unset, .unset, .unset] [(.ref q)])
    obtain ⟨cq65, kq65, q65a, q65b, q65c⟩ := isOf hZ e63 E_q
    obtain ⟨_, _, ⟨T65, L65, k65, n65⟩, -, X65, ⟨Lc65, hQ65, l65, y65, z65⟩, st65⟩ := X63.virtualBack hx (y := (⟨"com/example/parley/parley/replication/SampleStatistics", "getMean", "()Ljava/util/OptionalDouble;"⟩ : MethodName)) (z := (⟨"com/example/parley/parley/replication/SampleStatistics", "getMean", "()Ljava/util/OptionalDouble;"⟩ : MethodName)) hown (mvT hZ (hw _ (List.mem_of_getElem? (i := 27) rfl))) (mvT hZ (hw _ (List.mem_of_getElem? (i := 28) rfl))) (notFace_of_selects (args := #[]) (mvT hZ (hw _ (List.mem_of_getElem? (i := 30) rfl)))) (mvT hZ (hw _ (List.mem_of_getElem? (i := 30) rfl))) (mvT hZ (hw _ (List.mem_of_getElem? (i := 29) rfl))) (by decide) (backOf (W := 0) (gm_o l Z aw hw [] q (3 : Int64) mn3 h62 n0 ZZ F_count_q F_mean_q (by decide)) hZ (hw _ (List.mem_of_getElem? (i := 31) rfl)) (hw _ (List.mem_of_getElem? (i := 4) rfl)) (by decide) (by decide)) q65a q65c (g := (mkF m 92 #[.val (.int i0), .val (.int i1), .val (.int i2), .val (.int (3 : Int32)), .val (.long ja), .second, .val (.long jb), .second, .val (.long jc), .second, .val (.ref q), .unset, .unset, .unset, .unset, .unset, .unset, .unset, .unset] [(.ref q)])) rfl (by rw [hml]; rfl) (Steps.refl _) (argsL := []) (rest := []) (lenOf pd_1 rfl) rfl (by show 2 * 0 + _ ≤ _; exact Nat.le_of_eq rfl) (hb hby at_92) (fun _ _ => ⟨rfl, e63, (by decide : 1 + 1 ≤ _), (by decide : 3 + 2 ≤ _)⟩)
    dsimp only [Pt.U, Pt.locs, Pt.cells, Pt.slots] at X65 l65 y65 z65 st65 hQ65
    subst l65 y65 z65
    obtain ⟨h65, e65⟩ : ∃ q, T65.heap = q := ⟨_, rfl⟩
    rw [e65] at hQ65
    obtain ⟨om, rfl, N65q, K65q, szq65, E_om, F_isPresent_om, F_value_om⟩ := hQ65
    have N65 := Fr.app N63 N65q
    have g_om : n0 ≤ om := Nat.le_trans ZZ szq65
    have ne_em_om : em ≠ om := Nat.ne_of_lt (Nat.lt_of_lt_of_le E_em.lt szq65)
    have ne_q_om : q ≠ om := Nat.ne_of_lt (Nat.lt_of_lt_of_le E_q.lt szq65)
    replace S_EMPTY := own_sta_keep S_EMPTY K65q own_ob0
    replace E_em := E_em.keep K65q
    replace F_isPresent_em := F_isPresent_em.keep K65q nin0
    replace E_q := E_q.keep K65q
    replace F_count_q := F_count_q.keep K65q nin0
    replace F_mean_q := F_mean_q.keep K65q nin0
    replace F_sumOfSquaredDeviations_q := F_sumOfSquaredDeviations_q.keep K65q nin0
    replace ZZ := Nat.le_trans ZZ K65q.1
    refine Go.on (fun _ k => st65.trans k) ?_
    show Go _ _ _ _ _ _ _ _ (mkF m 95 #[.val (.int i0), .val (.int i1), .val (.int i2), .val (.int (3 : Int32)), .val (.long ja), .second, .val (.long jb), .second, .val (.long jc), .second, .val (.ref q), .unset, .unset, .unset, .unset, .unset, .unset, .unset, .unset] [(.ref om)])
    refine Go.on (fun _ k => XS.astore X65.here hx rfl (hb hby at_95) rfl rfl (l' := #[.val (.int i0), .val (.int i1), .val (.int i2), .val (.int (3 : Int32)), .val (.long ja), .second, .val (.long jb), .second, .val (.long jc), .second, .val (.ref q), .val (.ref om), .unset, .unset, .unset, .unset, .unset, .unset, .unset]) rfl k) ?_
    show Go _ _ _ _ _ _ _ _ (mkF m 97 #[.val (.int i0), .val (.int i1), .val (.int i2), .val (.int (3 : Int32)), .val (.long ja), .second, .val (.long jb), .second, .val (.long jc), .second, .val (.ref q), .val (.ref om), .unset, .unset, .unset, .unset, .unset, .unset, .unset] [])
    refine Go.on (fun _ k => XS.aload X65.here hx rfl (hb hby at_97) rfl rfl k) ?_
    show Go _ _ _ _ _ _ _ _ (mkF m 99 #[.val (.int i0), .val (.int i1), .val (.int i2), .val (.int (3 : Int32)), .val (.long ja), .second, .val (.long jb), .second, .val (.long jc), .second, .val (.ref q), .val (.ref om), .unset, .unset, .unset, .unset, .unset, .unset, .unset] [(.ref q)])
    have Hv := own_l2 (own_s3 Hs3) (own_b3 ha hb_)
    obtain ⟨cq66, kq66, q66a, q66b, q66c⟩ := isOf hZ e65 E_q
    obtain ⟨_, _, ⟨T66, L66, k66, n66⟩, -, X66, ⟨Lc66, hQ66, l66, y66, z66⟩, st66⟩ := X65.virtualBack hx (y := (⟨"com/example/parley/parley/replication/SampleStatistics", "getVariance", "()Ljava/util/OptionalDouble;"⟩ : MethodName)) (z := (⟨"com/example/parley/parley/replication/SampleStatistics", "getVariance", "()Ljava/util/OptionalDouble;"⟩ : MethodName)) hown (mvT hZ (hw _ (List.mem_of_getElem? (i := 47) rfl))) (mvT hZ (hw _ (List.mem_of_getElem? (i := 48) rfl))) (notFace_of_selects (args := #[]) (mvT hZ (hw _ (List.mem_of_getElem? (i := 50) rfl)))) (mvT hZ (hw _ (List.mem_of_getElem? (i := 50) rfl))) (mvT hZ (hw _ (List.mem_of_getElem? (i := 49) rfl))) (by decide) (backOf (W := 0) (gv_o l Z aw hw [] q (3 : Int64) sd3 h65 n0 ZZ F_count_q F_sumOfSquaredDeviations_q (by decide) Hv.nn) hZ (hw _ (List.mem_of_getElem? (i := 51) rfl)) (hw _ (List.mem_of_getElem? (i := 4) rfl)) (by decide) (by decide)) q66a q66c (g := (mkF m 99 #[.val (.int i0), .val (.int i1), .val (.int i2), .val (.int (3 : Int32)), .val (.long ja), .second, .val (.long jb), .second, .val (.long jc), .second, .val (.ref q), .val (.ref om), .unset, .unset, .unset, .unset, .unset, .unset, .unset] [(.ref q)])) rfl (by rw [hml]; rfl) (Steps.refl _) (argsL := []) (rest := []) (lenOf pd_1 rfl) rfl (by show 2 * 0 + _ ≤ _; exact Nat.le_of_eq rfl) (hb hby at_99) (fun _ _ => ⟨rfl, e65, (by decide : 2 + 1 ≤ _), (by decide : 5 + 2 ≤ _)⟩)
    dsimp only [Pt.U, Pt.locs, Pt.cells, Pt.slots] at X66 l66 y66 z66 st66 hQ66
    subst l66 y66 z66
    obtain ⟨h66, e66⟩ : ∃ q, T66.heap = q := ⟨_, rfl⟩
    rw [e66] at hQ66
    obtain ⟨ov, rfl, N66q, K66q, szq66, E_ov, F_isPresent_ov, F_value_ov⟩ := hQ66
    have N66 := Fr.app N65 N66q
    have g_ov : n0 ≤ ov := Nat.le_trans ZZ szq66
    have ne_em_ov : em ≠ ov := Nat.ne_of_lt (Nat.lt_of_lt_of_le E_em.lt szq66)
    have ne_q_ov : q ≠ ov := Nat.ne_of_lt (Nat.lt_of_lt_of_le E_q.lt szq66)
    have ne_om_ov : om ≠ ov := Nat.ne_of_lt (Nat.lt_of_lt_of_le E_om.lt szq66)
    replace S_EMPTY := own_sta_keep S_EMPTY K66q own_ob0
    replace E_em := E_em.keep K66q
    replace F_isPresent_em := F_isPresent_em.keep K66q nin0
    replace E_q := E_q.keep K66q
    replace F_count_q := F_count_q.keep K66q nin0
    replace F_mean_q := F_mean_q.keep K66q nin0
    replace F_sumOfSquaredDeviations_q := F_sumOfSquaredDeviations_q.keep K66q nin0
    replace E_om := E_om.keep K66q
    replace F_isPresent_om := F_isPresent_om.keep K66q nin0
    replace F_value_om := F_value_om.keep K66q nin0
    replace ZZ := Nat.le_trans ZZ K66q.1
    refine Go.on (fun _ k => st66.trans k) ?_
    show Go _ _ _ _ _ _ _ _ (mkF m 102 #[.val (.int i0), .val (.int i1), .val (.int i2), .val (.int (3 : Int32)), .val (.long ja), .second, .val (.long jb), .second, .val (.long jc), .second, .val (.ref q), .val (.ref om), .unset, .unset, .unset, .unset, .unset, .unset, .unset] [(.ref ov)])
    refine Go.on (fun _ k => XS.astore X66.here hx rfl (hb hby at_102) rfl rfl (l' := #[.val (.int i0), .val (.int i1), .val (.int i2), .val (.int (3 : Int32)), .val (.long ja), .second, .val (.long jb), .second, .val (.long jc), .second, .val (.ref q), .val (.ref om), .val (.ref ov), .unset, .unset, .unset, .unset, .unset, .unset]) rfl k) ?_
    show Go _ _ _ _ _ _ _ _ (mkF m 104 #[.val (.int i0), .val (.int i1), .val (.int i2), .val (.int (3 : Int32)), .val (.long ja), .second, .val (.long jb), .second, .val (.long jc), .second, .val (.ref q), .val (.ref om), .val (.ref ov), .unset, .unset, .unset, .unset, .unset, .unset] [])
    refine Go.on (fun _ k => XS.iloadN X66.here hx rfl (hb hby at_104) rfl k) ?_
    show Go _ _ _ _ _ _ _ _ (mkF m 105 #[.val (.int i0), .val (.int i1), .val (.int i2), .val (.int (3 : Int32)), .val (.long ja), .second, .val (.long jb), .second, .val (.long jc), .second, .val (.ref q), .val (.ref om), .val (.ref ov), .unset, .unset, .unset, .unset, .unset, .unset] [(.int (3 : Int32))])
    have hc67 : ¬ ((3 : Int32) = (0 : Int32)) := by decide
    refine Go.on (fun _ k => XS.ifYes X66.here hx rfl (pc0 := 105) (pc' := 130) rfl (hb hby at_105) rfl ((if0 _ _).trans (feq hc67).2) (by decide) (by decide) k) ?_
    show Go _ _ _ _ _ _ _ _ (mkF m 130 #[.val (.int i0), .val (.int i1), .val (.int i2), .val (.int (3 : Int32)), .val (.long ja), .second, .val (.long jb), .second, .val (.long jc), .second, .val (.ref q), .val (.ref om), .val (.ref ov), .unset, .unset, .unset, .unset, .unset, .unset] [])
    refine Go.on (fun _ k => XS.aload X66.here hx rfl (hb hby at_130) rfl rfl k) ?_
    show Go _ _ _ _ _ _ _ _ (mkF m 132 #[.val (.int i0), .val (.int i1), .val (.int i2), .val (.int (3 : Int32)), .val (.long ja), .second, .val (.long jb), .second, .val (.long jc), .second, .val (.ref q), .val (.ref om), .val (.ref ov), .unset, .unset, .unset, .unset, .unset, .unset] [(.ref om)])
    obtain ⟨cq68, kq68, q68a, q68b, q68c⟩ := isOf hZ e66 E_om
    obtain ⟨_, _, ⟨T68, L68, k68, n68⟩, -, X68, ⟨Lc68, hQ68, l68, y68, z68⟩, st68⟩ := X66.virtualBack hx (y := (⟨"java/util/OptionalDouble", "isPresent", "()Z"⟩ : MethodName)) (z := (⟨"java/util/OptionalDouble", "isPresent", "()Z"⟩ : MethodName)) hown (mvT hZ (hw _ (List.mem_of_getElem? (i := 53) rfl))) (mvT hZ (hw _ (List.mem_of_getElem? (i := 54) rfl))) (notFace_of_selects (args := #[]) (mvT hZ (hw _ (List.mem_of_getElem? (i := 56) rfl)))) (mvT hZ (hw _ (List.mem_of_getElem? (i := 56) rfl))) (mvT hZ (hw _ (List.mem_of_getElem? (i := 55) rfl))) (by decide) (backOf (W := 0) (rm9 l Z aw hw [] om (1 : Int32) h66 n0 ZZ F_isPresent_om (by decide)) hZ (hw _ (List.mem_of_getElem? (i := 57) rfl)) (hw _ (List.mem_of_getElem? (i := 34) rfl)) (by decide) (by decide)) q68a q68c (g := (mkF m 132 #[.val (.int i0), .val (.int i1), .val (.int i2), .val (.int (3 : Int32)), .val (.long ja), .second, .val (.long jb), .second, .val (.long jc), .second, .val (.ref q), .val (.ref om), .val (.ref ov), .unset, .unset, .unset, .unset, .unset, .unset] [(.ref om)])) rfl (by rw [hml]; rfl) (Steps.refl _) (argsL := []) (rest := []) (lenOf pd_5 rfl) rfl (by show 2 * 0 + _ ≤ _; exact Nat.le_of_eq rfl) (hb hby at_132) (fun _ _ => ⟨rfl, e66, (by decide : 3 + 0 ≤ _), (by decide : 7 + 0 ≤ _)⟩)
    dsimp only [Pt.U, Pt.locs, Pt.cells, Pt.slots] at X68 l68 y68 z68 st68 hQ68
    subst l68 y68 z68
    obtain ⟨rfl, N68q, e68⟩ := hQ68
    have N68 := Fr.app N66 N68q
    refine Go.on (fun _ k => st68.trans k) ?_
    show Go _ _ _ _ _ _ _ _ (mkF m 135 #[.val (.int i0), .val (.int i1), .val (.int i2), .val (.int (3 : Int32)), .val (.long ja), .second, .val (.long jb), .second, .val (.long jc), .second, .val (.ref q), .val (.ref om), .val (.ref ov), .unset, .unset, .unset, .unset, .unset, .unset] [(.int (1 : Int32))])
    have hc69 : ¬ ((1 : Int32) = (0 : Int32)) := by decide
    refine Go.on (fun _ k => XS.ifYes X68.here hx rfl (pc0 := 135) (pc' := 140) rfl (hb hby at_135) rfl ((if0 _ _).trans (feq hc69).2) (by decide) (by decide) k) ?_
    show Go _ _ _ _ _ _ _ _ (mkF m 140 #[.val (.int i0), .val (.int i1), .val (.int i2), .val (.int (3 : Int32)), .val (.long ja), .second, .val (.long jb), .second, .val (.long jc), .second, .val (.ref q), .val (.ref om), .val (.ref ov), .unset, .unset, .unset, .unset, .unset, .unset] [])
    refine Go.on (fun _ k => XS.aload X68.here hx rfl (hb hby at_140) rfl rfl k) ?_
    show Go _ _ _ _ _ _ _ _ (mkF m 142 #[.val (.int i0), .val (.int i1), .val (.int i2), .val (.int (3 : Int32)), .val (.long ja), .second, .val (.long jb), .second, .val (.long jc), .second, .val (.ref q), .val (.ref om), .val (.ref ov), .unset, .unset, .unset, .unset, .unset, .unset] [(.ref om)])
    obtain ⟨cq70, kq70, q70a, q70b, q70c⟩ := isOf hZ e68 E_om
    obtain ⟨_, _, ⟨T70, L70, k70, n70⟩, -, X70, ⟨Lc70, hQ70, l70, y70, z70⟩, st70⟩ := X68.virtualBack hx (y := (⟨"java/util/OptionalDouble", "getAsDouble", "()D"⟩ : MethodName)) (z := (⟨"java/util/OptionalDouble", "getAsDouble", "()D"⟩ : MethodName)) hown (mvT hZ (hw _ (List.mem_of_getElem? (i := 58) rfl))) (mvT hZ (hw _ (List.mem_of_getElem? (i := 59) rfl))) (notFace_of_selects (args := #[]) (mvT hZ (hw _ (List.mem_of_getElem? (i := 61) rfl)))) (mvT hZ (hw _ (List.mem_of_getElem? (i := 61) rfl))) (mvT hZ (hw _ (List.mem_of_getElem? (i := 60) rfl))) (by decide) (backOf (W := 0) (rm10 l Z aw hw [] om mn3 h66 n0 ZZ F_isPresent_om F_value_om) hZ (hw _ (List.mem_of_getElem? (i := 62) rfl)) (hw _ (List.mem_of_getElem? (i := 34) rfl)) (by decide) (by decide)) q70a q70c (g := (mkF m 142 #[.val (.int i0), .val (.int i1), .val (.int i2), .val (.int (3 : Int32)), .val (.long ja), .second, .val (.long jb), .second, .val (.long jc), .second, .val (.ref q), .val (.ref om), .val (.ref ov), .unset, .unset, .unset, .unset, .unset, .unset] [(.ref om)])) rfl (by rw [hml]; rfl) (Steps.refl _) (argsL := []) (rest := []) (lenOf pd_6 rfl) rfl (by show 2 * 0 + _ ≤ _; exact Nat.le_of_eq rfl) (hb hby at_142) (fun _ _ => ⟨rfl, e68, (by decide : 3 + 0 ≤ _), (by decide : 7 + 0 ≤ _)⟩)
    dsimp only [Pt.U, Pt.locs, Pt.cells, Pt.slots] at X70 l70 y70 z70 st70 hQ70
    subst l70 y70 z70
    obtain ⟨rfl, N70q, e70⟩ := hQ70
    have N70 := Fr.app N68 N70q
    refine Go.on (fun _ k => st70.trans k) ?_
    show Go _ _ _ _ _ _ _ _ (mkF m 145 #[.val (.int i0), .val (.int i1), .val (.int i2), .val (.int (3 : Int32)), .val (.long ja), .second, .val (.long jb), .second, .val (.long jc), .second, .val (.ref q), .val (.ref om), .val (.ref ov), .unset, .unset, .unset, .unset, .unset, .unset] [(.double mn3)])
    refine Go.on (fun _ k => XS.dstore X70.here hx rfl (hb hby at_145) rfl (l' := #[.val (.int i0), .val (.int i1), .val (.int i2), .val (.int (3 : Int32)), .val (.long ja), .second, .val (.long jb), .second, .val (.long jc), .second, .val (.ref q), .val (.ref om), .val (.ref ov), .val (.double mn3), .second, .unset, .unset, .unset, .unset]) rfl k) ?_
    show Go _ _ _ _ _ _ _ _ (mkF m 147 #[.val (.int i0), .val (.int i1), .val (.int i2), .val (.int (3 : Int32)), .val (.long ja), .second, .val (.long jb), .second, .val (.long jc), .second, .val (.ref q), .val (.ref om), .val (.ref ov), .val (.double mn3), .second, .unset, .unset, .unset, .unset] [])
    refine Go.on (fun _ k => XS.iloadN X70.here hx rfl (hb hby at_147) rfl k) ?_
    show Go _ _ _ _ _ _ _ _ (mkF m 148 #[.val (.int i0), .val (.int i1), .val (.int i2), .val (.int (3 : Int32)), .val (.long ja), .second, .val (.long jb), .second, .val (.long jc), .second, .val (.ref q), .val (.ref om), .val (.ref ov), .val (.double mn3), .second, .unset, .unset, .unset, .unset] [(.int (3 : Int32))])
    refine Go.on (fun _ k => XS.iconst X70.here hx rfl (hb hby at_148) k) ?_
    show Go _ _ _ _ _ _ _ _ (mkF m 149 #[.val (.int i0), .val (.int i1), .val (.int i2), .val (.int (3 : Int32)), .val (.long ja), .second, .val (.long jb), .second, .val (.long jc), .second, .val (.ref q), .val (.ref om), .val (.ref ov), .val (.double mn3), .second, .unset, .unset, .unset, .unset] [(.int (1 : Int32)), (.int (3 : Int32))])
    have hc71 : ¬ ((3 : Int32) = (1 : Int32)) := by decide
    refine Go.on (fun _ k => XS.icmpYes X70.here hx rfl (pc0 := 149) (pc' := 175) rfl (hb hby at_149) rfl (feq hc71).2 (by decide) (by decide) k) ?_
    show Go _ _ _ _ _ _ _ _ (mkF m 175 #[.val (.int i0), .val (.int i1), .val (.int i2), .val (.int (3 : Int32)), .val (.long ja), .second, .val (.long jb), .second, .val (.long jc), .second, .val (.ref q), .val (.ref om), .val (.ref ov), .val (.double mn3), .second, .unset, .unset, .unset, .unset] [])
    refine Go.on (fun _ k => XS.aload X70.here hx rfl (hb hby at_175) rfl rfl k) ?_
    show Go _ _ _ _ _ _ _ _ (mkF m 177 #[.val (.int i0), .val (.int i1), .val (.int i2), .val (.int (3 : Int32)), .val (.long ja), .second, .val (.long jb), .second, .val (.long jc), .second, .val (.ref q), .val (.ref om), .val (.ref ov), .val (.double mn3), .second, .unset, .unset, .unset, .unset] [(.ref ov)])
    obtain ⟨cq72, kq72, q72a, q72b, q72c⟩ := isOf hZ e70 E_ov
    obtain ⟨_, _, ⟨T72, L72, k72, n72⟩, -, X72, ⟨Lc72, hQ72, l72, y72, z72⟩, st72⟩ := X70.virtualBack hx (y := (⟨"java/util/OptionalDouble", "isPresent", "()Z"⟩ : MethodName)) (z := (⟨"java/util/OptionalDouble", "isPresent", "()Z"⟩ : MethodName)) hown (mvT hZ (hw _ (List.mem_of_getElem? (i := 53) rfl))) (mvT hZ (hw _ (List.mem_of_getElem? (i := 54) rfl))) (notFace_of_selects (args := #[]) (mvT hZ (hw _ (List.mem_of_getElem? (i := 56) rfl)))) (mvT hZ (hw _ (List.mem_of_getElem? (i := 56) rfl))) (mvT hZ (hw _ (List.mem_of_getElem? (i := 55) rfl))) (by decide) (backOf (W := 0) (rm9 l Z aw hw [] ov (1 : Int32) h66 n0 ZZ F_isPresent_ov (by decide)) hZ (hw _ (List.mem_of_getElem? (i := 57) rfl)) (hw _ (List.mem_of_getElem? (i := 34) rfl)) (by decide) (by decide)) q72a q72c (g := (mkF m 177 #[.val (.int i0), .val (.int i1), .val (.int i2), .val (.int (3 : Int32)), .val (.long ja), .second, .val (.long jb), .second, .val (.long jc), .second, .val (.ref q), .val (.ref om), .val (.ref ov), .val (.double mn3), .second, .unset, .unset, .unset, .unset] [(.ref ov)])) rfl (by rw [hml]; rfl) (Steps.refl _) (argsL := []) (rest := []) (lenOf pd_5 rfl) rfl (by show 2 * 0 + _ ≤ _; exact Nat.le_of_eq rfl) (hb hby at_177) (fun _ _ => ⟨rfl, e70, (by decide : 3 + 0 ≤ _), (by decide : 7 + 0 ≤ _)⟩)
    dsimp only [Pt.U, Pt.locs, Pt.cells, Pt.slots] at X72 l72 y72 z72 st72 hQ72
    subst l72 y72 z72
    obtain ⟨rfl, N72q, e72⟩ := hQ72
    have N72 := Fr.app N70 N72q
    refine Go.on (fun _ k => st72.trans k) ?_
    show Go _ _ _ _ _ _ _ _ (mkF m 180 #[.val (.int i0), .val (.int i1), .val (.int i2), .val (.int (3 : Int32)), .val (.long ja), .second, .val (.long jb), .second, .val (.long jc), .second, .val (.ref q), .val (.ref om), .val (.ref ov), .val (.double mn3), .second, .unset, .unset, .unset, .unset] [(.int (1 : Int32))])
    have hc73 : ¬ ((1 : Int32) = (0 : Int32)) := by decide
    refine Go.on (fun _ k => XS.ifYes X72.here hx rfl (pc0 := 180) (pc' := 185) rfl (hb hby at_180) rfl ((if0 _ _).trans (feq hc73).2) (by decide) (by decide) k) ?_
    show Go _ _ _ _ _ _ _ _ (mkF m 185 #[.val (.int i0), .val (.int i1), .val (.int i2), .val (.int (3 : Int32)), .val (.long ja), .second, .val (.long jb), .second, .val (.long jc), .second, .val (.ref q), .val (.ref om), .val (.ref ov), .val (.double mn3), .second, .unset, .unset, .unset, .unset] [])
    refine Go.on (fun _ k => XS.aload X72.here hx rfl (hb hby at_185) rfl rfl k) ?_
    show Go _ _ _ _ _ _ _ _ (mkF m 187 #[.val (.int i0), .val (.int i1), .val (.int i2), .val (.int (3 : Int32)), .val (.long ja), .second, .val (.long jb), .second, .val (.long jc), .second, .val (.ref q), .val (.ref om), .val (.ref ov), .val (.double mn3), .second, .unset, .unset, .unset, .unset] [(.ref ov)])
    obtain ⟨cq74, kq74, q74a, q74b, q74c⟩ := isOf hZ e72 E_ov
    obtain ⟨_, _, ⟨T74, L74, k74, n74⟩, -, X74, ⟨Lc74, hQ74, l74, y74, z74⟩, st74⟩ := X72.virtualBack hx (y := (⟨"java/util/OptionalDouble", "getAsDouble", "()D"⟩ : MethodName)) (z := (⟨"java/util/OptionalDouble", "getAsDouble", "()D"⟩ : MethodName)) hown (mvT hZ (hw _ (List.mem_of_getElem? (i := 58) rfl))) (mvT hZ (hw _ (List.mem_of_getElem? (i := 59) rfl))) (notFace_of_selects (args := #[]) (mvT hZ (hw _ (List.mem_of_getElem? (i := 61) rfl)))) (mvT hZ (hw _ (List.mem_of_getElem? (i := 61) rfl))) (mvT hZ (hw _ (List.mem_of_getElem? (i := 60) rfl))) (by decide) (backOf (W := 0) (rm10 l Z aw hw [] ov (FP.ddiv sd3 (FP.l2d ((3 : Int64) - (1 : Int64)))) h66 n0 ZZ F_isPresent_ov F_value_ov) hZ (hw _ (List.mem_of_getElem? (i := 62) rfl)) (hw _ (List.mem_of_getElem? (i := 34) rfl)) (by decide) (by decide)) q74a q74c (g := (mkF m 187 #[.val (.int i0), .val (.int i1), .val (.int i2), .val (.int (3 : Int32)), .val (.long ja), .second, .val (.long jb), .second, .val (.long jc), .second, .val (.ref q), .val (.ref om), .val (.ref ov), .val (.double mn3), .second, .unset, .unset, .unset, .unset] [(.ref ov)])) rfl (by rw [hml]; rfl) (Steps.refl _) (argsL := []) (rest := []) (lenOf pd_6 rfl) rfl (by show 2 * 0 + _ ≤ _; exact Nat.le_of_eq rfl) (hb hby at_187) (fun _ _ => ⟨rfl, e72, (by decide : 3 + 0 ≤ _), (by decide : 7 + 0 ≤ _)⟩)
    dsimp only [Pt.U, Pt.locs, Pt.cells, Pt.slots] at X74 l74 y74 z74 st74 hQ74
    subst l74 y74 z74
    obtain ⟨rfl, N74q, e74⟩ := hQ74
    have N74 := Fr.app N72 N74q
    refine Go.on (fun _ k => st74.trans k) ?_
    show Go _ _ _ _ _ _ _ _ (mkF m 190 #[.val (.int i0), .val (.int i1), .val (.int i2), .val (.int (3 : Int32)), .val (.long ja), .second, .val (.long jb), .second, .val (.long jc), .second, .val (.ref q), .val (.ref om), .val (.ref ov), .val (.double mn3), .second, .unset, .unset, .unset, .unset] [(.double (FP.ddiv sd3 (FP.l2d ((3 : Int64) - (1 : Int64)))))])
    refine Go.on (fun _ k => XS.dstore X74.here hx rfl (hb hby at_190) rfl (l' := #[.val (.int i0), .val (.int i1), .val (.int i2), .val (.int (3 : Int32)), .val (.long ja), .second, .val (.long jb), .second, .val (.long jc), .second, .val (.ref q), .val (.ref om), .val (.ref ov), .val (.double mn3), .second, .val (.double (FP.ddiv sd3 (FP.l2d ((3 : Int64) - (1 : Int64))))), .second, .unset, .unset]) rfl k) ?_
    show Go _ _ _ _ _ _ _ _ (mkF m 192 #[.val (.int i0), .val (.int i1), .val (.int i2), .val (.int (3 : Int32)), .val (.long ja), .second, .val (.long jb), .second, .val (.long jc), .second, .val (.ref q), .val (.ref om), .val (.ref ov), .val (.double mn3), .second, .val (.double (FP.ddiv sd3 (FP.l2d ((3 : Int64) - (1 : Int64))))), .second, .unset, .unset] [])
    generalize hvv : (FP.ddiv sd3 (FP.l2d ((3 : Int64) - (1 : Int64)))) = vv
    show Go _ _ _ _ _ _ _ _ (mkF m 192 #[.val (.int i0), .val (.int i1), .val (.int i2), .val (.int (3 : Int32)), .val (.long ja), .second, .val (.long jb), .second, .val (.long jc), .second, .val (.ref q), .val (.ref om), .val (.ref ov), .val (.double mn3), .second, .val (.double vv), .second, .unset, .unset] [])
    refine Go.on (fun _ k => XS.lload X74.here hx rfl (hb hby at_192) rfl k) ?_
    show Go _ _ _ _ _ _ _ _ (mkF m 194 #[.val (.int i0), .val (.int i1), .val (.int i2), .val (.int (3 : Int32)), .val (.long ja), .second, .val (.long jb), .second, .val (.long jc), .second, .val (.ref q), .val (.ref om), .val (.ref ov), .val (.double mn3), .second, .val (.double vv), .second, .unset, .unset] [(.long jb)])
    refine Go.on (fun _ k => XS.lload X74.here hx rfl (hb hby at_194) rfl k) ?_
    show Go _ _ _ _ _ _ _ _ (mkF m 196 #[.val (.int i0), .val (.int i1), .val (.int i2), .val (.int (3 : Int32)), .val (.long ja), .second, .val (.long jb), .second, .val (.long jc), .second, .val (.ref q), .val (.ref om), .val (.ref ov), .val (.double mn3), .second, .val (.double vv), .second, .unset, .unset] [(.long ja), (.long jb)])
    refine Go.on (fun _ k => XS.lsub X74.here hx rfl (hb hby at_196) rfl k) ?_
    show Go _ _ _ _ _ _ _ _ (mkF m 197 #[.val (.int i0), .val (.int i1), .val (.int i2), .val (.int (3 : Int32)), .val (.long ja), .second, .val (.long jb), .second, .val (.long jc), .second, .val (.ref q), .val (.ref om), .val (.ref ov), .val (.double mn3), .second, .val (.double vv), .second, .unset, .unset] [(.long (jb - ja))])
    refine Go.on (fun _ k => XS.lstore X74.here hx rfl (hb hby at_197) rfl (l' := #[.val (.int i0), .val (.int i1), .val (.int i2), .val (.int (3 : Int32)), .val (.long ja), .second, .val (.long jb), .second, .val (.long jc), .second, .val (.ref q), .val (.ref om), .val (.ref ov), .val (.double mn3), .second, .val (.double vv), .second, .val (.long (jb - ja)), .second]) rfl k) ?_
    show Go _ _ _ _ _ _ _ _ (mkF m 199 #[.val (.int i0), .val (.int i1), .val (.int i2), .val (.int (3 : Int32)), .val (.long ja), .second, .val (.long jb), .second, .val (.long jc), .second, .val (.ref q), .val (.ref om), .val (.ref ov), .val (.double mn3), .second, .val (.double vv), .second, .val (.long (jb - ja)), .second] [])
    generalize hje : (jb - ja) = je
    show Go _ _ _ _ _ _ _ _ (mkF m 199 #[.val (.int i0), .val (.int i1), .val (.int i2), .val (.int (3 : Int32)), .val (.long ja), .second, .val (.long jb), .second, .val (.long jc), .second, .val (.ref q), .val (.ref om), .val (.ref ov), .val (.double mn3), .second, .val (.double vv), .second, .val (.long je), .second] [])
    refine Go.on (fun _ k => XS.iloadN X74.here hx rfl (hb hby at_199) rfl k) ?_
    show Go _ _ _ _ _ _ _ _ (mkF m 200 #[.val (.int i0), .val (.int i1), .val (.int i2), .val (.int (3 : Int32)), .val (.long ja), .second, .val (.long jb), .second, .val (.long jc), .second, .val (.ref q), .val (.ref om), .val (.ref ov), .val (.double mn3), .second, .val (.double vv), .second, .val (.long je), .second] [(.int (3 : Int32))])
    refine Go.on (fun _ k => XS.iconst X74.here hx rfl (hb hby at_200) k) ?_
    show Go _ _ _ _ _ _ _ _ (mkF m 201 #[.val (.int i0), .val (.int i1), .val (.int i2), .val (.int (3 : Int32)), .val (.long ja), .second, .val (.long jb), .second, .val (.long jc), .second, .val (.ref q), .val (.ref om), .val (.ref ov), .val (.double mn3), .second, .val (.double vv), .second, .val (.long je), .second] [(.int (2 : Int32)), (.int (3 : Int32))])
    have hc75 : ¬ ((3 : Int32) = (2 : Int32)) := by decide
    refine Go.on (fun _ k => XS.icmpYes X74.here hx rfl (pc0 := 201) (pc' := 242) rfl (hb hby at_201) rfl (feq hc75).2 (by decide) (by decide) k) ?_
    show Go _ _ _ _ _ _ _ _ (mkF m 242 #[.val (.int i0), .val (.int i1), .val (.int i2), .val (.int (3 : Int32)), .val (.long ja), .second, .val (.long jb), .second, .val (.long jc), .second, .val (.ref q), .val (.ref om), .val (.ref ov), .val (.double mn3), .second, .val (.double vv), .second, .val (.long je), .second] [])
    refine Go.on (fun _ k => XS.dload X74.here hx rfl (hb hby at_242) rfl k) ?_
    show Go _ _ _ _ _ _ _ _ (mkF m 244 #[.val (.int i0), .val (.int i1), .val (.int i2), .val (.int (3 : Int32)), .val (.long ja), .second, .val (.long jb), .second, .val (.long jc), .second, .val (.ref q), .val (.ref om), .val (.ref ov), .val (.double mn3), .second, .val (.double vv), .second, .val (.long je), .second] [(.double mn3)])
    refine Go.on (fun _ k => XS.lload X74.here hx rfl (hb hby at_244) rfl k) ?_
    show Go _ _ _ _ _ _ _ _ (mkF m 246 #[.val (.int i0), .val (.int i1), .val (.int i2), .val (.int (3 : Int32)), .val (.long ja), .second, .val (.long jb), .second, .val (.long jc), .second, .val (.ref q), .val (.ref om), .val (.ref ov), .val (.double mn3), .second, .val (.double vv), .second, .val (.long je), .second] [(.long jb), (.double mn3)])
    refine Go.on (fun _ k => XS.l2dS X74.here hx rfl (hb hby at_246) rfl rfl k) ?_
    show Go _ _ _ _ _ _ _ _ (mkF m 247 #[.val (.int i0), .val (.int i1), .val (.int i2), .val (.int (3 : Int32)), .val (.long ja), .second, .val (.long jb), .second, .val (.long jc), .second, .val (.ref q), .val (.ref om), .val (.ref ov), .val (.double mn3), .second, .val (.double vv), .second, .val (.long je), .second] [(.double (FP.l2d jb)), (.double mn3)])
    refine Go.on (fun _ k => XS.dcmpS X74.here hx rfl (hb hby at_247) rfl rfl k) ?_
    show Go _ _ _ _ _ _ _ _ (mkF m 248 #[.val (.int i0), .val (.int i1), .val (.int i2), .val (.int (3 : Int32)), .val (.long ja), .second, .val (.long jb), .second, .val (.long jc), .second, .val (.ref q), .val (.ref om), .val (.ref ov), .val (.double mn3), .second, .val (.double vv), .second, .val (.long je), .second] [(.int (cmpValue (FP.dcmp mn3 (FP.l2d jb)) .l))])
    have hc76 : (cmpValue (FP.dcmp mn3 (FP.l2d jb)) .l) = (0 : Int32) := HV.eq Hm3 (own_hl _ (by omega)) (by omega)
    refine Go.on (fun _ k => XS.ifNo X74.here hx rfl (hb hby at_248) rfl ((if0 _ _).trans (teq hc76).2) k) ?_
    show Go _ _ _ _ _ _ _ _ (mkF m 251 #[.val (.int i0), .val (.int i1), .val (.int i2), .val (.int (3 : Int32)), .val (.long ja), .second, .val (.long jb), .second, .val (.long jc), .second, .val (.ref q), .val (.ref om), .val (.ref ov), .val (.double mn3), .second, .val (.double vv), .second, .val (.long je), .second] [])
    refine Go.on (fun _ k => XS.dload X74.here hx rfl (hb hby at_251) rfl k) ?_
    show Go _ _ _ _ _ _ _ _ (mkF m 253 #[.val (.int i0), .val (.int i1), .val (.int i2), .val (.int (3 : Int32)), .val (.long ja), .second, .val (.long jb), .second, .val (.long jc), .second, .val (.ref q), .val (.ref om), .val (.ref ov), .val (.double mn3), .second, .val (.double vv), .second, .val (.long je), .second] [(.double vv)])
    refine Go.on (fun _ k => XS.lload X74.here hx rfl (hb hby at_253) rfl k) ?_
    show Go _ _ _ _ _ _ _ _ (mkF m 255 #[.val (.int i0), .val (.int i1), .val (.int i2), .val (.int (3 : Int32)), .val (.long ja), .second, .val (.long jb), .second, .val (.long jc), .second, .val (.ref q), .val (.ref om), .val (.ref ov), .val (.double mn3), .second, .val (.double vv), .second, .val (.long je), .second] [(.long je), (.double vv)])
    refine Go.on (fun _ k => XS.lload X74.here hx rfl (hb hby at_255) rfl k) ?_
    show Go _ _ _ _ _ _ _ _ (mkF m 257 #[.val (.int i0), .val (.int i1), .val (.int i2), .val (.int (3 : Int32)), .val (.long ja), .second, .val (.long jb), .second, .val (.long jc), .second, .val (.ref q), .val (.ref om), .val (.ref ov), .val (.double mn3), .second, .val (.double vv), .second, .val (.long je), .second] [(.long je), (.long je), (.double vv)])
    refine Go.on (fun _ k => XS.lmul X74.here hx rfl (hb hby at_257) rfl k) ?_
    show Go _ _ _ _ _ _ _ _ (mkF m 258 #[.val (.int i0), .val (.int i1), .val (.int i2), .val (.int (3 : Int32)), .val (.long ja), .second, .val (.long jb), .second, .val (.long jc), .second, .val (.ref q), .val (.ref om), .val (.ref ov), .val (.double mn3), .second, .val (.double vv), .second, .val (.long je), .second] [(.long (je * je)), (.double vv)])
    refine Go.on (fun _ k => XS.l2dS X74.here hx rfl (hb hby at_258) rfl rfl k) ?_
    show Go _ _ _ _ _ _ _ _ (mkF m 259 #[.val (.int i0), .val (.int i1), .val (.int i2), .val (.int (3 : Int32)), .val (.long ja), .second, .val (.long jb), .second, .val (.long jc), .second, .val (.ref q), .val (.ref om), .val (.ref ov), .val (.double mn3), .second, .val (.double vv), .second, .val (.long je), .second] [(.double (FP.l2d (je * je))), (.double vv)])
    refine Go.on (fun _ k => XS.dcmpS X74.here hx rfl (hb hby at_259) rfl rfl k) ?_
    show Go _ _ _ _ _ _ _ _ (mkF m 260 #[.val (.int i0), .val (.int i1), .val (.int i2), .val (.int (3 : Int32)), .val (.long ja), .second, .val (.long jb), .second, .val (.long jc), .second, .val (.ref q), .val (.ref om), .val (.ref ov), .val (.double mn3), .second, .val (.double vv), .second, .val (.long je), .second] [(.int (cmpValue (FP.dcmp vv (FP.l2d (je * je))) .l))])
    have hc77 : (cmpValue (FP.dcmp vv (FP.l2d (je * je))) .l) = (0 : Int32) := own_e3 hje hvv ha hb_ Hv
    refine Go.on (fun _ k => XS.ifNo X74.here hx rfl (hb hby at_260) rfl ((if0 _ _).trans (teq hc77).2) k) ?_
    show Go _ _ _ _ _ _ _ _ (mkF m 263 #[.val (.int i0), .val (.int i1), .val (.int i2), .val (.int (3 : Int32)), .val (.long ja), .second, .val (.long jb), .second, .val (.long jc), .second, .val (.ref q), .val (.ref om), .val (.ref ov), .val (.double mn3), .second, .val (.double vv), .second, .val (.long je), .second] [])
    refine Go.on (fun _ k => XS.iconst X74.here hx rfl (hb hby at_263) k) ?_
    show Go _ _ _ _ _ _ _ _ (mkF m 264 #[.val (.int i0), .val (.int i1), .val (.int i2), .val (.int (3 : Int32)), .val (.long ja), .second, .val (.long jb), .second, .val (.long jc), .second, .val (.ref q), .val (.ref om), .val (.ref ov), .val (.double mn3), .second, .val (.double vv), .second, .val (.long je), .second] [(.int (1 : Int32))])
    refine Go.on (fun _ k => XS.goto X74.here hx rfl (pc0 := 264) (pc' := 268) rfl (hb hby at_264) (by decide) (by decide) k) ?_
    show Go _ _ _ _ _ _ _ _ (mkF m 268 #[.val (.int i0), .val (.int i1), .val (.int i2), .val (.int (3 : Int32)), .val (.long ja), .second, .val (.long jb), .second, .val (.long jc), .second, .val (.ref q), .val (.ref om), .val (.ref ov), .val (.double mn3), .second, .val (.double vv), .second, .val (.long je), .second] [(.int (1 : Int32))])
    refine Go.retN X74 hx (t := .boolean) Bd.returns (by simp) (hb hby at_268) ?_ (by rw [hK1]; decide) (by rw [hK2]; decide)
    rw [e74, ← hQQ]
    exact ⟨rfl, N74⟩
set_option maxRecDepth 65536 in
set_option maxHeartbeats 40000000 in
theorem comes_1 {Post : Tables → Env → Array Value → State → Outcome → State → Prop} (hpost : ∀ tb e args s v u, (limb_1_1.after args s (.returned v) u = true ∧ limb_1_2.after args s (.returned v) u = true ∧ True) → FrameEnd s (.returned v) u (Jvm.fieldLocs frame_1_writes args s ++ Jvm.arrayLocs frame_1_arrays args s ++ Jvm.staticLocs frame_1_statics s) 16 128 → Post tb e args s (.returned v) u) :
    ArmFor flags0 classFile x code maxLocals ret World_1 tables_1 room_1 Calls_1 rest_1 Pre_1 Post := by
  intro l hfl _ _ p e ha hc hk s m args below hf hA hF happ hP
  obtain ⟨hcalls, hrest, hpre⟩ := hP
  obtain ⟨-, -, -, hnamed, -, -, -, hat⟩ := (Spec.applies_iff hf).mp happ
  obtain ⟨hg, hn⟩ := and_e (Cond.before_iff.mp (show (Jvm.Cond.and given_1 narrow_1).before args s = true from hpre))
  obtain ⟨g0, r0⟩ := and_e hg
  obtain ⟨g1, r1⟩ := and_e r0
  obtain ⟨g2, g3⟩ := and_e r1
  obtain ⟨w0, w1, w2, rfl⟩ : ∃ w0 w1 w2 : Value, args = #[w0, w1, w2] := by
    have hs : args.size = 3 := by simpa [Cond.value, given_1] using g0
    obtain ⟨L⟩ := args
    match L, hs with
    | [w0, w1, w2], _ => exact ⟨w0, w1, w2, rfl⟩
  have hw := fun d (hd : d ∈ tables_1) => atoms_spec (ws := Jvm.Cond.code x code maxLocals ret :: tables_1) hat d (List.mem_cons_of_mem _ hd)
  have hfit : Fit s := fun {y c} hc i hi => by
    obtain ⟨ha, rfl⟩ := Array.getElem?_eq_some_iff.mp hc
    have q := List.all_eq_true.mp ((Array.all_eq_true_iff_forall_mem.mp hF) _ (Array.getElem_mem ha)) i (List.mem_range.mpr hi)
    simpa [Array.getElem?_eq_getElem hi] using q
  obtain ⟨hsets, hown0⟩ := atoms_of _ (rest_1_c_eq ▸ (show rest_1_c.before _ s = true from hrest))
  obtain ⟨i0, ei0⟩ := is_v g1
  obtain rfl : w0 = (.int i0) := Option.some.inj ei0
  obtain ⟨i1, ei1⟩ := is_v g2
  obtain rfl : w1 = (.int i1) := Option.some.inj ei1
  obtain ⟨i2, ei2⟩ := is_v g3
  obtain rfl : w2 = (.int i2) := Option.some.inj ei2
  have s1 := hsets _ (List.mem_of_getElem? (i := 1) rfl)
  have s2 := Cond.before_iff.mp (hsets _ (List.mem_of_getElem? (i := 2) rfl))
  have s3 := Cond.before_iff.mp (hsets _ (List.mem_of_getElem? (i := 3) rfl))
  obtain ⟨em, hem⟩ := exa_v s2
  have Sm := Sta.start hem (Or.inl s1)
  have Em := Exa.start hem s2
  have Fm := own_fstart hem s3
  obtain ⟨n, o, h1, h2, h3, _, L, rfl, ⟨rfl, N⟩, hq⟩ := rm0 l s _ hw tables_1 i0 i1 i2 em s.heap s.heap.size (Nat.le_refl _) Sm Em Fm p e ha hc hk s m _ below hf ((Spec.applies_iff_loose hf).mp happ).1 ⟨rfl, State.Warmed39.refl s, rfl⟩ trivial
  refine ⟨n, _, h1, h2, h3, hpost _ _ _ _ _ _ ⟨Cond.after_iff.mpr rfl, Cond.after_iff.mpr (eq_i res_at (Term.int_eval (1)) rfl), trivial⟩ ⟨hq.1, hq.2.1, (hq.2.2.sift fun y hy => Or.inr (N y hy)).mono (by decide) (by decide)⟩⟩
theorem main_1_1 : Claimed_1_1 := comes_1 fun _ _ _ _ _ _ h hF => ⟨h.1, hF⟩
theorem main_1_2 : Claimed_1_2 := comes_1 fun _ _ _ _ _ _ h hF => ⟨h.2.1, hF⟩
end Jvm.Pilot.@@N@@
namespace Jvm.Pilot.@@N@@
open Jvm Jvm.ClassFile Sem Op Lib Jvm.Free Jvm.Stand Jvm.Pilot.@@N@@.Jvm.D
/-! MADE BY PROGRAM (witnessworld.py) out of the Statement's table words and the real class files: 10 classes; the members and pool entries that the words name. The judged class is class 1, her method 1. -/
namespace start1
open Jvm.ClassFile
def u (s : String) : CpInfo := .utf8 (stringToUtf16 s)
/-- a pool by its gaps: so many unusable entries, then the entry; so many at the end -/
def gap : Nat → List CpInfo → List CpInfo
  | 0, r => r
  | n + 1, r => .unusable :: gap n r
def poolList (es : List (Nat × CpInfo)) (last : Nat) : List CpInfo := es.foldr (fun e r => gap e.1 (e.2 :: r)) (gap last [])
def pool (es : List (Nat × CpInfo)) (last : Nat) : Array CpInfo := ⟨poolList es last⟩
def fileOf (pool : Array CpInfo) (this : Nat) (attrs : Array Attribute := #[]) (ms : Array MethodInfo := #[]) (fl : Nat := 33) (sup : Nat := 0) (ifs : Array Nat := #[]) (fds : Array FieldInfo := #[]) : ClassFile where
  minorVersion := 0
  majorVersion := 65
  constantPool := pool
  accessFlags := fl
  thisClass := this
  superClass := sup
  interfaces := ifs
  fields := fds
  methods := ms
  attributes := attrs
def plain (name : String) (sup : Option ClassId) : Class where
  name := name
  kind := .ordinary
  loader := none
  accessFlags := 33
  super := sup
  interfaces := #[]
  cf := none
  fields := #[]
  methods := #[]
  instanceTypes := #[]
  staticTypes := #[]
  resolved := #[]
  callSites := []
  init := .initialized
  statics := none
  mirror := none

def pool0 : Array CpInfo := pool [(5, u "<init>"), (0, u "()V"), (1, .class_ 10), (1, u "java/lang/Object")] 113

def k0c0 : Code := { maxStack := 0, maxLocals := 1, code := object_method_1_code, exceptionTable := #[], attributes := #[] }
def k0m0 : Method := { name := "<init>", desc := "()V", sig := { parameters := [], returnType := none }, accessFlags := 1, code := some k0c0 }
/-- java/lang/Object -/
def k0 : Class := { plain "java/lang/Object" none with
  accessFlags := 33
  interfaces := #[]
  cf := some (fileOf pool0 8 #[] #[{ accessFlags := 1, nameIndex := 5, descriptorIndex := 6, attributes := #[] }] 33 0 #[] #[])
  fields := #[]
  methods := #[k0m0]
  instanceTypes := #[]
  staticTypes := #[]
  resolved := Array.replicate 124 none
  statics := none }

def pool1 : Array CpInfo := pool [(2, .class_ 4), (0, .nameAndType 5 6), (0, u "java/lang/Object"), (0, u "<init>"), (0, u "()V"), (0, .integer 1000000), (0, .long 2), (1, .class_ 11), (0, u "com/example/parley/parley/replication/SampleStatistics"), (0, .methodref 10 3), (0, .methodref 10 14), (0, .nameAndType 15 16), (0, u "add"), (0, u "(D)V"), (0, .methodref 10 18), (0, .nameAndType 19 20), (0, u "getCount"), (0, u "()J"), (0, .methodref 10 22), (0, .nameAndType 23 24), (0, u "getMean"), (0, u "()Ljava/util/OptionalDouble;"), (0, .methodref 10 26), (0, .nameAndType 27 24), (0, u "getVariance"), (0, .methodref 29 30), (0, .class_ 31), (0, .nameAndType 32 33), (0, u "java/util/OptionalDouble"), (0, u "isPresent"), (0, u "()Z"), (0, .methodref 29 35), (0, .nameAndType 36 37), (0, u "getAsDouble"), (0, u "()D"), (0, .double 4611686018427387904), (1, .class_ 41), (0, u "com/example/parley/parley/replication/SampleStatisticsAddPinLaw"), (2, u "law"), (0, u "(III)Z")] 3

def k1m0 : Method := { name := "<init>", desc := "()V", sig := { parameters := [], returnType := none }, accessFlags := 1, code := none }
def k1c1 : Code := { maxStack := 6, maxLocals := 19, code := code, exceptionTable := #[], attributes := #[] }
def k1m1 : Method := { name := "law", desc := "(III)Z", sig := { parameters := [.int, .int, .int], returnType := some .boolean }, accessFlags := 9, code := some k1c1 }
/-- com/example/parley/parley/replication/SampleStatisticsAddPinLaw -/
def k1 : Class := { plain "com/example/parley/parley/replication/SampleStatisticsAddPinLaw" (some 0) with
  accessFlags := 49
  interfaces := #[]
  cf := some (fileOf pool1 40 #[] #[{ accessFlags := 1, nameIndex := 5, descriptorIndex := 6, attributes := #[] }, { accessFlags := 9, nameIndex := 44, descriptorIndex := 45, attributes := #[] }] 49 2 #[] #[])
  fields := #[]
  methods := #[k1m0, k1m1]
  instanceTypes := #[]
  staticTypes := #[]
  resolved := Array.replicate 49 none
  statics := none }

def pool2 : Array CpInfo := pool [(1, .methodref 2 3), (0, .class_ 4), (0, .nameAndType 5 6), (0, u "java/lang/Object"), (0, u "<init>"), (0, u "()V"), (0, .fieldref 8 9), (0, .class_ 10), (0, .nameAndType 11 12), (0, u "com/example/parley/parley/replication/SampleStatistics"), (0, u "count"), (0, u "J"), (0, .fieldref 8 14), (0, .nameAndType 15 16), (0, u "mean"), (0, u "D"), (0, .fieldref 8 18), (0, .nameAndType 19 16), (0, u "sumOfSquaredDeviations"), (0, .methodref 21 22), (0, .class_ 23), (0, .nameAndType 24 25), (0, u "java/util/OptionalDouble"), (0, u "empty"), (0, u "()Ljava/util/OptionalDouble;"), (0, .methodref 21 27), (0, .nameAndType 28 29), (0, u "of"), (0, u "(D)Ljava/util/OptionalDouble;"), (0, .long 2), (3, u "getVariance"), (16, u "add"), (0, u "(D)V"), (0, u "getCount"), (0, u "()J"), (0, u "getMean")] 4

def k2c0 : Code := { maxStack := 1, maxLocals := 1, code := prog_4_method_1_code, exceptionTable := #[], attributes := #[] }
def k2m0 : Method := { name := "<init>", desc := "()V", sig := { parameters := [], returnType := none }, accessFlags := 1, code := some k2c0 }
def k2c1 : Code := { maxStack := 9, maxLocals := 5, code := prog_4_method_2_code, exceptionTable := #[], attributes := #[] }
def k2m1 : Method := { name := "add", desc := "(D)V", sig := { parameters := [.double], returnType := none }, accessFlags := 1, code := some k2c1 }
def k2c2 : Code := { maxStack := 2, maxLocals := 1, code := prog_4_method_3_code, exceptionTable := #[], attributes := #[] }
def k2m2 : Method := { name := "getCount", desc := "()J", sig := { parameters := [], returnType := some .long }, accessFlags := 1, code := some k2c2 }
def k2c3 : Code := { maxStack := 4, maxLocals := 1, code := prog_4_method_4_code, exceptionTable := #[], attributes := #[] }
def k2m3 : Method := { name := "getMean", desc := "()Ljava/util/OptionalDouble;", sig := { parameters := [], returnType := some (.object "java/util/OptionalDouble") }, accessFlags := 1, code := some k2c3 }
def k2c4 : Code := { maxStack := 6, maxLocals := 1, code := prog_4_method_5_code, exceptionTable := #[], attributes := #[] }
def k2m4 : Method := { name := "getVariance", desc := "()Ljava/util/OptionalDouble;", sig := { parameters := [], returnType := some (.object "java/util/OptionalDouble") }, accessFlags := 1, code := some k2c4 }
/-- com/example/parley/parley/replication/SampleStatistics -/
def k2 : Class := { plain "com/example/parley/parley/replication/SampleStatistics" (some 0) with
  accessFlags := 49
  interfaces := #[]
  cf := some (fileOf pool2 8 #[] #[{ accessFlags := 1, nameIndex := 5, descriptorIndex := 6, attributes := #[] }, { accessFlags := 1, nameIndex := 51, descriptorIndex := 52, attributes := #[] }, { accessFlags := 1, nameIndex := 53, descriptorIndex := 54, attributes := #[] }, { accessFlags := 1, nameIndex := 55, descriptorIndex := 25, attributes := #[] }, { accessFlags := 1, nameIndex := 34, descriptorIndex := 25, attributes := #[] }] 49 2 #[] #[{ accessFlags := 2, nameIndex := 11, descriptorIndex := 12, attributes := #[] }, { accessFlags := 2, nameIndex := 15, descriptorIndex := 16, attributes := #[] }, { accessFlags := 2, nameIndex := 19, descriptorIndex := 16, attributes := #[] }])
  fields := #[{ name := "count", type := .long, accessFlags := 2, slot := 0, constantValue := 0 }, { name := "mean", type := .double, accessFlags := 2, slot := 1, constantValue := 0 }, { name := "sumOfSquaredDeviations", type := .double, accessFlags := 2, slot := 2, constantValue := 0 }]
  methods := #[k2m0, k2m1, k2m2, k2m3, k2m4]
  instanceTypes := #[.long, .double, .double]
  staticTypes := #[]
  resolved := Array.replicate 60 none
  statics := none }

def pool3 : Array CpInfo := pool [(1, .methodref 2 3), (0, .class_ 4), (0, .nameAndType 5 6), (0, u "java/lang/Object"), (0, u "<init>"), (0, u "()V"), (0, .fieldref 8 9), (0, .class_ 10), (0, .nameAndType 11 12), (0, u "java/util/OptionalDouble"), (0, u "isPresent"), (0, u "Z"), (4, .fieldref 8 18), (0, .nameAndType 19 20), (0, u "value"), (0, u "D"), (0, .fieldref 8 22), (0, .nameAndType 23 24), (0, u "EMPTY"), (0, u "Ljava/util/OptionalDouble;"), (0, .methodref 8 26), (0, .nameAndType 5 27), (0, u "(D)V"), (21, u "of"), (3, u "empty"), (5, u "getAsDouble"), (0, u "()D"), (41, u "()Ljava/util/OptionalDouble;"), (0, u "(D)Ljava/util/OptionalDouble;"), (1, u "()Z")] 38

def k3m0 : Method := { name := "<init>", desc := "()V", sig := { parameters := [], returnType := none }, accessFlags := 2, code := none }
def k3c1 : Code := { maxStack := 1, maxLocals := 0, code := jdk_2648_method_2_code, exceptionTable := #[], attributes := #[] }
def k3m1 : Method := { name := "empty", desc := "()Ljava/util/OptionalDouble;", sig := { parameters := [], returnType := some (.object "java/util/OptionalDouble") }, accessFlags := 9, code := some k3c1 }
def k3c2 : Code := { maxStack := 3, maxLocals := 3, code := jdk_2648_method_3_code, exceptionTable := #[], attributes := #[] }
def k3m2 : Method := { name := "<init>", desc := "(D)V", sig := { parameters := [.double], returnType := none }, accessFlags := 2, code := some k3c2 }
def k3c3 : Code := { maxStack := 4, maxLocals := 2, code := jdk_2648_method_4_code, exceptionTable := #[], attributes := #[] }
def k3m3 : Method := { name := "of", desc := "(D)Ljava/util/OptionalDouble;", sig := { parameters := [.double], returnType := some (.object "java/util/OptionalDouble") }, accessFlags := 9, code := some k3c3 }
def k3c4 : Code := { maxStack := 3, maxLocals := 1, code := jdk_2648_method_5_code, exceptionTable := #[], attributes := #[] }
def k3m4 : Method := { name := "getAsDouble", desc := "()D", sig := { parameters := [], returnType := some .double }, accessFlags := 1, code := some k3c4 }
def k3c5 : Code := { maxStack := 1, maxLocals := 1, code := jdk_2648_method_6_code, exceptionTable := #[], attributes := #[] }
def k3m5 : Method := { name := "isPresent", desc := "()Z", sig := { parameters := [], returnType := some .boolean }, accessFlags := 1, code := some k3c5 }
/-- java/util/OptionalDouble -/
def k3 : Class := { plain "java/util/OptionalDouble" (some 0) with
  accessFlags := 49
  interfaces := #[]
  cf := some (fileOf pool3 8 #[] #[{ accessFlags := 2, nameIndex := 5, descriptorIndex := 6, attributes := #[] }, { accessFlags := 9, nameIndex := 53, descriptorIndex := 102, attributes := #[] }, { accessFlags := 2, nameIndex := 5, descriptorIndex := 27, attributes := #[] }, { accessFlags := 9, nameIndex := 49, descriptorIndex := 103, attributes := #[] }, { accessFlags := 1, nameIndex := 59, descriptorIndex := 60, attributes := #[] }, { accessFlags := 1, nameIndex := 11, descriptorIndex := 105, attributes := #[] }] 49 2 #[] #[{ accessFlags := 26, nameIndex := 23, descriptorIndex := 24, attributes := #[] }, { accessFlags := 18, nameIndex := 11, descriptorIndex := 12, attributes := #[] }, { accessFlags := 18, nameIndex := 19, descriptorIndex := 20, attributes := #[] }])
  fields := #[{ name := "EMPTY", type := (.object "java/util/OptionalDouble"), accessFlags := 26, slot := 0, constantValue := 0 }, { name := "isPresent", type := .boolean, accessFlags := 18, slot := 0, constantValue := 0 }, { name := "value", type := .double, accessFlags := 18, slot := 1, constantValue := 0 }]
  methods := #[k3m0, k3m1, k3m2, k3m3, k3m4, k3m5]
  instanceTypes := #[.boolean, .double]
  staticTypes := #[(.object "java/util/OptionalDouble")]
  resolved := Array.replicate 144 none
  statics := some 0 }

def pool4 : Array CpInfo := pool [(1, u "java/lang/Cloneable"), (0, .class_ 1), (0, u "java/lang/Object"), (0, .class_ 3)] 3

/-- java/lang/Cloneable -/
def k4 : Class := { plain "java/lang/Cloneable" (some 0) with
  accessFlags := 1537
  interfaces := #[]
  cf := some (fileOf pool4 2 #[] #[] 1537 4 #[] #[])
  fields := #[]
  methods := #[]
  instanceTypes := #[]
  staticTypes := #[]
  resolved := Array.replicate 8 none
  statics := none }

def pool5 : Array CpInfo := pool [(1, u "java/io/Serializable"), (0, .class_ 1), (0, u "java/lang/Object"), (0, .class_ 3)] 3

/-- java/io/Serializable -/
def k5 : Class := { plain "java/io/Serializable" (some 0) with
  accessFlags := 1537
  interfaces := #[]
  cf := some (fileOf pool5 2 #[] #[] 1537 4 #[] #[])
  fields := #[]
  methods := #[]
  instanceTypes := #[]
  staticTypes := #[]
  resolved := Array.replicate 8 none
  statics := none }

/-- the primitive byte -/
def k6 : Class := { plain "byte" none with kind := .primitive 'B', accessFlags := 0x411 }
/-- [B -/
def k7 : Class := { plain "[B" (some 0) with kind := .array 6 .byte, interfaces := #[4, 5], accessFlags := 1041 }

/-- the primitive int -/
def k8 : Class := { plain "int" none with kind := .primitive 'I', accessFlags := 0x411 }
/-- [I -/
def k9 : Class := { plain "[I" (some 0) with kind := .array 8 .int, interfaces := #[4, 5], accessFlags := 1041 }

def heap : Heap := #[{ cls := 3, slots := #[.ref 1], vm := .statics 3 },
  { cls := 3, slots := #[.int 0, .double 0], vm := .none }]
def classes : Array Class := #[k0, k1, k2, k3, k4, k5, k6, k7, k8, k9]
def interned : List (Array UInt16 × Addr) := []
def slotsUsed : Nat := 3
def theMethod : MethodId := ⟨1, 1⟩
def args0 : Array Value := #[.int 5, .int 7, .int 3]
def aboutOver (below : List Frame) : State where
  vm := { classes := classes, interned := interned.toArray }
  heap := heap
  slotsUsed := slotsUsed
  threads := #[{ frames := .invoking theMethod args0 :: below }]
def below0 : List Frame := [.native { method := ⟨0, 0⟩, args := #[] }]
def about1 : State := aboutOver below0
def p0 : Program := .bare "" "" ""
def e0 : Env := launch0.env 0 0 0
theorem w_frames : about1.frames = Frame.invoking theMethod args0 :: below0 := rfl
set_option maxRecDepth 65536 in
theorem w_args : argsFit about1.vm theMethod args0 = true := by decide +kernel
set_option maxRecDepth 65536 in
theorem w_heap : heapFits about1 = true := by decide +kernel
set_option maxRecDepth 65536 in
theorem w_runnable : about1.curStatus? = some .runnable := by decide +kernel
set_option maxRecDepth 65536 in
theorem w_alone : about1.alone = true := by decide +kernel
set_option maxRecDepth 65536 in
theorem w_named : about1.methodNamed? x = some theMethod := by decide +kernel
set_option maxRecDepth 65536 in
theorem w_hears : about1.hears theMethod below0 = true := by decide +kernel
set_option maxRecDepth 65536 in
theorem w_ripe : about1.ripe theMethod args0 below0 = true := by decide +kernel
theorem w_running : about1.status = .running := rfl
set_option maxRecDepth 65536 in
theorem w_room : about1.hasRoom e0.platform room_1 = true :=
  launch0.hasRoom_least _ room_1 (by decide +kernel) (by decide +kernel) (by decide +kernel) (by decide +kernel) (by decide +kernel) (by decide +kernel)
theorem allAtoms_all (ts : List Jvm.Cond) (a : Array Jvm.Value) (st : Jvm.State) : (allAtoms ts).before a st = ts.all (fun c => c.before a st) := by
  induction ts with
  | nil => rfl
  | cons c t ih =>
    show (Jvm.Cond.and c (allAtoms t)).before a st = _
    rw [Jvm.Cond.before_and, ih, List.all_cons]
def words1 : List Jvm.Cond := Jvm.Cond.code x code maxLocals ret :: tables_1
/-- a 'code' word, met by the world's own term for the bytes: nothing is compared byte by byte -/
theorem code_word {y : MethodName} {bytes : ByteArray} {mx : Nat} {rt : Option FieldType} {a : Array Value} {s : State} {m : MethodId} {meth : Method} {c : Code} (h1 : s.methodNamed? y = some m) (h2 : s.vm.method? m = some meth) (h3 : meth.code = some c) (h4 : c.code = bytes)
    (h5 : (c.maxLocals == mx && c.exceptionTable.isEmpty && decide (c.maxStack ≤ mostOperands) && decide (meth.sig.returnType = rt) && !meth.locks && decide (parseMethodDescriptor y.desc = some meth.sig)) = true) : (Jvm.Cond.code y bytes mx rt).before a s = true := by
  simp only [Bool.and_eq_true, beq_iff_eq, Bool.not_eq_true', decide_eq_true_eq] at h5
  obtain ⟨⟨⟨⟨⟨g1, g2⟩, g3⟩, g4⟩, g5⟩, g6⟩ := h5
  simp [Cond.before, Cond.holds, Cond.value, h1, h2, h3, h4, g1, g2, g3, g4, g5, g6]
def isCode : Jvm.Cond → Bool
  | .code _ _ _ _ => true
  | _ => false
theorem all_split {L : List Jvm.Cond} {P : Jvm.Cond → Bool} (h1 : L.all (fun c => isCode c || P c) = true) (h2 : ∀ c ∈ L.filter isCode, P c = true) : L.all P = true := by
  refine List.all_eq_true.mpr fun c hc => ?_
  have h := List.all_eq_true.mp h1 c hc
  rcases Bool.eq_false_or_eq_true (isCode c) with hi | hi
  · exact h2 c (List.mem_filter.mpr ⟨hc, hi⟩)
  · simpa [hi] using h
set_option maxRecDepth 65536 in
theorem w_c0 : (Jvm.Cond.code x code maxLocals ret).before args0 about1 = true := code_word (m := ⟨1, 1⟩) (meth := k1m1) (c := k1c1) (by decide +kernel) rfl rfl rfl (by decide +kernel)
set_option maxRecDepth 65536 in
theorem w_c1 : (Jvm.Cond.code ({ cls := "com/example/parley/parley/replication/SampleStatistics", name := "<init>", desc := "()V" } : Jvm.MethodName) prog_4_method_1_code (1 : Nat) (Option.none : Option Jvm.ClassFile.FieldType)).before args0 about1 = true := code_word (m := ⟨2, 0⟩) (meth := k2m0) (c := k2c0) (by decide +kernel) rfl rfl rfl (by decide +kernel)
set_option maxRecDepth 65536 in
theorem w_c2 : (Jvm.Cond.code ({ cls := "java/lang/Object", name := "<init>", desc := "()V" } : Jvm.MethodName) object_method_1_code (1 : Nat) (Option.none : Option Jvm.ClassFile.FieldType)).before args0 about1 = true := code_word (m := ⟨0, 0⟩) (meth := k0m0) (c := k0c0) (by decide +kernel) rfl rfl rfl (by decide +kernel)
set_option maxRecDepth 65536 in
theorem w_c3 : (Jvm.Cond.code ({ cls := "com/example/parley/parley/replication/SampleStatistics", name := "add", desc := "(D)V" } : Jvm.MethodName) prog_4_method_2_code (5 : Nat) (Option.none : Option Jvm.ClassFile.FieldType)).before args0 about1 = true := code_word (m := ⟨2, 1⟩) (meth := k2m1) (c := k2c1) (by decide +kernel) rfl rfl rfl (by decide +kernel)
set_option maxRecDepth 65536 in
theorem w_c4 : (Jvm.Cond.code ({ cls := "com/example/parley/parley/replication/SampleStatistics", name := "getCount", desc := "()J" } : Jvm.MethodName) prog_4_method_3_code (1 : Nat) (Option.some Jvm.ClassFile.FieldType.long)).before args0 about1 = true := code_word (m := ⟨2, 2⟩) (meth := k2m2) (c := k2c2) (by decide +kernel) rfl rfl rfl (by decide +kernel)
set_option maxRecDepth 65536 in
theorem w_c5 : (Jvm.Cond.code ({ cls := "com/example/parley/parley/replication/SampleStatistics", name := "getMean", desc := "()Ljava/util/OptionalDouble;" } : Jvm.MethodName) prog_4_method_4_code (1 : Nat) (Option.some (Jvm.ClassFile.FieldType.object "java/util/OptionalDouble"))).before args0 about1 = true := code_word (m := ⟨2, 3⟩) (meth := k2m3) (c := k2c3) (by decide +kernel) rfl rfl rfl (by decide +kernel)
set_option maxRecDepth 65536 in
theorem w_c6 : (Jvm.Cond.code ({ cls := "java/util/OptionalDouble", name := "of", desc := "(D)Ljava/util/OptionalDouble;" } : Jvm.MethodName) jdk_2648_method_4_code (2 : Nat) (Option.some (Jvm.ClassFile.FieldType.object "java/util/OptionalDouble"))).before args0 about1 = true := code_word (m := ⟨3, 3⟩) (meth := k3m3) (c := k3c3) (by decide +kernel) rfl rfl rfl (by decide +kernel)
set_option maxRecDepth 65536 in
theorem w_c7 : (Jvm.Cond.code ({ cls := "java/util/OptionalDouble", name := "<init>", desc := "(D)V" } : Jvm.MethodName) jdk_2648_method_3_code (3 : Nat) (Option.none : Option Jvm.ClassFile.FieldType)).before args0 about1 = true := code_word (m := ⟨3, 2⟩) (meth := k3m2) (c := k3c2) (by decide +kernel) rfl rfl rfl (by decide +kernel)
set_option maxRecDepth 65536 in
theorem w_c8 : (Jvm.Cond.code ({ cls := "com/example/parley/parley/replication/SampleStatistics", name := "getVariance", desc := "()Ljava/util/OptionalDouble;" } : Jvm.MethodName) prog_4_method_5_code (1 : Nat) (Option.some (Jvm.ClassFile.FieldType.object "java/util/OptionalDouble"))).before args0 about1 = true := code_word (m := ⟨2, 4⟩) (meth := k2m4) (c := k2c4) (by decide +kernel) rfl rfl rfl (by decide +kernel)
set_option maxRecDepth 65536 in
theorem w_c9 : (Jvm.Cond.code ({ cls := "java/util/OptionalDouble", name := "isPresent", desc := "()Z" } : Jvm.MethodName) jdk_2648_method_6_code (1 : Nat) (Option.some Jvm.ClassFile.FieldType.boolean)).before args0 about1 = true := code_word (m := ⟨3, 5⟩) (meth := k3m5) (c := k3c5) (by decide +kernel) rfl rfl rfl (by decide +kernel)
set_option maxRecDepth 65536 in
theorem w_c10 : (Jvm.Cond.code ({ cls := "java/util/OptionalDouble", name := "getAsDouble", desc := "()D" } : Jvm.MethodName) jdk_2648_method_5_code (1 : Nat) (Option.some Jvm.ClassFile.FieldType.double)).before args0 about1 = true := code_word (m := ⟨3, 4⟩) (meth := k3m4) (c := k3c4) (by decide +kernel) rfl rfl rfl (by decide +kernel)
set_option maxRecDepth 65536 in
theorem w_c11 : (Jvm.Cond.code ({ cls := "java/util/OptionalDouble", name := "empty", desc := "()Ljava/util/OptionalDouble;" } : Jvm.MethodName) jdk_2648_method_2_code (0 : Nat) (Option.some (Jvm.ClassFile.FieldType.object "java/util/OptionalDouble"))).before args0 about1 = true := code_word (m := ⟨3, 1⟩) (meth := k3m1) (c := k3c1) (by decide +kernel) rfl rfl rfl (by decide +kernel)
def codes1 : List Jvm.Cond := [Jvm.Cond.code x code maxLocals ret, Jvm.Cond.code ({ cls := "com/example/parley/parley/replication/SampleStatistics", name := "<init>", desc := "()V" } : Jvm.MethodName) prog_4_method_1_code (1 : Nat) (Option.none : Option Jvm.ClassFile.FieldType), Jvm.Cond.code ({ cls := "java/lang/Object", name := "<init>", desc := "()V" } : Jvm.MethodName) object_method_1_code (1 : Nat) (Option.none : Option Jvm.ClassFile.FieldType), Jvm.Cond.code ({ cls := "com/example/parley/parley/replication/SampleStatistics", name := "add", desc := "(D)V" } : Jvm.MethodName) prog_4_method_2_code (5 : Nat) (Option.none : Option Jvm.ClassFile.FieldType), Jvm.Cond.code ({ cls := "com/example/parley/parley/replication/SampleStatistics", name := "getCount", desc := "()J" } : Jvm.MethodName) prog_4_method_3_code (1 : Nat) (Option.some Jvm.ClassFile.FieldType.long), Jvm.Cond.code ({ cls := "com/example/parley/parley/replication/SampleStatistics", name := "getMean", desc := "()Ljava/util/OptionalDouble;" } : Jvm.MethodName) prog_4_method_4_code (1 : Nat) (Option.some (Jvm.ClassFile.FieldType.object "java/util/OptionalDouble")), Jvm.Cond.code ({ cls := "java/util/OptionalDouble", name := "of", desc := "(D)Ljava/util/OptionalDouble;" } : Jvm.MethodName) jdk_2648_method_4_code (2 : Nat) (Option.some (Jvm.ClassFile.FieldType.object "java/util/OptionalDouble")), Jvm.Cond.code ({ cls := "java/util/OptionalDouble", name := "<init>", desc := "(D)V" } : Jvm.MethodName) jdk_2648_method_3_code (3 : Nat) (Option.none : Option Jvm.ClassFile.FieldType), Jvm.Cond.code ({ cls := "com/example/parley/parley/replication/SampleStatistics", name := "getVariance", desc := "()Ljava/util/OptionalDouble;" } : Jvm.MethodName) prog_4_method_5_code (1 : Nat) (Option.some (Jvm.ClassFile.FieldType.object "java/util/OptionalDouble")), Jvm.Cond.code ({ cls := "java/util/OptionalDouble", name := "isPresent", desc := "()Z" } : Jvm.MethodName) jdk_2648_method_6_code (1 : Nat) (Option.some Jvm.ClassFile.FieldType.boolean), Jvm.Cond.code ({ cls := "java/util/OptionalDouble", name := "getAsDouble", desc := "()D" } : Jvm.MethodName) jdk_2648_method_5_code (1 : Nat) (Option.some Jvm.ClassFile.FieldType.double), Jvm.Cond.code ({ cls := "java/util/OptionalDouble", name := "empty", desc := "()Ljava/util/OptionalDouble;" } : Jvm.MethodName) jdk_2648_method_2_code (0 : Nat) (Option.some (Jvm.ClassFile.FieldType.object "java/util/OptionalDouble"))]
set_option maxRecDepth 65536 in
theorem codes_eq : words1.filter isCode = codes1 := rfl
theorem w_codes : ∀ c ∈ words1.filter isCode, c.before args0 about1 = true := by
  rw [codes_eq]
  intro c hc
  simp only [codes1, List.mem_cons, List.not_mem_nil, or_false] at hc
  rcases hc with rfl | rfl | rfl | rfl | rfl | rfl | rfl | rfl | rfl | rfl | rfl | rfl
  · exact w_c0
  · exact w_c1
  · exact w_c2
  · exact w_c3
  · exact w_c4
  · exact w_c5
  · exact w_c6
  · exact w_c7
  · exact w_c8
  · exact w_c9
  · exact w_c10
  · exact w_c11
set_option maxRecDepth 65536 in
theorem w_t1 : (words1.take 24).all (fun c => isCode c || c.before args0 about1) = true := by decide +kernel
set_option maxRecDepth 65536 in
theorem w_t2 : ((words1.drop 24).take 24).all (fun c => isCode c || c.before args0 about1) = true := by decide +kernel
set_option maxRecDepth 65536 in
theorem w_t3 : ((words1.drop 24).drop 24).all (fun c => isCode c || c.before args0 about1) = true := by decide +kernel
theorem w_tables : (allAtoms (Jvm.Cond.code x code maxLocals ret :: tables_1)).before args0 about1 = true := by
  rw [allAtoms_all]
  show words1.all (fun c => c.before args0 about1) = true
  refine all_split ?_ w_codes
  rw [← List.take_append_drop 24 words1, List.all_append, w_t1, ← List.take_append_drop 24 (words1.drop 24), List.all_append, w_t2, w_t3]
  rfl
set_option maxRecDepth 65536 in
theorem w_rest : rest_1_c.before args0 about1 = true := by decide +kernel
set_option maxRecDepth 65536 in
theorem w_case : (Jvm.Cond.and given_1 narrow_1).before args0 about1 = true := by decide +kernel
theorem w_applies : (headSpec (Jvm.Cond.code x code maxLocals ret :: tables_1) room_1).applies x e0.platform about1 = true :=
  (Spec.applies_iff w_frames).mpr ⟨w_running, w_runnable, w_alone, w_named, w_hears, w_ripe, w_room, w_tables⟩
theorem atStart : AtStart classFile x code maxLocals ret World_1 tables_1 room_1 Calls_1 rest_1 Pre_1 launch0 p0 e0 about1 theMethod args0 below0 :=
  ⟨lists_1, trivial, launch0.admits_env _ _ _, launch0.least_env, fairChoices_fair.cas, fairChoices_fair.clock, w_frames, w_args, w_heap, w_applies, trivial, w_rest, w_case⟩
end start1
theorem witness_1 : WitnessClaimed_1 := ⟨start1.p0, start1.e0, start1.about1, start1.theMethod, start1.args0, start1.below0, start1.atStart⟩
end Jvm.Pilot.@@N@@
