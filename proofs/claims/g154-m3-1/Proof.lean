import JvmDerived
import JvmDerived.Pilot.@@N@@Statement
import JvmDerived.Pilot.@@N@@Code
set_option linter.unusedVariables false
set_option linter.unusedSimpArgs false
@@BLOCK:NumsL.lean.txt@@
namespace Jvm.Pilot.@@N@@
open Jvm Jvm.ClassFile Sem Op Lib Jvm.Free Jvm.Stand Jvm.LawKit Jvm.RoadKit Bundle Jvm.Pilot.@@N@@.Jvm.D
section OwnGo
variable {p : Program} {l : Launch} {e : Env} {R : Room} {s : State} {m : MethodId} {args : Array Value} {below : List Frame} {meth : Method} {c : Code} {T T' : State} {locs : List Loc} {cells slots K1 K2 : Nat} {Q : Option Value → Heap → List Loc → Prop}
/-- from T at the frame f the run comes to an end that meets Q -/
def Go (p : Program) (e : Env) (below : List Frame) (s : State) (K1 K2 : Nat) (Q : Option Value → Heap → List Loc → Prop) (T : State) (f : JFrame) : Prop :=
  ∃ s₂ o, Steps p.tables e below (T.setTop f) s₂ ∧ s₂.status = .running ∧ Ended s₂ below o ∧ ∃ v L, o = .returned v ∧ Q v s₂.heap L ∧ FrameEnd s o s₂ L K1 K2
theorem Go.on {f f' : JFrame} (h : ∀ t, Steps p.tables e below (T'.setTop f') t → Steps p.tables e below (T.setTop f) t) (g : Go p e below s K1 K2 Q T' f') : Go p e below s K1 K2 Q T f := by
  obtain ⟨s₂, o, h1, r⟩ := g
  exact ⟨s₂, o, h _ h1, r⟩
theorem Go.cast {f f' : JFrame} (h : f = f') (g : Go p e below s K1 K2 Q T f') : Go p e below s K1 K2 Q T f := h ▸ g
theorem Go.gen {f : JFrame} (h : ∀ k1 k2 q, k1 = K1 → k2 = K2 → Q = q → Go p e below s k1 k2 q T f) : Go p e below s K1 K2 Q T f := h _ _ _ rfl rfl rfl
theorem Go.retV (X : Stand p l e R s m args below meth c T locs cells slots) (hx : p.tables.exec = Jvm.exec) {pc : Nat} {Ls : Array Slot} {w : Value} {t : FieldType} {i : Instr} {rest : List Value} (hret : meth.sig.returnType = some t) (hn : narrow t w = w)
    (hi : (i = .ireturn ∧ (t = .int ∨ t = .boolean ∨ t = .byte ∨ t = .char ∨ t = .short) ∧ ∃ z, w = .int z) ∨ (i = .lreturn ∧ t = .long ∧ ∃ z, w = .long z) ∨ (i = .dreturn ∧ t = .double ∧ ∃ z, w = .double z) ∨ (i = .freturn ∧ t = .float ∧ ∃ z, w = .float z) ∨ (i = .areturn ∧ t.isReference = true ∧ w.isRef = true))
    (hd : decode c.code pc = .ok (i, 1)) (hq : Q (some w) T.heap locs) (hc : cells ≤ K1) (hs : slots ≤ K2) (hlk : meth.locks = false := by assumption) : Go p e below s K1 K2 Q T (mkF m pc Ls (w :: rest)) := by
  obtain ⟨fs, hr, hrun, hended, hW, hsame⟩ := X.leave (v := some w) (fun h => by rw [hret] at h; cases h) hlk
  exact ⟨_, _, retOut X hx hret hn hi hd hr, hrun, hended, _, _, rfl, hq, ⟨_, rfl⟩, hW, hsame.mono hc hs⟩
theorem Go.retN (X : Stand p l e R s m args below meth c T locs cells slots) (hx : p.tables.exec = Jvm.exec) {pc : Nat} {Ls : Array Slot} {z : Int32} {t : FieldType} {rest : List Value} (hret : meth.sig.returnType = some t) (ht : t = .boolean ∨ t = .byte ∨ t = .char ∨ t = .short)
    (hd : decode c.code pc = .ok (.ireturn, 1)) (hq : Q (some (.int (nar t z))) T.heap locs) (hc : cells ≤ K1) (hs : slots ≤ K2) (hlk : meth.locks = false := by assumption) : Go p e below s K1 K2 Q T (mkF m pc Ls (.int z :: rest)) := by
  obtain ⟨fs, hr, hrun, hended, hW, hsame⟩ := X.leave (v := some (.int (nar t z))) (fun h => by rw [hret] at h; cases h) hlk
  exact ⟨_, _, Jvm.RoadKit.retN X hx hret ht hd hr, hrun, hended, _, _, rfl, hq, ⟨_, rfl⟩, hW, hsame.mono hc hs⟩
theorem Go.ret0 (X : Stand p l e R s m args below meth c T locs cells slots) (hx : p.tables.exec = Jvm.exec) {pc : Nat} {Ls : Array Slot} (hret : meth.sig.returnType = none)
    (hd : decode c.code pc = .ok (.return_, 1)) (hq : Q none T.heap locs) (hc : cells ≤ K1) (hs : slots ≤ K2) (hlk : meth.locks = false := by assumption) : Go p e below s K1 K2 Q T (mkF m pc Ls []) := by
  obtain ⟨fs, hr, hrun, hended, hW, hsame⟩ := X.leave (v := none) (fun _ => rfl) hlk
  exact ⟨_, _, X.returnOut hx hret hd hr, hrun, hended, _, _, rfl, hq, ⟨_, rfl⟩, hW, hsame.mono hc hs⟩
theorem own_lc_lt {a b : Int64} : lcmpW a b < 0 ↔ a < b := by rw [lcW]; exact lc_lt a b
theorem own_lc_gt {a b : Int64} : 0 < lcmpW a b ↔ b < a := by rw [lcW]; exact lc_gt a b
theorem own_lc_eq {a b : Int64} : lcmpW a b = 0 ↔ a = b := by rw [lcW]; exact lc_eq a b
theorem own_lremM {g : JFrame} {target : State} (X : Stand p l e R s m args below meth c T locs cells slots) (hx : p.tables.exec = Jvm.exec) (hg : g.method = m) {x y : Int64} {rest : List Value} (hd : decode c.code g.pc = .ok (.lrem, 1)) (hs : g.stack = .long y :: .long x :: rest) (hy : y ≠ 0)
    (hr : Steps p.tables e below (T.setTop { g with pc := g.pc + 1, stack := .long (x % y) :: rest }) target) : Steps p.tables e below (T.setTop g) target := by
  have q : x - x / y * y = x % y := by
    apply Int64.toInt_inj.mp
    have h1 := Int64.le_toInt (x % y)
    have h2 := Int64.toInt_lt (x % y)
    rw [Int64.toInt_sub, Int64.toInt_mul, Int64.toInt_div, Int.bmod_mul_bmod, Int.sub_bmod_bmod, Int.mul_comm (x.toInt.tdiv y.toInt), ← Int.tmod_def, ← Int64.toInt_mod]
    exact Int.bmod_eq_of_le_mul_two (by omega) (by omega)
  exact XS.lrem X.here hx hg hd hs hy (by rw [q]; exact hr)
theorem own_cl_gt {o : Option Ordering} : 0 < cmpValue o .l ↔ o = some .gt := by rcases o with _ | (_ | _ | _) <;> decide
theorem own_cl_lt {o : Option Ordering} : cmpValue o .l < 0 ↔ ¬ (o = some .gt ∨ o = some .eq) := by rcases o with _ | (_ | _ | _) <;> decide
theorem own_cg_lt {o : Option Ordering} : cmpValue o .g < 0 ↔ o = some .lt := by rcases o with _ | (_ | _ | _) <;> decide
theorem own_cg_gt {o : Option Ordering} : 0 < cmpValue o .g ↔ ¬ (o = some .lt ∨ o = some .eq) := by rcases o with _ | (_ | _ | _) <;> decide
theorem own_c_eq {o : Option Ordering} {k : CmpOp} : cmpValue o k = 0 ↔ o = some .eq := by cases k <;> rcases o with _ | (_ | _ | _) <;> decide
end OwnGo
section OwnFp
open Jvm.FP.Core
variable {a b V : UInt64} {x y z v : Int}
/-- the double a is finite and worth x units of 2^-1074 -/
def ZV (a : UInt64) (x : Int) : Prop := DFin a ∧ zval b64 (val64 a) = x
theorem ZV.ne (h : ZV a x) : val64 a ≠ .nan := h.1.ne_nan
theorem ZV.nn (h : ZV a x) : Jvm.Free.Fl.NoNaN64 a := Jvm.Free.Fl.noNaN64_no.mpr h.1.notNaN
theorem ZV.cmp (ha : ZV a x) (hb : ZV b y) : FP.dcmp a b = some (compare x y) := by
  show FP.Core.dcmp a b = _
  rw [dcmp_zval ha.ne hb.ne, ha.2, hb.2]
theorem ZV.uniq (ha : ZV a x) (hb : ZV a y) : x = y := ha.2.symm.trans hb.2
theorem own_fin_of {W : UInt64} (hn : val64 a ≠ .nan) (hW : DFin W) (h : zmag b64 (val64 a) ≤ zmag b64 (val64 W)) : DFin a := by
  cases h2 : val64 a with
  | nan => exact absurd h2 hn
  | inf s =>
    rw [h2] at h
    have := hW.zval_lt
    have e : zmag b64 (.inf s) = b64.tails * 2 ^ (b64.exps - 2) := rfl
    rw [e] at h
    omega
  | fin s c q => exact ⟨s, c, q, h2⟩
theorem own_natAbs (d : Datum) : (zval b64 d).natAbs = zmag b64 d := natAbs_signed _ _
theorem own_fin_of_z {W : UInt64} (hn : val64 a ≠ .nan) (hW : DFin W) (h : (zval b64 (val64 a)).natAbs ≤ (zval b64 (val64 W)).natAbs) : DFin a := by
  rw [own_natAbs, own_natAbs] at h; exact own_fin_of hn hW h
theorem ZV.add (ha : ZV a x) (hb : ZV b y) (hv : ZV V (x + y)) : ZV (FP.dadd a b) (x + y) := by
  have hn : val64 (FP.Core.dadd a b) ≠ .nan := (notNaN_iff _).mp (FP.Core.dadd_out ha.1.notNaN hb.1)
  have e : zval b64 (val64 (FP.Core.dadd a b)) = x + y := by
    have h1 := sum_le good_b64 ha.1 hb.1 (val64_fits a) (val64_fits b) (val64_fits V) hv.ne (by rw [ha.2, hb.2, hv.2]; exact Int.le_refl _)
    have h2 := sum_ge good_b64 ha.1 hb.1 (val64_fits a) (val64_fits b) (val64_fits V) hv.ne (by rw [ha.2, hb.2, hv.2]; exact Int.le_refl _)
    rw [← val64_dadd, hv.2] at h1 h2
    exact Int.le_antisymm h1 h2
  exact ⟨own_fin_of_z hn hv.1 (by rw [e, hv.2]; exact Nat.le_refl _), e⟩
theorem own_neg_fin {d : Datum} (h : ∃ s c q, d = .fin s c q) : ∃ s c q, negate d = .fin s c q := by
  obtain ⟨s, c, q, rfl⟩ := h; exact ⟨_, _, _, rfl⟩
theorem ZV.sub (ha : ZV a x) (hb : ZV b y) (hv : ZV V (x - y)) : ZV (FP.dsub a b) (x - y) := by
  have hn : val64 (FP.Core.dsub a b) ≠ .nan := (notNaN_iff _).mp (FP.Core.dsub_out ha.1.notNaN hb.1)
  have e : zval b64 (val64 (FP.Core.dsub a b)) = x - y := by
    have h1 := sum_le good_b64 ha.1 (own_neg_fin hb.1) (val64_fits a) (negate_fits (val64_fits b)) (val64_fits V) hv.ne (by rw [ha.2, zval_negate, hb.2, hv.2]; omega)
    have h2 := sum_ge good_b64 ha.1 (own_neg_fin hb.1) (val64_fits a) (negate_fits (val64_fits b)) (val64_fits V) hv.ne (by rw [ha.2, zval_negate, hb.2, hv.2]; omega)
    rw [← val64_dsub, hv.2] at h1 h2
    exact Int.le_antisymm h1 h2
  exact ⟨own_fin_of_z hn hv.1 (by rw [e, hv.2]; exact Nat.le_refl _), e⟩
/-- a sum or a difference lies between what bounds it -/
theorem ZV.add_le (ha : ZV a x) (hb : ZV b y) (hv : ZV V v) (h : x + y ≤ v) : zval b64 (val64 (FP.dadd a b)) ≤ v := by
  have h1 := sum_le good_b64 ha.1 hb.1 (val64_fits a) (val64_fits b) (val64_fits V) hv.ne (by rw [ha.2, hb.2, hv.2]; exact h)
  rw [← val64_dadd, hv.2] at h1; exact h1
theorem ZV.add_ge (ha : ZV a x) (hb : ZV b y) (hv : ZV V v) (h : v ≤ x + y) : v ≤ zval b64 (val64 (FP.dadd a b)) := by
  have h1 := sum_ge good_b64 ha.1 hb.1 (val64_fits a) (val64_fits b) (val64_fits V) hv.ne (by rw [ha.2, hb.2, hv.2]; exact h)
  rw [← val64_dadd, hv.2] at h1; exact h1
theorem ZV.sub_le (ha : ZV a x) (hb : ZV b y) (hv : ZV V v) (h : x - y ≤ v) : zval b64 (val64 (FP.dsub a b)) ≤ v := by
  have h1 := sum_le good_b64 ha.1 (own_neg_fin hb.1) (val64_fits a) (negate_fits (val64_fits b)) (val64_fits V) hv.ne (by rw [ha.2, zval_negate, hb.2, hv.2]; omega)
  rw [← val64_dsub, hv.2] at h1; exact h1
theorem ZV.sub_ge (ha : ZV a x) (hb : ZV b y) (hv : ZV V v) (h : v ≤ x - y) : v ≤ zval b64 (val64 (FP.dsub a b)) := by
  have h1 := sum_ge good_b64 ha.1 (own_neg_fin hb.1) (val64_fits a) (negate_fits (val64_fits b)) (val64_fits V) hv.ne (by rw [ha.2, zval_negate, hb.2, hv.2]; omega)
  rw [← val64_dsub, hv.2] at h1; exact h1
/-- the product's bounds -/
theorem own_mul_le (ha : ZV a x) (hb : ZV b y) (hv : ZV V v) (h : x * y ≤ v * (one64 : Int)) : zval b64 (val64 (FP.dmul a b)) ≤ v := by
  obtain ⟨⟨s, c, q, h1⟩, ex⟩ := ha
  obtain ⟨⟨t, d, r, h2⟩, ey⟩ := hb
  have f1 := val64_fits a; have f2 := val64_fits b
  rw [h1] at f1 ex; rw [h2] at f2 ey
  obtain ⟨p1, p2, p3⟩ := product_units f1 f2
  show zval b64 (val64 (FP.Core.dmul a b)) ≤ v
  rw [val64_dmul, h1, h2, p1, ← hv.2]
  refine zval_round_le good_b64 (val64_fits V) hv.ne (e0 := 2 * b64.qmin) (by decide) p2 ?_
  rw [p3, show (b64.qmin - 2 * b64.qmin).toNat = (-b64.qmin).toNat from by decide, pow_qmin64, hv.2, signed_xor]
  have : zval b64 (.fin s c q) * zval b64 (.fin t d r) ≤ v * (one64 : Int) := by rw [ex, ey]; exact h
  exact this
theorem own_mul_ge (ha : ZV a x) (hb : ZV b y) (hv : ZV V v) (h : v * (one64 : Int) ≤ x * y) : v ≤ zval b64 (val64 (FP.dmul a b)) := by
  obtain ⟨⟨s, c, q, h1⟩, ex⟩ := ha
  obtain ⟨⟨t, d, r, h2⟩, ey⟩ := hb
  have f1 := val64_fits a; have f2 := val64_fits b
  rw [h1] at f1 ex; rw [h2] at f2 ey
  obtain ⟨p1, p2, p3⟩ := product_units f1 f2
  show v ≤ zval b64 (val64 (FP.Core.dmul a b))
  rw [val64_dmul, h1, h2, p1, ← hv.2]
  refine zval_round_ge good_b64 (val64_fits V) hv.ne (e0 := 2 * b64.qmin) (by decide) p2 ?_
  rw [p3, show (b64.qmin - 2 * b64.qmin).toNat = (-b64.qmin).toNat from by decide, pow_qmin64, hv.2, signed_xor]
  have : v * (one64 : Int) ≤ zval b64 (.fin s c q) * zval b64 (.fin t d r) := by rw [ex, ey]; exact h
  exact this
theorem ZV.mul (ha : ZV a x) (hb : ZV b y) (hv : ZV V z) (h : x * y = z * (one64 : Int)) : ZV (FP.dmul a b) z := by
  have hn : val64 (FP.Core.dmul a b) ≠ .nan := (notNaN_iff _).mp (FP.Core.dmul_out ha.1 hb.1)
  have e : zval b64 (val64 (FP.Core.dmul a b)) = z := Int.le_antisymm (own_mul_le ha hb hv (Int.le_of_eq h)) (own_mul_ge ha hb hv (Int.le_of_eq h.symm))
  exact ⟨own_fin_of_z hn hv.1 (by rw [e, hv.2]; exact Nat.le_refl _), e⟩
/-- the quotient of finite doubles, the divisor not nought: its datum -/
theorem own_quot (ha : ZV a x) (hb : ZV b y) (hy : y ≠ 0) : ∃ s c q t d r, val64 a = .fin s c q ∧ val64 b = .fin t d r ∧ 0 < d ∧ val64 (FP.ddiv a b) = roundRatio b64 (s != t) c d (q - r) ∧ FP.Core.fits b64 (.fin s c q) ∧ FP.Core.fits b64 (.fin t d r) := by
  obtain ⟨⟨s, c, q, h1⟩, ex⟩ := ha
  obtain ⟨⟨t, d, r, h2⟩, ey⟩ := hb
  have f1 := val64_fits a; have f2 := val64_fits b
  rw [h1] at f1; rw [h2] at f2
  have hd : d ≠ 0 := fun q => by
    subst q
    rw [h2] at ey
    apply hy; rw [← ey]; show signed t (inUnits 0 r _) = 0
    unfold inUnits; rw [Nat.zero_mul, signed_zero]
  refine ⟨s, c, q, t, d, r, h1, h2, Nat.pos_of_ne_zero hd, ?_, f1, f2⟩
  show val64 (FP.Core.ddiv a b) = _
  rw [val64_ddiv, h1, h2]
  show (if d = 0 then _ else _) = _
  rw [if_neg hd]
theorem own_div_mag_le {c d : Nat} {q r : Int} {s t sg : Bool} (f1 : FP.Core.fits b64 (.fin s c q)) (f2 : FP.Core.fits b64 (.fin t d r)) (hd : 0 < d) {W : Datum} (fW : FP.Core.fits b64 W) (hW : W ≠ .nan)
    (h : inUnits c q b64.qmin * one64 ≤ zmag b64 W * inUnits d r b64.qmin) : zmag b64 (roundRatio b64 sg c d (q - r)) ≤ zmag b64 W := by
  have h1 := f1.2.1
  have h2 := f2.2.1
  have hq : b64.qmin < 0 := by decide
  refine zmag_roundRatio_le good_b64 hd fW hW (e0 := 2 * b64.qmin - r) (by omega) (by omega) ?_
  have e1 : (b64.qmin - (2 * b64.qmin - r)).toNat = (r - b64.qmin).toNat := by congr 1; omega
  rw [e1]
  have e2 : inUnits c (q - r) (2 * b64.qmin - r) = inUnits c q b64.qmin * one64 := by
    unfold inUnits
    rw [← pow_qmin64, Nat.mul_assoc, ← Nat.pow_add]
    congr 2; omega
  rw [e2]
  refine Nat.le_trans h (Nat.le_of_eq ?_)
  unfold inUnits
  rw [Nat.mul_comm d, Nat.mul_assoc]
theorem own_div_mag_ge {c d : Nat} {q r : Int} {s t sg : Bool} (f1 : FP.Core.fits b64 (.fin s c q)) (f2 : FP.Core.fits b64 (.fin t d r)) (hd : 0 < d) {W : Datum} (fW : FP.Core.fits b64 W)
    (h : zmag b64 W * inUnits d r b64.qmin ≤ inUnits c q b64.qmin * one64) : zmag b64 W ≤ zmag b64 (roundRatio b64 sg c d (q - r)) := by
  have h1 := f1.2.1
  have h2 := f2.2.1
  have hq : b64.qmin < 0 := by decide
  refine zmag_roundRatio_ge good_b64 hd fW (e0 := 2 * b64.qmin - r) (by omega) (by omega) ?_
  have e1 : (b64.qmin - (2 * b64.qmin - r)).toNat = (r - b64.qmin).toNat := by congr 1; omega
  rw [e1]
  have e2 : inUnits c (q - r) (2 * b64.qmin - r) = inUnits c q b64.qmin * one64 := by
    unfold inUnits
    rw [← pow_qmin64, Nat.mul_assoc, ← Nat.pow_add]
    congr 2; omega
  rw [e2]
  refine Nat.le_trans (Nat.le_of_eq ?_) h
  unfold inUnits
  rw [Nat.mul_comm d, Nat.mul_assoc]
/-- what is said of a quotient: r its units -/
def Quo (x y r : Int) : Prop := ∀ (V : UInt64) (v : Int), ZV V v → (x * (one64 : Int) ≤ v * y → r ≤ v) ∧ (v * y ≤ x * (one64 : Int) → v ≤ r)
theorem own_sgn_z (s : Bool) (m : Nat) : signed s m = if s then -(m : Int) else m := rfl
theorem ZV.neg_ex (h : ZV a x) : ∃ V, ZV V (-x) := by
  refine ⟨FP.Core.dneg a, ?_, ?_⟩
  · obtain ⟨⟨s, c, q, h1⟩, -⟩ := h; exact ⟨!s, c, q, by rw [val64_dneg, h1]; rfl⟩
  · rw [val64_dneg, zval_negate, h.2]
theorem own_mag {s : Bool} {c : Nat} {q : Int} : zval b64 (.fin s c q) = signed s (inUnits c q b64.qmin) := rfl
/-- the quotient by a positive double of at least one -/
theorem ZV.div (ha : ZV a x) (hb : ZV b y) (hy : (one64 : Int) ≤ y) : ∃ r, ZV (FP.ddiv a b) r ∧ Quo x y r := by
  have o1 := one64_pos
  obtain ⟨s, c, q, t, d, r, h1, h2, hd, h3, f1, f2⟩ := own_quot ha hb (by omega)
  have ey := hb.2; rw [h2, own_mag] at ey
  have ex := ha.2; rw [h1, own_mag] at ex
  have t0 : t = false := by
    cases t
    · rfl
    · simp only [own_sgn_z, if_true] at ey; omega
  subst t0
  have hy0 : (0 : Int) < y := by omega
  have ey' : ((inUnits d r b64.qmin : Nat) : Int) = y := ey
  generalize hu : inUnits d r b64.qmin = u at *
  generalize hc : inUnits c q b64.qmin = k at *
  have hsg : sgn (val64 (FP.ddiv a b)) = s := by rw [h3, sgn_roundRatio]; cases s <;> rfl
  have hne : val64 (FP.ddiv a b) ≠ .nan := by rw [h3]; exact roundRatio_ne_nan _ _ _ _ _
  have hz : zval b64 (val64 (FP.ddiv a b)) = signed s (zmag b64 (val64 (FP.ddiv a b))) := by rw [zval, hsg]
  have up : ∀ W : UInt64, val64 W ≠ .nan → k * one64 ≤ zmag b64 (val64 W) * u → zmag b64 (val64 (FP.ddiv a b)) ≤ zmag b64 (val64 W) := fun W hW h => by
    rw [h3]; exact own_div_mag_le f1 f2 hd (val64_fits W) hW (by rw [hu, hc]; exact h)
  have dn : ∀ W : UInt64, zmag b64 (val64 W) * u ≤ k * one64 → zmag b64 (val64 W) ≤ zmag b64 (val64 (FP.ddiv a b)) := fun W h => by
    rw [h3]; exact own_div_mag_ge f1 f2 hd (val64_fits W) (by rw [hu, hc]; exact h)
  have hk : k = zmag b64 (val64 a) := by rw [h1]; exact hc.symm
  have hfin : DFin (FP.ddiv a b) := own_fin_of hne ha.1 (up a ha.ne (by rw [← hk]; exact Nat.mul_le_mul_left _ (by omega)))
  refine ⟨_, ⟨hfin, rfl⟩, fun V v hv => ?_⟩
  rw [hz]
  generalize hm : zmag b64 (val64 (FP.ddiv a b)) = m at *
  have hV := own_natAbs (val64 V)
  rw [hv.2] at hV
  have upV := up V hv.ne
  have dnV := dn V
  rw [← hV] at upV dnV
  clear up dn
  have cast : ∀ p q : Nat, ((p * q : Nat) : Int) = (p : Int) * q := fun p q => by simp
  cases s
  · have ex' : (k : Int) = x := ex
    have em : signed false m = (m : Int) := rfl
    rw [em]
    constructor
    · intro h
      by_cases hv0 : 0 ≤ v
      · have e1 : (v.natAbs : Int) = v := Int.natAbs_of_nonneg hv0
        have : k * one64 ≤ v.natAbs * u := by apply Int.ofNat_le.mp; rw [cast, cast, ex', e1, ey']; exact h
        have := upV this; omega
      · exfalso
        have h5 : v * y < 0 := Int.mul_neg_of_neg_of_pos (by omega) hy0
        have h6 : 0 ≤ x * (one64 : Int) := Int.mul_nonneg (by omega) (by omega)
        omega
    · intro h
      by_cases hv0 : 0 ≤ v
      · have e1 : (v.natAbs : Int) = v := Int.natAbs_of_nonneg hv0
        have : v.natAbs * u ≤ k * one64 := by apply Int.ofNat_le.mp; rw [cast, cast, ex', e1, ey']; exact h
        have := dnV this; omega
      · omega
  · have ex' : -(k : Int) = x := ex
    have em : signed true m = -(m : Int) := rfl
    rw [em]
    have ek : (k : Int) = -x := by omega
    constructor
    · intro h
      by_cases hv0 : 0 ≤ v
      · omega
      · have e1 : (v.natAbs : Int) = -v := by omega
        have : v.natAbs * u ≤ k * one64 := by
          apply Int.ofNat_le.mp; rw [cast, cast, ek, e1, ey', Int.neg_mul, Int.neg_mul]; omega
        have := dnV this; omega
    · intro h
      by_cases hv0 : v ≤ 0
      · have e1 : (v.natAbs : Int) = -v := by omega
        have : k * one64 ≤ v.natAbs * u := by
          apply Int.ofNat_le.mp; rw [cast, cast, ek, e1, ey', Int.neg_mul, Int.neg_mul]; omega
        have := upV this; omega
      · exfalso
        have h5 : 0 < v * y := Int.mul_pos (by omega) hy0
        have h6 : x * (one64 : Int) ≤ 0 := by
          have : 0 ≤ (k : Int) * (one64 : Int) := Int.mul_nonneg (by omega) (by omega)
          rw [ek, Int.neg_mul] at this; omega
        omega
theorem ZV.div_exact (ha : ZV a x) (hb : ZV b y) (hy : (one64 : Int) ≤ y) (hv : ZV V z) (h : x * (one64 : Int) = z * y) : ZV (FP.ddiv a b) z := by
  obtain ⟨r, h1, h2⟩ := ha.div hb hy
  have h3 := h2 V z hv
  have : r = z := Int.le_antisymm (h3.1 (Int.le_of_eq h)) (h3.2 (Int.le_of_eq h.symm))
  exact this ▸ h1
/-- i * 2^k units are a double -/
theorem own_rep (i : Int) (k : Nat) (hi : i.natAbs < 2 ^ 53) (hk : k ≤ 2045) : ∃ V, ZV V (i * ((2 ^ k : Nat) : Int)) := by
  obtain ⟨c', q', h1, h2⟩ := round_exact good_b64 (decide (i < 0)) (c := i.natAbs) (q := (k : Int) + b64.qmin) hi (by omega) (by rw [show b64.qmax = 971 from by decide, qmin_b64]; omega)
  have hf : FP.Core.fits b64 (.fin (decide (i < 0)) c' q') := by rw [← h1]; exact round_fits good_b64 _
  refine ⟨of64 (.fin (decide (i < 0)) c' q'), ⟨_, _, _, val64_of64 hf⟩, ?_⟩
  rw [val64_of64 hf, own_mag, h2]
  unfold inUnits
  rw [show ((k : Int) + b64.qmin - b64.qmin).toNat = k from by omega, signed_mul, own_sgn_z]
  congr 1
  by_cases h : i < 0
  · simp only [h, decide_true, if_true]; omega
  · simp only [h, decide_false]; simp only [Bool.false_eq_true, if_false]; omega
theorem own_one64 : (one64 : Int) = ((2 ^ 1074 : Nat) : Int) := rfl
theorem ZV.of_int {i : Int} (h : DInt i a) : ZV a (i * (one64 : Int)) := by
  refine ⟨?_, DInt_zval h⟩
  unfold DInt at h
  cases h2 : val64 a with
  | nan => rw [h2] at h; exact h.elim
  | inf s => rw [h2] at h; exact h.elim
  | fin s c q => exact ⟨s, c, q, h2⟩
theorem own_i2d (n : Int32) : ZV (FP.i2d n) (n.toInt * (one64 : Int)) := ZV.of_int (i2d_int n)
theorem own_l2d {n : Int64} (h : n.toInt.natAbs ≤ 2 ^ 53) : ZV (FP.l2d n) (n.toInt * (one64 : Int)) := ZV.of_int (l2d_int h)
theorem own_ddiv_nn (ha : DFin a) (hb : DFin b) : FP.ddiv (FP.Core.dneg a) (FP.Core.dneg b) = FP.ddiv a b ∨ val64 (FP.ddiv a b) = .nan := by
  by_cases hn : val64 (FP.ddiv a b) = .nan
  · exact Or.inr hn
  · refine Or.inl (val64_inj hn ?_).symm
    obtain ⟨s, c, q, h1⟩ := ha
    obtain ⟨t, d, r, h2⟩ := hb
    show val64 (FP.Core.ddiv a b) = val64 (FP.Core.ddiv _ _)
    rw [val64_ddiv, val64_ddiv, val64_dneg, val64_dneg, h1, h2]
    show quotient b64 (.fin s c q) (.fin t d r) = quotient b64 (.fin (!s) c q) (.fin (!t) d r)
    simp only [quotient]
    have : ((!s) != (!t)) = (s != t) := by cases s <;> cases t <;> rfl
    rw [this]
theorem ZV.dneg (h : ZV a x) : ZV (FP.Core.dneg a) (-x) := by
  refine ⟨?_, by rw [val64_dneg, zval_negate, h.2]⟩
  obtain ⟨⟨s, c, q, h1⟩, -⟩ := h; exact ⟨!s, c, q, by rw [val64_dneg, h1]; rfl⟩
/-- the quotient by a negative double of at most minus one -/
theorem ZV.div_neg (ha : ZV a x) (hb : ZV b y) (hy : y ≤ -(one64 : Int)) : ∃ r, ZV (FP.ddiv a b) r ∧ Quo (-x) (-y) r := by
  obtain ⟨r, h1, h2⟩ := ha.dneg.div hb.dneg (by omega)
  have o1 := one64_pos
  obtain ⟨s, c, q, t, d, r', -, -, -, h3, -⟩ := own_quot ha hb (by omega)
  rcases own_ddiv_nn ha.1 hb.1 with h | h
  · exact ⟨r, h ▸ h1, h2⟩
  · rw [h3] at h; exact absurd h (roundRatio_ne_nan _ _ _ _ _)
/-- n / D against i / 2^j -/
theorem own_quo_int {n D r : Int} (h : Quo (n * (one64 : Int)) (D * (one64 : Int)) r) (i : Int) (j : Nat) (hj : j ≤ 1074) (hi : i.natAbs < 2 ^ 53) :
    (n * ((2 ^ j : Nat) : Int) ≤ i * D → r ≤ i * ((2 ^ (1074 - j) : Nat) : Int)) ∧ (i * D ≤ n * ((2 ^ j : Nat) : Int) → i * ((2 ^ (1074 - j) : Nat) : Int) ≤ r) := by
  obtain ⟨V, hV⟩ := own_rep i (1074 - j) hi (by omega)
  have q := h V _ hV
  have e : (one64 : Int) = ((2 ^ j : Nat) : Int) * ((2 ^ (1074 - j) : Nat) : Int) := by
    rw [own_one64, ← Int.natCast_mul, ← Nat.pow_add]; congr 2; omega
  have hu : (0 : Int) ≤ ((2 ^ (1074 - j) : Nat) : Int) * (one64 : Int) := Int.mul_nonneg (Int.natCast_nonneg _) (Int.natCast_nonneg _)
  have e1 : n * (one64 : Int) * (one64 : Int) = n * ((2 ^ j : Nat) : Int) * (((2 ^ (1074 - j) : Nat) : Int) * (one64 : Int)) := by
    conv => lhs; arg 1; rw [e]
    rw [← Int.mul_assoc n, Int.mul_assoc (n * _)]
  have e2 : i * ((2 ^ (1074 - j) : Nat) : Int) * (D * (one64 : Int)) = i * D * (((2 ^ (1074 - j) : Nat) : Int) * (one64 : Int)) := by rw [Int.mul_assoc i, Int.mul_left_comm _ D, ← Int.mul_assoc i D]
  rw [e1, e2] at q
  exact ⟨fun z => q.1 (Int.mul_le_mul_of_nonneg_right z hu), fun z => q.2 (Int.mul_le_mul_of_nonneg_right z hu)⟩
theorem own_zero : ZV (0 : UInt64) 0 := ⟨⟨_, _, _, val64_zero⟩, zval64_zero⟩
theorem own_one : ZV (4607182418800017408 : UInt64) (one64 : Int) := by
  have := ZV.of_int dint_one; rwa [Int.one_mul] at this
theorem own_cmp_gt {x y : Int} : some (compare x y) = some Ordering.gt ↔ y < x := by rw [Option.some.injEq]; exact compare_gt_iff x y
theorem own_cmp_lt {x y : Int} : some (compare x y) = some Ordering.lt ↔ x < y := by rw [Option.some.injEq]; exact compare_lt_iff x y
theorem own_cmp_eq {x y : Int} : some (compare x y) = some Ordering.eq ↔ x = y := by rw [Option.some.injEq]; exact compare_eq_iff x y
theorem own_dnn {i : Int} {a : UInt64} (h : DInt i a) : Jvm.Free.Fl.NoNaN64 a := (ZV.of_int h).nn
theorem own_nnd' {a : UInt64} (ha : DFin a) (n : Int32) (hn : n ≠ 0) : Jvm.Free.Fl.NoNaN64 (FP.ddiv a (FP.i2d n)) :=
  Jvm.Free.Fl.noNaN64_no.mpr (FP.Core.ddiv_out ha.notNaN (i2d_fin n) (fun q => i2d_ne_zero hn (by rwa [zero_bits2] at q)))
theorem own_nnd (s : Int64) (n : Int32) (hn : n ≠ 0) : Jvm.Free.Fl.NoNaN64 (FP.ddiv (FP.l2d s) (FP.i2d n)) := own_nnd' (l2d_fin s) n hn
theorem own_dz : DInt 0 (0 : UInt64) := by
  have : (0 : UInt64) = FP.l2d 0 := FP.Core.l2d_zero.symm
  rw [this]; exact l2d_int (a := 0) (by decide)
theorem own_div_eq {S S' : UInt64} {s : Int} (h : DInt s S) (h' : DInt s S') (n : Int32) (hn : 1 ≤ n.toInt) : FP.dcmp (FP.ddiv S (FP.i2d n)) (FP.ddiv S' (FP.i2d n)) = some .eq := by
  have hy : (one64 : Int) ≤ n.toInt * (one64 : Int) := by
    have := Int.mul_le_mul_of_nonneg_right hn (show (0 : Int) ≤ (one64 : Int) by omega)
    rwa [Int.one_mul] at this
  by_cases hs : s = 0
  · subst hs
    have z1 := ZV.of_int h
    have z2 := ZV.of_int h'
    rw [Int.zero_mul] at z1 z2
    have q1 := z1.div_exact (own_i2d n) hy own_zero (by rw [Int.zero_mul, Int.zero_mul])
    have q2 := z2.div_exact (own_i2d n) hy own_zero (by rw [Int.zero_mul, Int.zero_mul])
    rw [q1.cmp q2, own_cmp_eq]
  · have e := dint_unique hs h h'
    subst e
    have hz : n ≠ 0 := fun q => by subst q; revert hn; decide
    exact dcmp_refl (Jvm.Free.Fl.noNaN64_no.mp (own_nnd' (ZV.of_int h).1 n hz))
theorem own_ib (x : Int32) : x.toInt.natAbs ≤ 2147483648 := by have := x.le_toInt; have := x.toInt_lt; omega
end OwnFp
def stepV (n op : Int32) : Int32 := if (op &&& (1 : Int32)) = (0 : Int32) then (if n = (0 : Int32) then n + (1 : Int32) else n - (1 : Int32)) else n + (1 : Int32)
theorem own_idx (x : Int32) : ¬ (x &&& ((16 : Int32) - (1 : Int32))) < 0 ∧ (x &&& ((16 : Int32) - (1 : Int32))) < (16 : Int32) := by
  have e0 : ((16 : Int32) - (1 : Int32)) = 15 := by decide
  have e1 : (x &&& 15).toInt = x.toInt % 2 ^ 4 := Jvm.Kit.i32_mask x 15 (k := 4) (by decide) (by decide)
  have z : (0 : Int32).toInt = 0 := by decide
  have z2 : (16 : Int32).toInt = 16 := by decide
  rw [e0, Int32.lt_iff_toInt_lt, Int32.lt_iff_toInt_lt, e1, z, z2]; omega
theorem own_pl {vs : List Value} (h : vs.length = 16) (x : Int32) : (x &&& ((16 : Int32) - (1 : Int32))).toNatClampNeg < vs.length := by
  have := own_idx x
  have z2 : (16 : Int32).toInt = 16 := by decide
  rw [Int32.lt_iff_toInt_lt, Int32.lt_iff_toInt_lt, z2] at this
  rw [h]; simp only [Int32.toNatClampNeg]; omega
theorem own_ne16 {n : Int32} (h : 0 ≤ n.toInt ∧ n.toInt ≤ 10) : ¬ (n = (16 : Int32)) := fun q => by
  subst q; revert h; decide
theorem own_step_b {n op m : Int32} {B : Int} (h : stepV n op = m) (hb : 0 ≤ n.toInt ∧ n.toInt ≤ B) (hB : B ≤ 100 := by decide) : 0 ≤ m.toInt ∧ m.toInt ≤ B + 1 := by
  have l1 : (1 : Int32).toInt = 1 := by decide
  have a := Jvm.Kit.i32_add (p := n) (q := 1) (by rw [l1]; omega) (by rw [l1]; omega)
  have s := Jvm.Kit.i32_sub (p := n) (q := 1) (by rw [l1]; omega) (by rw [l1]; omega)
  rw [l1] at a s
  unfold stepV at h
  rw [← h]
  split
  · split
    · rw [a]; omega
    · rename_i q
      have : n.toInt ≠ 0 := fun z => q (Int32.toInt_inj.mp (by rw [z]; decide))
      rw [s]; omega
  · rw [a]; omega
theorem own_b10 {n : Int32} {B : Int} (hb : 0 ≤ n.toInt ∧ n.toInt ≤ B) (hB : B ≤ 10) : 0 ≤ n.toInt ∧ n.toInt ≤ 10 := by omega
theorem own_nn {n : Int32} {B : Int} (hb : 0 ≤ n.toInt ∧ n.toInt ≤ B) : ¬ (n < (0 : Int32)) := by
  rw [Int32.lt_iff_toInt_lt, show (0 : Int32).toInt = 0 from by decide]; omega

theorem d1_0 : decode prog_9_method_1_code 0 = .ok (.aload_n 0, 1) := by decide +kernel
theorem d1_1 : decode prog_9_method_1_code 1 = .ok (.invokespecial 1, 3) := by decide +kernel
theorem d1_4 : decode prog_9_method_1_code 4 = .ok (.aload_n 0, 1) := by decide +kernel
theorem d1_5 : decode prog_9_method_1_code 5 = .ok (.bipush 16, 2) := by decide +kernel
theorem d1_7 : decode prog_9_method_1_code 7 = .ok (.newarray .double, 2) := by decide +kernel
theorem d1_9 : decode prog_9_method_1_code 9 = .ok (.putfield 7, 3) := by decide +kernel
theorem d1_12 : decode prog_9_method_1_code 12 = .ok (.aload_n 0, 1) := by decide +kernel
theorem d1_13 : decode prog_9_method_1_code 13 = .ok (.bipush 16, 2) := by decide +kernel
theorem d1_15 : decode prog_9_method_1_code 15 = .ok (.newarray .int, 2) := by decide +kernel
theorem d1_17 : decode prog_9_method_1_code 17 = .ok (.putfield 13, 3) := by decide +kernel
theorem d1_20 : decode prog_9_method_1_code 20 = .ok (.return_, 1) := by decide +kernel
theorem pn_0 : plainName "com/example/parley/parley/service/RequestQueue" = true := by first | (simp [plainName, overriddenIn]; done) | decide +kernel
theorem ef_rm1 (m : MethodId) (a0 : Addr) : entryFrame m #[(.ref a0)] 1 = mkF m 0 #[.val (.ref a0)] [] := by first | (simp [entryFrame, mkF, argsToLocals, Value.category]; done) | rfl
def Q_rm1 (Z : State) (a0 : Addr) (u0 : Value) (u1 : Value) (h0 : Heap) (n0 : Nat) (v : Option Value) (h : Heap) (L : List Loc) : Prop := v = none ∧ Fr n0 L ∧ ∃ (ar pr : Addr) (k_ar k_pr : ClassId), Keep h0 h [a0] ∧ h0.size ≤ ar ∧ h0.size ≤ pr ∧ ar ≠ pr ∧ Exa Z h a0 "com/example/parley/parley/service/RequestQueue" ∧ Fld Z h a0 "com/example/parley/parley/service/RequestQueue" "arrivals" "[D" (.ref ar) ∧ Fld Z h a0 "com/example/parley/parley/service/RequestQueue" "providers" "[I" (.ref pr) ∧ Fld Z h a0 "com/example/parley/parley/service/RequestQueue" "head" "I" (.int (0 : Int32)) ∧ Fld Z h a0 "com/example/parley/parley/service/RequestQueue" "size" "I" (.int (0 : Int32)) ∧ Arv Z h ar k_ar .double (16 : Int32) [(.double (0 : UInt64)), (.double (0 : UInt64)), (.double (0 : UInt64)), (.double (0 : UInt64)), (.double (0 : UInt64)), (.double (0 : UInt64)), (.double (0 : UInt64)), (.double (0 : UInt64)), (.double (0 : UInt64)), (.double (0 : UInt64)), (.double (0 : UInt64)), (.double (0 : UInt64)), (.double (0 : UInt64)), (.double (0 : UInt64)), (.double (0 : UInt64)), (.double (0 : UInt64))] (.double (0 : UInt64)) ∧ Arv Z h pr k_pr .int (16 : Int32) [(.int (0 : Int32)), (.int (0 : Int32)), (.int (0 : Int32)), (.int (0 : Int32)), (.int (0 : Int32)), (.int (0 : Int32)), (.int (0 : Int32)), (.int (0 : Int32)), (.int (0 : Int32)), (.int (0 : Int32)), (.int (0 : Int32)), (.int (0 : Int32)), (.int (0 : Int32)), (.int (0 : Int32)), (.int (0 : Int32)), (.int (0 : Int32))] (.int (0 : Int32))
set_option maxRecDepth 65536 in
set_option maxHeartbeats 40000000 in
theorem rm1 (l : Launch) (Z : State) (aw : Array Value) (hw : ∀ d ∈ tables_1, d.before aw Z = true) (ws : List Jvm.Cond) (a0 : Addr) (u0 : Value) (u1 : Value) (h0 : Heap) (n0 : Nat) (Z0 : n0 ≤ h0.size) (E_a0 : Exa Z h0 a0 "com/example/parley/parley/service/RequestQueue") (F_arrivals_a0 : Fld Z h0 a0 "com/example/parley/parley/service/RequestQueue" "arrivals" "[D" u0) (F_providers_a0 : Fld Z h0 a0 "com/example/parley/parley/service/RequestQueue" "providers" "[I" u1) (F_head_a0 : Fld Z h0 a0 "com/example/parley/parley/service/RequestQueue" "head" "I" (.int (0 : Int32))) (F_size_a0 : Fld Z h0 a0 "com/example/parley/parley/service/RequestQueue" "size" "I" (.int (0 : Int32))) (g_a0 : n0 ≤ a0) :
    MetFree l (⟨"com/example/parley/parley/service/RequestQueue", "<init>", "()V"⟩ : MethodName) (head1 (Jvm.Cond.code (⟨"com/example/parley/parley/service/RequestQueue", "<init>", "()V"⟩ : MethodName) prog_9_method_1_code 1 none :: ws) ({ frames := 1, cells := 2, slots := 32, locals := 12 } : Room)) (fun a U => a = #[(.ref a0)] ∧ Z.Warmed39 U.vm ∧ U.heap = h0) (fun _ _ _ _ _ => True) (fun _ U o U' => ∃ v L, o = .returned v ∧ Q_rm1 Z a0 u0 u1 h0 n0 v U'.heap L ∧ FrameEnd U o U' L ({ frames := 1, cells := 2, slots := 32, locals := 12 } : Room).cells ({ frames := 1, cells := 2, slots := 32, locals := 12 } : Room).slots) := by
  refine MetFree.of_bodySF (plainFor_of_name pn_0) hisR ?_
  intro p e s m args below meth c s₁ Bd hml0 hP hK
  obtain ⟨rfl, hZ, hh⟩ := hP
  have hx := Bd.exec
  have hby := Bd.bytes
  have hml : c.maxLocals = 1 := hml0
  have hown : s.vm.findClass "com/example/parley/parley/service/RequestQueue" = some m.cls := findClass_of_methodNamed Bd.named
  have hnm := (name_of_methodNamed Bd.named Bd.method).1
  have hlk : meth.locks = false := BodyLoose.notSynchronized Bd
  have X0 : Stand p l e ({ frames := 1, cells := 2, slots := 32, locals := 12 } : Room) s m #[(.ref a0)] below meth c s₁ [] 0 0 := Stand.of_body Bd
  have e0 : s₁.heap = h0 := by rw [← hh, Bd.state]; rfl
  have N0 := Fr.nil n0
  have ZZ := Z0
  show Go p e below s ({ frames := 1, cells := 2, slots := 32, locals := 12 } : Room).cells ({ frames := 1, cells := 2, slots := 32, locals := 12 } : Room).slots (fun v h L => Q_rm1 Z a0 u0 u1 h0 n0 v h L) s₁ (entryFrame m #[(.ref a0)] 1)
  refine Go.cast (ef_rm1 m a0) ?_
  refine Go.gen ?_
  intro K1 K2 QQ hK1 hK2 hQQ
  have KP : Keep h0 h0 [a0] := Keep.refl _ _
  refine Go.on (fun _ k => XS.aloadN X0.here hx rfl (hb hby d1_0) rfl rfl k) ?_
  show Go _ _ _ _ _ _ _ _ (mkF m 1 #[.val (.ref a0)] [(.ref a0)])
  obtain ⟨T1, X1, e1, st1⟩ := initO X0 hx hZ hown (hw _ (List.mem_of_getElem? (i := 6) rfl)) (hw _ (List.mem_of_getElem? (i := 7) rfl)) (hw _ (List.mem_of_getElem? (i := 8) rfl)) e0 (g := (mkF m 1 #[.val (.ref a0)] [(.ref a0)])) rfl (by rw [hml]; rfl) rfl (hb hby d1_1) (by decide) (W := 0) (by show 2 * 0 + _ ≤ _; exact Nat.le_of_eq rfl) (by decide)
  refine Go.on st1 ?_
  show Go _ _ _ _ _ _ _ _ (mkF m 4 #[.val (.ref a0)] [])
  refine Go.on (fun _ k => XS.aloadN X1.here hx rfl (hb hby d1_4) rfl rfl k) ?_
  show Go _ _ _ _ _ _ _ _ (mkF m 5 #[.val (.ref a0)] [(.ref a0)])
  refine Go.on (fun _ k => XS.bipush X1.here hx rfl (hb hby d1_5) k) ?_
  show Go _ _ _ _ _ _ _ _ (mkF m 7 #[.val (.ref a0)] [(.int (16 : Int32)), (.ref a0)])
  obtain ⟨T2, h2, k_ar, X2, e2, E2, A2, st2⟩ := newP X1 hx hZ (hw _ (List.mem_of_getElem? (i := 9) rfl)) e1 (g := (mkF m 7 #[.val (.ref a0)] [(.int (16 : Int32)), (.ref a0)])) rfl (hb hby d1_7) rfl (by decide) (cap := 16) (by decide) (by decide) (by decide) (by decide)
  obtain ⟨ar, g2⟩ : ∃ z, z = h0.size := ⟨_, rfl⟩
  have ne_a0_ar : a0 ≠ ar := Nat.ne_of_lt (Nat.lt_of_lt_of_le E_a0.lt (Nat.le_of_eq g2.symm))
  have g_ar : n0 ≤ ar := Nat.le_trans ZZ (Nat.le_of_eq g2.symm)
  have sz_ar : h0.size ≤ ar := Nat.le_trans KP.1 (Nat.le_of_eq g2.symm)
  rw [← g2] at A2 st2
  replace E_a0 := E_a0.ext E2
  replace F_arrivals_a0 := F_arrivals_a0.ext E2
  replace F_providers_a0 := F_providers_a0.ext E2
  replace F_head_a0 := F_head_a0.ext E2
  replace F_size_a0 := F_size_a0.ext E2
  replace ZZ := Nat.le_trans ZZ E2.1
  replace KP := KP.ext E2
  have V_ar : Arv Z h2 ar k_ar .double (16 : Int32) [(.double (0 : UInt64)), (.double (0 : UInt64)), (.double (0 : UInt64)), (.double (0 : UInt64)), (.double (0 : UInt64)), (.double (0 : UInt64)), (.double (0 : UInt64)), (.double (0 : UInt64)), (.double (0 : UInt64)), (.double (0 : UInt64)), (.double (0 : UInt64)), (.double (0 : UInt64)), (.double (0 : UInt64)), (.double (0 : UInt64)), (.double (0 : UInt64)), (.double (0 : UInt64))] (.double (0 : UInt64)) := (Arv.new A2 (by decide)).pad (pad_rep [] (.double (0 : UInt64)) 16)
  refine Go.on st2 ?_
  show Go _ _ _ _ _ _ _ _ (mkF m 9 #[.val (.ref a0)] [(.ref ar), (.ref a0)])
  obtain ⟨T3, h3, X3, e3, W3, st3⟩ := putF X2 hx hZ hown (host := "") (Or.inl (hw _ (List.mem_of_getElem? (i := 10) rfl))) Via.refl e2 F_arrivals_a0 E_a0 (Or.inl (hw _ (List.mem_of_getElem? (i := 11) rfl))) (hw _ (List.mem_of_getElem? (i := 1) rfl)) (ty := (.array .double)) (by decide) rfl rfl (g := (mkF m 9 #[.val (.ref a0)] [(.ref ar), (.ref a0)])) rfl rfl (hb hby d1_9)
  refine Go.on st3 ?_
  replace F_arrivals_a0 := F_arrivals_a0.same W3
  replace E_a0 := E_a0.wr W3
  replace F_providers_a0 := F_providers_a0.other W3 (Or.inr (slot_ne (Or.inl (hw _ (List.mem_of_getElem? (i := 14) rfl))) (Or.inl (hw _ (List.mem_of_getElem? (i := 11) rfl))) (by decide) (t := (.array .int)) (t' := (.array .double)) (by decide) (by decide)))
  replace F_head_a0 := F_head_a0.other W3 (Or.inr (slot_ne (Or.inl (hw _ (List.mem_of_getElem? (i := 32) rfl))) (Or.inl (hw _ (List.mem_of_getElem? (i := 11) rfl))) (by decide) (t := .int) (t' := (.array .double)) (by decide) (by decide)))
  replace F_size_a0 := F_size_a0.other W3 (Or.inr (slot_ne (Or.inl (hw _ (List.mem_of_getElem? (i := 21) rfl))) (Or.inl (hw _ (List.mem_of_getElem? (i := 11) rfl))) (by decide) (t := .int) (t' := (.array .double)) (by decide) (by decide)))
  replace V_ar := V_ar.other W3 (Ne.symm ne_a0_ar)
  have N3 := Fr.snoc X3 N0 g_a0
  replace ZZ := Nat.le_trans ZZ (Keep.of_wr W3).1
  replace KP := KP.wr W3 (Or.inl (List.mem_of_getElem? (i := 0) rfl))
  show Go _ _ _ _ _ _ _ _ (mkF m 12 #[.val (.ref a0)] [])
  refine Go.on (fun _ k => XS.aloadN X3.here hx rfl (hb hby d1_12) rfl rfl k) ?_
  show Go _ _ _ _ _ _ _ _ (mkF m 13 #[.val (.ref a0)] [(.ref a0)])
  refine Go.on (fun _ k => XS.bipush X3.here hx rfl (hb hby d1_13) k) ?_
  show Go _ _ _ _ _ _ _ _ (mkF m 15 #[.val (.ref a0)] [(.int (16 : Int32)), (.ref a0)])
  obtain ⟨T4, h4, k_pr, X4, e4, E4, A4, st4⟩ := newP X3 hx hZ (hw _ (List.mem_of_getElem? (i := 12) rfl)) e3 (g := (mkF m 15 #[.val (.ref a0)] [(.int (16 : Int32)), (.ref a0)])) rfl (hb hby d1_15) rfl (by decide) (cap := 16) (by decide) (by decide) (by decide) (by decide)
  obtain ⟨pr, g4⟩ : ∃ z, z = h3.size := ⟨_, rfl⟩
  have ne_a0_pr : a0 ≠ pr := Nat.ne_of_lt (Nat.lt_of_lt_of_le E_a0.lt (Nat.le_of_eq g4.symm))
  have ne_ar_pr : ar ≠ pr := Nat.ne_of_lt (Nat.lt_of_lt_of_le V_ar.lt (Nat.le_of_eq g4.symm))
  have g_pr : n0 ≤ pr := Nat.le_trans ZZ (Nat.le_of_eq g4.symm)
  have sz_pr : h0.size ≤ pr := Nat.le_trans KP.1 (Nat.le_of_eq g4.symm)
  rw [← g4] at A4 st4
  replace E_a0 := E_a0.ext E4
  replace F_arrivals_a0 := F_arrivals_a0.ext E4
  replace F_providers_a0 := F_providers_a0.ext E4
  replace F_head_a0 := F_head_a0.ext E4
  replace F_size_a0 := F_size_a0.ext E4
  replace V_ar := V_ar.ext E4
  replace ZZ := Nat.le_trans ZZ E4.1
  replace KP := KP.ext E4
  have V_pr : Arv Z h4 pr k_pr .int (16 : Int32) [(.int (0 : Int32)), (.int (0 : Int32)), (.int (0 : Int32)), (.int (0 : Int32)), (.int (0 : Int32)), (.int (0 : Int32)), (.int (0 : Int32)), (.int (0 : Int32)), (.int (0 : Int32)), (.int (0 : Int32)), (.int (0 : Int32)), (.int (0 : Int32)), (.int (0 : Int32)), (.int (0 : Int32)), (.int (0 : Int32)), (.int (0 : Int32))] (.int (0 : Int32)) := (Arv.new A4 (by decide)).pad (pad_rep [] (.int (0 : Int32)) 16)
  refine Go.on st4 ?_
  show Go _ _ _ _ _ _ _ _ (mkF m 17 #[.val (.ref a0)] [(.ref pr), (.ref a0)])
  obtain ⟨T5, h5, X5, e5, W5, st5⟩ := putF X4 hx hZ hown (host := "") (Or.inl (hw _ (List.mem_of_getElem? (i := 13) rfl))) Via.refl e4 F_providers_a0 E_a0 (Or.inl (hw _ (List.mem_of_getElem? (i := 14) rfl))) (hw _ (List.mem_of_getElem? (i := 1) rfl)) (ty := (.array .int)) (by decide) rfl rfl (g := (mkF m 17 #[.val (.ref a0)] [(.ref pr), (.ref a0)])) rfl rfl (hb hby d1_17)
  refine Go.on st5 ?_
  replace F_providers_a0 := F_providers_a0.same W5
  replace E_a0 := E_a0.wr W5
  replace F_arrivals_a0 := F_arrivals_a0.other W5 (Or.inr (slot_ne (Or.inl (hw _ (List.mem_of_getElem? (i := 11) rfl))) (Or.inl (hw _ (List.mem_of_getElem? (i := 14) rfl))) (by decide) (t := (.array .double)) (t' := (.array .int)) (by decide) (by decide)))
  replace F_head_a0 := F_head_a0.other W5 (Or.inr (slot_ne (Or.inl (hw _ (List.mem_of_getElem? (i := 32) rfl))) (Or.inl (hw _ (List.mem_of_getElem? (i := 14) rfl))) (by decide) (t := .int) (t' := (.array .int)) (by decide) (by decide)))
  replace F_size_a0 := F_size_a0.other W5 (Or.inr (slot_ne (Or.inl (hw _ (List.mem_of_getElem? (i := 21) rfl))) (Or.inl (hw _ (List.mem_of_getElem? (i := 14) rfl))) (by decide) (t := .int) (t' := (.array .int)) (by decide) (by decide)))
  replace V_ar := V_ar.other W5 (Ne.symm ne_a0_ar)
  replace V_pr := V_pr.other W5 (Ne.symm ne_a0_pr)
  have N5 := Fr.snoc X5 N3 g_a0
  replace ZZ := Nat.le_trans ZZ (Keep.of_wr W5).1
  replace KP := KP.wr W5 (Or.inl (List.mem_of_getElem? (i := 0) rfl))
  show Go _ _ _ _ _ _ _ _ (mkF m 20 #[.val (.ref a0)] [])
  refine Go.ret0 X5 hx Bd.returns (hb hby d1_20) ?_ (by rw [hK1]; decide) (by rw [hK2]; decide)
  rw [e5, ← hQQ]
  exact ⟨rfl, N5, ar, pr, k_ar, k_pr, KP, sz_ar, sz_pr, ne_ar_pr, E_a0, F_arrivals_a0, F_providers_a0, F_head_a0, F_size_a0, V_ar, V_pr⟩
theorem d5_0 : decode prog_9_method_3_code 0 = .ok (.aload_n 0, 1) := by decide +kernel
theorem d5_1 : decode prog_9_method_3_code 1 = .ok (.getfield 17, 3) := by decide +kernel
theorem d5_4 : decode prog_9_method_3_code 4 = .ok (.aload_n 0, 1) := by decide +kernel
theorem d5_5 : decode prog_9_method_3_code 5 = .ok (.getfield 7, 3) := by decide +kernel
theorem d5_8 : decode prog_9_method_3_code 8 = .ok (.arraylength, 1) := by decide +kernel
theorem d5_9 : decode prog_9_method_3_code 9 = .ok (.if_icmp .ne 7, 3) := by decide +kernel
theorem d5_16 : decode prog_9_method_3_code 16 = .ok (.aload_n 0, 1) := by decide +kernel
theorem d5_17 : decode prog_9_method_3_code 17 = .ok (.getfield 24, 3) := by decide +kernel
theorem d5_20 : decode prog_9_method_3_code 20 = .ok (.aload_n 0, 1) := by decide +kernel
theorem d5_21 : decode prog_9_method_3_code 21 = .ok (.getfield 17, 3) := by decide +kernel
theorem d5_24 : decode prog_9_method_3_code 24 = .ok (.iadd, 1) := by decide +kernel
theorem d5_25 : decode prog_9_method_3_code 25 = .ok (.aload_n 0, 1) := by decide +kernel
theorem d5_26 : decode prog_9_method_3_code 26 = .ok (.getfield 7, 3) := by decide +kernel
theorem d5_29 : decode prog_9_method_3_code 29 = .ok (.arraylength, 1) := by decide +kernel
theorem d5_30 : decode prog_9_method_3_code 30 = .ok (.iconst 1, 1) := by decide +kernel
theorem d5_31 : decode prog_9_method_3_code 31 = .ok (.isub, 1) := by decide +kernel
theorem d5_32 : decode prog_9_method_3_code 32 = .ok (.iand, 1) := by decide +kernel
theorem d5_33 : decode prog_9_method_3_code 33 = .ok (.istore 4, 2) := by decide +kernel
theorem d5_35 : decode prog_9_method_3_code 35 = .ok (.aload_n 0, 1) := by decide +kernel
theorem d5_36 : decode prog_9_method_3_code 36 = .ok (.getfield 7, 3) := by decide +kernel
theorem d5_39 : decode prog_9_method_3_code 39 = .ok (.iload 4, 2) := by decide +kernel
theorem d5_41 : decode prog_9_method_3_code 41 = .ok (.dload_n 1, 1) := by decide +kernel
theorem d5_42 : decode prog_9_method_3_code 42 = .ok (.dastore, 1) := by decide +kernel
theorem d5_43 : decode prog_9_method_3_code 43 = .ok (.aload_n 0, 1) := by decide +kernel
theorem d5_44 : decode prog_9_method_3_code 44 = .ok (.getfield 13, 3) := by decide +kernel
theorem d5_47 : decode prog_9_method_3_code 47 = .ok (.iload 4, 2) := by decide +kernel
theorem d5_49 : decode prog_9_method_3_code 49 = .ok (.iload_n 3, 1) := by decide +kernel
theorem d5_50 : decode prog_9_method_3_code 50 = .ok (.iastore, 1) := by decide +kernel
theorem d5_51 : decode prog_9_method_3_code 51 = .ok (.aload_n 0, 1) := by decide +kernel
theorem d5_52 : decode prog_9_method_3_code 52 = .ok (.dup, 1) := by decide +kernel
theorem d5_53 : decode prog_9_method_3_code 53 = .ok (.getfield 17, 3) := by decide +kernel
theorem d5_56 : decode prog_9_method_3_code 56 = .ok (.iconst 1, 1) := by decide +kernel
theorem d5_57 : decode prog_9_method_3_code 57 = .ok (.iadd, 1) := by decide +kernel
theorem d5_58 : decode prog_9_method_3_code 58 = .ok (.putfield 17, 3) := by decide +kernel
theorem d5_61 : decode prog_9_method_3_code 61 = .ok (.return_, 1) := by decide +kernel
theorem ef_rm5 (m : MethodId) (a0 : Addr) (d1 : UInt64) (i2 : Int32) : entryFrame m #[(.ref a0), (.double d1), (.int i2)] 5 = mkF m 0 #[.val (.ref a0), .val (.double d1), .second, .val (.int i2), .unset] [] := by first | (simp [entryFrame, mkF, argsToLocals, Value.category]; done) | rfl
def Q_rm5 (Z : State) (a0 : Addr) (d1 : UInt64) (i2 : Int32) (pl : Nat) (a1 : Addr) (a2 : Addr) (hd : Int32) (sz : Int32) (k_a1 : ClassId) (vs : List Value) (k_a2 : ClassId) (us : List Value) (h0 : Heap) (n0 : Nat) (v : Option Value) (h : Heap) (L : List Loc) : Prop := v = none ∧ Fr n0 L ∧ Keep h0 h [a0, a1, a2] ∧ Exa Z h a0 "com/example/parley/parley/service/RequestQueue" ∧ Fld Z h a0 "com/example/parley/parley/service/RequestQueue" "arrivals" "[D" (.ref a1) ∧ Fld Z h a0 "com/example/parley/parley/service/RequestQueue" "providers" "[I" (.ref a2) ∧ Fld Z h a0 "com/example/parley/parley/service/RequestQueue" "head" "I" (.int hd) ∧ Fld Z h a0 "com/example/parley/parley/service/RequestQueue" "size" "I" (.int (sz + (1 : Int32))) ∧ Arv Z h a1 k_a1 .double (16 : Int32) (vs.set pl (.double d1)) (.double (0 : UInt64)) ∧ Arv Z h a2 k_a2 .int (16 : Int32) (us.set pl (.int i2)) (.int (0 : Int32))
set_option maxRecDepth 65536 in
set_option maxHeartbeats 40000000 in
theorem rm5 (l : Launch) (Z : State) (aw : Array Value) (hw : ∀ d ∈ tables_1, d.before aw Z = true) (ws : List Jvm.Cond) (a0 : Addr) (d1 : UInt64) (i2 : Int32) (pl : Nat) (a1 : Addr) (a2 : Addr) (hd : Int32) (sz : Int32) (k_a1 : ClassId) (vs : List Value) (k_a2 : ClassId) (us : List Value) (h0 : Heap) (n0 : Nat) (Z0 : n0 ≤ h0.size) (E_a0 : Exa Z h0 a0 "com/example/parley/parley/service/RequestQueue") (F_arrivals_a0 : Fld Z h0 a0 "com/example/parley/parley/service/RequestQueue" "arrivals" "[D" (.ref a1)) (F_providers_a0 : Fld Z h0 a0 "com/example/parley/parley/service/RequestQueue" "providers" "[I" (.ref a2)) (F_head_a0 : Fld Z h0 a0 "com/example/parley/parley/service/RequestQueue" "head" "I" (.int hd)) (F_size_a0 : Fld Z h0 a0 "com/example/parley/parley/service/RequestQueue" "size" "I" (.int sz)) (V_a1 : Arv Z h0 a1 k_a1 .double (16 : Int32) vs (.double (0 : UInt64))) (V_a2 : Arv Z h0 a2 k_a2 .int (16 : Int32) us (.int (0 : Int32))) (g_a0 : n0 ≤ a0) (g_a1 : n0 ≤ a1) (g_a2 : n0 ≤ a2) (ne_a0_a1 : a0 ≠ a1) (ne_a0_a2 : a0 ≠ a2) (ne_a1_a2 : a1 ≠ a2) (hsz : ¬ (sz = (16 : Int32))) (hin : ¬ ((hd + sz) &&& ((16 : Int32) - (1 : Int32))) < 0 ∧ ((hd + sz) &&& ((16 : Int32) - (1 : Int32))) < (16 : Int32)) (hpl : ((hd + sz) &&& ((16 : Int32) - (1 : Int32))).toNatClampNeg = pl) (hl1 : pl < vs.length) (hl2 : pl < us.length) :
    MetFree l (⟨"com/example/parley/parley/service/RequestQueue", "add", "(DI)V"⟩ : MethodName) (head1 (Jvm.Cond.code (⟨"com/example/parley/parley/service/RequestQueue", "add", "(DI)V"⟩ : MethodName) prog_9_method_3_code 5 none :: ws) ({ frames := 0, cells := 0, slots := 0, locals := 0 } : Room)) (fun a U => a = #[(.ref a0), (.double d1), (.int i2)] ∧ Z.Warmed39 U.vm ∧ U.heap = h0) (fun _ _ _ _ _ => True) (fun _ U o U' => ∃ v L, o = .returned v ∧ Q_rm5 Z a0 d1 i2 pl a1 a2 hd sz k_a1 vs k_a2 us h0 n0 v U'.heap L ∧ FrameEnd U o U' L ({ frames := 0, cells := 0, slots := 0, locals := 0 } : Room).cells ({ frames := 0, cells := 0, slots := 0, locals := 0 } : Room).slots) := by
  refine MetFree.of_bodySF (plainFor_of_name pn_0) hisR ?_
  intro p e s m args below meth c s₁ Bd hml0 hP hK
  obtain ⟨rfl, hZ, hh⟩ := hP
  have hx := Bd.exec
  have hby := Bd.bytes
  have hml : c.maxLocals = 5 := hml0
  have hown : s.vm.findClass "com/example/parley/parley/service/RequestQueue" = some m.cls := findClass_of_methodNamed Bd.named
  have hnm := (name_of_methodNamed Bd.named Bd.method).1
  have hlk : meth.locks = false := BodyLoose.notSynchronized Bd
  have X0 : Stand p l e ({ frames := 0, cells := 0, slots := 0, locals := 0 } : Room) s m #[(.ref a0), (.double d1), (.int i2)] below meth c s₁ [] 0 0 := Stand.of_body Bd
  have e0 : s₁.heap = h0 := by rw [← hh, Bd.state]; rfl
  have N0 := Fr.nil n0
  have ZZ := Z0
  show Go p e below s ({ frames := 0, cells := 0, slots := 0, locals := 0 } : Room).cells ({ frames := 0, cells := 0, slots := 0, locals := 0 } : Room).slots (fun v h L => Q_rm5 Z a0 d1 i2 pl a1 a2 hd sz k_a1 vs k_a2 us h0 n0 v h L) s₁ (entryFrame m #[(.ref a0), (.double d1), (.int i2)] 5)
  refine Go.cast (ef_rm5 m a0 d1 i2) ?_
  refine Go.gen ?_
  intro K1 K2 QQ hK1 hK2 hQQ
  have KP : Keep h0 h0 [a0, a1, a2] := Keep.refl _ _
  refine Go.on (fun _ k => XS.aloadN X0.here hx rfl (hb hby d5_0) rfl rfl k) ?_
  show Go _ _ _ _ _ _ _ _ (mkF m 1 #[.val (.ref a0), .val (.double d1), .second, .val (.int i2), .unset] [(.ref a0)])
  obtain ⟨T1, X1, e1, st1⟩ := getF X0 hx hZ hown (host := "") (Or.inl (hw _ (List.mem_of_getElem? (i := 20) rfl))) Via.refl e0 F_size_a0 (g := (mkF m 1 #[.val (.ref a0), .val (.double d1), .second, .val (.int i2), .unset] [(.ref a0)])) rfl rfl (hb hby d5_1)
  refine Go.on st1 ?_
  show Go _ _ _ _ _ _ _ _ (mkF m 4 #[.val (.ref a0), .val (.double d1), .second, .val (.int i2), .unset] [(.int sz)])
  refine Go.on (fun _ k => XS.aloadN X1.here hx rfl (hb hby d5_4) rfl rfl k) ?_
  show Go _ _ _ _ _ _ _ _ (mkF m 5 #[.val (.ref a0), .val (.double d1), .second, .val (.int i2), .unset] [(.ref a0), (.int sz)])
  obtain ⟨T2, X2, e2, st2⟩ := getF X1 hx hZ hown (host := "") (Or.inl (hw _ (List.mem_of_getElem? (i := 10) rfl))) Via.refl e1 F_arrivals_a0 (g := (mkF m 5 #[.val (.ref a0), .val (.double d1), .second, .val (.int i2), .unset] [(.ref a0), (.int sz)])) rfl rfl (hb hby d5_5)
  refine Go.on st2 ?_
  show Go _ _ _ _ _ _ _ _ (mkF m 8 #[.val (.ref a0), .val (.double d1), .second, .val (.int i2), .unset] [(.ref a1), (.int sz)])
  obtain ⟨cl3, Ar3, -, S3, N3n, -, -⟩ := id V_a1
  refine Go.on (X2.arraylength hx (by rw [e2]; exact Ar3.1) (State.isArrayOf_alike hZ.alike Ar3.2.1) (g := (mkF m 8 #[.val (.ref a0), .val (.double d1), .second, .val (.int i2), .unset] [(.ref a1), (.int sz)])) rfl rfl (hb hby d5_8)) ?_
  rw [len_of S3 N3n]
  show Go _ _ _ _ _ _ _ _ (mkF m 9 #[.val (.ref a0), .val (.double d1), .second, .val (.int i2), .unset] [(.int (16 : Int32)), (.int sz)])
  have hc4 : ¬ (sz = (16 : Int32)) := hsz
  refine Go.on (fun _ k => XS.icmpYes X2.here hx rfl (pc0 := 9) (pc' := 16) rfl (hb hby d5_9) rfl (feq hc4).2 (by decide) (by decide) k) ?_
  show Go _ _ _ _ _ _ _ _ (mkF m 16 #[.val (.ref a0), .val (.double d1), .second, .val (.int i2), .unset] [])
  refine Go.on (fun _ k => XS.aloadN X2.here hx rfl (hb hby d5_16) rfl rfl k) ?_
  show Go _ _ _ _ _ _ _ _ (mkF m 17 #[.val (.ref a0), .val (.double d1), .second, .val (.int i2), .unset] [(.ref a0)])
  obtain ⟨T5, X5, e5, st5⟩ := getF X2 hx hZ hown (host := "") (Or.inl (hw _ (List.mem_of_getElem? (i := 31) rfl))) Via.refl e2 F_head_a0 (g := (mkF m 17 #[.val (.ref a0), .val (.double d1), .second, .val (.int i2), .unset] [(.ref a0)])) rfl rfl (hb hby d5_17)
  refine Go.on st5 ?_
  show Go _ _ _ _ _ _ _ _ (mkF m 20 #[.val (.ref a0), .val (.double d1), .second, .val (.int i2), .unset] [(.int hd)])
  refine Go.on (fun _ k => XS.aloadN X5.here hx rfl (hb hby d5_20) rfl rfl k) ?_
  show Go _ _ _ _ _ _ _ _ (mkF m 21 #[.val (.ref a0), .val (.double d1), .second, .val (.int i2), .unset] [(.ref a0), (.int hd)])
  obtain ⟨T6, X6, e6, st6⟩ := getF X5 hx hZ hown (host := "") (Or.inl (hw _ (List.mem_of_getElem? (i := 20) rfl))) Via.refl e5 F_size_a0 (g := (mkF m 21 #[.val (.ref a0), .val (.double d1), .second, .val (.int i2), .unset] [(.ref a0), (.int hd)])) rfl rfl (hb hby d5_21)
  refine Go.on st6 ?_
  show Go _ _ _ _ _ _ _ _ (mkF m 24 #[.val (.ref a0), .val (.double d1), .second, .val (.int i2), .unset] [(.int sz), (.int hd)])
  refine Go.on (fun _ k => XS.iadd X6.here hx rfl (hb hby d5_24) rfl k) ?_
  show Go _ _ _ _ _ _ _ _ (mkF m 25 #[.val (.ref a0), .val (.double d1), .second, .val (.int i2), .unset] [(.int (hd + sz))])
  refine Go.on (fun _ k => XS.aloadN X6.here hx rfl (hb hby d5_25) rfl rfl k) ?_
  show Go _ _ _ _ _ _ _ _ (mkF m 26 #[.val (.ref a0), .val (.double d1), .second, .val (.int i2), .unset] [(.ref a0), (.int (hd + sz))])
  obtain ⟨T7, X7, e7, st7⟩ := getF X6 hx hZ hown (host := "") (Or.inl (hw _ (List.mem_of_getElem? (i := 10) rfl))) Via.refl e6 F_arrivals_a0 (g := (mkF m 26 #[.val (.ref a0), .val (.double d1), .second, .val (.int i2), .unset] [(.ref a0), (.int (hd + sz))])) rfl rfl (hb hby d5_26)
  refine Go.on st7 ?_
  show Go _ _ _ _ _ _ _ _ (mkF m 29 #[.val (.ref a0), .val (.double d1), .second, .val (.int i2), .unset] [(.ref a1), (.int (hd + sz))])
  obtain ⟨cl8, Ar8, -, S8, N8n, -, -⟩ := id V_a1
  refine Go.on (X7.arraylength hx (by rw [e7]; exact Ar8.1) (State.isArrayOf_alike hZ.alike Ar8.2.1) (g := (mkF m 29 #[.val (.ref a0), .val (.double d1), .second, .val (.int i2), .unset] [(.ref a1), (.int (hd + sz))])) rfl rfl (hb hby d5_29)) ?_
  rw [len_of S8 N8n]
  show Go _ _ _ _ _ _ _ _ (mkF m 30 #[.val (.ref a0), .val (.double d1), .second, .val (.int i2), .unset] [(.int (16 : Int32)), (.int (hd + sz))])
  refine Go.on (fun _ k => XS.iconst X7.here hx rfl (hb hby d5_30) k) ?_
  show Go _ _ _ _ _ _ _ _ (mkF m 31 #[.val (.ref a0), .val (.double d1), .second, .val (.int i2), .unset] [(.int (1 : Int32)), (.int (16 : Int32)), (.int (hd + sz))])
  refine Go.on (fun _ k => XS.isub X7.here hx rfl (hb hby d5_31) rfl k) ?_
  show Go _ _ _ _ _ _ _ _ (mkF m 32 #[.val (.ref a0), .val (.double d1), .second, .val (.int i2), .unset] [(.int (15 : Int32)), (.int (hd + sz))])
  refine Go.on (fun _ k => XS.iand X7.here hx rfl (hb hby d5_32) rfl k) ?_
  show Go _ _ _ _ _ _ _ _ (mkF m 33 #[.val (.ref a0), .val (.double d1), .second, .val (.int i2), .unset] [(.int ((hd + sz) &&& (15 : Int32)))])
  refine Go.on (fun _ k => XS.istore X7.here hx rfl (hb hby d5_33) rfl (l' := #[.val (.ref a0), .val (.double d1), .second, .val (.int i2), .val (.int ((hd + sz) &&& (15 : Int32)))]) rfl k) ?_
  show Go _ _ _ _ _ _ _ _ (mkF m 35 #[.val (.ref a0), .val (.double d1), .second, .val (.int i2), .val (.int ((hd + sz) &&& (15 : Int32)))] [])
  refine Go.on (fun _ k => XS.aloadN X7.here hx rfl (hb hby d5_35) rfl rfl k) ?_
  show Go _ _ _ _ _ _ _ _ (mkF m 36 #[.val (.ref a0), .val (.double d1), .second, .val (.int i2), .val (.int ((hd + sz) &&& (15 : Int32)))] [(.ref a0)])
  obtain ⟨T9, X9, e9, st9⟩ := getF X7 hx hZ hown (host := "") (Or.inl (hw _ (List.mem_of_getElem? (i := 10) rfl))) Via.refl e7 F_arrivals_a0 (g := (mkF m 36 #[.val (.ref a0), .val (.double d1), .second, .val (.int i2), .val (.int ((hd + sz) &&& (15 : Int32)))] [(.ref a0)])) rfl rfl (hb hby d5_36)
  refine Go.on st9 ?_
  show Go _ _ _ _ _ _ _ _ (mkF m 39 #[.val (.ref a0), .val (.double d1), .second, .val (.int i2), .val (.int ((hd + sz) &&& (15 : Int32)))] [(.ref a1)])
  refine Go.on (fun _ k => XS.iload X9.here hx rfl (hb hby d5_39) rfl k) ?_
  show Go _ _ _ _ _ _ _ _ (mkF m 41 #[.val (.ref a0), .val (.double d1), .second, .val (.int i2), .val (.int ((hd + sz) &&& (15 : Int32)))] [(.int ((hd + sz) &&& (15 : Int32))), (.ref a1)])
  refine Go.on (fun _ k => XS.dloadN X9.here hx rfl (hb hby d5_41) rfl k) ?_
  show Go _ _ _ _ _ _ _ _ (mkF m 42 #[.val (.ref a0), .val (.double d1), .second, .val (.int i2), .val (.int ((hd + sz) &&& (15 : Int32)))] [(.double d1), (.int ((hd + sz) &&& (15 : Int32))), (.ref a1)])
  obtain ⟨cl10, Ar10, q10, S10, N10n, H10, G10⟩ := id V_a1
  have hin10 : ¬ (((hd + sz) &&& (15 : Int32)) < 0 ∨ cl10.slots.size ≤ (((hd + sz) &&& (15 : Int32))).toNatClampNeg) := inb_of S10 hin
  obtain ⟨T10, h10, X10, e10, W10, st10⟩ := stD X9 hx hZ e9 Ar10 (j := ((hd + sz) &&& (15 : Int32))) hin10 (g := (mkF m 42 #[.val (.ref a0), .val (.double d1), .second, .val (.int i2), .val (.int ((hd + sz) &&& (15 : Int32)))] [(.double d1), (.int ((hd + sz) &&& (15 : Int32))), (.ref a1)])) rfl rfl (hb hby d5_42)
  replace V_a1 := Arv.set Ar10 q10 S10 N10n H10 G10 rfl W10 pl hpl hl1
  replace E_a0 := E_a0.wr W10
  replace F_arrivals_a0 := F_arrivals_a0.other W10 (Or.inl ne_a0_a1)
  replace F_providers_a0 := F_providers_a0.other W10 (Or.inl ne_a0_a1)
  replace F_head_a0 := F_head_a0.other W10 (Or.inl ne_a0_a1)
  replace F_size_a0 := F_size_a0.other W10 (Or.inl ne_a0_a1)
  replace V_a2 := V_a2.other W10 (Ne.symm ne_a1_a2)
  refine Go.on st10 ?_
  have N10 := Fr.snoc X10 N0 g_a1
  replace ZZ := Nat.le_trans ZZ (Keep.of_wr W10).1
  replace KP := KP.wr W10 (Or.inl (List.mem_of_getElem? (i := 1) rfl))
  show Go _ _ _ _ _ _ _ _ (mkF m 43 #[.val (.ref a0), .val (.double d1), .second, .val (.int i2), .val (.int ((hd + sz) &&& (15 : Int32)))] [])
  refine Go.on (fun _ k => XS.aloadN X10.here hx rfl (hb hby d5_43) rfl rfl k) ?_
  show Go _ _ _ _ _ _ _ _ (mkF m 44 #[.val (.ref a0), .val (.double d1), .second, .val (.int i2), .val (.int ((hd + sz) &&& (15 : Int32)))] [(.ref a0)])
  obtain ⟨T11, X11, e11, st11⟩ := getF X10 hx hZ hown (host := "") (Or.inl (hw _ (List.mem_of_getElem? (i := 13) rfl))) Via.refl e10 F_providers_a0 (g := (mkF m 44 #[.val (.ref a0), .val (.double d1), .second, .val (.int i2), .val (.int ((hd + sz) &&& (15 : Int32)))] [(.ref a0)])) rfl rfl (hb hby d5_44)
  refine Go.on st11 ?_
  show Go _ _ _ _ _ _ _ _ (mkF m 47 #[.val (.ref a0), .val (.double d1), .second, .val (.int i2), .val (.int ((hd + sz) &&& (15 : Int32)))] [(.ref a2)])
  refine Go.on (fun _ k => XS.iload X11.here hx rfl (hb hby d5_47) rfl k) ?_
  show Go _ _ _ _ _ _ _ _ (mkF m 49 #[.val (.ref a0), .val (.double d1), .second, .val (.int i2), .val (.int ((hd + sz) &&& (15 : Int32)))] [(.int ((hd + sz) &&& (15 : Int32))), (.ref a2)])
  refine Go.on (fun _ k => XS.iloadN X11.here hx rfl (hb hby d5_49) rfl k) ?_
  show Go _ _ _ _ _ _ _ _ (mkF m 50 #[.val (.ref a0), .val (.double d1), .second, .val (.int i2), .val (.int ((hd + sz) &&& (15 : Int32)))] [(.int i2), (.int ((hd + sz) &&& (15 : Int32))), (.ref a2)])
  obtain ⟨cl12, Ar12, q12, S12, N12n, H12, G12⟩ := id V_a2
  have hin12 : ¬ (((hd + sz) &&& (15 : Int32)) < 0 ∨ cl12.slots.size ≤ (((hd + sz) &&& (15 : Int32))).toNatClampNeg) := inb_of S12 hin
  obtain ⟨T12, h12, X12, e12, W12, st12⟩ := stI X11 hx hZ e11 Ar12 (j := ((hd + sz) &&& (15 : Int32))) hin12 (g := (mkF m 50 #[.val (.ref a0), .val (.double d1), .second, .val (.int i2), .val (.int ((hd + sz) &&& (15 : Int32)))] [(.int i2), (.int ((hd + sz) &&& (15 : Int32))), (.ref a2)])) rfl rfl (hb hby d5_50)
  replace V_a2 := Arv.set Ar12 q12 S12 N12n H12 G12 rfl W12 pl hpl hl2
  replace E_a0 := E_a0.wr W12
  replace F_arrivals_a0 := F_arrivals_a0.other W12 (Or.inl ne_a0_a2)
  replace F_providers_a0 := F_providers_a0.other W12 (Or.inl ne_a0_a2)
  replace F_head_a0 := F_head_a0.other W12 (Or.inl ne_a0_a2)
  replace F_size_a0 := F_size_a0.other W12 (Or.inl ne_a0_a2)
  replace V_a1 := V_a1.other W12 ne_a1_a2
  refine Go.on st12 ?_
  have N12 := Fr.snoc X12 N10 g_a2
  replace ZZ := Nat.le_trans ZZ (Keep.of_wr W12).1
  replace KP := KP.wr W12 (Or.inl (List.mem_of_getElem? (i := 2) rfl))
  show Go _ _ _ _ _ _ _ _ (mkF m 51 #[.val (.ref a0), .val (.double d1), .second, .val (.int i2), .val (.int ((hd + sz) &&& (15 : Int32)))] [])
  refine Go.on (fun _ k => XS.aloadN X12.here hx rfl (hb hby d5_51) rfl rfl k) ?_
  show Go _ _ _ _ _ _ _ _ (mkF m 52 #[.val (.ref a0), .val (.double d1), .second, .val (.int i2), .val (.int ((hd + sz) &&& (15 : Int32)))] [(.ref a0)])
  refine Go.on (fun _ k => XS.dup X12.here hx rfl (hb hby d5_52) rfl rfl k) ?_
  show Go _ _ _ _ _ _ _ _ (mkF m 53 #[.val (.ref a0), .val (.double d1), .second, .val (.int i2), .val (.int ((hd + sz) &&& (15 : Int32)))] [(.ref a0), (.ref a0)])
  obtain ⟨T13, X13, e13, st13⟩ := getF X12 hx hZ hown (host := "") (Or.inl (hw _ (List.mem_of_getElem? (i := 20) rfl))) Via.refl e12 F_size_a0 (g := (mkF m 53 #[.val (.ref a0), .val (.double d1), .second, .val (.int i2), .val (.int ((hd + sz) &&& (15 : Int32)))] [(.ref a0), (.ref a0)])) rfl rfl (hb hby d5_53)
  refine Go.on st13 ?_
  show Go _ _ _ _ _ _ _ _ (mkF m 56 #[.val (.ref a0), .val (.double d1), .second, .val (.int i2), .val (.int ((hd + sz) &&& (15 : Int32)))] [(.int sz), (.ref a0)])
  refine Go.on (fun _ k => XS.iconst X13.here hx rfl (hb hby d5_56) k) ?_
  show Go _ _ _ _ _ _ _ _ (mkF m 57 #[.val (.ref a0), .val (.double d1), .second, .val (.int i2), .val (.int ((hd + sz) &&& (15 : Int32)))] [(.int (1 : Int32)), (.int sz), (.ref a0)])
  refine Go.on (fun _ k => XS.iadd X13.here hx rfl (hb hby d5_57) rfl k) ?_
  show Go _ _ _ _ _ _ _ _ (mkF m 58 #[.val (.ref a0), .val (.double d1), .second, .val (.int i2), .val (.int ((hd + sz) &&& (15 : Int32)))] [(.int (sz + (1 : Int32))), (.ref a0)])
  obtain ⟨T14, h14, X14, e14, W14, st14⟩ := putF X13 hx hZ hown (host := "") (Or.inl (hw _ (List.mem_of_getElem? (i := 20) rfl))) Via.refl e13 F_size_a0 E_a0 (Or.inl (hw _ (List.mem_of_getElem? (i := 21) rfl))) (hw _ (List.mem_of_getElem? (i := 1) rfl)) (ty := .int) (by decide) rfl rfl (g := (mkF m 58 #[.val (.ref a0), .val (.double d1), .second, .val (.int i2), .val (.int ((hd + sz) &&& (15 : Int32)))] [(.int (sz + (1 : Int32))), (.ref a0)])) rfl rfl (hb hby d5_58)
  refine Go.on st14 ?_
  replace F_size_a0 := F_size_a0.same W14
  replace E_a0 := E_a0.wr W14
  replace F_arrivals_a0 := F_arrivals_a0.other W14 (Or.inr (slot_ne (Or.inl (hw _ (List.mem_of_getElem? (i := 11) rfl))) (Or.inl (hw _ (List.mem_of_getElem? (i := 21) rfl))) (by decide) (t := (.array .double)) (t' := .int) (by decide) (by decide)))
  replace F_providers_a0 := F_providers_a0.other W14 (Or.inr (slot_ne (Or.inl (hw _ (List.mem_of_getElem? (i := 14) rfl))) (Or.inl (hw _ (List.mem_of_getElem? (i := 21) rfl))) (by decide) (t := (.array .int)) (t' := .int) (by decide) (by decide)))
  replace F_head_a0 := F_head_a0.other W14 (Or.inr (slot_ne (Or.inl (hw _ (List.mem_of_getElem? (i := 32) rfl))) (Or.inl (hw _ (List.mem_of_getElem? (i := 21) rfl))) (by decide) (t := .int) (t' := .int) (by decide) (by decide)))
  replace V_a1 := V_a1.other W14 (Ne.symm ne_a0_a1)
  replace V_a2 := V_a2.other W14 (Ne.symm ne_a0_a2)
  have N14 := Fr.snoc X14 N12 g_a0
  replace ZZ := Nat.le_trans ZZ (Keep.of_wr W14).1
  replace KP := KP.wr W14 (Or.inl (List.mem_of_getElem? (i := 0) rfl))
  show Go _ _ _ _ _ _ _ _ (mkF m 61 #[.val (.ref a0), .val (.double d1), .second, .val (.int i2), .val (.int ((hd + sz) &&& (15 : Int32)))] [])
  refine Go.ret0 X14 hx Bd.returns (hb hby d5_61) ?_ (by rw [hK1]; decide) (by rw [hK2]; decide)
  rw [e14, ← hQQ]
  exact ⟨rfl, N14, KP, E_a0, F_arrivals_a0, F_providers_a0, F_head_a0, F_size_a0, V_a1, V_a2⟩
theorem d6_0 : decode prog_9_method_6_code 0 = .ok (.aload_n 0, 1) := by decide +kernel
theorem d6_1 : decode prog_9_method_6_code 1 = .ok (.aload_n 0, 1) := by decide +kernel
theorem d6_2 : decode prog_9_method_6_code 2 = .ok (.getfield 24, 3) := by decide +kernel
theorem d6_5 : decode prog_9_method_6_code 5 = .ok (.iconst 1, 1) := by decide +kernel
theorem d6_6 : decode prog_9_method_6_code 6 = .ok (.iadd, 1) := by decide +kernel
theorem d6_7 : decode prog_9_method_6_code 7 = .ok (.aload_n 0, 1) := by decide +kernel
theorem d6_8 : decode prog_9_method_6_code 8 = .ok (.getfield 7, 3) := by decide +kernel
theorem d6_11 : decode prog_9_method_6_code 11 = .ok (.arraylength, 1) := by decide +kernel
theorem d6_12 : decode prog_9_method_6_code 12 = .ok (.iconst 1, 1) := by decide +kernel
theorem d6_13 : decode prog_9_method_6_code 13 = .ok (.isub, 1) := by decide +kernel
theorem d6_14 : decode prog_9_method_6_code 14 = .ok (.iand, 1) := by decide +kernel
theorem d6_15 : decode prog_9_method_6_code 15 = .ok (.putfield 24, 3) := by decide +kernel
theorem d6_18 : decode prog_9_method_6_code 18 = .ok (.aload_n 0, 1) := by decide +kernel
theorem d6_19 : decode prog_9_method_6_code 19 = .ok (.dup, 1) := by decide +kernel
theorem d6_20 : decode prog_9_method_6_code 20 = .ok (.getfield 17, 3) := by decide +kernel
theorem d6_23 : decode prog_9_method_6_code 23 = .ok (.iconst 1, 1) := by decide +kernel
theorem d6_24 : decode prog_9_method_6_code 24 = .ok (.isub, 1) := by decide +kernel
theorem d6_25 : decode prog_9_method_6_code 25 = .ok (.putfield 17, 3) := by decide +kernel
theorem d6_28 : decode prog_9_method_6_code 28 = .ok (.return_, 1) := by decide +kernel
theorem ef_rm6 (m : MethodId) (a0 : Addr) : entryFrame m #[(.ref a0)] 1 = mkF m 0 #[.val (.ref a0)] [] := by first | (simp [entryFrame, mkF, argsToLocals, Value.category]; done) | rfl
def Q_rm6 (Z : State) (a0 : Addr) (a1 : Addr) (a2 : Addr) (hd : Int32) (sz : Int32) (k_a1 : ClassId) (vs : List Value) (h0 : Heap) (n0 : Nat) (v : Option Value) (h : Heap) (L : List Loc) : Prop := v = none ∧ Fr n0 L ∧ Keep h0 h [a0] ∧ Exa Z h a0 "com/example/parley/parley/service/RequestQueue" ∧ Fld Z h a0 "com/example/parley/parley/service/RequestQueue" "arrivals" "[D" (.ref a1) ∧ Fld Z h a0 "com/example/parley/parley/service/RequestQueue" "providers" "[I" (.ref a2) ∧ Fld Z h a0 "com/example/parley/parley/service/RequestQueue" "head" "I" (.int ((hd + (1 : Int32)) &&& ((16 : Int32) - (1 : Int32)))) ∧ Fld Z h a0 "com/example/parley/parley/service/RequestQueue" "size" "I" (.int (sz - (1 : Int32)))
set_option maxRecDepth 65536 in
set_option maxHeartbeats 40000000 in
theorem rm6 (l : Launch) (Z : State) (aw : Array Value) (hw : ∀ d ∈ tables_1, d.before aw Z = true) (ws : List Jvm.Cond) (a0 : Addr) (a1 : Addr) (a2 : Addr) (hd : Int32) (sz : Int32) (k_a1 : ClassId) (vs : List Value) (h0 : Heap) (n0 : Nat) (Z0 : n0 ≤ h0.size) (E_a0 : Exa Z h0 a0 "com/example/parley/parley/service/RequestQueue") (F_arrivals_a0 : Fld Z h0 a0 "com/example/parley/parley/service/RequestQueue" "arrivals" "[D" (.ref a1)) (F_providers_a0 : Fld Z h0 a0 "com/example/parley/parley/service/RequestQueue" "providers" "[I" (.ref a2)) (F_head_a0 : Fld Z h0 a0 "com/example/parley/parley/service/RequestQueue" "head" "I" (.int hd)) (F_size_a0 : Fld Z h0 a0 "com/example/parley/parley/service/RequestQueue" "size" "I" (.int sz)) (V_a1 : Arv Z h0 a1 k_a1 .double (16 : Int32) vs (.double (0 : UInt64))) (g_a0 : n0 ≤ a0) (ne_a0_a1 : a0 ≠ a1) :
    MetFree l (⟨"com/example/parley/parley/service/RequestQueue", "removeFirst", "()V"⟩ : MethodName) (head1 (Jvm.Cond.code (⟨"com/example/parley/parley/service/RequestQueue", "removeFirst", "()V"⟩ : MethodName) prog_9_method_6_code 1 none :: ws) ({ frames := 0, cells := 0, slots := 0, locals := 0 } : Room)) (fun a U => a = #[(.ref a0)] ∧ Z.Warmed39 U.vm ∧ U.heap = h0) (fun _ _ _ _ _ => True) (fun _ U o U' => ∃ v L, o = .returned v ∧ Q_rm6 Z a0 a1 a2 hd sz k_a1 vs h0 n0 v U'.heap L ∧ FrameEnd U o U' L ({ frames := 0, cells := 0, slots := 0, locals := 0 } : Room).cells ({ frames := 0, cells := 0, slots := 0, locals := 0 } : Room).slots) := by
  refine MetFree.of_bodySF (plainFor_of_name pn_0) hisR ?_
  intro p e s m args below meth c s₁ Bd hml0 hP hK
  obtain ⟨rfl, hZ, hh⟩ := hP
  have hx := Bd.exec
  have hby := Bd.bytes
  have hml : c.maxLocals = 1 := hml0
  have hown : s.vm.findClass "com/example/parley/parley/service/RequestQueue" = some m.cls := findClass_of_methodNamed Bd.named
  have hnm := (name_of_methodNamed Bd.named Bd.method).1
  have hlk : meth.locks = false := BodyLoose.notSynchronized Bd
  have X0 : Stand p l e ({ frames := 0, cells := 0, slots := 0, locals := 0 } : Room) s m #[(.ref a0)] below meth c s₁ [] 0 0 := Stand.of_body Bd
  have e0 : s₁.heap = h0 := by rw [← hh, Bd.state]; rfl
  have N0 := Fr.nil n0
  have ZZ := Z0
  show Go p e below s ({ frames := 0, cells := 0, slots := 0, locals := 0 } : Room).cells ({ frames := 0, cells := 0, slots := 0, locals := 0 } : Room).slots (fun v h L => Q_rm6 Z a0 a1 a2 hd sz k_a1 vs h0 n0 v h L) s₁ (entryFrame m #[(.ref a0)] 1)
  refine Go.cast (ef_rm6 m a0) ?_
  refine Go.gen ?_
  intro K1 K2 QQ hK1 hK2 hQQ
  have KP : Keep h0 h0 [a0] := Keep.refl _ _
  refine Go.on (fun _ k => XS.aloadN X0.here hx rfl (hb hby d6_0) rfl rfl k) ?_
  show Go _ _ _ _ _ _ _ _ (mkF m 1 #[.val (.ref a0)] [(.ref a0)])
  refine Go.on (fun _ k => XS.aloadN X0.here hx rfl (hb hby d6_1) rfl rfl k) ?_
  show Go _ _ _ _ _ _ _ _ (mkF m 2 #[.val (.ref a0)] [(.ref a0), (.ref a0)])
  obtain ⟨T1, X1, e1, st1⟩ := getF X0 hx hZ hown (host := "") (Or.inl (hw _ (List.mem_of_getElem? (i := 31) rfl))) Via.refl e0 F_head_a0 (g := (mkF m 2 #[.val (.ref a0)] [(.ref a0), (.ref a0)])) rfl rfl (hb hby d6_2)
  refine Go.on st1 ?_
  show Go _ _ _ _ _ _ _ _ (mkF m 5 #[.val (.ref a0)] [(.int hd), (.ref a0)])
  refine Go.on (fun _ k => XS.iconst X1.here hx rfl (hb hby d6_5) k) ?_
  show Go _ _ _ _ _ _ _ _ (mkF m 6 #[.val (.ref a0)] [(.int (1 : Int32)), (.int hd), (.ref a0)])
  refine Go.on (fun _ k => XS.iadd X1.here hx rfl (hb hby d6_6) rfl k) ?_
  show Go _ _ _ _ _ _ _ _ (mkF m 7 #[.val (.ref a0)] [(.int (hd + (1 : Int32))), (.ref a0)])
  refine Go.on (fun _ k => XS.aloadN X1.here hx rfl (hb hby d6_7) rfl rfl k) ?_
  show Go _ _ _ _ _ _ _ _ (mkF m 8 #[.val (.ref a0)] [(.ref a0), (.int (hd + (1 : Int32))), (.ref a0)])
  obtain ⟨T2, X2, e2, st2⟩ := getF X1 hx hZ hown (host := "") (Or.inl (hw _ (List.mem_of_getElem? (i := 10) rfl))) Via.refl e1 F_arrivals_a0 (g := (mkF m 8 #[.val (.ref a0)] [(.ref a0), (.int (hd + (1 : Int32))), (.ref a0)])) rfl rfl (hb hby d6_8)
  refine Go.on st2 ?_
  show Go _ _ _ _ _ _ _ _ (mkF m 11 #[.val (.ref a0)] [(.ref a1), (.int (hd + (1 : Int32))), (.ref a0)])
  obtain ⟨cl3, Ar3, -, S3, N3n, -, -⟩ := id V_a1
  refine Go.on (X2.arraylength hx (by rw [e2]; exact Ar3.1) (State.isArrayOf_alike hZ.alike Ar3.2.1) (g := (mkF m 11 #[.val (.ref a0)] [(.ref a1), (.int (hd + (1 : Int32))), (.ref a0)])) rfl rfl (hb hby d6_11)) ?_
  rw [len_of S3 N3n]
  show Go _ _ _ _ _ _ _ _ (mkF m 12 #[.val (.ref a0)] [(.int (16 : Int32)), (.int (hd + (1 : Int32))), (.ref a0)])
  refine Go.on (fun _ k => XS.iconst X2.here hx rfl (hb hby d6_12) k) ?_
  show Go _ _ _ _ _ _ _ _ (mkF m 13 #[.val (.ref a0)] [(.int (1 : Int32)), (.int (16 : Int32)), (.int (hd + (1 : Int32))), (.ref a0)])
  refine Go.on (fun _ k => XS.isub X2.here hx rfl (hb hby d6_13) rfl k) ?_
  show Go _ _ _ _ _ _ _ _ (mkF m 14 #[.val (.ref a0)] [(.int (15 : Int32)), (.int (hd + (1 : Int32))), (.ref a0)])
  refine Go.on (fun _ k => XS.iand X2.here hx rfl (hb hby d6_14) rfl k) ?_
  show Go _ _ _ _ _ _ _ _ (mkF m 15 #[.val (.ref a0)] [(.int ((hd + (1 : Int32)) &&& (15 : Int32))), (.ref a0)])
  obtain ⟨T4, h4, X4, e4, W4, st4⟩ := putF X2 hx hZ hown (host := "") (Or.inl (hw _ (List.mem_of_getElem? (i := 31) rfl))) Via.refl e2 F_head_a0 E_a0 (Or.inl (hw _ (List.mem_of_getElem? (i := 32) rfl))) (hw _ (List.mem_of_getElem? (i := 1) rfl)) (ty := .int) (by decide) rfl rfl (g := (mkF m 15 #[.val (.ref a0)] [(.int ((hd + (1 : Int32)) &&& (15 : Int32))), (.ref a0)])) rfl rfl (hb hby d6_15)
  refine Go.on st4 ?_
  replace F_head_a0 := F_head_a0.same W4
  replace E_a0 := E_a0.wr W4
  replace F_arrivals_a0 := F_arrivals_a0.other W4 (Or.inr (slot_ne (Or.inl (hw _ (List.mem_of_getElem? (i := 11) rfl))) (Or.inl (hw _ (List.mem_of_getElem? (i := 32) rfl))) (by decide) (t := (.array .double)) (t' := .int) (by decide) (by decide)))
  replace F_providers_a0 := F_providers_a0.other W4 (Or.inr (slot_ne (Or.inl (hw _ (List.mem_of_getElem? (i := 14) rfl))) (Or.inl (hw _ (List.mem_of_getElem? (i := 32) rfl))) (by decide) (t := (.array .int)) (t' := .int) (by decide) (by decide)))
  replace F_size_a0 := F_size_a0.other W4 (Or.inr (slot_ne (Or.inl (hw _ (List.mem_of_getElem? (i := 21) rfl))) (Or.inl (hw _ (List.mem_of_getElem? (i := 32) rfl))) (by decide) (t := .int) (t' := .int) (by decide) (by decide)))
  replace V_a1 := V_a1.other W4 (Ne.symm ne_a0_a1)
  have N4 := Fr.snoc X4 N0 g_a0
  replace ZZ := Nat.le_trans ZZ (Keep.of_wr W4).1
  replace KP := KP.wr W4 (Or.inl (List.mem_of_getElem? (i := 0) rfl))
  show Go _ _ _ _ _ _ _ _ (mkF m 18 #[.val (.ref a0)] [])
  refine Go.on (fun _ k => XS.aloadN X4.here hx rfl (hb hby d6_18) rfl rfl k) ?_
  show Go _ _ _ _ _ _ _ _ (mkF m 19 #[.val (.ref a0)] [(.ref a0)])
  refine Go.on (fun _ k => XS.dup X4.here hx rfl (hb hby d6_19) rfl rfl k) ?_
  show Go _ _ _ _ _ _ _ _ (mkF m 20 #[.val (.ref a0)] [(.ref a0), (.ref a0)])
  obtain ⟨T5, X5, e5, st5⟩ := getF X4 hx hZ hown (host := "") (Or.inl (hw _ (List.mem_of_getElem? (i := 20) rfl))) Via.refl e4 F_size_a0 (g := (mkF m 20 #[.val (.ref a0)] [(.ref a0), (.ref a0)])) rfl rfl (hb hby d6_20)
  refine Go.on st5 ?_
  show Go _ _ _ _ _ _ _ _ (mkF m 23 #[.val (.ref a0)] [(.int sz), (.ref a0)])
  refine Go.on (fun _ k => XS.iconst X5.here hx rfl (hb hby d6_23) k) ?_
  show Go _ _ _ _ _ _ _ _ (mkF m 24 #[.val (.ref a0)] [(.int (1 : Int32)), (.int sz), (.ref a0)])
  refine Go.on (fun _ k => XS.isub X5.here hx rfl (hb hby d6_24) rfl k) ?_
  show Go _ _ _ _ _ _ _ _ (mkF m 25 #[.val (.ref a0)] [(.int (sz - (1 : Int32))), (.ref a0)])
  obtain ⟨T6, h6, X6, e6, W6, st6⟩ := putF X5 hx hZ hown (host := "") (Or.inl (hw _ (List.mem_of_getElem? (i := 20) rfl))) Via.refl e5 F_size_a0 E_a0 (Or.inl (hw _ (List.mem_of_getElem? (i := 21) rfl))) (hw _ (List.mem_of_getElem? (i := 1) rfl)) (ty := .int) (by decide) rfl rfl (g := (mkF m 25 #[.val (.ref a0)] [(.int (sz - (1 : Int32))), (.ref a0)])) rfl rfl (hb hby d6_25)
  refine Go.on st6 ?_
  replace F_size_a0 := F_size_a0.same W6
  replace E_a0 := E_a0.wr W6
  replace F_arrivals_a0 := F_arrivals_a0.other W6 (Or.inr (slot_ne (Or.inl (hw _ (List.mem_of_getElem? (i := 11) rfl))) (Or.inl (hw _ (List.mem_of_getElem? (i := 21) rfl))) (by decide) (t := (.array .double)) (t' := .int) (by decide) (by decide)))
  replace F_providers_a0 := F_providers_a0.other W6 (Or.inr (slot_ne (Or.inl (hw _ (List.mem_of_getElem? (i := 14) rfl))) (Or.inl (hw _ (List.mem_of_getElem? (i := 21) rfl))) (by decide) (t := (.array .int)) (t' := .int) (by decide) (by decide)))
  replace F_head_a0 := F_head_a0.other W6 (Or.inr (slot_ne (Or.inl (hw _ (List.mem_of_getElem? (i := 32) rfl))) (Or.inl (hw _ (List.mem_of_getElem? (i := 21) rfl))) (by decide) (t := .int) (t' := .int) (by decide) (by decide)))
  replace V_a1 := V_a1.other W6 (Ne.symm ne_a0_a1)
  have N6 := Fr.snoc X6 N4 g_a0
  replace ZZ := Nat.le_trans ZZ (Keep.of_wr W6).1
  replace KP := KP.wr W6 (Or.inl (List.mem_of_getElem? (i := 0) rfl))
  show Go _ _ _ _ _ _ _ _ (mkF m 28 #[.val (.ref a0)] [])
  refine Go.ret0 X6 hx Bd.returns (hb hby d6_28) ?_ (by rw [hK1]; decide) (by rw [hK2]; decide)
  rw [e6, ← hQQ]
  exact ⟨rfl, N6, KP, E_a0, F_arrivals_a0, F_providers_a0, F_head_a0, F_size_a0⟩
theorem d3_0 : decode prog_9_method_2_code 0 = .ok (.aload_n 0, 1) := by decide +kernel
theorem d3_1 : decode prog_9_method_2_code 1 = .ok (.getfield 17, 3) := by decide +kernel
theorem d3_4 : decode prog_9_method_2_code 4 = .ok (.ifCond .ne 7, 3) := by decide +kernel
theorem d3_7 : decode prog_9_method_2_code 7 = .ok (.iconst 1, 1) := by decide +kernel
theorem d3_8 : decode prog_9_method_2_code 8 = .ok (.goto 4, 3) := by decide +kernel
theorem d3_11 : decode prog_9_method_2_code 11 = .ok (.iconst 0, 1) := by decide +kernel
theorem d3_12 : decode prog_9_method_2_code 12 = .ok (.ireturn, 1) := by decide +kernel
theorem ef_rm3 (m : MethodId) (a0 : Addr) : entryFrame m #[(.ref a0)] 1 = mkF m 0 #[.val (.ref a0)] [] := by first | (simp [entryFrame, mkF, argsToLocals, Value.category]; done) | rfl
def Q_rm3 (Z : State) (a0 : Addr) (sz : Int32) (h0 : Heap) (n0 : Nat) (v : Option Value) (h : Heap) (L : List Loc) : Prop := v = some (.int (if sz = (0 : Int32) then (1 : Int32) else (0 : Int32))) ∧ Fr n0 L ∧ h = h0
set_option maxRecDepth 65536 in
set_option maxHeartbeats 40000000 in
theorem rm3 (l : Launch) (Z : State) (aw : Array Value) (hw : ∀ d ∈ tables_1, d.before aw Z = true) (ws : List Jvm.Cond) (a0 : Addr) (sz : Int32) (h0 : Heap) (n0 : Nat) (Z0 : n0 ≤ h0.size) (F_size_a0 : Fld Z h0 a0 "com/example/parley/parley/service/RequestQueue" "size" "I" (.int sz)) :
    MetFree l (⟨"com/example/parley/parley/service/RequestQueue", "isEmpty", "()Z"⟩ : MethodName) (head1 (Jvm.Cond.code (⟨"com/example/parley/parley/service/RequestQueue", "isEmpty", "()Z"⟩ : MethodName) prog_9_method_2_code 1 (some .boolean) :: ws) ({ frames := 0, cells := 0, slots := 0, locals := 0 } : Room)) (fun a U => a = #[(.ref a0)] ∧ Z.Warmed39 U.vm ∧ U.heap = h0) (fun _ _ _ _ _ => True) (fun _ U o U' => ∃ v L, o = .returned v ∧ Q_rm3 Z a0 sz h0 n0 v U'.heap L ∧ FrameEnd U o U' L ({ frames := 0, cells := 0, slots := 0, locals := 0 } : Room).cells ({ frames := 0, cells := 0, slots := 0, locals := 0 } : Room).slots) := by
  refine MetFree.of_bodySF (plainFor_of_name pn_0) hisR ?_
  intro p e s m args below meth c s₁ Bd hml0 hP hK
  obtain ⟨rfl, hZ, hh⟩ := hP
  have hx := Bd.exec
  have hby := Bd.bytes
  have hml : c.maxLocals = 1 := hml0
  have hown : s.vm.findClass "com/example/parley/parley/service/RequestQueue" = some m.cls := findClass_of_methodNamed Bd.named
  have hnm := (name_of_methodNamed Bd.named Bd.method).1
  have hlk : meth.locks = false := BodyLoose.notSynchronized Bd
  have X0 : Stand p l e ({ frames := 0, cells := 0, slots := 0, locals := 0 } : Room) s m #[(.ref a0)] below meth c s₁ [] 0 0 := Stand.of_body Bd
  have e0 : s₁.heap = h0 := by rw [← hh, Bd.state]; rfl
  have N0 := Fr.nil n0
  have ZZ := Z0
  show Go p e below s ({ frames := 0, cells := 0, slots := 0, locals := 0 } : Room).cells ({ frames := 0, cells := 0, slots := 0, locals := 0 } : Room).slots (fun v h L => Q_rm3 Z a0 sz h0 n0 v h L) s₁ (entryFrame m #[(.ref a0)] 1)
  refine Go.cast (ef_rm3 m a0) ?_
  refine Go.gen ?_
  intro K1 K2 QQ hK1 hK2 hQQ
  refine Go.on (fun _ k => XS.aloadN X0.here hx rfl (hb hby d3_0) rfl rfl k) ?_
  show Go _ _ _ _ _ _ _ _ (mkF m 1 #[.val (.ref a0)] [(.ref a0)])
  obtain ⟨T1, X1, e1, st1⟩ := getF X0 hx hZ hown (host := "") (Or.inl (hw _ (List.mem_of_getElem? (i := 20) rfl))) Via.refl e0 F_size_a0 (g := (mkF m 1 #[.val (.ref a0)] [(.ref a0)])) rfl rfl (hb hby d3_1)
  refine Go.on st1 ?_
  show Go _ _ _ _ _ _ _ _ (mkF m 4 #[.val (.ref a0)] [(.int sz)])
  suffices hJ3 : ∀ (v2 : Int32), v2 = (if sz = (0 : Int32) then (1 : Int32) else (0 : Int32)) → Go p e below s K1 K2 QQ T1 (mkF m 12 #[.val (.ref a0)] [(.int v2)]) by
    by_cases hc4 : sz = (0 : Int32)
    · -- pc 4 yes
      refine Go.on (fun _ k => XS.ifNo X1.here hx rfl (hb hby d3_4) rfl ((if0 _ _).trans (teq hc4).2) k) ?_
      show Go _ _ _ _ _ _ _ _ (mkF m 7 #[.val (.ref a0)] [])
      refine Go.on (fun _ k => XS.iconst X1.here hx rfl (hb hby d3_7) k) ?_
      show Go _ _ _ _ _ _ _ _ (mkF m 8 #[.val (.ref a0)] [(.int (1 : Int32))])
      refine Go.on (fun _ k => XS.goto X1.here hx rfl (pc0 := 8) (pc' := 12) rfl (hb hby d3_8) (by decide) (by decide) k) ?_
      show Go _ _ _ _ _ _ _ _ (mkF m 12 #[.val (.ref a0)] [(.int (1 : Int32))])
      exact hJ3 _ (by rw [if_pos hc4])
    · -- pc 4 no
      refine Go.on (fun _ k => XS.ifYes X1.here hx rfl (pc0 := 4) (pc' := 11) rfl (hb hby d3_4) rfl ((if0 _ _).trans (feq hc4).2) (by decide) (by decide) k) ?_
      show Go _ _ _ _ _ _ _ _ (mkF m 11 #[.val (.ref a0)] [])
      refine Go.on (fun _ k => XS.iconst X1.here hx rfl (hb hby d3_11) k) ?_
      show Go _ _ _ _ _ _ _ _ (mkF m 12 #[.val (.ref a0)] [(.int (0 : Int32))])
      exact hJ3 _ (by rw [if_neg hc4])
  intro v2 hv2
  refine Go.retN X1 hx (t := .boolean) Bd.returns (by simp) (hb hby d3_12) ?_ (by rw [hK1]; decide) (by rw [hK2]; decide)
  rw [e1, ← hQQ]
  refine ⟨?_, N0, rfl⟩
  rw [hv2]; split <;> rfl
theorem pd_0 : parseMethodDescriptor "(DI)V" = some ⟨[.double, .int], none⟩ := by decide +kernel
theorem pd_1 : parseMethodDescriptor "()Z" = some ⟨[], some .boolean⟩ := by decide +kernel
theorem pd_2 : parseMethodDescriptor "()V" = some ⟨[], none⟩ := by decide +kernel
theorem d4_0 : decode method_2_code 0 = .ok (.iload_n 2, 1) := by decide +kernel
theorem d4_1 : decode method_2_code 1 = .ok (.iconst 1, 1) := by decide +kernel
theorem d4_2 : decode method_2_code 2 = .ok (.iand, 1) := by decide +kernel
theorem d4_3 : decode method_2_code 3 = .ok (.ifCond .ne 7, 3) := by decide +kernel
theorem d4_6 : decode method_2_code 6 = .ok (.iload_n 1, 1) := by decide +kernel
theorem d4_7 : decode method_2_code 7 = .ok (.ifCond .ne 21, 3) := by decide +kernel
theorem d4_10 : decode method_2_code 10 = .ok (.aload_n 0, 1) := by decide +kernel
theorem d4_11 : decode method_2_code 11 = .ok (.iload_n 2, 1) := by decide +kernel
theorem d4_12 : decode method_2_code 12 = .ok (.sipush 255, 3) := by decide +kernel
theorem d4_15 : decode method_2_code 15 = .ok (.iand, 1) := by decide +kernel
theorem d4_16 : decode method_2_code 16 = .ok (.i2d, 1) := by decide +kernel
theorem d4_17 : decode method_2_code 17 = .ok (.iload_n 2, 1) := by decide +kernel
theorem d4_18 : decode method_2_code 18 = .ok (.invokevirtual 7, 3) := by decide +kernel
theorem d4_21 : decode method_2_code 21 = .ok (.iload_n 1, 1) := by decide +kernel
theorem d4_22 : decode method_2_code 22 = .ok (.iconst 1, 1) := by decide +kernel
theorem d4_23 : decode method_2_code 23 = .ok (.iadd, 1) := by decide +kernel
theorem d4_24 : decode method_2_code 24 = .ok (.istore_n 3, 1) := by decide +kernel
theorem d4_25 : decode method_2_code 25 = .ok (.goto 11, 3) := by decide +kernel
theorem d4_28 : decode method_2_code 28 = .ok (.aload_n 0, 1) := by decide +kernel
theorem d4_29 : decode method_2_code 29 = .ok (.invokevirtual 13, 3) := by decide +kernel
theorem d4_32 : decode method_2_code 32 = .ok (.iload_n 1, 1) := by decide +kernel
theorem d4_33 : decode method_2_code 33 = .ok (.iconst 1, 1) := by decide +kernel
theorem d4_34 : decode method_2_code 34 = .ok (.isub, 1) := by decide +kernel
theorem d4_35 : decode method_2_code 35 = .ok (.istore_n 3, 1) := by decide +kernel
theorem d4_36 : decode method_2_code 36 = .ok (.aload_n 0, 1) := by decide +kernel
theorem d4_37 : decode method_2_code 37 = .ok (.invokevirtual 16, 3) := by decide +kernel
theorem d4_40 : decode method_2_code 40 = .ok (.iload_n 3, 1) := by decide +kernel
theorem d4_41 : decode method_2_code 41 = .ok (.ifCond .ne 7, 3) := by decide +kernel
theorem d4_44 : decode method_2_code 44 = .ok (.iconst 1, 1) := by decide +kernel
theorem d4_45 : decode method_2_code 45 = .ok (.goto 4, 3) := by decide +kernel
theorem d4_48 : decode method_2_code 48 = .ok (.iconst 0, 1) := by decide +kernel
theorem d4_49 : decode method_2_code 49 = .ok (.if_icmp .eq 5, 3) := by decide +kernel
theorem d4_54 : decode method_2_code 54 = .ok (.iload_n 3, 1) := by decide +kernel
theorem d4_55 : decode method_2_code 55 = .ok (.ireturn, 1) := by decide +kernel
theorem pn_1 : plainName "com/example/parley/parley/service/RequestQueueIsEmptyPinLaw" = true := by first | (simp [plainName, overriddenIn]; done) | decide +kernel
theorem ef_rm4 (m : MethodId) (a0 : Addr) (i1 : Int32) (i2 : Int32) : entryFrame m #[(.ref a0), (.int i1), (.int i2)] 4 = mkF m 0 #[.val (.ref a0), .val (.int i1), .val (.int i2), .unset] [] := by first | (simp [entryFrame, mkF, argsToLocals, Value.category]; done) | rfl
def Q_rm4 (Z : State) (a0 : Addr) (i1 : Int32) (i2 : Int32) (a1 : Addr) (a2 : Addr) (hd : Int32) (k_a1 : ClassId) (vs : List Value) (k_a2 : ClassId) (us : List Value) (h0 : Heap) (n0 : Nat) (v : Option Value) (h : Heap) (L : List Loc) : Prop := v = some (.int (stepV i1 i2)) ∧ Fr n0 L ∧ ∃ (hd' : Int32) (vs' us' : List Value), Keep h0 h [a0, a1, a2] ∧ Exa Z h a0 "com/example/parley/parley/service/RequestQueue" ∧ Fld Z h a0 "com/example/parley/parley/service/RequestQueue" "arrivals" "[D" (.ref a1) ∧ Fld Z h a0 "com/example/parley/parley/service/RequestQueue" "providers" "[I" (.ref a2) ∧ Fld Z h a0 "com/example/parley/parley/service/RequestQueue" "head" "I" (.int hd') ∧ Fld Z h a0 "com/example/parley/parley/service/RequestQueue" "size" "I" (.int (stepV i1 i2)) ∧ Arv Z h a1 k_a1 .double (16 : Int32) vs' (.double (0 : UInt64)) ∧ Arv Z h a2 k_a2 .int (16 : Int32) us' (.int (0 : Int32)) ∧ vs'.length = 16 ∧ us'.length = 16 ∧ (¬ hd' < 0 ∧ hd' < (16 : Int32))
set_option maxRecDepth 65536 in
set_option maxHeartbeats 40000000 in
theorem rm4 (l : Launch) (Z : State) (aw : Array Value) (hw : ∀ d ∈ tables_1, d.before aw Z = true) (ws : List Jvm.Cond) (a0 : Addr) (i1 : Int32) (i2 : Int32) (a1 : Addr) (a2 : Addr) (hd : Int32) (k_a1 : ClassId) (vs : List Value) (k_a2 : ClassId) (us : List Value) (h0 : Heap) (n0 : Nat) (Z0 : n0 ≤ h0.size) (E_a0 : Exa Z h0 a0 "com/example/parley/parley/service/RequestQueue") (F_arrivals_a0 : Fld Z h0 a0 "com/example/parley/parley/service/RequestQueue" "arrivals" "[D" (.ref a1)) (F_providers_a0 : Fld Z h0 a0 "com/example/parley/parley/service/RequestQueue" "providers" "[I" (.ref a2)) (F_head_a0 : Fld Z h0 a0 "com/example/parley/parley/service/RequestQueue" "head" "I" (.int hd)) (F_size_a0 : Fld Z h0 a0 "com/example/parley/parley/service/RequestQueue" "size" "I" (.int i1)) (V_a1 : Arv Z h0 a1 k_a1 .double (16 : Int32) vs (.double (0 : UInt64))) (V_a2 : Arv Z h0 a2 k_a2 .int (16 : Int32) us (.int (0 : Int32))) (g_a0 : n0 ≤ a0) (g_a1 : n0 ≤ a1) (g_a2 : n0 ≤ a2) (ne_a0_a1 : a0 ≠ a1) (ne_a0_a2 : a0 ≠ a2) (ne_a1_a2 : a1 ≠ a2) (hbd : 0 ≤ i1.toInt ∧ i1.toInt ≤ 10) (hhd : ¬ hd < 0 ∧ hd < (16 : Int32)) (hl1 : vs.length = 16) (hl2 : us.length = 16) :
    MetFree l (⟨"com/example/parley/parley/service/RequestQueueIsEmptyPinLaw", "step", "(Lcom/example/parley/parley/service/RequestQueue;II)I"⟩ : MethodName) (head1 (Jvm.Cond.code (⟨"com/example/parley/parley/service/RequestQueueIsEmptyPinLaw", "step", "(Lcom/example/parley/parley/service/RequestQueue;II)I"⟩ : MethodName) method_2_code 4 (some .int) :: ws) ({ frames := 1, cells := 0, slots := 0, locals := 16 } : Room)) (fun a U => a = #[(.ref a0), (.int i1), (.int i2)] ∧ Z.Warmed39 U.vm ∧ U.heap = h0) (fun _ _ _ _ _ => True) (fun _ U o U' => ∃ v L, o = .returned v ∧ Q_rm4 Z a0 i1 i2 a1 a2 hd k_a1 vs k_a2 us h0 n0 v U'.heap L ∧ FrameEnd U o U' L ({ frames := 1, cells := 0, slots := 0, locals := 16 } : Room).cells ({ frames := 1, cells := 0, slots := 0, locals := 16 } : Room).slots) := by
  refine MetFree.of_bodySF (plainFor_of_name pn_1) hisR ?_
  intro p e s m args below meth c s₁ Bd hml0 hP hK
  obtain ⟨rfl, hZ, hh⟩ := hP
  have hx := Bd.exec
  have hby := Bd.bytes
  have hml : c.maxLocals = 4 := hml0
  have hown : s.vm.findClass "com/example/parley/parley/service/RequestQueueIsEmptyPinLaw" = some m.cls := findClass_of_methodNamed Bd.named
  have hnm := (name_of_methodNamed Bd.named Bd.method).1
  have hlk : meth.locks = false := BodyLoose.notSynchronized Bd
  have X0 : Stand p l e ({ frames := 1, cells := 0, slots := 0, locals := 16 } : Room) s m #[(.ref a0), (.int i1), (.int i2)] below meth c s₁ [] 0 0 := Stand.of_body Bd
  have e0 : s₁.heap = h0 := by rw [← hh, Bd.state]; rfl
  have N0 := Fr.nil n0
  have ZZ := Z0
  show Go p e below s ({ frames := 1, cells := 0, slots := 0, locals := 16 } : Room).cells ({ frames := 1, cells := 0, slots := 0, locals := 16 } : Room).slots (fun v h L => Q_rm4 Z a0 i1 i2 a1 a2 hd k_a1 vs k_a2 us h0 n0 v h L) s₁ (entryFrame m #[(.ref a0), (.int i1), (.int i2)] 4)
  refine Go.cast (ef_rm4 m a0 i1 i2) ?_
  refine Go.gen ?_
  intro K1 K2 QQ hK1 hK2 hQQ
  have KP : Keep h0 h0 [a0, a1, a2] := Keep.refl _ _
  refine Go.on (fun _ k => XS.iloadN X0.here hx rfl (hb hby d4_0) rfl k) ?_
  show Go _ _ _ _ _ _ _ _ (mkF m 1 #[.val (.ref a0), .val (.int i1), .val (.int i2), .unset] [(.int i2)])
  refine Go.on (fun _ k => XS.iconst X0.here hx rfl (hb hby d4_1) k) ?_
  show Go _ _ _ _ _ _ _ _ (mkF m 2 #[.val (.ref a0), .val (.int i1), .val (.int i2), .unset] [(.int (1 : Int32)), (.int i2)])
  refine Go.on (fun _ k => XS.iand X0.here hx rfl (hb hby d4_2) rfl k) ?_
  show Go _ _ _ _ _ _ _ _ (mkF m 3 #[.val (.ref a0), .val (.int i1), .val (.int i2), .unset] [(.int (i2 &&& (1 : Int32)))])
  by_cases hc1 : (i2 &&& (1 : Int32)) = (0 : Int32)
  · -- pc 3 yes
    refine Go.on (fun _ k => XS.ifNo X0.here hx rfl (hb hby d4_3) rfl ((if0 _ _).trans (teq hc1).2) k) ?_
    show Go _ _ _ _ _ _ _ _ (mkF m 6 #[.val (.ref a0), .val (.int i1), .val (.int i2), .unset] [])
    refine Go.on (fun _ k => XS.iloadN X0.here hx rfl (hb hby d4_6) rfl k) ?_
    show Go _ _ _ _ _ _ _ _ (mkF m 7 #[.val (.ref a0), .val (.int i1), .val (.int i2), .unset] [(.int i1)])
    by_cases hc2 : i1 = (0 : Int32)
    · -- pc 7 yes
      refine Go.on (fun _ k => XS.ifNo X0.here hx rfl (hb hby d4_7) rfl ((if0 _ _).trans (teq hc2).2) k) ?_
      show Go _ _ _ _ _ _ _ _ (mkF m 10 #[.val (.ref a0), .val (.int i1), .val (.int i2), .unset] [])
      refine Go.on (fun _ k => XS.aloadN X0.here hx rfl (hb hby d4_10) rfl rfl k) ?_
      show Go _ _ _ _ _ _ _ _ (mkF m 11 #[.val (.ref a0), .val (.int i1), .val (.int i2), .unset] [(.ref a0)])
      refine Go.on (fun _ k => XS.iloadN X0.here hx rfl (hb hby d4_11) rfl k) ?_
      show Go _ _ _ _ _ _ _ _ (mkF m 12 #[.val (.ref a0), .val (.int i1), .val (.int i2), .unset] [(.int i2), (.ref a0)])
      refine Go.on (fun _ k => XS.sipush X0.here hx rfl (hb hby d4_12) k) ?_
      show Go _ _ _ _ _ _ _ _ (mkF m 15 #[.val (.ref a0), .val (.int i1), .val (.int i2), .unset] [(.int (255 : Int32)), (.int i2), (.ref a0)])
      refine Go.on (fun _ k => XS.iand X0.here hx rfl (hb hby d4_15) rfl k) ?_
      show Go _ _ _ _ _ _ _ _ (mkF m 16 #[.val (.ref a0), .val (.int i1), .val (.int i2), .unset] [(.int (i2 &&& (255 : Int32))), (.ref a0)])
      refine Go.on (fun _ k => XS.i2dS X0.here hx rfl (hb hby d4_16) rfl rfl k) ?_
      show Go _ _ _ _ _ _ _ _ (mkF m 17 #[.val (.ref a0), .val (.int i1), .val (.int i2), .unset] [(.double (FP.i2d (i2 &&& (255 : Int32)))), (.ref a0)])
      refine Go.on (fun _ k => XS.iloadN X0.here hx rfl (hb hby d4_17) rfl k) ?_
      show Go _ _ _ _ _ _ _ _ (mkF m 18 #[.val (.ref a0), .val (.int i1), .val (.int i2), .unset] [(.int i2), (.double (FP.i2d (i2 &&& (255 : Int32)))), (.ref a0)])
      obtain ⟨cq3, kq3, q3a, q3b, q3c⟩ := isOf hZ e0 E_a0
      obtain ⟨_, _, ⟨T3, L3, k3, n3⟩, -, X3, ⟨Lc3, hQ3, l3, y3, z3⟩, st3⟩ := X0.virtualBack hx (y := (⟨"com/example/parley/parley/service/RequestQueue", "add", "(DI)V"⟩ : MethodName)) (z := (⟨"com/example/parley/parley/service/RequestQueue", "add", "(DI)V"⟩ : MethodName)) hown (mvT hZ (hw _ (List.mem_of_getElem? (i := 26) rfl))) (mvT hZ (hw _ (List.mem_of_getElem? (i := 27) rfl))) (notFace_of_selects (args := #[]) (mvT hZ (hw _ (List.mem_of_getElem? (i := 29) rfl)))) (mvT hZ (hw _ (List.mem_of_getElem? (i := 29) rfl))) (mvT hZ (hw _ (List.mem_of_getElem? (i := 28) rfl))) (by decide) (backOf (W := 0) (rm5 l Z aw hw [] a0 (FP.i2d (i2 &&& (255 : Int32))) i2 ((hd + i1) &&& ((16 : Int32) - (1 : Int32))).toNatClampNeg a1 a2 hd i1 k_a1 vs k_a2 us h0 n0 ZZ E_a0 F_arrivals_a0 F_providers_a0 F_head_a0 F_size_a0 V_a1 V_a2 g_a0 g_a1 g_a2 ne_a0_a1 ne_a0_a2 ne_a1_a2 (own_ne16 hbd) (own_idx _) rfl (own_pl hl1 _) (own_pl hl2 _)) hZ (hw _ (List.mem_of_getElem? (i := 30) rfl)) (hw _ (List.mem_of_getElem? (i := 2) rfl)) (by decide) (by decide)) q3a q3c (g := (mkF m 18 #[.val (.ref a0), .val (.int i1), .val (.int i2), .unset] [(.int i2), (.double (FP.i2d (i2 &&& (255 : Int32)))), (.ref a0)])) rfl (by rw [hml]; rfl) (Steps.refl _) (argsL := [(.double (FP.i2d (i2 &&& (255 : Int32)))), (.int i2)]) (rest := []) (lenOf pd_0 rfl) rfl (by show 2 * 0 + _ ≤ _; exact Nat.le_of_eq rfl) (hb hby d4_18) (fun _ _ => ⟨rfl, e0, (by decide : 0 + 0 ≤ _), (by decide : 0 + 0 ≤ _)⟩)
      dsimp only [Pt.U, Pt.locs, Pt.cells, Pt.slots] at X3 l3 y3 z3 st3 hQ3
      subst l3 y3 z3
      obtain ⟨h3, e3⟩ : ∃ q, T3.heap = q := ⟨_, rfl⟩
      rw [e3] at hQ3
      obtain ⟨rfl, N3q, K3q, Eq3, F_arrivalsq3, F_providersq3, F_headq3, F_sizeq3, V_1q3, V_2q3⟩ := hQ3
      have N3 := Fr.app N0 N3q
      have ZZ3p := ZZ
      have lt_a0 := E_a0.lt
      have lt_a1 := V_a1.lt
      have lt_a2 := V_a2.lt
      replace E_a0 := E_a0.keep K3q
      replace ZZ := Nat.le_trans ZZ K3q.1
      replace KP := KP.trans K3q (allS (Or.inl (List.mem_of_getElem? (i := 0) rfl)) (allS (Or.inl (List.mem_of_getElem? (i := 1) rfl)) (allS (Or.inl (List.mem_of_getElem? (i := 2) rfl)) all0)))
      have F_arrivals_a0 := F_arrivalsq3
      have F_providers_a0 := F_providersq3
      have F_head_a0 := F_headq3
      have F_size_a0 : Fld Z h3 a0 "com/example/parley/parley/service/RequestQueue" "size" "I" (.int (i1 + (1 : Int32))) := F_sizeq3
      have V_a1 := V_1q3
      have V_a2 := V_2q3
      refine Go.on (fun _ k => st3.trans k) ?_
      show Go _ _ _ _ _ _ _ _ (mkF m 21 #[.val (.ref a0), .val (.int i1), .val (.int i2), .unset] [])
      refine Go.on (fun _ k => XS.iloadN X3.here hx rfl (hb hby d4_21) rfl k) ?_
      show Go _ _ _ _ _ _ _ _ (mkF m 22 #[.val (.ref a0), .val (.int i1), .val (.int i2), .unset] [(.int i1)])
      refine Go.on (fun _ k => XS.iconst X3.here hx rfl (hb hby d4_22) k) ?_
      show Go _ _ _ _ _ _ _ _ (mkF m 23 #[.val (.ref a0), .val (.int i1), .val (.int i2), .unset] [(.int (1 : Int32)), (.int i1)])
      refine Go.on (fun _ k => XS.iadd X3.here hx rfl (hb hby d4_23) rfl k) ?_
      show Go _ _ _ _ _ _ _ _ (mkF m 24 #[.val (.ref a0), .val (.int i1), .val (.int i2), .unset] [(.int (i1 + (1 : Int32)))])
      refine Go.on (fun _ k => XS.istoreN X3.here hx rfl (hb hby d4_24) rfl (l' := #[.val (.ref a0), .val (.int i1), .val (.int i2), .val (.int (i1 + (1 : Int32)))]) rfl k) ?_
      show Go _ _ _ _ _ _ _ _ (mkF m 25 #[.val (.ref a0), .val (.int i1), .val (.int i2), .val (.int (i1 + (1 : Int32)))] [])
      generalize hsz2 : (i1 + (1 : Int32)) = sz2
      show Go _ _ _ _ _ _ _ _ (mkF m 25 #[.val (.ref a0), .val (.int i1), .val (.int i2), .val (.int sz2)] [])
      refine Go.on (fun _ k => XS.goto X3.here hx rfl (pc0 := 25) (pc' := 36) rfl (hb hby d4_25) (by decide) (by decide) k) ?_
      show Go _ _ _ _ _ _ _ _ (mkF m 36 #[.val (.ref a0), .val (.int i1), .val (.int i2), .val (.int sz2)] [])
      refine Go.on (fun _ k => XS.aloadN X3.here hx rfl (hb hby d4_36) rfl rfl k) ?_
      show Go _ _ _ _ _ _ _ _ (mkF m 37 #[.val (.ref a0), .val (.int i1), .val (.int i2), .val (.int sz2)] [(.ref a0)])
      obtain ⟨cq4, kq4, q4a, q4b, q4c⟩ := isOf hZ e3 E_a0
      obtain ⟨_, _, ⟨T4, L4, k4, n4⟩, -, X4, ⟨Lc4, hQ4, l4, y4, z4⟩, st4⟩ := X3.virtualBack hx (y := (⟨"com/example/parley/parley/service/RequestQueue", "isEmpty", "()Z"⟩ : MethodName)) (z := (⟨"com/example/parley/parley/service/RequestQueue", "isEmpty", "()Z"⟩ : MethodName)) hown (mvT hZ (hw _ (List.mem_of_getElem? (i := 15) rfl))) (mvT hZ (hw _ (List.mem_of_getElem? (i := 16) rfl))) (notFace_of_selects (args := #[]) (mvT hZ (hw _ (List.mem_of_getElem? (i := 18) rfl)))) (mvT hZ (hw _ (List.mem_of_getElem? (i := 18) rfl))) (mvT hZ (hw _ (List.mem_of_getElem? (i := 17) rfl))) (by decide) (backOf (W := 0) (rm3 l Z aw hw [] a0 (i1 + (1 : Int32)) h3 n0 ZZ F_size_a0) hZ (hw _ (List.mem_of_getElem? (i := 19) rfl)) (hw _ (List.mem_of_getElem? (i := 2) rfl)) (by decide) (by decide)) q4a q4c (g := (mkF m 37 #[.val (.ref a0), .val (.int i1), .val (.int i2), .val (.int sz2)] [(.ref a0)])) rfl (by rw [hml]; rfl) (Steps.refl _) (argsL := []) (rest := []) (lenOf pd_1 rfl) rfl (by show 2 * 0 + _ ≤ _; exact Nat.le_of_eq rfl) (hb hby d4_37) (fun _ _ => ⟨rfl, e3, (by decide : 0 + 0 ≤ _), (by decide : 0 + 0 ≤ _)⟩)
      dsimp only [Pt.U, Pt.locs, Pt.cells, Pt.slots] at X4 l4 y4 z4 st4 hQ4
      subst l4 y4 z4
      obtain ⟨rfl, N4q, e4⟩ := hQ4
      have N4 := Fr.app N3 N4q
      refine Go.on (fun _ k => st4.trans k) ?_
      show Go _ _ _ _ _ _ _ _ (mkF m 40 #[.val (.ref a0), .val (.int i1), .val (.int i2), .val (.int sz2)] [(.int (if (i1 + (1 : Int32)) = (0 : Int32) then (1 : Int32) else (0 : Int32)))])
      generalize hem : (if (i1 + (1 : Int32)) = (0 : Int32) then (1 : Int32) else (0 : Int32)) = em
      show Go _ _ _ _ _ _ _ _ (mkF m 40 #[.val (.ref a0), .val (.int i1), .val (.int i2), .val (.int sz2)] [(.int em)])
      refine Go.on (fun _ k => XS.iloadN X4.here hx rfl (hb hby d4_40) rfl k) ?_
      show Go _ _ _ _ _ _ _ _ (mkF m 41 #[.val (.ref a0), .val (.int i1), .val (.int i2), .val (.int sz2)] [(.int sz2), (.int em)])
      suffices hJ5 : ∀ (mm : Int32), mm = (if sz2 = (0 : Int32) then (1 : Int32) else (0 : Int32)) → Go p e below s K1 K2 QQ T4 (mkF m 49 #[.val (.ref a0), .val (.int i1), .val (.int i2), .val (.int sz2)] [(.int mm), (.int em)]) by
        by_cases hc6 : sz2 = (0 : Int32)
        · -- pc 41 yes
          refine Go.on (fun _ k => XS.ifNo X4.here hx rfl (hb hby d4_41) rfl ((if0 _ _).trans (teq hc6).2) k) ?_
          show Go _ _ _ _ _ _ _ _ (mkF m 44 #[.val (.ref a0), .val (.int i1), .val (.int i2), .val (.int sz2)] [(.int em)])
          refine Go.on (fun _ k => XS.iconst X4.here hx rfl (hb hby d4_44) k) ?_
          show Go _ _ _ _ _ _ _ _ (mkF m 45 #[.val (.ref a0), .val (.int i1), .val (.int i2), .val (.int sz2)] [(.int (1 : Int32)), (.int em)])
          refine Go.on (fun _ k => XS.goto X4.here hx rfl (pc0 := 45) (pc' := 49) rfl (hb hby d4_45) (by decide) (by decide) k) ?_
          show Go _ _ _ _ _ _ _ _ (mkF m 49 #[.val (.ref a0), .val (.int i1), .val (.int i2), .val (.int sz2)] [(.int (1 : Int32)), (.int em)])
          exact hJ5 _ (by rw [if_pos hc6])
        · -- pc 41 no
          refine Go.on (fun _ k => XS.ifYes X4.here hx rfl (pc0 := 41) (pc' := 48) rfl (hb hby d4_41) rfl ((if0 _ _).trans (feq hc6).2) (by decide) (by decide) k) ?_
          show Go _ _ _ _ _ _ _ _ (mkF m 48 #[.val (.ref a0), .val (.int i1), .val (.int i2), .val (.int sz2)] [(.int em)])
          refine Go.on (fun _ k => XS.iconst X4.here hx rfl (hb hby d4_48) k) ?_
          show Go _ _ _ _ _ _ _ _ (mkF m 49 #[.val (.ref a0), .val (.int i1), .val (.int i2), .val (.int sz2)] [(.int (0 : Int32)), (.int em)])
          exact hJ5 _ (by rw [if_neg hc6])
      intro mm hmm
      have hc7 : em = mm := by rw [← hem, hmm, hsz2]
      refine Go.on (fun _ k => XS.icmpYes X4.here hx rfl (pc0 := 49) (pc' := 54) rfl (hb hby d4_49) rfl (teq hc7).1 (by decide) (by decide) k) ?_
      show Go _ _ _ _ _ _ _ _ (mkF m 54 #[.val (.ref a0), .val (.int i1), .val (.int i2), .val (.int sz2)] [])
      refine Go.on (fun _ k => XS.iloadN X4.here hx rfl (hb hby d4_54) rfl k) ?_
      show Go _ _ _ _ _ _ _ _ (mkF m 55 #[.val (.ref a0), .val (.int i1), .val (.int i2), .val (.int sz2)] [(.int sz2)])
      refine Go.retV X4 hx Bd.returns rfl (Or.inl ⟨rfl, Or.inl rfl, _, rfl⟩) (hb hby d4_55) ?_ (by rw [hK1]; decide) (by rw [hK2]; decide)
      rw [e4, ← hQQ]
      have hst : stepV i1 i2 = sz2 := by unfold stepV; rw [if_pos hc1, if_pos hc2]; exact hsz2
      unfold Q_rm4; rw [hst]
      exact ⟨rfl, N4, hd, _, _, KP, E_a0, F_arrivals_a0, F_providers_a0, F_head_a0, hsz2 ▸ F_size_a0, V_a1, V_a2, by rw [List.length_set]; exact hl1, by rw [List.length_set]; exact hl2, hhd⟩
    · -- pc 7 no
      refine Go.on (fun _ k => XS.ifYes X0.here hx rfl (pc0 := 7) (pc' := 28) rfl (hb hby d4_7) rfl ((if0 _ _).trans (feq hc2).2) (by decide) (by decide) k) ?_
      show Go _ _ _ _ _ _ _ _ (mkF m 28 #[.val (.ref a0), .val (.int i1), .val (.int i2), .unset] [])
      refine Go.on (fun _ k => XS.aloadN X0.here hx rfl (hb hby d4_28) rfl rfl k) ?_
      show Go _ _ _ _ _ _ _ _ (mkF m 29 #[.val (.ref a0), .val (.int i1), .val (.int i2), .unset] [(.ref a0)])
      obtain ⟨cq8, kq8, q8a, q8b, q8c⟩ := isOf hZ e0 E_a0
      obtain ⟨_, _, ⟨T8, L8, k8, n8⟩, -, X8, ⟨Lc8, hQ8, l8, y8, z8⟩, st8⟩ := X0.virtualBack hx (y := (⟨"com/example/parley/parley/service/RequestQueue", "removeFirst", "()V"⟩ : MethodName)) (z := (⟨"com/example/parley/parley/service/RequestQueue", "removeFirst", "()V"⟩ : MethodName)) hown (mvT hZ (hw _ (List.mem_of_getElem? (i := 33) rfl))) (mvT hZ (hw _ (List.mem_of_getElem? (i := 34) rfl))) (notFace_of_selects (args := #[]) (mvT hZ (hw _ (List.mem_of_getElem? (i := 36) rfl)))) (mvT hZ (hw _ (List.mem_of_getElem? (i := 36) rfl))) (mvT hZ (hw _ (List.mem_of_getElem? (i := 35) rfl))) (by decide) (backOf (W := 0) (rm6 l Z aw hw [] a0 a1 a2 hd i1 k_a1 vs h0 n0 ZZ E_a0 F_arrivals_a0 F_providers_a0 F_head_a0 F_size_a0 V_a1 g_a0 ne_a0_a1) hZ (hw _ (List.mem_of_getElem? (i := 37) rfl)) (hw _ (List.mem_of_getElem? (i := 2) rfl)) (by decide) (by decide)) q8a q8c (g := (mkF m 29 #[.val (.ref a0), .val (.int i1), .val (.int i2), .unset] [(.ref a0)])) rfl (by rw [hml]; rfl) (Steps.refl _) (argsL := []) (rest := []) (lenOf pd_2 rfl) rfl (by show 2 * 0 + _ ≤ _; exact Nat.le_of_eq rfl) (hb hby d4_29) (fun _ _ => ⟨rfl, e0, (by decide : 0 + 0 ≤ _), (by decide : 0 + 0 ≤ _)⟩)
      dsimp only [Pt.U, Pt.locs, Pt.cells, Pt.slots] at X8 l8 y8 z8 st8 hQ8
      subst l8 y8 z8
      obtain ⟨h8, e8⟩ : ∃ q, T8.heap = q := ⟨_, rfl⟩
      rw [e8] at hQ8
      obtain ⟨rfl, N8q, K8q, Eq8, F_arrivalsq8, F_providersq8, F_headq8, F_sizeq8⟩ := hQ8
      have N8 := Fr.app N0 N8q
      have ZZ8p := ZZ
      have lt_a0 := E_a0.lt
      have lt_a1 := V_a1.lt
      have lt_a2 := V_a2.lt
      replace E_a0 := E_a0.keep K8q
      replace V_a1 := V_a1.keep K8q (ninS (Ne.symm ne_a0_a1) nin0)
      replace V_a2 := V_a2.keep K8q (ninS (Ne.symm ne_a0_a2) nin0)
      replace ZZ := Nat.le_trans ZZ K8q.1
      replace KP := KP.trans K8q (allS (Or.inl (List.mem_of_getElem? (i := 0) rfl)) all0)
      have F_arrivals_a0 := F_arrivalsq8
      have F_providers_a0 := F_providersq8
      have F_head_a0 : Fld Z h8 a0 "com/example/parley/parley/service/RequestQueue" "head" "I" (.int ((hd + (1 : Int32)) &&& ((16 : Int32) - (1 : Int32)))) := F_headq8
      have F_size_a0 : Fld Z h8 a0 "com/example/parley/parley/service/RequestQueue" "size" "I" (.int (i1 - (1 : Int32))) := F_sizeq8
      refine Go.on (fun _ k => st8.trans k) ?_
      show Go _ _ _ _ _ _ _ _ (mkF m 32 #[.val (.ref a0), .val (.int i1), .val (.int i2), .unset] [])
      refine Go.on (fun _ k => XS.iloadN X8.here hx rfl (hb hby d4_32) rfl k) ?_
      show Go _ _ _ _ _ _ _ _ (mkF m 33 #[.val (.ref a0), .val (.int i1), .val (.int i2), .unset] [(.int i1)])
      refine Go.on (fun _ k => XS.iconst X8.here hx rfl (hb hby d4_33) k) ?_
      show Go _ _ _ _ _ _ _ _ (mkF m 34 #[.val (.ref a0), .val (.int i1), .val (.int i2), .unset] [(.int (1 : Int32)), (.int i1)])
      refine Go.on (fun _ k => XS.isub X8.here hx rfl (hb hby d4_34) rfl k) ?_
      show Go _ _ _ _ _ _ _ _ (mkF m 35 #[.val (.ref a0), .val (.int i1), .val (.int i2), .unset] [(.int (i1 - (1 : Int32)))])
      refine Go.on (fun _ k => XS.istoreN X8.here hx rfl (hb hby d4_35) rfl (l' := #[.val (.ref a0), .val (.int i1), .val (.int i2), .val (.int (i1 - (1 : Int32)))]) rfl k) ?_
      show Go _ _ _ _ _ _ _ _ (mkF m 36 #[.val (.ref a0), .val (.int i1), .val (.int i2), .val (.int (i1 - (1 : Int32)))] [])
      generalize hsz2 : (i1 - (1 : Int32)) = sz2
      show Go _ _ _ _ _ _ _ _ (mkF m 36 #[.val (.ref a0), .val (.int i1), .val (.int i2), .val (.int sz2)] [])
      refine Go.on (fun _ k => XS.aloadN X8.here hx rfl (hb hby d4_36) rfl rfl k) ?_
      show Go _ _ _ _ _ _ _ _ (mkF m 37 #[.val (.ref a0), .val (.int i1), .val (.int i2), .val (.int sz2)] [(.ref a0)])
      obtain ⟨cq9, kq9, q9a, q9b, q9c⟩ := isOf hZ e8 E_a0
      obtain ⟨_, _, ⟨T9, L9, k9, n9⟩, -, X9, ⟨Lc9, hQ9, l9, y9, z9⟩, st9⟩ := X8.virtualBack hx (y := (⟨"com/example/parley/parley/service/RequestQueue", "isEmpty", "()Z"⟩ : MethodName)) (z := (⟨"com/example/parley/parley/service/RequestQueue", "isEmpty", "()Z"⟩ : MethodName)) hown (mvT hZ (hw _ (List.mem_of_getElem? (i := 15) rfl))) (mvT hZ (hw _ (List.mem_of_getElem? (i := 16) rfl))) (notFace_of_selects (args := #[]) (mvT hZ (hw _ (List.mem_of_getElem? (i := 18) rfl)))) (mvT hZ (hw _ (List.mem_of_getElem? (i := 18) rfl))) (mvT hZ (hw _ (List.mem_of_getElem? (i := 17) rfl))) (by decide) (backOf (W := 0) (rm3 l Z aw hw [] a0 (i1 - (1 : Int32)) h8 n0 ZZ F_size_a0) hZ (hw _ (List.mem_of_getElem? (i := 19) rfl)) (hw _ (List.mem_of_getElem? (i := 2) rfl)) (by decide) (by decide)) q9a q9c (g := (mkF m 37 #[.val (.ref a0), .val (.int i1), .val (.int i2), .val (.int sz2)] [(.ref a0)])) rfl (by rw [hml]; rfl) (Steps.refl _) (argsL := []) (rest := []) (lenOf pd_1 rfl) rfl (by show 2 * 0 + _ ≤ _; exact Nat.le_of_eq rfl) (hb hby d4_37) (fun _ _ => ⟨rfl, e8, (by decide : 0 + 0 ≤ _), (by decide : 0 + 0 ≤ _)⟩)
      dsimp only [Pt.U, Pt.locs, Pt.cells, Pt.slots] at X9 l9 y9 z9 st9 hQ9
      subst l9 y9 z9
      obtain ⟨rfl, N9q, e9⟩ := hQ9
      have N9 := Fr.app N8 N9q
      refine Go.on (fun _ k => st9.trans k) ?_
      show Go _ _ _ _ _ _ _ _ (mkF m 40 #[.val (.ref a0), .val (.int i1), .val (.int i2), .val (.int sz2)] [(.int (if (i1 - (1 : Int32)) = (0 : Int32) then (1 : Int32) else (0 : Int32)))])
      generalize hem : (if (i1 - (1 : Int32)) = (0 : Int32) then (1 : Int32) else (0 : Int32)) = em
      show Go _ _ _ _ _ _ _ _ (mkF m 40 #[.val (.ref a0), .val (.int i1), .val (.int i2), .val (.int sz2)] [(.int em)])
      refine Go.on (fun _ k => XS.iloadN X9.here hx rfl (hb hby d4_40) rfl k) ?_
      show Go _ _ _ _ _ _ _ _ (mkF m 41 #[.val (.ref a0), .val (.int i1), .val (.int i2), .val (.int sz2)] [(.int sz2), (.int em)])
      suffices hJ10 : ∀ (mm : Int32), mm = (if sz2 = (0 : Int32) then (1 : Int32) else (0 : Int32)) → Go p e below s K1 K2 QQ T9 (mkF m 49 #[.val (.ref a0), .val (.int i1), .val (.int i2), .val (.int sz2)] [(.int mm), (.int em)]) by
        by_cases hc11 : sz2 = (0 : Int32)
        · -- pc 41 yes
          refine Go.on (fun _ k => XS.ifNo X9.here hx rfl (hb hby d4_41) rfl ((if0 _ _).trans (teq hc11).2) k) ?_
          show Go _ _ _ _ _ _ _ _ (mkF m 44 #[.val (.ref a0), .val (.int i1), .val (.int i2), .val (.int sz2)] [(.int em)])
          refine Go.on (fun _ k => XS.iconst X9.here hx rfl (hb hby d4_44) k) ?_
          show Go _ _ _ _ _ _ _ _ (mkF m 45 #[.val (.ref a0), .val (.int i1), .val (.int i2), .val (.int sz2)] [(.int (1 : Int32)), (.int em)])
          refine Go.on (fun _ k => XS.goto X9.here hx rfl (pc0 := 45) (pc' := 49) rfl (hb hby d4_45) (by decide) (by decide) k) ?_
          show Go _ _ _ _ _ _ _ _ (mkF m 49 #[.val (.ref a0), .val (.int i1), .val (.int i2), .val (.int sz2)] [(.int (1 : Int32)), (.int em)])
          exact hJ10 _ (by rw [if_pos hc11])
        · -- pc 41 no
          refine Go.on (fun _ k => XS.ifYes X9.here hx rfl (pc0 := 41) (pc' := 48) rfl (hb hby d4_41) rfl ((if0 _ _).trans (feq hc11).2) (by decide) (by decide) k) ?_
          show Go _ _ _ _ _ _ _ _ (mkF m 48 #[.val (.ref a0), .val (.int i1), .val (.int i2), .val (.int sz2)] [(.int em)])
          refine Go.on (fun _ k => XS.iconst X9.here hx rfl (hb hby d4_48) k) ?_
          show Go _ _ _ _ _ _ _ _ (mkF m 49 #[.val (.ref a0), .val (.int i1), .val (.int i2), .val (.int sz2)] [(.int (0 : Int32)), (.int em)])
          exact hJ10 _ (by rw [if_neg hc11])
      intro mm hmm
      have hc12 : em = mm := by rw [← hem, hmm, hsz2]
      refine Go.on (fun _ k => XS.icmpYes X9.here hx rfl (pc0 := 49) (pc' := 54) rfl (hb hby d4_49) rfl (teq hc12).1 (by decide) (by decide) k) ?_
      show Go _ _ _ _ _ _ _ _ (mkF m 54 #[.val (.ref a0), .val (.int i1), .val (.int i2), .val (.int sz2)] [])
      refine Go.on (fun _ k => XS.iloadN X9.here hx rfl (hb hby d4_54) rfl k) ?_
      show Go _ _ _ _ _ _ _ _ (mkF m 55 #[.val (.ref a0), .val (.int i1), .val (.int i2), .val (.int sz2)] [(.int sz2)])
      refine Go.retV X9 hx Bd.returns rfl (Or.inl ⟨rfl, Or.inl rfl, _, rfl⟩) (hb hby d4_55) ?_ (by rw [hK1]; decide) (by rw [hK2]; decide)
      rw [e9, ← hQQ]
      have hst : stepV i1 i2 = sz2 := by unfold stepV; rw [if_pos hc1, if_neg hc2]; exact hsz2
      unfold Q_rm4; rw [hst]
      exact ⟨rfl, N9, _, vs, us, KP, E_a0, F_arrivals_a0, F_providers_a0, F_head_a0, hsz2 ▸ F_size_a0, V_a1, V_a2, hl1, hl2, own_idx _⟩
  · -- pc 3 no
    refine Go.on (fun _ k => XS.ifYes X0.here hx rfl (pc0 := 3) (pc' := 10) rfl (hb hby d4_3) rfl ((if0 _ _).trans (feq hc1).2) (by decide) (by decide) k) ?_
    show Go _ _ _ _ _ _ _ _ (mkF m 10 #[.val (.ref a0), .val (.int i1), .val (.int i2), .unset] [])
    refine Go.on (fun _ k => XS.aloadN X0.here hx rfl (hb hby d4_10) rfl rfl k) ?_
    show Go _ _ _ _ _ _ _ _ (mkF m 11 #[.val (.ref a0), .val (.int i1), .val (.int i2), .unset] [(.ref a0)])
    refine Go.on (fun _ k => XS.iloadN X0.here hx rfl (hb hby d4_11) rfl k) ?_
    show Go _ _ _ _ _ _ _ _ (mkF m 12 #[.val (.ref a0), .val (.int i1), .val (.int i2), .unset] [(.int i2), (.ref a0)])
    refine Go.on (fun _ k => XS.sipush X0.here hx rfl (hb hby d4_12) k) ?_
    show Go _ _ _ _ _ _ _ _ (mkF m 15 #[.val (.ref a0), .val (.int i1), .val (.int i2), .unset] [(.int (255 : Int32)), (.int i2), (.ref a0)])
    refine Go.on (fun _ k => XS.iand X0.here hx rfl (hb hby d4_15) rfl k) ?_
    show Go _ _ _ _ _ _ _ _ (mkF m 16 #[.val (.ref a0), .val (.int i1), .val (.int i2), .unset] [(.int (i2 &&& (255 : Int32))), (.ref a0)])
    refine Go.on (fun _ k => XS.i2dS X0.here hx rfl (hb hby d4_16) rfl rfl k) ?_
    show Go _ _ _ _ _ _ _ _ (mkF m 17 #[.val (.ref a0), .val (.int i1), .val (.int i2), .unset] [(.double (FP.i2d (i2 &&& (255 : Int32)))), (.ref a0)])
    refine Go.on (fun _ k => XS.iloadN X0.here hx rfl (hb hby d4_17) rfl k) ?_
    show Go _ _ _ _ _ _ _ _ (mkF m 18 #[.val (.ref a0), .val (.int i1), .val (.int i2), .unset] [(.int i2), (.double (FP.i2d (i2 &&& (255 : Int32)))), (.ref a0)])
    obtain ⟨cq13, kq13, q13a, q13b, q13c⟩ := isOf hZ e0 E_a0
    obtain ⟨_, _, ⟨T13, L13, k13, n13⟩, -, X13, ⟨Lc13, hQ13, l13, y13, z13⟩, st13⟩ := X0.virtualBack hx (y := (⟨"com/example/parley/parley/service/RequestQueue", "add", "(DI)V"⟩ : MethodName)) (z := (⟨"com/example/parley/parley/service/RequestQueue", "add", "(DI)V"⟩ : MethodName)) hown (mvT hZ (hw _ (List.mem_of_getElem? (i := 26) rfl))) (mvT hZ (hw _ (List.mem_of_getElem? (i := 27) rfl))) (notFace_of_selects (args := #[]) (mvT hZ (hw _ (List.mem_of_getElem? (i := 29) rfl)))) (mvT hZ (hw _ (List.mem_of_getElem? (i := 29) rfl))) (mvT hZ (hw _ (List.mem_of_getElem? (i := 28) rfl))) (by decide) (backOf (W := 0) (rm5 l Z aw hw [] a0 (FP.i2d (i2 &&& (255 : Int32))) i2 ((hd + i1) &&& ((16 : Int32) - (1 : Int32))).toNatClampNeg a1 a2 hd i1 k_a1 vs k_a2 us h0 n0 ZZ E_a0 F_arrivals_a0 F_providers_a0 F_head_a0 F_size_a0 V_a1 V_a2 g_a0 g_a1 g_a2 ne_a0_a1 ne_a0_a2 ne_a1_a2 (own_ne16 hbd) (own_idx _) rfl (own_pl hl1 _) (own_pl hl2 _)) hZ (hw _ (List.mem_of_getElem? (i := 30) rfl)) (hw _ (List.mem_of_getElem? (i := 2) rfl)) (by decide) (by decide)) q13a q13c (g := (mkF m 18 #[.val (.ref a0), .val (.int i1), .val (.int i2), .unset] [(.int i2), (.double (FP.i2d (i2 &&& (255 : Int32)))), (.ref a0)])) rfl (by rw [hml]; rfl) (Steps.refl _) (argsL := [(.double (FP.i2d (i2 &&& (255 : Int32)))), (.int i2)]) (rest := []) (lenOf pd_0 rfl) rfl (by show 2 * 0 + _ ≤ _; exact Nat.le_of_eq rfl) (hb hby d4_18) (fun _ _ => ⟨rfl, e0, (by decide : 0 + 0 ≤ _), (by decide : 0 + 0 ≤ _)⟩)
    dsimp only [Pt.U, Pt.locs, Pt.cells, Pt.slots] at X13 l13 y13 z13 st13 hQ13
    subst l13 y13 z13
    obtain ⟨h13, e13⟩ : ∃ q, T13.heap = q := ⟨_, rfl⟩
    rw [e13] at hQ13
    obtain ⟨rfl, N13q, K13q, Eq13, F_arrivalsq13, F_providersq13, F_headq13, F_sizeq13, V_1q13, V_2q13⟩ := hQ13
    have N13 := Fr.app N0 N13q
    have ZZ13p := ZZ
    have lt_a0 := E_a0.lt
    have lt_a1 := V_a1.lt
    have lt_a2 := V_a2.lt
    replace E_a0 := E_a0.keep K13q
    replace ZZ := Nat.le_trans ZZ K13q.1
    replace KP := KP.trans K13q (allS (Or.inl (List.mem_of_getElem? (i := 0) rfl)) (allS (Or.inl (List.mem_of_getElem? (i := 1) rfl)) (allS (Or.inl (List.mem_of_getElem? (i := 2) rfl)) all0)))
    have F_arrivals_a0 := F_arrivalsq13
    have F_providers_a0 := F_providersq13
    have F_head_a0 := F_headq13
    have F_size_a0 : Fld Z h13 a0 "com/example/parley/parley/service/RequestQueue" "size" "I" (.int (i1 + (1 : Int32))) := F_sizeq13
    have V_a1 := V_1q13
    have V_a2 := V_2q13
    refine Go.on (fun _ k => st13.trans k) ?_
    show Go _ _ _ _ _ _ _ _ (mkF m 21 #[.val (.ref a0), .val (.int i1), .val (.int i2), .unset] [])
    refine Go.on (fun _ k => XS.iloadN X13.here hx rfl (hb hby d4_21) rfl k) ?_
    show Go _ _ _ _ _ _ _ _ (mkF m 22 #[.val (.ref a0), .val (.int i1), .val (.int i2), .unset] [(.int i1)])
    refine Go.on (fun _ k => XS.iconst X13.here hx rfl (hb hby d4_22) k) ?_
    show Go _ _ _ _ _ _ _ _ (mkF m 23 #[.val (.ref a0), .val (.int i1), .val (.int i2), .unset] [(.int (1 : Int32)), (.int i1)])
    refine Go.on (fun _ k => XS.iadd X13.here hx rfl (hb hby d4_23) rfl k) ?_
    show Go _ _ _ _ _ _ _ _ (mkF m 24 #[.val (.ref a0), .val (.int i1), .val (.int i2), .unset] [(.int (i1 + (1 : Int32)))])
    refine Go.on (fun _ k => XS.istoreN X13.here hx rfl (hb hby d4_24) rfl (l' := #[.val (.ref a0), .val (.int i1), .val (.int i2), .val (.int (i1 + (1 : Int32)))]) rfl k) ?_
    show Go _ _ _ _ _ _ _ _ (mkF m 25 #[.val (.ref a0), .val (.int i1), .val (.int i2), .val (.int (i1 + (1 : Int32)))] [])
    generalize hsz2 : (i1 + (1 : Int32)) = sz2
    show Go _ _ _ _ _ _ _ _ (mkF m 25 #[.val (.ref a0), .val (.int i1), .val (.int i2), .val (.int sz2)] [])
    refine Go.on (fun _ k => XS.goto X13.here hx rfl (pc0 := 25) (pc' := 36) rfl (hb hby d4_25) (by decide) (by decide) k) ?_
    show Go _ _ _ _ _ _ _ _ (mkF m 36 #[.val (.ref a0), .val (.int i1), .val (.int i2), .val (.int sz2)] [])
    refine Go.on (fun _ k => XS.aloadN X13.here hx rfl (hb hby d4_36) rfl rfl k) ?_
    show Go _ _ _ _ _ _ _ _ (mkF m 37 #[.val (.ref a0), .val (.int i1), .val (.int i2), .val (.int sz2)] [(.ref a0)])
    obtain ⟨cq14, kq14, q14a, q14b, q14c⟩ := isOf hZ e13 E_a0
    obtain ⟨_, _, ⟨T14, L14, k14, n14⟩, -, X14, ⟨Lc14, hQ14, l14, y14, z14⟩, st14⟩ := X13.virtualBack hx (y := (⟨"com/example/parley/parley/service/RequestQueue", "isEmpty", "()Z"⟩ : MethodName)) (z := (⟨"com/example/parley/parley/service/RequestQueue", "isEmpty", "()Z"⟩ : MethodName)) hown (mvT hZ (hw _ (List.mem_of_getElem? (i := 15) rfl))) (mvT hZ (hw _ (List.mem_of_getElem? (i := 16) rfl))) (notFace_of_selects (args := #[]) (mvT hZ (hw _ (List.mem_of_getElem? (i := 18) rfl)))) (mvT hZ (hw _ (List.mem_of_getElem? (i := 18) rfl))) (mvT hZ (hw _ (List.mem_of_getElem? (i := 17) rfl))) (by decide) (backOf (W := 0) (rm3 l Z aw hw [] a0 (i1 + (1 : Int32)) h13 n0 ZZ F_size_a0) hZ (hw _ (List.mem_of_getElem? (i := 19) rfl)) (hw _ (List.mem_of_getElem? (i := 2) rfl)) (by decide) (by decide)) q14a q14c (g := (mkF m 37 #[.val (.ref a0), .val (.int i1), .val (.int i2), .val (.int sz2)] [(.ref a0)])) rfl (by rw [hml]; rfl) (Steps.refl _) (argsL := []) (rest := []) (lenOf pd_1 rfl) rfl (by show 2 * 0 + _ ≤ _; exact Nat.le_of_eq rfl) (hb hby d4_37) (fun _ _ => ⟨rfl, e13, (by decide : 0 + 0 ≤ _), (by decide : 0 + 0 ≤ _)⟩)
    dsimp only [Pt.U, Pt.locs, Pt.cells, Pt.slots] at X14 l14 y14 z14 st14 hQ14
    subst l14 y14 z14
    obtain ⟨rfl, N14q, e14⟩ := hQ14
    have N14 := Fr.app N13 N14q
    refine Go.on (fun _ k => st14.trans k) ?_
    show Go _ _ _ _ _ _ _ _ (mkF m 40 #[.val (.ref a0), .val (.int i1), .val (.int i2), .val (.int sz2)] [(.int (if (i1 + (1 : Int32)) = (0 : Int32) then (1 : Int32) else (0 : Int32)))])
    generalize hem : (if (i1 + (1 : Int32)) = (0 : Int32) then (1 : Int32) else (0 : Int32)) = em
    show Go _ _ _ _ _ _ _ _ (mkF m 40 #[.val (.ref a0), .val (.int i1), .val (.int i2), .val (.int sz2)] [(.int em)])
    refine Go.on (fun _ k => XS.iloadN X14.here hx rfl (hb hby d4_40) rfl k) ?_
    show Go _ _ _ _ _ _ _ _ (mkF m 41 #[.val (.ref a0), .val (.int i1), .val (.int i2), .val (.int sz2)] [(.int sz2), (.int em)])
    suffices hJ15 : ∀ (mm : Int32), mm = (if sz2 = (0 : Int32) then (1 : Int32) else (0 : Int32)) → Go p e below s K1 K2 QQ T14 (mkF m 49 #[.val (.ref a0), .val (.int i1), .val (.int i2), .val (.int sz2)] [(.int mm), (.int em)]) by
      by_cases hc16 : sz2 = (0 : Int32)
      · -- pc 41 yes
        refine Go.on (fun _ k => XS.ifNo X14.here hx rfl (hb hby d4_41) rfl ((if0 _ _).trans (teq hc16).2) k) ?_
        show Go _ _ _ _ _ _ _ _ (mkF m 44 #[.val (.ref a0), .val (.int i1), .val (.int i2), .val (.int sz2)] [(.int em)])
        refine Go.on (fun _ k => XS.iconst X14.here hx rfl (hb hby d4_44) k) ?_
        show Go _ _ _ _ _ _ _ _ (mkF m 45 #[.val (.ref a0), .val (.int i1), .val (.int i2), .val (.int sz2)] [(.int (1 : Int32)), (.int em)])
        refine Go.on (fun _ k => XS.goto X14.here hx rfl (pc0 := 45) (pc' := 49) rfl (hb hby d4_45) (by decide) (by decide) k) ?_
        show Go _ _ _ _ _ _ _ _ (mkF m 49 #[.val (.ref a0), .val (.int i1), .val (.int i2), .val (.int sz2)] [(.int (1 : Int32)), (.int em)])
        exact hJ15 _ (by rw [if_pos hc16])
      · -- pc 41 no
        refine Go.on (fun _ k => XS.ifYes X14.here hx rfl (pc0 := 41) (pc' := 48) rfl (hb hby d4_41) rfl ((if0 _ _).trans (feq hc16).2) (by decide) (by decide) k) ?_
        show Go _ _ _ _ _ _ _ _ (mkF m 48 #[.val (.ref a0), .val (.int i1), .val (.int i2), .val (.int sz2)] [(.int em)])
        refine Go.on (fun _ k => XS.iconst X14.here hx rfl (hb hby d4_48) k) ?_
        show Go _ _ _ _ _ _ _ _ (mkF m 49 #[.val (.ref a0), .val (.int i1), .val (.int i2), .val (.int sz2)] [(.int (0 : Int32)), (.int em)])
        exact hJ15 _ (by rw [if_neg hc16])
    intro mm hmm
    have hc17 : em = mm := by rw [← hem, hmm, hsz2]
    refine Go.on (fun _ k => XS.icmpYes X14.here hx rfl (pc0 := 49) (pc' := 54) rfl (hb hby d4_49) rfl (teq hc17).1 (by decide) (by decide) k) ?_
    show Go _ _ _ _ _ _ _ _ (mkF m 54 #[.val (.ref a0), .val (.int i1), .val (.int i2), .val (.int sz2)] [])
    refine Go.on (fun _ k => XS.iloadN X14.here hx rfl (hb hby d4_54) rfl k) ?_
    show Go _ _ _ _ _ _ _ _ (mkF m 55 #[.val (.ref a0), .val (.int i1), .val (.int i2), .val (.int sz2)] [(.int sz2)])
    refine Go.retV X14 hx Bd.returns rfl (Or.inl ⟨rfl, Or.inl rfl, _, rfl⟩) (hb hby d4_55) ?_ (by rw [hK1]; decide) (by rw [hK2]; decide)
    rw [e14, ← hQQ]
    have hst : stepV i1 i2 = sz2 := by unfold stepV; rw [if_neg hc1]; exact hsz2
    unfold Q_rm4; rw [hst]
    exact ⟨rfl, N14, hd, _, _, KP, E_a0, F_arrivals_a0, F_providers_a0, F_head_a0, hsz2 ▸ F_size_a0, V_a1, V_a2, by rw [List.length_set]; exact hl1, by rw [List.length_set]; exact hl2, hhd⟩
theorem pd_3 : parseMethodDescriptor "(Lcom/example/parley/parley/service/RequestQueue;II)I" = some ⟨[(.object "com/example/parley/parley/service/RequestQueue"), .int, .int], some .int⟩ := by decide +kernel
theorem ef_rm0 (m : MethodId) (i0 : Int32) (i1 : Int32) (i2 : Int32) (i3 : Int32) : entryFrame m #[(.int i0), (.int i1), (.int i2), (.int i3)] maxLocals = mkF m 0 #[.val (.int i0), .val (.int i1), .val (.int i2), .val (.int i3), .unset, .unset] [] := by first | (simp [entryFrame, mkF, argsToLocals, Value.category, maxLocals]; done) | rfl
def Q_rm0 (Z : State) (i0 : Int32) (i1 : Int32) (i2 : Int32) (i3 : Int32) (h0 : Heap) (n0 : Nat) (v : Option Value) (h : Heap) (L : List Loc) : Prop := v = some (.int 1) ∧ Fr n0 L
set_option maxRecDepth 65536 in
set_option maxHeartbeats 40000000 in
theorem rm0 (l : Launch) (Z : State) (aw : Array Value) (hw : ∀ d ∈ tables_1, d.before aw Z = true) (ws : List Jvm.Cond) (i0 : Int32) (i1 : Int32) (i2 : Int32) (i3 : Int32) (h0 : Heap) (n0 : Nat) (Z0 : n0 ≤ h0.size) :
    MetFree l x (head1 (Jvm.Cond.code x code maxLocals ret :: ws) room_1) (fun a U => a = #[(.int i0), (.int i1), (.int i2), (.int i3)] ∧ Z.Warmed39 U.vm ∧ U.heap = h0) (fun _ _ _ _ _ => True) (fun _ U o U' => ∃ v L, o = .returned v ∧ Q_rm0 Z i0 i1 i2 i3 h0 n0 v U'.heap L ∧ FrameEnd U o U' L 3 36) := by
  refine MetFree.of_bodySF (plainFor_of_name pn_1) hisR ?_
  intro p e s m args below meth c s₁ Bd hml0 hP hK
  obtain ⟨rfl, hZ, hh⟩ := hP
  have hx := Bd.exec
  have hby := Bd.bytes
  have hml : c.maxLocals = 6 := hml0
  have hown : s.vm.findClass "com/example/parley/parley/service/RequestQueueIsEmptyPinLaw" = some m.cls := findClass_of_methodNamed Bd.named
  have hnm := (name_of_methodNamed Bd.named Bd.method).1
  have hlk : meth.locks = false := BodyLoose.notSynchronized Bd
  have X0 : Stand p l e room_1 s m #[(.int i0), (.int i1), (.int i2), (.int i3)] below meth c s₁ [] 0 0 := Stand.of_body Bd
  have e0 : s₁.heap = h0 := by rw [← hh, Bd.state]; rfl
  have N0 := Fr.nil n0
  have ZZ := Z0
  show Go p e below s 3 36 (fun v h L => Q_rm0 Z i0 i1 i2 i3 h0 n0 v h L) s₁ (entryFrame m #[(.int i0), (.int i1), (.int i2), (.int i3)] maxLocals)
  refine Go.cast (ef_rm0 m i0 i1 i2 i3) ?_
  refine Go.gen ?_
  intro K1 K2 QQ hK1 hK2 hQQ
  obtain ⟨T1, h1, X1, e1, E1, A1, D1, -, st1⟩ := newO X0 hx hZ hown (hw _ (List.mem_of_getElem? (i := 0) rfl)) (hw _ (List.mem_of_getElem? (i := 1) rfl)) (hw _ (List.mem_of_getElem? (i := 2) rfl)) e0 (g := (mkF m 0 #[.val (.int i0), .val (.int i1), .val (.int i2), .val (.int i3), .unset, .unset] [])) rfl (hb hby at_0) (by decide) (by decide)
  obtain ⟨q, g1⟩ : ∃ z, z = h0.size := ⟨_, rfl⟩
  have g_q : n0 ≤ q := Nat.le_trans ZZ (Nat.le_of_eq g1.symm)
  rw [← g1] at A1 D1 st1
  replace ZZ := Nat.le_trans ZZ E1.1
  have E_q := A1
  have F_arrivals_q : Fld Z h1 q "com/example/parley/parley/service/RequestQueue" "arrivals" "[D" .null := D1 (Or.inl (hw _ (List.mem_of_getElem? (i := 11) rfl))) (ty := (.array .double)) (by decide)
  have F_providers_q : Fld Z h1 q "com/example/parley/parley/service/RequestQueue" "providers" "[I" .null := D1 (Or.inl (hw _ (List.mem_of_getElem? (i := 14) rfl))) (ty := (.array .int)) (by decide)
  have F_size_q : Fld Z h1 q "com/example/parley/parley/service/RequestQueue" "size" "I" (.int (0 : Int32)) := D1 (Or.inl (hw _ (List.mem_of_getElem? (i := 21) rfl))) (ty := .int) (by decide)
  have F_head_q : Fld Z h1 q "com/example/parley/parley/service/RequestQueue" "head" "I" (.int (0 : Int32)) := D1 (Or.inl (hw _ (List.mem_of_getElem? (i := 32) rfl))) (ty := .int) (by decide)
  refine Go.on st1 ?_
  show Go _ _ _ _ _ _ _ _ (mkF m 3 #[.val (.int i0), .val (.int i1), .val (.int i2), .val (.int i3), .unset, .unset] [(.ref q)])
  refine Go.on (fun _ k => XS.dup X1.here hx rfl (hb hby at_3) rfl rfl k) ?_
  show Go _ _ _ _ _ _ _ _ (mkF m 4 #[.val (.int i0), .val (.int i1), .val (.int i2), .val (.int i3), .unset, .unset] [(.ref q), (.ref q)])
  obtain ⟨_, _, ⟨T2, L2, k2, n2⟩, -, X2, ⟨Lc2, hQ2, l2, y2, z2⟩, st2⟩ := X1.specialBack hx (y := (⟨"com/example/parley/parley/service/RequestQueue", "<init>", "()V"⟩ : MethodName)) rfl hown (mvT hZ (hw _ (List.mem_of_getElem? (i := 3) rfl))) (mvT hZ (hw _ (List.mem_of_getElem? (i := 4) rfl))) (mvT hZ (hw _ (List.mem_of_getElem? (i := 5) rfl))) (by decide) (backOf (W := 1) (rm1 l Z aw hw [] q .null .null h1 n0 ZZ E_q F_arrivals_q F_providers_q F_head_q F_size_q g_q) hZ (hw _ (List.mem_of_getElem? (i := 5) rfl)) (hw _ (List.mem_of_getElem? (i := 2) rfl)) (by decide) (by decide)) (g := (mkF m 4 #[.val (.int i0), .val (.int i1), .val (.int i2), .val (.int i3), .unset, .unset] [(.ref q), (.ref q)])) rfl (by rw [hml]; rfl) (Steps.refl _) (a := q) (argsL := []) (rest := [(.ref q)]) (lenOf pd_2 rfl) rfl (by show 2 * 0 + _ ≤ _; exact Nat.le_of_eq rfl) (hb hby at_4) (fun _ _ => ⟨rfl, e1, (by decide : 1 + 2 ≤ _), (by decide : 4 + 32 ≤ _)⟩)
  dsimp only [Pt.U, Pt.locs, Pt.cells, Pt.slots] at X2 l2 y2 z2 st2 hQ2
  subst l2 y2 z2
  obtain ⟨h2, e2⟩ : ∃ q, T2.heap = q := ⟨_, rfl⟩
  rw [e2] at hQ2
  obtain ⟨rfl, N2q, ar, pr, k_ar, k_pr, K2q, szarq, szprq, ne_ar_pr, Eq2, F_arrivalsq, F_providersq, F_headq, F_sizeq, V_ar, V_pr⟩ := hQ2
  have N2 := Fr.app N0 N2q
  have ZZ2p := ZZ
  have lt_q := E_q.lt
  replace E_q := E_q.keep K2q
  replace ZZ := Nat.le_trans ZZ K2q.1
  have F_arrivals_q := F_arrivalsq
  have F_providers_q := F_providersq
  have F_head_q := F_headq
  have F_size_q := F_sizeq
  have g_ar : n0 ≤ ar := Nat.le_trans ZZ2p szarq
  have g_pr : n0 ≤ pr := Nat.le_trans ZZ2p szprq
  have ne_q_ar : q ≠ ar := Nat.ne_of_lt (Nat.lt_of_lt_of_le lt_q szarq)
  have ne_q_pr : q ≠ pr := Nat.ne_of_lt (Nat.lt_of_lt_of_le lt_q szprq)
  refine Go.on (fun _ k => st2.trans k) ?_
  show Go _ _ _ _ _ _ _ _ (mkF m 7 #[.val (.int i0), .val (.int i1), .val (.int i2), .val (.int i3), .unset, .unset] [(.ref q)])
  refine Go.on (fun _ k => XS.astore X2.here hx rfl (hb hby at_7) rfl rfl (l' := #[.val (.int i0), .val (.int i1), .val (.int i2), .val (.int i3), .val (.ref q), .unset]) rfl k) ?_
  show Go _ _ _ _ _ _ _ _ (mkF m 9 #[.val (.int i0), .val (.int i1), .val (.int i2), .val (.int i3), .val (.ref q), .unset] [])
  refine Go.on (fun _ k => XS.aload X2.here hx rfl (hb hby at_9) rfl rfl k) ?_
  show Go _ _ _ _ _ _ _ _ (mkF m 11 #[.val (.int i0), .val (.int i1), .val (.int i2), .val (.int i3), .val (.ref q), .unset] [(.ref q)])
  obtain ⟨cq3, kq3, q3a, q3b, q3c⟩ := isOf hZ e2 E_q
  obtain ⟨_, _, ⟨T3, L3, k3, n3⟩, -, X3, ⟨Lc3, hQ3, l3, y3, z3⟩, st3⟩ := X2.virtualBack hx (y := (⟨"com/example/parley/parley/service/RequestQueue", "isEmpty", "()Z"⟩ : MethodName)) (z := (⟨"com/example/parley/parley/service/RequestQueue", "isEmpty", "()Z"⟩ : MethodName)) hown (mvT hZ (hw _ (List.mem_of_getElem? (i := 15) rfl))) (mvT hZ (hw _ (List.mem_of_getElem? (i := 16) rfl))) (notFace_of_selects (args := #[]) (mvT hZ (hw _ (List.mem_of_getElem? (i := 18) rfl)))) (mvT hZ (hw _ (List.mem_of_getElem? (i := 18) rfl))) (mvT hZ (hw _ (List.mem_of_getElem? (i := 17) rfl))) (by decide) (backOf (W := 0) (rm3 l Z aw hw [] q (0 : Int32) h2 n0 ZZ F_size_q) hZ (hw _ (List.mem_of_getElem? (i := 19) rfl)) (hw _ (List.mem_of_getElem? (i := 2) rfl)) (by decide) (by decide)) q3a q3c (g := (mkF m 11 #[.val (.int i0), .val (.int i1), .val (.int i2), .val (.int i3), .val (.ref q), .unset] [(.ref q)])) rfl (by rw [hml]; rfl) (Steps.refl _) (argsL := []) (rest := []) (lenOf pd_1 rfl) rfl (by show 2 * 0 + _ ≤ _; exact Nat.le_of_eq rfl) (hb hby at_11) (fun _ _ => ⟨rfl, e2, (by decide : 3 + 0 ≤ _), (by decide : 36 + 0 ≤ _)⟩)
  dsimp only [Pt.U, Pt.locs, Pt.cells, Pt.slots] at X3 l3 y3 z3 st3 hQ3
  subst l3 y3 z3
  obtain ⟨rfl, N3q, e3⟩ := hQ3
  have N3 := Fr.app N2 N3q
  refine Go.on (fun _ k => st3.trans k) ?_
  show Go _ _ _ _ _ _ _ _ (mkF m 14 #[.val (.int i0), .val (.int i1), .val (.int i2), .val (.int i3), .val (.ref q), .unset] [(.int (if (0 : Int32) = (0 : Int32) then (1 : Int32) else (0 : Int32)))])
  generalize hem : (if (0 : Int32) = (0 : Int32) then (1 : Int32) else (0 : Int32)) = em
  show Go _ _ _ _ _ _ _ _ (mkF m 14 #[.val (.int i0), .val (.int i1), .val (.int i2), .val (.int i3), .val (.ref q), .unset] [(.int em)])
  have hc4 : ¬ (em = (0 : Int32)) := by rw [← hem]; decide
  refine Go.on (fun _ k => XS.ifYes X3.here hx rfl (pc0 := 14) (pc' := 19) rfl (hb hby at_14) rfl ((if0 _ _).trans (feq hc4).2) (by decide) (by decide) k) ?_
  show Go _ _ _ _ _ _ _ _ (mkF m 19 #[.val (.int i0), .val (.int i1), .val (.int i2), .val (.int i3), .val (.ref q), .unset] [])
  refine Go.on (fun _ k => XS.aload X3.here hx rfl (hb hby at_19) rfl rfl k) ?_
  show Go _ _ _ _ _ _ _ _ (mkF m 21 #[.val (.int i0), .val (.int i1), .val (.int i2), .val (.int i3), .val (.ref q), .unset] [(.ref q)])
  refine Go.on (fun _ k => XS.iconst X3.here hx rfl (hb hby at_21) k) ?_
  show Go _ _ _ _ _ _ _ _ (mkF m 22 #[.val (.int i0), .val (.int i1), .val (.int i2), .val (.int i3), .val (.ref q), .unset] [(.int (0 : Int32)), (.ref q)])
  refine Go.on (fun _ k => XS.iloadN X3.here hx rfl (hb hby at_22) rfl k) ?_
  show Go _ _ _ _ _ _ _ _ (mkF m 23 #[.val (.int i0), .val (.int i1), .val (.int i2), .val (.int i3), .val (.ref q), .unset] [(.int i0), (.int (0 : Int32)), (.ref q)])
  obtain ⟨_, _, ⟨T5, L5, k5, n5⟩, -, X5, ⟨Lc5, hQ5, l5, y5, z5⟩, st5⟩ := Jvm.LawKit.callS X3 hx (y := (⟨"com/example/parley/parley/service/RequestQueueIsEmptyPinLaw", "step", "(Lcom/example/parley/parley/service/RequestQueue;II)I"⟩ : MethodName)) hown (mvT hZ (hw _ (List.mem_of_getElem? (i := 22) rfl))) (mvT hZ (hw _ (List.mem_of_getElem? (i := 23) rfl))) (mvT hZ (hw _ (List.mem_of_getElem? (i := 24) rfl))) (mvT hZ (hw _ (List.mem_of_getElem? (i := 25) rfl))) (by decide) (backOf (W := 0) (rm4 l Z aw hw [] q (0 : Int32) i0 ar pr (0 : Int32) k_ar [(.double (0 : UInt64)), (.double (0 : UInt64)), (.double (0 : UInt64)), (.double (0 : UInt64)), (.double (0 : UInt64)), (.double (0 : UInt64)), (.double (0 : UInt64)), (.double (0 : UInt64)), (.double (0 : UInt64)), (.double (0 : UInt64)), (.double (0 : UInt64)), (.double (0 : UInt64)), (.double (0 : UInt64)), (.double (0 : UInt64)), (.double (0 : UInt64)), (.double (0 : UInt64))] k_pr [(.int (0 : Int32)), (.int (0 : Int32)), (.int (0 : Int32)), (.int (0 : Int32)), (.int (0 : Int32)), (.int (0 : Int32)), (.int (0 : Int32)), (.int (0 : Int32)), (.int (0 : Int32)), (.int (0 : Int32)), (.int (0 : Int32)), (.int (0 : Int32)), (.int (0 : Int32)), (.int (0 : Int32)), (.int (0 : Int32)), (.int (0 : Int32))] h2 n0 ZZ E_q F_arrivals_q F_providers_q F_head_q F_size_q V_ar V_pr g_q g_ar g_pr ne_q_ar ne_q_pr ne_ar_pr ⟨by decide, by decide⟩ ⟨by decide, by decide⟩ rfl rfl) hZ (hw _ (List.mem_of_getElem? (i := 25) rfl)) (hw _ (List.mem_of_getElem? (i := 24) rfl)) (by decide) (by decide)) (g := (mkF m 23 #[.val (.int i0), .val (.int i1), .val (.int i2), .val (.int i3), .val (.ref q), .unset] [(.int i0), (.int (0 : Int32)), (.ref q)])) rfl (by rw [hml]; rfl) (argsL := [(.ref q), (.int (0 : Int32)), (.int i0)]) (rest := []) (lenOf pd_3 rfl) rfl (by show 2 * 0 + _ ≤ _; exact Nat.le_of_eq rfl) (hb hby at_23) (fun _ _ => ⟨rfl, e3, (by decide : 3 + 0 ≤ _), (by decide : 36 + 0 ≤ _)⟩)
  dsimp only [Pt.U, Pt.locs, Pt.cells, Pt.slots] at X5 l5 y5 z5 st5 hQ5
  subst l5 y5 z5
  obtain ⟨h5, e5⟩ : ∃ q, T5.heap = q := ⟨_, rfl⟩
  rw [e5] at hQ5
  obtain ⟨rfl, N5q, hd5, vs5, us5, K5q, Eq5, F_arrivalsq5, F_providersq5, F_headq5, F_sizeq5, V_1q5, V_2q5, hl1_5, hl2_5, hhd5⟩ := hQ5
  have N5 := Fr.app N3 N5q
  have ZZ5p := ZZ
  have lt_q := E_q.lt
  have lt_ar := V_ar.lt
  have lt_pr := V_pr.lt
  replace E_q := E_q.keep K5q
  replace ZZ := Nat.le_trans ZZ K5q.1
  have F_arrivals_q := F_arrivalsq5
  have F_providers_q := F_providersq5
  have F_head_q := F_headq5
  have F_size_q := F_sizeq5
  have V_ar := V_1q5
  have V_pr := V_2q5
  obtain ⟨n1, hn1⟩ : ∃ z, stepV (0 : Int32) i0 = z := ⟨_, rfl⟩
  rw [hn1] at F_size_q st5
  have bn1 := own_step_b hn1 (⟨by decide, by decide⟩ : 0 ≤ (0 : Int32).toInt ∧ (0 : Int32).toInt ≤ 0)
  refine Go.on st5 ?_
  show Go _ _ _ _ _ _ _ _ (mkF m 26 #[.val (.int i0), .val (.int i1), .val (.int i2), .val (.int i3), .val (.ref q), .unset] [(.int n1)])
  refine Go.on (fun _ k => XS.istore X5.here hx rfl (hb hby at_26) rfl (l' := #[.val (.int i0), .val (.int i1), .val (.int i2), .val (.int i3), .val (.ref q), .val (.int n1)]) rfl k) ?_
  show Go _ _ _ _ _ _ _ _ (mkF m 28 #[.val (.int i0), .val (.int i1), .val (.int i2), .val (.int i3), .val (.ref q), .val (.int n1)] [])
  refine Go.on (fun _ k => XS.iload X5.here hx rfl (hb hby at_28) rfl k) ?_
  show Go _ _ _ _ _ _ _ _ (mkF m 30 #[.val (.int i0), .val (.int i1), .val (.int i2), .val (.int i3), .val (.ref q), .val (.int n1)] [(.int n1)])
  have hc6 : ¬ (n1 < (0 : Int32)) := own_nn bn1
  refine Go.on (fun _ k => XS.ifYes X5.here hx rfl (pc0 := 30) (pc' := 35) rfl (hb hby at_30) rfl ((if0 _ _).trans (flt hc6).2.1) (by decide) (by decide) k) ?_
  show Go _ _ _ _ _ _ _ _ (mkF m 35 #[.val (.int i0), .val (.int i1), .val (.int i2), .val (.int i3), .val (.ref q), .val (.int n1)] [])
  refine Go.on (fun _ k => XS.aload X5.here hx rfl (hb hby at_35) rfl rfl k) ?_
  show Go _ _ _ _ _ _ _ _ (mkF m 37 #[.val (.int i0), .val (.int i1), .val (.int i2), .val (.int i3), .val (.ref q), .val (.int n1)] [(.ref q)])
  refine Go.on (fun _ k => XS.iload X5.here hx rfl (hb hby at_37) rfl k) ?_
  show Go _ _ _ _ _ _ _ _ (mkF m 39 #[.val (.int i0), .val (.int i1), .val (.int i2), .val (.int i3), .val (.ref q), .val (.int n1)] [(.int n1), (.ref q)])
  refine Go.on (fun _ k => XS.iloadN X5.here hx rfl (hb hby at_39) rfl k) ?_
  show Go _ _ _ _ _ _ _ _ (mkF m 40 #[.val (.int i0), .val (.int i1), .val (.int i2), .val (.int i3), .val (.ref q), .val (.int n1)] [(.int i1), (.int n1), (.ref q)])
  obtain ⟨_, _, ⟨T7, L7, k7, n7⟩, -, X7, ⟨Lc7, hQ7, l7, y7, z7⟩, st7⟩ := Jvm.LawKit.callS X5 hx (y := (⟨"com/example/parley/parley/service/RequestQueueIsEmptyPinLaw", "step", "(Lcom/example/parley/parley/service/RequestQueue;II)I"⟩ : MethodName)) hown (mvT hZ (hw _ (List.mem_of_getElem? (i := 22) rfl))) (mvT hZ (hw _ (List.mem_of_getElem? (i := 23) rfl))) (mvT hZ (hw _ (List.mem_of_getElem? (i := 24) rfl))) (mvT hZ (hw _ (List.mem_of_getElem? (i := 25) rfl))) (by decide) (backOf (W := 0) (rm4 l Z aw hw [] q n1 i1 ar pr hd5 k_ar vs5 k_pr us5 h5 n0 ZZ E_q F_arrivals_q F_providers_q F_head_q F_size_q V_ar V_pr g_q g_ar g_pr ne_q_ar ne_q_pr ne_ar_pr (own_b10 bn1 (by decide)) hhd5 hl1_5 hl2_5) hZ (hw _ (List.mem_of_getElem? (i := 25) rfl)) (hw _ (List.mem_of_getElem? (i := 24) rfl)) (by decide) (by decide)) (g := (mkF m 40 #[.val (.int i0), .val (.int i1), .val (.int i2), .val (.int i3), .val (.ref q), .val (.int n1)] [(.int i1), (.int n1), (.ref q)])) rfl (by rw [hml]; rfl) (argsL := [(.ref q), (.int n1), (.int i1)]) (rest := []) (lenOf pd_3 rfl) rfl (by show 2 * 0 + _ ≤ _; exact Nat.le_of_eq rfl) (hb hby at_40) (fun _ _ => ⟨rfl, e5, (by decide : 3 + 0 ≤ _), (by decide : 36 + 0 ≤ _)⟩)
  dsimp only [Pt.U, Pt.locs, Pt.cells, Pt.slots] at X7 l7 y7 z7 st7 hQ7
  subst l7 y7 z7
  obtain ⟨h7, e7⟩ : ∃ q, T7.heap = q := ⟨_, rfl⟩
  rw [e7] at hQ7
  obtain ⟨rfl, N7q, hd7, vs7, us7, K7q, Eq7, F_arrivalsq7, F_providersq7, F_headq7, F_sizeq7, V_1q7, V_2q7, hl1_7, hl2_7, hhd7⟩ := hQ7
  have N7 := Fr.app N5 N7q
  have ZZ7p := ZZ
  have lt_q := E_q.lt
  have lt_ar := V_ar.lt
  have lt_pr := V_pr.lt
  replace E_q := E_q.keep K7q
  replace ZZ := Nat.le_trans ZZ K7q.1
  have F_arrivals_q := F_arrivalsq7
  have F_providers_q := F_providersq7
  have F_head_q := F_headq7
  have F_size_q := F_sizeq7
  have V_ar := V_1q7
  have V_pr := V_2q7
  obtain ⟨n2, hn2⟩ : ∃ z, stepV n1 i1 = z := ⟨_, rfl⟩
  rw [hn2] at F_size_q st7
  have bn2 := own_step_b hn2 bn1
  refine Go.on st7 ?_
  show Go _ _ _ _ _ _ _ _ (mkF m 43 #[.val (.int i0), .val (.int i1), .val (.int i2), .val (.int i3), .val (.ref q), .val (.int n1)] [(.int n2)])
  refine Go.on (fun _ k => XS.istore X7.here hx rfl (hb hby at_43) rfl (l' := #[.val (.int i0), .val (.int i1), .val (.int i2), .val (.int i3), .val (.ref q), .val (.int n2)]) rfl k) ?_
  show Go _ _ _ _ _ _ _ _ (mkF m 45 #[.val (.int i0), .val (.int i1), .val (.int i2), .val (.int i3), .val (.ref q), .val (.int n2)] [])
  refine Go.on (fun _ k => XS.iload X7.here hx rfl (hb hby at_45) rfl k) ?_
  show Go _ _ _ _ _ _ _ _ (mkF m 47 #[.val (.int i0), .val (.int i1), .val (.int i2), .val (.int i3), .val (.ref q), .val (.int n2)] [(.int n2)])
  have hc8 : ¬ (n2 < (0 : Int32)) := own_nn bn2
  refine Go.on (fun _ k => XS.ifYes X7.here hx rfl (pc0 := 47) (pc' := 52) rfl (hb hby at_47) rfl ((if0 _ _).trans (flt hc8).2.1) (by decide) (by decide) k) ?_
  show Go _ _ _ _ _ _ _ _ (mkF m 52 #[.val (.int i0), .val (.int i1), .val (.int i2), .val (.int i3), .val (.ref q), .val (.int n2)] [])
  refine Go.on (fun _ k => XS.aload X7.here hx rfl (hb hby at_52) rfl rfl k) ?_
  show Go _ _ _ _ _ _ _ _ (mkF m 54 #[.val (.int i0), .val (.int i1), .val (.int i2), .val (.int i3), .val (.ref q), .val (.int n2)] [(.ref q)])
  refine Go.on (fun _ k => XS.iload X7.here hx rfl (hb hby at_54) rfl k) ?_
  show Go _ _ _ _ _ _ _ _ (mkF m 56 #[.val (.int i0), .val (.int i1), .val (.int i2), .val (.int i3), .val (.ref q), .val (.int n2)] [(.int n2), (.ref q)])
  refine Go.on (fun _ k => XS.iloadN X7.here hx rfl (hb hby at_56) rfl k) ?_
  show Go _ _ _ _ _ _ _ _ (mkF m 57 #[.val (.int i0), .val (.int i1), .val (.int i2), .val (.int i3), .val (.ref q), .val (.int n2)] [(.int i2), (.int n2), (.ref q)])
  obtain ⟨_, _, ⟨T9, L9, k9, n9⟩, -, X9, ⟨Lc9, hQ9, l9, y9, z9⟩, st9⟩ := Jvm.LawKit.callS X7 hx (y := (⟨"com/example/parley/parley/service/RequestQueueIsEmptyPinLaw", "step", "(Lcom/example/parley/parley/service/RequestQueue;II)I"⟩ : MethodName)) hown (mvT hZ (hw _ (List.mem_of_getElem? (i := 22) rfl))) (mvT hZ (hw _ (List.mem_of_getElem? (i := 23) rfl))) (mvT hZ (hw _ (List.mem_of_getElem? (i := 24) rfl))) (mvT hZ (hw _ (List.mem_of_getElem? (i := 25) rfl))) (by decide) (backOf (W := 0) (rm4 l Z aw hw [] q n2 i2 ar pr hd7 k_ar vs7 k_pr us7 h7 n0 ZZ E_q F_arrivals_q F_providers_q F_head_q F_size_q V_ar V_pr g_q g_ar g_pr ne_q_ar ne_q_pr ne_ar_pr (own_b10 bn2 (by decide)) hhd7 hl1_7 hl2_7) hZ (hw _ (List.mem_of_getElem? (i := 25) rfl)) (hw _ (List.mem_of_getElem? (i := 24) rfl)) (by decide) (by decide)) (g := (mkF m 57 #[.val (.int i0), .val (.int i1), .val (.int i2), .val (.int i3), .val (.ref q), .val (.int n2)] [(.int i2), (.int n2), (.ref q)])) rfl (by rw [hml]; rfl) (argsL := [(.ref q), (.int n2), (.int i2)]) (rest := []) (lenOf pd_3 rfl) rfl (by show 2 * 0 + _ ≤ _; exact Nat.le_of_eq rfl) (hb hby at_57) (fun _ _ => ⟨rfl, e7, (by decide : 3 + 0 ≤ _), (by decide : 36 + 0 ≤ _)⟩)
  dsimp only [Pt.U, Pt.locs, Pt.cells, Pt.slots] at X9 l9 y9 z9 st9 hQ9
  subst l9 y9 z9
  obtain ⟨h9, e9⟩ : ∃ q, T9.heap = q := ⟨_, rfl⟩
  rw [e9] at hQ9
  obtain ⟨rfl, N9q, hd9, vs9, us9, K9q, Eq9, F_arrivalsq9, F_providersq9, F_headq9, F_sizeq9, V_1q9, V_2q9, hl1_9, hl2_9, hhd9⟩ := hQ9
  have N9 := Fr.app N7 N9q
  have ZZ9p := ZZ
  have lt_q := E_q.lt
  have lt_ar := V_ar.lt
  have lt_pr := V_pr.lt
  replace E_q := E_q.keep K9q
  replace ZZ := Nat.le_trans ZZ K9q.1
  have F_arrivals_q := F_arrivalsq9
  have F_providers_q := F_providersq9
  have F_head_q := F_headq9
  have F_size_q := F_sizeq9
  have V_ar := V_1q9
  have V_pr := V_2q9
  obtain ⟨n3, hn3⟩ : ∃ z, stepV n2 i2 = z := ⟨_, rfl⟩
  rw [hn3] at F_size_q st9
  have bn3 := own_step_b hn3 bn2
  refine Go.on st9 ?_
  show Go _ _ _ _ _ _ _ _ (mkF m 60 #[.val (.int i0), .val (.int i1), .val (.int i2), .val (.int i3), .val (.ref q), .val (.int n2)] [(.int n3)])
  refine Go.on (fun _ k => XS.istore X9.here hx rfl (hb hby at_60) rfl (l' := #[.val (.int i0), .val (.int i1), .val (.int i2), .val (.int i3), .val (.ref q), .val (.int n3)]) rfl k) ?_
  show Go _ _ _ _ _ _ _ _ (mkF m 62 #[.val (.int i0), .val (.int i1), .val (.int i2), .val (.int i3), .val (.ref q), .val (.int n3)] [])
  refine Go.on (fun _ k => XS.iload X9.here hx rfl (hb hby at_62) rfl k) ?_
  show Go _ _ _ _ _ _ _ _ (mkF m 64 #[.val (.int i0), .val (.int i1), .val (.int i2), .val (.int i3), .val (.ref q), .val (.int n3)] [(.int n3)])
  have hc10 : ¬ (n3 < (0 : Int32)) := own_nn bn3
  refine Go.on (fun _ k => XS.ifYes X9.here hx rfl (pc0 := 64) (pc' := 69) rfl (hb hby at_64) rfl ((if0 _ _).trans (flt hc10).2.1) (by decide) (by decide) k) ?_
  show Go _ _ _ _ _ _ _ _ (mkF m 69 #[.val (.int i0), .val (.int i1), .val (.int i2), .val (.int i3), .val (.ref q), .val (.int n3)] [])
  refine Go.on (fun _ k => XS.aload X9.here hx rfl (hb hby at_69) rfl rfl k) ?_
  show Go _ _ _ _ _ _ _ _ (mkF m 71 #[.val (.int i0), .val (.int i1), .val (.int i2), .val (.int i3), .val (.ref q), .val (.int n3)] [(.ref q)])
  refine Go.on (fun _ k => XS.iload X9.here hx rfl (hb hby at_71) rfl k) ?_
  show Go _ _ _ _ _ _ _ _ (mkF m 73 #[.val (.int i0), .val (.int i1), .val (.int i2), .val (.int i3), .val (.ref q), .val (.int n3)] [(.int n3), (.ref q)])
  refine Go.on (fun _ k => XS.iloadN X9.here hx rfl (hb hby at_73) rfl k) ?_
  show Go _ _ _ _ _ _ _ _ (mkF m 74 #[.val (.int i0), .val (.int i1), .val (.int i2), .val (.int i3), .val (.ref q), .val (.int n3)] [(.int i3), (.int n3), (.ref q)])
  obtain ⟨_, _, ⟨T11, L11, k11, n11⟩, -, X11, ⟨Lc11, hQ11, l11, y11, z11⟩, st11⟩ := Jvm.LawKit.callS X9 hx (y := (⟨"com/example/parley/parley/service/RequestQueueIsEmptyPinLaw", "step", "(Lcom/example/parley/parley/service/RequestQueue;II)I"⟩ : MethodName)) hown (mvT hZ (hw _ (List.mem_of_getElem? (i := 22) rfl))) (mvT hZ (hw _ (List.mem_of_getElem? (i := 23) rfl))) (mvT hZ (hw _ (List.mem_of_getElem? (i := 24) rfl))) (mvT hZ (hw _ (List.mem_of_getElem? (i := 25) rfl))) (by decide) (backOf (W := 0) (rm4 l Z aw hw [] q n3 i3 ar pr hd9 k_ar vs9 k_pr us9 h9 n0 ZZ E_q F_arrivals_q F_providers_q F_head_q F_size_q V_ar V_pr g_q g_ar g_pr ne_q_ar ne_q_pr ne_ar_pr (own_b10 bn3 (by decide)) hhd9 hl1_9 hl2_9) hZ (hw _ (List.mem_of_getElem? (i := 25) rfl)) (hw _ (List.mem_of_getElem? (i := 24) rfl)) (by decide) (by decide)) (g := (mkF m 74 #[.val (.int i0), .val (.int i1), .val (.int i2), .val (.int i3), .val (.ref q), .val (.int n3)] [(.int i3), (.int n3), (.ref q)])) rfl (by rw [hml]; rfl) (argsL := [(.ref q), (.int n3), (.int i3)]) (rest := []) (lenOf pd_3 rfl) rfl (by show 2 * 0 + _ ≤ _; exact Nat.le_of_eq rfl) (hb hby at_74) (fun _ _ => ⟨rfl, e9, (by decide : 3 + 0 ≤ _), (by decide : 36 + 0 ≤ _)⟩)
  dsimp only [Pt.U, Pt.locs, Pt.cells, Pt.slots] at X11 l11 y11 z11 st11 hQ11
  subst l11 y11 z11
  obtain ⟨h11, e11⟩ : ∃ q, T11.heap = q := ⟨_, rfl⟩
  rw [e11] at hQ11
  obtain ⟨rfl, N11q, hd11, vs11, us11, K11q, Eq11, F_arrivalsq11, F_providersq11, F_headq11, F_sizeq11, V_1q11, V_2q11, hl1_11, hl2_11, hhd11⟩ := hQ11
  have N11 := Fr.app N9 N11q
  have ZZ11p := ZZ
  have lt_q := E_q.lt
  have lt_ar := V_ar.lt
  have lt_pr := V_pr.lt
  replace E_q := E_q.keep K11q
  replace ZZ := Nat.le_trans ZZ K11q.1
  have F_arrivals_q := F_arrivalsq11
  have F_providers_q := F_providersq11
  have F_head_q := F_headq11
  have F_size_q := F_sizeq11
  have V_ar := V_1q11
  have V_pr := V_2q11
  obtain ⟨n4, hn4⟩ : ∃ z, stepV n3 i3 = z := ⟨_, rfl⟩
  rw [hn4] at F_size_q st11
  have bn4 := own_step_b hn4 bn3
  refine Go.on st11 ?_
  show Go _ _ _ _ _ _ _ _ (mkF m 77 #[.val (.int i0), .val (.int i1), .val (.int i2), .val (.int i3), .val (.ref q), .val (.int n3)] [(.int n4)])
  refine Go.on (fun _ k => XS.istore X11.here hx rfl (hb hby at_77) rfl (l' := #[.val (.int i0), .val (.int i1), .val (.int i2), .val (.int i3), .val (.ref q), .val (.int n4)]) rfl k) ?_
  show Go _ _ _ _ _ _ _ _ (mkF m 79 #[.val (.int i0), .val (.int i1), .val (.int i2), .val (.int i3), .val (.ref q), .val (.int n4)] [])
  refine Go.on (fun _ k => XS.iload X11.here hx rfl (hb hby at_79) rfl k) ?_
  show Go _ _ _ _ _ _ _ _ (mkF m 81 #[.val (.int i0), .val (.int i1), .val (.int i2), .val (.int i3), .val (.ref q), .val (.int n4)] [(.int n4)])
  have hc12 : ¬ (n4 < (0 : Int32)) := own_nn bn4
  refine Go.on (fun _ k => XS.ifNo X11.here hx rfl (hb hby at_81) rfl ((if0 _ _).trans (flt hc12).1) k) ?_
  show Go _ _ _ _ _ _ _ _ (mkF m 84 #[.val (.int i0), .val (.int i1), .val (.int i2), .val (.int i3), .val (.ref q), .val (.int n4)] [])
  refine Go.on (fun _ k => XS.iconst X11.here hx rfl (hb hby at_84) k) ?_
  show Go _ _ _ _ _ _ _ _ (mkF m 85 #[.val (.int i0), .val (.int i1), .val (.int i2), .val (.int i3), .val (.ref q), .val (.int n4)] [(.int (1 : Int32))])
  refine Go.on (fun _ k => XS.goto X11.here hx rfl (pc0 := 85) (pc' := 89) rfl (hb hby at_85) (by decide) (by decide) k) ?_
  show Go _ _ _ _ _ _ _ _ (mkF m 89 #[.val (.int i0), .val (.int i1), .val (.int i2), .val (.int i3), .val (.ref q), .val (.int n4)] [(.int (1 : Int32))])
  refine Go.retN X11 hx (t := .boolean) Bd.returns (by simp) (hb hby at_89) ?_ (by rw [hK1]; decide) (by rw [hK2]; decide)
  rw [e11, ← hQQ]
  exact ⟨rfl, N11⟩
set_option maxRecDepth 65536 in
set_option maxHeartbeats 40000000 in
theorem comes_1 {Post : Tables → Env → Array Value → State → Outcome → State → Prop} (hpost : ∀ tb e args s v u, (limb_1_1.after args s (.returned v) u = true ∧ limb_1_2.after args s (.returned v) u = true ∧ True) → FrameEnd s (.returned v) u (Jvm.fieldLocs frame_1_writes args s ++ Jvm.arrayLocs frame_1_arrays args s ++ Jvm.staticLocs frame_1_statics s) 16 192 → Post tb e args s (.returned v) u) :
    ArmFor flags0 classFile x code maxLocals ret World_1 tables_1 room_1 Calls_1 rest_1 Pre_1 Post := by
  intro l hfl _ _ p e ha hc hk s m args below hf hA hF happ hP
  obtain ⟨hcalls, hrest, hpre⟩ := hP
  obtain ⟨-, -, -, hnamed, -, -, -, hat⟩ := (Spec.applies_iff hf).mp happ
  obtain ⟨hg, hn⟩ := and_e (Cond.before_iff.mp (show (Jvm.Cond.and given_1 narrow_1).before args s = true from hpre))
  obtain ⟨g0, r0⟩ := and_e hg
  obtain ⟨g1, r1⟩ := and_e r0
  obtain ⟨g2, r2⟩ := and_e r1
  obtain ⟨g3, g4⟩ := and_e r2
  obtain ⟨w0, w1, w2, w3, rfl⟩ : ∃ w0 w1 w2 w3 : Value, args = #[w0, w1, w2, w3] := by
    have hs : args.size = 4 := by simpa [Cond.value, given_1] using g0
    obtain ⟨L⟩ := args
    match L, hs with
    | [w0, w1, w2, w3], _ => exact ⟨w0, w1, w2, w3, rfl⟩
  have hw := fun d (hd : d ∈ tables_1) => atoms_spec (ws := Jvm.Cond.code x code maxLocals ret :: tables_1) hat d (List.mem_cons_of_mem _ hd)
  have hfit : Fit s := fun {y c} hc i hi => by
    obtain ⟨ha, rfl⟩ := Array.getElem?_eq_some_iff.mp hc
    have q := List.all_eq_true.mp ((Array.all_eq_true_iff_forall_mem.mp hF) _ (Array.getElem_mem ha)) i (List.mem_range.mpr hi)
    simpa [Array.getElem?_eq_getElem hi] using q
  obtain ⟨i0, ei0⟩ := is_v g1
  obtain rfl : w0 = (.int i0) := Option.some.inj ei0
  obtain ⟨i1, ei1⟩ := is_v g2
  obtain rfl : w1 = (.int i1) := Option.some.inj ei1
  obtain ⟨i2, ei2⟩ := is_v g3
  obtain rfl : w2 = (.int i2) := Option.some.inj ei2
  obtain ⟨i3, ei3⟩ := is_v g4
  obtain rfl : w3 = (.int i3) := Option.some.inj ei3
  obtain ⟨n, o, h1, h2, h3, _, L, rfl, ⟨rfl, N⟩, hq⟩ := rm0 l s _ hw tables_1 i0 i1 i2 i3 s.heap s.heap.size (Nat.le_refl _) p e ha hc hk s m _ below hf ((Spec.applies_iff_loose hf).mp happ).1 ⟨rfl, State.Warmed39.refl s, rfl⟩ trivial
  refine ⟨n, _, h1, h2, h3, hpost _ _ _ _ _ _ ⟨Cond.after_iff.mpr rfl, Cond.after_iff.mpr (eq_i res_at (Term.int_eval (1)) rfl), trivial⟩ ⟨hq.1, hq.2.1, (hq.2.2.sift fun y hy => Or.inr (N y hy)).mono (by decide) (by decide)⟩⟩
theorem main_1_1 : Claimed_1_1 := comes_1 fun _ _ _ _ _ _ h hF => ⟨h.1, hF⟩
theorem main_1_2 : Claimed_1_2 := comes_1 fun _ _ _ _ _ _ h hF => ⟨h.2.1, hF⟩
end Jvm.Pilot.@@N@@
namespace Jvm.Pilot.@@N@@
open Jvm Jvm.ClassFile Sem Op Lib Jvm.Free Jvm.Stand Jvm.Pilot.@@N@@.Jvm.D
/-! MADE BY PROGRAM (witnessworld.py) out of the Statement's table words and the real class files: 11 classes; the members and pool entries that the words name. The judged class is class 1, her method 2. -/
namespace start1
open Jvm.ClassFile
def u (s : String) : CpInfo := .utf8 (stringToUtf16 s)
/-- a pool by its gaps: so many unusable entries, then the entry; so many at the end -/
def gap : Nat → List CpInfo → List CpInfo
  | 0, r => r
  | n + 1, r => .unusable :: gap n r
def poolList (es : List (Nat × CpInfo)) (last : Nat) : List CpInfo := es.foldr (fun e r => gap e.1 (e.2 :: r)) (gap last [])
def pool (es : List (Nat × CpInfo)) (last : Nat) : Array CpInfo := ⟨poolList es last⟩
def fileOf (pool : Array CpInfo) (this : Nat) (attrs : Array Attribute := #[]) (ms : Array MethodInfo := #[]) (fl : Nat := 33) (sup : Nat := 0) (ifs : Array Nat := #[]) (fds : Array FieldInfo := #[]) : ClassFile where
  minorVersion := 0
  majorVersion := 65
  constantPool := pool
  accessFlags := fl
  thisClass := this
  superClass := sup
  interfaces := ifs
  fields := fds
  methods := ms
  attributes := attrs
def plain (name : String) (sup : Option ClassId) : Class where
  name := name
  kind := .ordinary
  loader := none
  accessFlags := 33
  super := sup
  interfaces := #[]
  cf := none
  fields := #[]
  methods := #[]
  instanceTypes := #[]
  staticTypes := #[]
  resolved := #[]
  callSites := []
  init := .initialized
  statics := none
  mirror := none

def pool0 : Array CpInfo := pool [(5, u "<init>"), (0, u "()V"), (1, .class_ 10), (1, u "java/lang/Object")] 113

def k0c0 : Code := { maxStack := 0, maxLocals := 1, code := object_method_1_code, exceptionTable := #[], attributes := #[] }
def k0m0 : Method := { name := "<init>", desc := "()V", sig := { parameters := [], returnType := none }, accessFlags := 1, code := some k0c0 }
/-- java/lang/Object -/
def k0 : Class := { plain "java/lang/Object" none with
  accessFlags := 33
  interfaces := #[]
  cf := some (fileOf pool0 8 #[] #[{ accessFlags := 1, nameIndex := 5, descriptorIndex := 6, attributes := #[] }] 33 0 #[] #[])
  fields := #[]
  methods := #[k0m0]
  instanceTypes := #[]
  staticTypes := #[]
  resolved := Array.replicate 124 none
  statics := none }

def pool1 : Array CpInfo := pool [(2, .class_ 4), (0, .nameAndType 5 6), (0, u "java/lang/Object"), (0, u "<init>"), (0, u "()V"), (0, .methodref 8 9), (0, .class_ 10), (0, .nameAndType 11 12), (0, u "com/example/parley/parley/service/RequestQueue"), (0, u "add"), (0, u "(DI)V"), (0, .methodref 8 14), (0, .nameAndType 15 6), (0, u "removeFirst"), (0, .methodref 8 17), (0, .nameAndType 18 19), (0, u "isEmpty"), (0, u "()Z"), (0, .methodref 8 3), (0, .methodref 22 23), (0, .class_ 24), (0, .nameAndType 25 26), (0, u "com/example/parley/parley/service/RequestQueueIsEmptyPinLaw"), (0, u "step"), (0, u "(Lcom/example/parley/parley/service/RequestQueue;II)I"), (3, u "law"), (0, u "(IIII)Z")] 2

def k1m0 : Method := { name := "<init>", desc := "()V", sig := { parameters := [], returnType := none }, accessFlags := 2, code := none }
def k1c1 : Code := { maxStack := 4, maxLocals := 4, code := method_2_code, exceptionTable := #[], attributes := #[] }
def k1m1 : Method := { name := "step", desc := "(Lcom/example/parley/parley/service/RequestQueue;II)I", sig := { parameters := [(.object "com/example/parley/parley/service/RequestQueue"), .int, .int], returnType := some .int }, accessFlags := 10, code := some k1c1 }
def k1c2 : Code := { maxStack := 3, maxLocals := 6, code := code, exceptionTable := #[], attributes := #[] }
def k1m2 : Method := { name := "law", desc := "(IIII)Z", sig := { parameters := [.int, .int, .int, .int], returnType := some .boolean }, accessFlags := 9, code := some k1c2 }
/-- com/example/parley/parley/service/RequestQueueIsEmptyPinLaw -/
def k1 : Class := { plain "com/example/parley/parley/service/RequestQueueIsEmptyPinLaw" (some 0) with
  accessFlags := 49
  interfaces := #[]
  cf := some (fileOf pool1 22 #[] #[{ accessFlags := 2, nameIndex := 5, descriptorIndex := 6, attributes := #[] }, { accessFlags := 10, nameIndex := 25, descriptorIndex := 26, attributes := #[] }, { accessFlags := 9, nameIndex := 30, descriptorIndex := 31, attributes := #[] }] 49 2 #[] #[])
  fields := #[]
  methods := #[k1m0, k1m1, k1m2]
  instanceTypes := #[]
  staticTypes := #[]
  resolved := Array.replicate 34 none
  statics := none }

def pool2 : Array CpInfo := pool [(1, .methodref 2 3), (0, .class_ 4), (0, .nameAndType 5 6), (0, u "java/lang/Object"), (0, u "<init>"), (0, u "()V"), (0, .fieldref 8 9), (0, .class_ 10), (0, .nameAndType 11 12), (0, u "com/example/parley/parley/service/RequestQueue"), (0, u "arrivals"), (0, u "[D"), (0, .fieldref 8 14), (0, .nameAndType 15 16), (0, u "providers"), (0, u "[I"), (0, .fieldref 8 18), (0, .nameAndType 19 20), (0, u "size"), (0, u "I"), (3, .fieldref 8 25), (0, .nameAndType 26 20), (0, u "head"), (2, u "isEmpty"), (0, u "()Z"), (1, u "add"), (0, u "(DI)V"), (4, u "removeFirst")] 4

def k2c0 : Code := { maxStack := 2, maxLocals := 1, code := prog_9_method_1_code, exceptionTable := #[], attributes := #[] }
def k2m0 : Method := { name := "<init>", desc := "()V", sig := { parameters := [], returnType := none }, accessFlags := 0, code := some k2c0 }
def k2c1 : Code := { maxStack := 1, maxLocals := 1, code := prog_9_method_2_code, exceptionTable := #[], attributes := #[] }
def k2m1 : Method := { name := "isEmpty", desc := "()Z", sig := { parameters := [], returnType := some .boolean }, accessFlags := 0, code := some k2c1 }
def k2c2 : Code := { maxStack := 4, maxLocals := 5, code := prog_9_method_3_code, exceptionTable := #[], attributes := #[] }
def k2m2 : Method := { name := "add", desc := "(DI)V", sig := { parameters := [.double, .int], returnType := none }, accessFlags := 0, code := some k2c2 }
def k2c3 : Code := { maxStack := 4, maxLocals := 1, code := prog_9_method_6_code, exceptionTable := #[], attributes := #[] }
def k2m3 : Method := { name := "removeFirst", desc := "()V", sig := { parameters := [], returnType := none }, accessFlags := 0, code := some k2c3 }
/-- com/example/parley/parley/service/RequestQueue -/
def k2 : Class := { plain "com/example/parley/parley/service/RequestQueue" (some 0) with
  accessFlags := 48
  interfaces := #[]
  cf := some (fileOf pool2 8 #[] #[{ accessFlags := 0, nameIndex := 5, descriptorIndex := 6, attributes := #[] }, { accessFlags := 0, nameIndex := 29, descriptorIndex := 30, attributes := #[] }, { accessFlags := 0, nameIndex := 32, descriptorIndex := 33, attributes := #[] }, { accessFlags := 0, nameIndex := 38, descriptorIndex := 6, attributes := #[] }] 48 2 #[] #[{ accessFlags := 2, nameIndex := 11, descriptorIndex := 12, attributes := #[] }, { accessFlags := 2, nameIndex := 15, descriptorIndex := 16, attributes := #[] }, { accessFlags := 2, nameIndex := 26, descriptorIndex := 20, attributes := #[] }, { accessFlags := 2, nameIndex := 19, descriptorIndex := 20, attributes := #[] }])
  fields := #[{ name := "arrivals", type := (.array .double), accessFlags := 2, slot := 0, constantValue := 0 }, { name := "providers", type := (.array .int), accessFlags := 2, slot := 1, constantValue := 0 }, { name := "head", type := .int, accessFlags := 2, slot := 2, constantValue := 0 }, { name := "size", type := .int, accessFlags := 2, slot := 3, constantValue := 0 }]
  methods := #[k2m0, k2m1, k2m2, k2m3]
  instanceTypes := #[(.array .double), (.array .int), .int, .int]
  staticTypes := #[]
  resolved := Array.replicate 43 none
  statics := none }

def pool3 : Array CpInfo := pool [(1, u "java/lang/Cloneable"), (0, .class_ 1), (0, u "java/lang/Object"), (0, .class_ 3)] 3

/-- java/lang/Cloneable -/
def k3 : Class := { plain "java/lang/Cloneable" (some 0) with
  accessFlags := 1537
  interfaces := #[]
  cf := some (fileOf pool3 2 #[] #[] 1537 4 #[] #[])
  fields := #[]
  methods := #[]
  instanceTypes := #[]
  staticTypes := #[]
  resolved := Array.replicate 8 none
  statics := none }

def pool4 : Array CpInfo := pool [(1, u "java/io/Serializable"), (0, .class_ 1), (0, u "java/lang/Object"), (0, .class_ 3)] 3

/-- java/io/Serializable -/
def k4 : Class := { plain "java/io/Serializable" (some 0) with
  accessFlags := 1537
  interfaces := #[]
  cf := some (fileOf pool4 2 #[] #[] 1537 4 #[] #[])
  fields := #[]
  methods := #[]
  instanceTypes := #[]
  staticTypes := #[]
  resolved := Array.replicate 8 none
  statics := none }

/-- the primitive byte -/
def k5 : Class := { plain "byte" none with kind := .primitive 'B', accessFlags := 0x411 }
/-- [B -/
def k6 : Class := { plain "[B" (some 0) with kind := .array 5 .byte, interfaces := #[3, 4], accessFlags := 1041 }

/-- the primitive double -/
def k7 : Class := { plain "double" none with kind := .primitive 'D', accessFlags := 0x411 }
/-- [D -/
def k8 : Class := { plain "[D" (some 0) with kind := .array 7 .double, interfaces := #[3, 4], accessFlags := 1041 }

/-- the primitive int -/
def k9 : Class := { plain "int" none with kind := .primitive 'I', accessFlags := 0x411 }
/-- [I -/
def k10 : Class := { plain "[I" (some 0) with kind := .array 9 .int, interfaces := #[3, 4], accessFlags := 1041 }

def heap : Heap := #[]
def classes : Array Class := #[k0, k1, k2, k3, k4, k5, k6, k7, k8, k9, k10]
def interned : List (Array UInt16 × Addr) := []
def slotsUsed : Nat := 0
def theMethod : MethodId := ⟨1, 2⟩
def args0 : Array Value := #[.int 5, .int 300, .int 7, .int 300]
def aboutOver (below : List Frame) : State where
  vm := { classes := classes, interned := interned.toArray }
  heap := heap
  slotsUsed := slotsUsed
  threads := #[{ frames := .invoking theMethod args0 :: below }]
def below0 : List Frame := [.native { method := ⟨0, 0⟩, args := #[] }]
def about1 : State := aboutOver below0
def p0 : Program := .bare "" "" ""
def e0 : Env := launch0.env 0 0 0
theorem w_frames : about1.frames = Frame.invoking theMethod args0 :: below0 := rfl
set_option maxRecDepth 65536 in
theorem w_args : argsFit about1.vm theMethod args0 = true := by decide +kernel
set_option maxRecDepth 65536 in
theorem w_heap : heapFits about1 = true := by decide +kernel
set_option maxRecDepth 65536 in
theorem w_runnable : about1.curStatus? = some .runnable := by decide +kernel
set_option maxRecDepth 65536 in
theorem w_alone : about1.alone = true := by decide +kernel
set_option maxRecDepth 65536 in
theorem w_named : about1.methodNamed? x = some theMethod := by decide +kernel
set_option maxRecDepth 65536 in
theorem w_hears : about1.hears theMethod below0 = true := by decide +kernel
set_option maxRecDepth 65536 in
theorem w_ripe : about1.ripe theMethod args0 below0 = true := by decide +kernel
theorem w_running : about1.status = .running := rfl
set_option maxRecDepth 65536 in
theorem w_room : about1.hasRoom e0.platform room_1 = true :=
  launch0.hasRoom_least _ room_1 (by decide +kernel) (by decide +kernel) (by decide +kernel) (by decide +kernel) (by decide +kernel) (by decide +kernel)
theorem allAtoms_all (ts : List Jvm.Cond) (a : Array Jvm.Value) (st : Jvm.State) : (allAtoms ts).before a st = ts.all (fun c => c.before a st) := by
  induction ts with
  | nil => rfl
  | cons c t ih =>
    show (Jvm.Cond.and c (allAtoms t)).before a st = _
    rw [Jvm.Cond.before_and, ih, List.all_cons]
def words1 : List Jvm.Cond := Jvm.Cond.code x code maxLocals ret :: tables_1
/-- a 'code' word, met by the world's own term for the bytes: nothing is compared byte by byte -/
theorem code_word {y : MethodName} {bytes : ByteArray} {mx : Nat} {rt : Option FieldType} {a : Array Value} {s : State} {m : MethodId} {meth : Method} {c : Code} (h1 : s.methodNamed? y = some m) (h2 : s.vm.method? m = some meth) (h3 : meth.code = some c) (h4 : c.code = bytes)
    (h5 : (c.maxLocals == mx && c.exceptionTable.isEmpty && decide (c.maxStack ≤ mostOperands) && decide (meth.sig.returnType = rt) && !meth.locks && decide (parseMethodDescriptor y.desc = some meth.sig)) = true) : (Jvm.Cond.code y bytes mx rt).before a s = true := by
  simp only [Bool.and_eq_true, beq_iff_eq, Bool.not_eq_true', decide_eq_true_eq] at h5
  obtain ⟨⟨⟨⟨⟨g1, g2⟩, g3⟩, g4⟩, g5⟩, g6⟩ := h5
  simp [Cond.before, Cond.holds, Cond.value, h1, h2, h3, h4, g1, g2, g3, g4, g5, g6]
def isCode : Jvm.Cond → Bool
  | .code _ _ _ _ => true
  | _ => false
theorem all_split {L : List Jvm.Cond} {P : Jvm.Cond → Bool} (h1 : L.all (fun c => isCode c || P c) = true) (h2 : ∀ c ∈ L.filter isCode, P c = true) : L.all P = true := by
  refine List.all_eq_true.mpr fun c hc => ?_
  have h := List.all_eq_true.mp h1 c hc
  rcases Bool.eq_false_or_eq_true (isCode c) with hi | hi
  · exact h2 c (List.mem_filter.mpr ⟨hc, hi⟩)
  · simpa [hi] using h
set_option maxRecDepth 65536 in
theorem w_c0 : (Jvm.Cond.code x code maxLocals ret).before args0 about1 = true := code_word (m := ⟨1, 2⟩) (meth := k1m2) (c := k1c2) (by decide +kernel) rfl rfl rfl (by decide +kernel)
set_option maxRecDepth 65536 in
theorem w_c1 : (Jvm.Cond.code ({ cls := "com/example/parley/parley/service/RequestQueue", name := "<init>", desc := "()V" } : Jvm.MethodName) prog_9_method_1_code (1 : Nat) (Option.none : Option Jvm.ClassFile.FieldType)).before args0 about1 = true := code_word (m := ⟨2, 0⟩) (meth := k2m0) (c := k2c0) (by decide +kernel) rfl rfl rfl (by decide +kernel)
set_option maxRecDepth 65536 in
theorem w_c2 : (Jvm.Cond.code ({ cls := "java/lang/Object", name := "<init>", desc := "()V" } : Jvm.MethodName) object_method_1_code (1 : Nat) (Option.none : Option Jvm.ClassFile.FieldType)).before args0 about1 = true := code_word (m := ⟨0, 0⟩) (meth := k0m0) (c := k0c0) (by decide +kernel) rfl rfl rfl (by decide +kernel)
set_option maxRecDepth 65536 in
theorem w_c3 : (Jvm.Cond.code ({ cls := "com/example/parley/parley/service/RequestQueue", name := "isEmpty", desc := "()Z" } : Jvm.MethodName) prog_9_method_2_code (1 : Nat) (Option.some Jvm.ClassFile.FieldType.boolean)).before args0 about1 = true := code_word (m := ⟨2, 1⟩) (meth := k2m1) (c := k2c1) (by decide +kernel) rfl rfl rfl (by decide +kernel)
set_option maxRecDepth 65536 in
theorem w_c4 : (Jvm.Cond.code ({ cls := "com/example/parley/parley/service/RequestQueueIsEmptyPinLaw", name := "step", desc := "(Lcom/example/parley/parley/service/RequestQueue;II)I" } : Jvm.MethodName) method_2_code (4 : Nat) (Option.some Jvm.ClassFile.FieldType.int)).before args0 about1 = true := code_word (m := ⟨1, 1⟩) (meth := k1m1) (c := k1c1) (by decide +kernel) rfl rfl rfl (by decide +kernel)
set_option maxRecDepth 65536 in
theorem w_c5 : (Jvm.Cond.code ({ cls := "com/example/parley/parley/service/RequestQueue", name := "add", desc := "(DI)V" } : Jvm.MethodName) prog_9_method_3_code (5 : Nat) (Option.none : Option Jvm.ClassFile.FieldType)).before args0 about1 = true := code_word (m := ⟨2, 2⟩) (meth := k2m2) (c := k2c2) (by decide +kernel) rfl rfl rfl (by decide +kernel)
set_option maxRecDepth 65536 in
theorem w_c6 : (Jvm.Cond.code ({ cls := "com/example/parley/parley/service/RequestQueue", name := "removeFirst", desc := "()V" } : Jvm.MethodName) prog_9_method_6_code (1 : Nat) (Option.none : Option Jvm.ClassFile.FieldType)).before args0 about1 = true := code_word (m := ⟨2, 3⟩) (meth := k2m3) (c := k2c3) (by decide +kernel) rfl rfl rfl (by decide +kernel)
def codes1 : List Jvm.Cond := [Jvm.Cond.code x code maxLocals ret, Jvm.Cond.code ({ cls := "com/example/parley/parley/service/RequestQueue", name := "<init>", desc := "()V" } : Jvm.MethodName) prog_9_method_1_code (1 : Nat) (Option.none : Option Jvm.ClassFile.FieldType), Jvm.Cond.code ({ cls := "java/lang/Object", name := "<init>", desc := "()V" } : Jvm.MethodName) object_method_1_code (1 : Nat) (Option.none : Option Jvm.ClassFile.FieldType), Jvm.Cond.code ({ cls := "com/example/parley/parley/service/RequestQueue", name := "isEmpty", desc := "()Z" } : Jvm.MethodName) prog_9_method_2_code (1 : Nat) (Option.some Jvm.ClassFile.FieldType.boolean), Jvm.Cond.code ({ cls := "com/example/parley/parley/service/RequestQueueIsEmptyPinLaw", name := "step", desc := "(Lcom/example/parley/parley/service/RequestQueue;II)I" } : Jvm.MethodName) method_2_code (4 : Nat) (Option.some Jvm.ClassFile.FieldType.int), Jvm.Cond.code ({ cls := "com/example/parley/parley/service/RequestQueue", name := "add", desc := "(DI)V" } : Jvm.MethodName) prog_9_method_3_code (5 : Nat) (Option.none : Option Jvm.ClassFile.FieldType), Jvm.Cond.code ({ cls := "com/example/parley/parley/service/RequestQueue", name := "removeFirst", desc := "()V" } : Jvm.MethodName) prog_9_method_6_code (1 : Nat) (Option.none : Option Jvm.ClassFile.FieldType)]
set_option maxRecDepth 65536 in
theorem codes_eq : words1.filter isCode = codes1 := rfl
theorem w_codes : ∀ c ∈ words1.filter isCode, c.before args0 about1 = true := by
  rw [codes_eq]
  intro c hc
  simp only [codes1, List.mem_cons, List.not_mem_nil, or_false] at hc
  rcases hc with rfl | rfl | rfl | rfl | rfl | rfl | rfl
  · exact w_c0
  · exact w_c1
  · exact w_c2
  · exact w_c3
  · exact w_c4
  · exact w_c5
  · exact w_c6
set_option maxRecDepth 65536 in
theorem w_t1 : (words1.take 24).all (fun c => isCode c || c.before args0 about1) = true := by decide +kernel
set_option maxRecDepth 65536 in
theorem w_t2 : (words1.drop 24).all (fun c => isCode c || c.before args0 about1) = true := by decide +kernel
theorem w_tables : (allAtoms (Jvm.Cond.code x code maxLocals ret :: tables_1)).before args0 about1 = true := by
  rw [allAtoms_all]
  show words1.all (fun c => c.before args0 about1) = true
  refine all_split ?_ w_codes
  rw [← List.take_append_drop 24 words1, List.all_append, w_t1, w_t2]
  rfl
set_option maxRecDepth 65536 in
theorem w_case : (Jvm.Cond.and given_1 narrow_1).before args0 about1 = true := by decide +kernel
theorem w_applies : (headSpec (Jvm.Cond.code x code maxLocals ret :: tables_1) room_1).applies x e0.platform about1 = true :=
  (Spec.applies_iff w_frames).mpr ⟨w_running, w_runnable, w_alone, w_named, w_hears, w_ripe, w_room, w_tables⟩
theorem atStart : AtStart classFile x code maxLocals ret World_1 tables_1 room_1 Calls_1 rest_1 Pre_1 launch0 p0 e0 about1 theMethod args0 below0 :=
  ⟨lists_1, trivial, launch0.admits_env _ _ _, launch0.least_env, fairChoices_fair.cas, fairChoices_fair.clock, w_frames, w_args, w_heap, w_applies, trivial, trivial, w_case⟩
end start1
theorem witness_1 : WitnessClaimed_1 := ⟨start1.p0, start1.e0, start1.about1, start1.theMethod, start1.args0, start1.below0, start1.atStart⟩
end Jvm.Pilot.@@N@@
