import JvmDerived
import JvmDerived.Pilot.@@N@@Statement
import JvmDerived.Pilot.@@N@@Code
set_option linter.unusedVariables false
set_option linter.unusedSimpArgs false
@@BLOCK:NumsL.lean.txt@@
namespace Jvm.Pilot.@@N@@
open Jvm Jvm.ClassFile Sem Op Lib Jvm.Free Jvm.Stand Jvm.LawKit Jvm.RoadKit Bundle Jvm.Pilot.@@N@@.Jvm.D
section OwnGo
variable {p : Program} {l : Launch} {e : Env} {R : Room} {s : State} {m : MethodId} {args : Array Value} {below : List Frame} {meth : Method} {c : Code} {T T' : State} {locs : List Loc} {cells slots K1 K2 : Nat} {Q : Option Value → Heap → List Loc → Prop}
/-- from T at the frame f the run comes to an end that meets Q -/
def Go (p : Program) (e : Env) (below : List Frame) (s : State) (K1 K2 : Nat) (Q : Option Value → Heap → List Loc → Prop) (T : State) (f : JFrame) : Prop :=
  ∃ s₂ o, Steps p.tables e below (T.setTop f) s₂ ∧ s₂.status = .running ∧ Ended s₂ below o ∧ ∃ v L, o = .returned v ∧ Q v s₂.heap L ∧ FrameEnd s o s₂ L K1 K2
theorem Go.on {f f' : JFrame} (h : ∀ t, Steps p.tables e below (T'.setTop f') t → Steps p.tables e below (T.setTop f) t) (g : Go p e below s K1 K2 Q T' f') : Go p e below s K1 K2 Q T f := by
  obtain ⟨s₂, o, h1, r⟩ := g
  exact ⟨s₂, o, h _ h1, r⟩
theorem Go.cast {f f' : JFrame} (h : f = f') (g : Go p e below s K1 K2 Q T f') : Go p e below s K1 K2 Q T f := h ▸ g
theorem Go.gen {f : JFrame} (h : ∀ k1 k2 q, k1 = K1 → k2 = K2 → Q = q → Go p e below s k1 k2 q T f) : Go p e below s K1 K2 Q T f := h _ _ _ rfl rfl rfl
theorem Go.retV (X : Stand p l e R s m args below meth c T locs cells slots) (hx : p.tables.exec = Jvm.exec) {pc : Nat} {Ls : Array Slot} {w : Value} {t : FieldType} {i : Instr} {rest : List Value} (hret : meth.sig.returnType = some t) (hn : narrow t w = w)
    (hi : (i = .ireturn ∧ (t = .int ∨ t = .boolean ∨ t = .byte ∨ t = .char ∨ t = .short) ∧ ∃ z, w = .int z) ∨ (i = .lreturn ∧ t = .long ∧ ∃ z, w = .long z) ∨ (i = .dreturn ∧ t = .double ∧ ∃ z, w = .double z) ∨ (i = .freturn ∧ t = .float ∧ ∃ z, w = .float z) ∨ (i = .areturn ∧ t.isReference = true ∧ w.isRef = true))
    (hd : decode c.code pc = .ok (i, 1)) (hq : Q (some w) T.heap locs) (hc : cells ≤ K1) (hs : slots ≤ K2) (hlk : meth.locks = false := by assumption) : Go p e below s K1 K2 Q T (mkF m pc Ls (w :: rest)) := by
  obtain ⟨fs, hr, hrun, hended, hW, hsame⟩ := X.leave (v := some w) (fun h => by rw [hret] at h; cases h) hlk
  exact ⟨_, _, retOut X hx hret hn hi hd hr, hrun, hended, _, _, rfl, hq, ⟨_, rfl⟩, hW, hsame.mono hc hs⟩
theorem Go.retN (X : Stand p l e R s m args below meth c T locs cells slots) (hx : p.tables.exec = Jvm.exec) {pc : Nat} {Ls : Array Slot} {z : Int32} {t : FieldType} {rest : List Value} (hret : meth.sig.returnType = some t) (ht : t = .boolean ∨ t = .byte ∨ t = .char ∨ t = .short)
    (hd : decode c.code pc = .ok (.ireturn, 1)) (hq : Q (some (.int (nar t z))) T.heap locs) (hc : cells ≤ K1) (hs : slots ≤ K2) (hlk : meth.locks = false := by assumption) : Go p e below s K1 K2 Q T (mkF m pc Ls (.int z :: rest)) := by
  obtain ⟨fs, hr, hrun, hended, hW, hsame⟩ := X.leave (v := some (.int (nar t z))) (fun h => by rw [hret] at h; cases h) hlk
  exact ⟨_, _, Jvm.RoadKit.retN X hx hret ht hd hr, hrun, hended, _, _, rfl, hq, ⟨_, rfl⟩, hW, hsame.mono hc hs⟩
theorem Go.ret0 (X : Stand p l e R s m args below meth c T locs cells slots) (hx : p.tables.exec = Jvm.exec) {pc : Nat} {Ls : Array Slot} (hret : meth.sig.returnType = none)
    (hd : decode c.code pc = .ok (.return_, 1)) (hq : Q none T.heap locs) (hc : cells ≤ K1) (hs : slots ≤ K2) (hlk : meth.locks = false := by assumption) : Go p e below s K1 K2 Q T (mkF m pc Ls []) := by
  obtain ⟨fs, hr, hrun, hended, hW, hsame⟩ := X.leave (v := none) (fun _ => rfl) hlk
  exact ⟨_, _, X.returnOut hx hret hd hr, hrun, hended, _, _, rfl, hq, ⟨_, rfl⟩, hW, hsame.mono hc hs⟩
theorem own_lc_lt {a b : Int64} : lcmpW a b < 0 ↔ a < b := by rw [lcW]; exact lc_lt a b
theorem own_lc_gt {a b : Int64} : 0 < lcmpW a b ↔ b < a := by rw [lcW]; exact lc_gt a b
theorem own_lc_eq {a b : Int64} : lcmpW a b = 0 ↔ a = b := by rw [lcW]; exact lc_eq a b
theorem own_lremM {g : JFrame} {target : State} (X : Stand p l e R s m args below meth c T locs cells slots) (hx : p.tables.exec = Jvm.exec) (hg : g.method = m) {x y : Int64} {rest : List Value} (hd : decode c.code g.pc = .ok (.lrem, 1)) (hs : g.stack = .long y :: .long x :: rest) (hy : y ≠ 0)
    (hr : Steps p.tables e below (T.setTop { g with pc := g.pc + 1, stack := .long (x % y) :: rest }) target) : Steps p.tables e below (T.setTop g) target := by
  have q : x - x / y * y = x % y := by
    apply Int64.toInt_inj.mp
    have h1 := Int64.le_toInt (x % y)
    have h2 := Int64.toInt_lt (x % y)
    rw [Int64.toInt_sub, Int64.toInt_mul, Int64.toInt_div, Int.bmod_mul_bmod, Int.sub_bmod_bmod, Int.mul_comm (x.toInt.tdiv y.toInt), ← Int.tmod_def, ← Int64.toInt_mod]
    exact Int.bmod_eq_of_le_mul_two (by omega) (by omega)
  exact XS.lrem X.here hx hg hd hs hy (by rw [q]; exact hr)
theorem own_cl_gt {o : Option Ordering} : 0 < cmpValue o .l ↔ o = some .gt := by rcases o with _ | (_ | _ | _) <;> decide
theorem own_cl_lt {o : Option Ordering} : cmpValue o .l < 0 ↔ ¬ (o = some .gt ∨ o = some .eq) := by rcases o with _ | (_ | _ | _) <;> decide
theorem own_cg_lt {o : Option Ordering} : cmpValue o .g < 0 ↔ o = some .lt := by rcases o with _ | (_ | _ | _) <;> decide
theorem own_cg_gt {o : Option Ordering} : 0 < cmpValue o .g ↔ ¬ (o = some .lt ∨ o = some .eq) := by rcases o with _ | (_ | _ | _) <;> decide
theorem own_c_eq {o : Option Ordering} {k : CmpOp} : cmpValue o k = 0 ↔ o = some .eq := by cases k <;> rcases o with _ | (_ | _ | _) <;> decide
end OwnGo
section OwnFp
open Jvm.FP.Core
variable {a b V : UInt64} {x y z v : Int}
/-- the double a is finite and worth x units of 2^-1074 -/
def ZV (a : UInt64) (x : Int) : Prop := DFin a ∧ zval b64 (val64 a) = x
theorem ZV.ne (h : ZV a x) : val64 a ≠ .nan := h.1.ne_nan
theorem ZV.nn (h : ZV a x) : Jvm.Free.Fl.NoNaN64 a := Jvm.Free.Fl.noNaN64_no.mpr h.1.notNaN
theorem ZV.cmp (ha : ZV a x) (hb : ZV b y) : FP.dcmp a b = some (compare x y) := by
  show FP.Core.dcmp a b = _
  rw [dcmp_zval ha.ne hb.ne, ha.2, hb.2]
theorem ZV.uniq (ha : ZV a x) (hb : ZV a y) : x = y := ha.2.symm.trans hb.2
theorem own_fin_of {W : UInt64} (hn : val64 a ≠ .nan) (hW : DFin W) (h : zmag b64 (val64 a) ≤ zmag b64 (val64 W)) : DFin a := by
  cases h2 : val64 a with
  | nan => exact absurd h2 hn
  | inf s =>
    rw [h2] at h
    have := hW.zval_lt
    have e : zmag b64 (.inf s) = b64.tails * 2 ^ (b64.exps - 2) := rfl
    rw [e] at h
    omega
  | fin s c q => exact ⟨s, c, q, h2⟩
theorem own_natAbs (d : Datum) : (zval b64 d).natAbs = zmag b64 d := natAbs_signed _ _
theorem own_fin_of_z {W : UInt64} (hn : val64 a ≠ .nan) (hW : DFin W) (h : (zval b64 (val64 a)).natAbs ≤ (zval b64 (val64 W)).natAbs) : DFin a := by
  rw [own_natAbs, own_natAbs] at h; exact own_fin_of hn hW h
theorem ZV.add (ha : ZV a x) (hb : ZV b y) (hv : ZV V (x + y)) : ZV (FP.dadd a b) (x + y) := by
  have hn : val64 (FP.Core.dadd a b) ≠ .nan := (notNaN_iff _).mp (FP.Core.dadd_out ha.1.notNaN hb.1)
  have e : zval b64 (val64 (FP.Core.dadd a b)) = x + y := by
    have h1 := sum_le good_b64 ha.1 hb.1 (val64_fits a) (val64_fits b) (val64_fits V) hv.ne (by rw [ha.2, hb.2, hv.2]; exact Int.le_refl _)
    have h2 := sum_ge good_b64 ha.1 hb.1 (val64_fits a) (val64_fits b) (val64_fits V) hv.ne (by rw [ha.2, hb.2, hv.2]; exact Int.le_refl _)
    rw [← val64_dadd, hv.2] at h1 h2
    exact Int.le_antisymm h1 h2
  exact ⟨own_fin_of_z hn hv.1 (by rw [e, hv.2]; exact Nat.le_refl _), e⟩
theorem own_neg_fin {d : Datum} (h : ∃ s c q, d = .fin s c q) : ∃ s c q, negate d = .fin s c q := by
  obtain ⟨s, c, q, rfl⟩ := h; exact ⟨_, _, _, rfl⟩
theorem ZV.sub (ha : ZV a x) (hb : ZV b y) (hv : ZV V (x - y)) : ZV (FP.dsub a b) (x - y) := by
  have hn : val64 (FP.Core.dsub a b) ≠ .nan := (notNaN_iff _).mp (FP.Core.dsub_out ha.1.notNaN hb.1)
  have e : zval b64 (val64 (FP.Core.dsub a b)) = x - y := by
    have h1 := sum_le good_b64 ha.1 (own_neg_fin hb.1) (val64_fits a) (negate_fits (val64_fits b)) (val64_fits V) hv.ne (by rw [ha.2, zval_negate, hb.2, hv.2]; omega)
    have h2 := sum_ge good_b64 ha.1 (own_neg_fin hb.1) (val64_fits a) (negate_fits (val64_fits b)) (val64_fits V) hv.ne (by rw [ha.2, zval_negate, hb.2, hv.2]; omega)
    rw [← val64_dsub, hv.2] at h1 h2
    exact Int.le_antisymm h1 h2
  exact ⟨own_fin_of_z hn hv.1 (by rw [e, hv.2]; exact Nat.le_refl _), e⟩
/-- a sum or a difference lies between what bounds it -/
theorem ZV.add_le (ha : ZV a x) (hb : ZV b y) (hv : ZV V v) (h : x + y ≤ v) : zval b64 (val64 (FP.dadd a b)) ≤ v := by
  have h1 := sum_le good_b64 ha.1 hb.1 (val64_fits a) (val64_fits b) (val64_fits V) hv.ne (by rw [ha.2, hb.2, hv.2]; exact h)
  rw [← val64_dadd, hv.2] at h1; exact h1
theorem ZV.add_ge (ha : ZV a x) (hb : ZV b y) (hv : ZV V v) (h : v ≤ x + y) : v ≤ zval b64 (val64 (FP.dadd a b)) := by
  have h1 := sum_ge good_b64 ha.1 hb.1 (val64_fits a) (val64_fits b) (val64_fits V) hv.ne (by rw [ha.2, hb.2, hv.2]; exact h)
  rw [← val64_dadd, hv.2] at h1; exact h1
theorem ZV.sub_le (ha : ZV a x) (hb : ZV b y) (hv : ZV V v) (h : x - y ≤ v) : zval b64 (val64 (FP.dsub a b)) ≤ v := by
  have h1 := sum_le good_b64 ha.1 (own_neg_fin hb.1) (val64_fits a) (negate_fits (val64_fits b)) (val64_fits V) hv.ne (by rw [ha.2, zval_negate, hb.2, hv.2]; omega)
  rw [← val64_dsub, hv.2] at h1; exact h1
theorem ZV.sub_ge (ha : ZV a x) (hb : ZV b y) (hv : ZV V v) (h : v ≤ x - y) : v ≤ zval b64 (val64 (FP.dsub a b)) := by
  have h1 := sum_ge good_b64 ha.1 (own_neg_fin hb.1) (val64_fits a) (negate_fits (val64_fits b)) (val64_fits V) hv.ne (by rw [ha.2, zval_negate, hb.2, hv.2]; omega)
  rw [← val64_dsub, hv.2] at h1; exact h1
/-- the product's bounds -/
theorem own_mul_le (ha : ZV a x) (hb : ZV b y) (hv : ZV V v) (h : x * y ≤ v * (one64 : Int)) : zval b64 (val64 (FP.dmul a b)) ≤ v := by
  obtain ⟨⟨s, c, q, h1⟩, ex⟩ := ha
  obtain ⟨⟨t, d, r, h2⟩, ey⟩ := hb
  have f1 := val64_fits a; have f2 := val64_fits b
  rw [h1] at f1 ex; rw [h2] at f2 ey
  obtain ⟨p1, p2, p3⟩ := product_units f1 f2
  show zval b64 (val64 (FP.Core.dmul a b)) ≤ v
  rw [val64_dmul, h1, h2, p1, ← hv.2]
  refine zval_round_le good_b64 (val64_fits V) hv.ne (e0 := 2 * b64.qmin) (by decide) p2 ?_
  rw [p3, show (b64.qmin - 2 * b64.qmin).toNat = (-b64.qmin).toNat from by decide, pow_qmin64, hv.2, signed_xor]
  have : zval b64 (.fin s c q) * zval b64 (.fin t d r) ≤ v * (one64 : Int) := by rw [ex, ey]; exact h
  exact this
theorem own_mul_ge (ha : ZV a x) (hb : ZV b y) (hv : ZV V v) (h : v * (one64 : Int) ≤ x * y) : v ≤ zval b64 (val64 (FP.dmul a b)) := by
  obtain ⟨⟨s, c, q, h1⟩, ex⟩ := ha
  obtain ⟨⟨t, d, r, h2⟩, ey⟩ := hb
  have f1 := val64_fits a; have f2 := val64_fits b
  rw [h1] at f1 ex; rw [h2] at f2 ey
  obtain ⟨p1, p2, p3⟩ := product_units f1 f2
  show v ≤ zval b64 (val64 (FP.Core.dmul a b))
  rw [val64_dmul, h1, h2, p1, ← hv.2]
  refine zval_round_ge good_b64 (val64_fits V) hv.ne (e0 := 2 * b64.qmin) (by decide) p2 ?_
  rw [p3, show (b64.qmin - 2 * b64.qmin).toNat = (-b64.qmin).toNat from by decide, pow_qmin64, hv.2, signed_xor]
  have : v * (one64 : Int) ≤ zval b64 (.fin s c q) * zval b64 (.fin t d r) := by rw [ex, ey]; exact h
  exact this
theorem ZV.mul (ha : ZV a x) (hb : ZV b y) (hv : ZV V z) (h : x * y = z * (one64 : Int)) : ZV (FP.dmul a b) z := by
  have hn : val64 (FP.Core.dmul a b) ≠ .nan := (notNaN_iff _).mp (FP.Core.dmul_out ha.1 hb.1)
  have e : zval b64 (val64 (FP.Core.dmul a b)) = z := Int.le_antisymm (own_mul_le ha hb hv (Int.le_of_eq h)) (own_mul_ge ha hb hv (Int.le_of_eq h.symm))
  exact ⟨own_fin_of_z hn hv.1 (by rw [e, hv.2]; exact Nat.le_refl _), e⟩
/-- the quotient of finite doubles, the divisor not nought: its datum -/
theorem own_quot (ha : ZV a x) (hb : ZV b y) (hy : y ≠ 0) : ∃ s c q t d r, val64 a = .fin s c q ∧ val64 b = .fin t d r ∧ 0 < d ∧ val64 (FP.ddiv a b) = roundRatio b64 (s != t) c d (q - r) ∧ FP.Core.fits b64 (.fin s c q) ∧ FP.Core.fits b64 (.fin t d r) := by
  obtain ⟨⟨s, c, q, h1⟩, ex⟩ := ha
  obtain ⟨⟨t, d, r, h2⟩, ey⟩ := hb
  have f1 := val64_fits a; have f2 := val64_fits b
  rw [h1] at f1; rw [h2] at f2
  have hd : d ≠ 0 := fun q => by
    subst q
    rw [h2] at ey
    apply hy; rw [← ey]; show signed t (inUnits 0 r _) = 0
    unfold inUnits; rw [Nat.zero_mul, signed_zero]
  refine ⟨s, c, q, t, d, r, h1, h2, Nat.pos_of_ne_zero hd, ?_, f1, f2⟩
  show val64 (FP.Core.ddiv a b) = _
  rw [val64_ddiv, h1, h2]
  show (if d = 0 then _ else _) = _
  rw [if_neg hd]
theorem own_div_mag_le {c d : Nat} {q r : Int} {s t sg : Bool} (f1 : FP.Core.fits b64 (.fin s c q)) (f2 : FP.Core.fits b64 (.fin t d r)) (hd : 0 < d) {W : Datum} (fW : FP.Core.fits b64 W) (hW : W ≠ .nan)
    (h : inUnits c q b64.qmin * one64 ≤ zmag b64 W * inUnits d r b64.qmin) : zmag b64 (roundRatio b64 sg c d (q - r)) ≤ zmag b64 W := by
  have h1 := f1.2.1
  have h2 := f2.2.1
  have hq : b64.qmin < 0 := by decide
  refine zmag_roundRatio_le good_b64 hd fW hW (e0 := 2 * b64.qmin - r) (by omega) (by omega) ?_
  have e1 : (b64.qmin - (2 * b64.qmin - r)).toNat = (r - b64.qmin).toNat := by congr 1; omega
  rw [e1]
  have e2 : inUnits c (q - r) (2 * b64.qmin - r) = inUnits c q b64.qmin * one64 := by
    unfold inUnits
    rw [← pow_qmin64, Nat.mul_assoc, ← Nat.pow_add]
    congr 2; omega
  rw [e2]
  refine Nat.le_trans h (Nat.le_of_eq ?_)
  unfold inUnits
  rw [Nat.mul_comm d, Nat.mul_assoc]
theorem own_div_mag_ge {c d : Nat} {q r : Int} {s t sg : Bool} (f1 : FP.Core.fits b64 (.fin s c q)) (f2 : FP.Core.fits b64 (.fin t d r)) (hd : 0 < d) {W : Datum} (fW : FP.Core.fits b64 W)
    (h : zmag b64 W * inUnits d r b64.qmin ≤ inUnits c q b64.qmin * one64) : zmag b64 W ≤ zmag b64 (roundRatio b64 sg c d (q - r)) := by
  have h1 := f1.2.1
  have h2 := f2.2.1
  have hq : b64.qmin < 0 := by decide
  refine zmag_roundRatio_ge good_b64 hd fW (e0 := 2 * b64.qmin - r) (by omega) (by omega) ?_
  have e1 : (b64.qmin - (2 * b64.qmin - r)).toNat = (r - b64.qmin).toNat := by congr 1; omega
  rw [e1]
  have e2 : inUnits c (q - r) (2 * b64.qmin - r) = inUnits c q b64.qmin * one64 := by
    unfold inUnits
    rw [← pow_qmin64, Nat.mul_assoc, ← Nat.pow_add]
    congr 2; omega
  rw [e2]
  refine Nat.le_trans (Nat.le_of_eq ?_) h
  unfold inUnits
  rw [Nat.mul_comm d, Nat.mul_assoc]
/-- what is said of a quotient: r its units -/
def Quo (x y r : Int) : Prop := ∀ (V : UInt64) (v : Int), ZV V v → (x * (one64 : Int) ≤ v * y → r ≤ v) ∧ (v * y ≤ x * (one64 : Int) → v ≤ r)
theorem own_sgn_z (s : Bool) (m : Nat) : signed s m = if s then -(m : Int) else m := rfl
theorem ZV.neg_ex (h : ZV a x) : ∃ V, ZV V (-x) := by
  refine ⟨FP.Core.dneg a, ?_, ?_⟩
  · obtain ⟨⟨s, c, q, h1⟩, -⟩ := h; exact ⟨!s, c, q, by rw [val64_dneg, h1]; rfl⟩
  · rw [val64_dneg, zval_negate, h.2]
theorem own_mag {s : Bool} {c : Nat} {q : Int} : zval b64 (.fin s c q) = signed s (inUnits c q b64.qmin) := rfl
/-- the quotient by a positive double of at least one -/
theorem ZV.div (ha : ZV a x) (hb : ZV b y) (hy : (one64 : Int) ≤ y) : ∃ r, ZV (FP.ddiv a b) r ∧ Quo x y r := by
  have o1 := one64_pos
  obtain ⟨s, c, q, t, d, r, h1, h2, hd, h3, f1, f2⟩ := own_quot ha hb (by omega)
  have ey := hb.2; rw [h2, own_mag] at ey
  have ex := ha.2; rw [h1, own_mag] at ex
  have t0 : t = false := by
    cases t
    · rfl
    · simp only [own_sgn_z, if_true] at ey; omega
  subst t0
  have hy0 : (0 : Int) < y := by omega
  have ey' : ((inUnits d r b64.qmin : Nat) : Int) = y := ey
  generalize hu : inUnits d r b64.qmin = u at *
  generalize hc : inUnits c q b64.qmin = k at *
  have hsg : sgn (val64 (FP.ddiv a b)) = s := by rw [h3, sgn_roundRatio]; cases s <;> rfl
  have hne : val64 (FP.ddiv a b) ≠ .nan := by rw [h3]; exact roundRatio_ne_nan _ _ _ _ _
  have hz : zval b64 (val64 (FP.ddiv a b)) = signed s (zmag b64 (val64 (FP.ddiv a b))) := by rw [zval, hsg]
  have up : ∀ W : UInt64, val64 W ≠ .nan → k * one64 ≤ zmag b64 (val64 W) * u → zmag b64 (val64 (FP.ddiv a b)) ≤ zmag b64 (val64 W) := fun W hW h => by
    rw [h3]; exact own_div_mag_le f1 f2 hd (val64_fits W) hW (by rw [hu, hc]; exact h)
  have dn : ∀ W : UInt64, zmag b64 (val64 W) * u ≤ k * one64 → zmag b64 (val64 W) ≤ zmag b64 (val64 (FP.ddiv a b)) := fun W h => by
    rw [h3]; exact own_div_mag_ge f1 f2 hd (val64_fits W) (by rw [hu, hc]; exact h)
  have hk : k = zmag b64 (val64 a) := by rw [h1]; exact hc.symm
  have hfin : DFin (FP.ddiv a b) := own_fin_of hne ha.1 (up a ha.ne (by rw [← hk]; exact Nat.mul_le_mul_left _ (by omega)))
  refine ⟨_, ⟨hfin, rfl⟩, fun V v hv => ?_⟩
  rw [hz]
  generalize hm : zmag b64 (val64 (FP.ddiv a b)) = m at *
  have hV := own_natAbs (val64 V)
  rw [hv.2] at hV
  have upV := up V hv.ne
  have dnV := dn V
  rw [← hV] at upV dnV
  clear up dn
  have cast : ∀ p q : Nat, ((p * q : Nat) : Int) = (p : Int) * q := fun p q => by simp
  cases s
  · have ex' : (k : Int) = x := ex
    have em : signed false m = (m : Int) := rfl
    rw [em]
    constructor
    · intro h
      by_cases hv0 : 0 ≤ v
      · have e1 : (v.natAbs : Int) = v := Int.natAbs_of_nonneg hv0
        have : k * one64 ≤ v.natAbs * u := by apply Int.ofNat_le.mp; rw [cast, cast, ex', e1, ey']; exact h
        have := upV this; omega
      · exfalso
        have h5 : v * y < 0 := Int.mul_neg_of_neg_of_pos (by omega) hy0
        have h6 : 0 ≤ x * (one64 : Int) := Int.mul_nonneg (by omega) (by omega)
        omega
    · intro h
      by_cases hv0 : 0 ≤ v
      · have e1 : (v.natAbs : Int) = v := Int.natAbs_of_nonneg hv0
        have : v.natAbs * u ≤ k * one64 := by apply Int.ofNat_le.mp; rw [cast, cast, ex', e1, ey']; exact h
        have := dnV this; omega
      · omega
  · have ex' : -(k : Int) = x := ex
    have em : signed true m = -(m : Int) := rfl
    rw [em]
    have ek : (k : Int) = -x := by omega
    constructor
    · intro h
      by_cases hv0 : 0 ≤ v
      · omega
      · have e1 : (v.natAbs : Int) = -v := by omega
        have : v.natAbs * u ≤ k * one64 := by
          apply Int.ofNat_le.mp; rw [cast, cast, ek, e1, ey', Int.neg_mul, Int.neg_mul]; omega
        have := dnV this; omega
    · intro h
      by_cases hv0 : v ≤ 0
      · have e1 : (v.natAbs : Int) = -v := by omega
        have : k * one64 ≤ v.natAbs * u := by
          apply Int.ofNat_le.mp; rw [cast, cast, ek, e1, ey', Int.neg_mul, Int.neg_mul]; omega
        have := upV this; omega
      · exfalso
        have h5 : 0 < v * y := Int.mul_pos (by omega) hy0
        have h6 : x * (one64 : Int) ≤ 0 := by
          have : 0 ≤ (k : Int) * (one64 : Int) := Int.mul_nonneg (by omega) (by omega)
          rw [ek, Int.neg_mul] at this; omega
        omega
theorem ZV.div_exact (ha : ZV a x) (hb : ZV b y) (hy : (one64 : Int) ≤ y) (hv : ZV V z) (h : x * (one64 : Int) = z * y) : ZV (FP.ddiv a b) z := by
  obtain ⟨r, h1, h2⟩ := ha.div hb hy
  have h3 := h2 V z hv
  have : r = z := Int.le_antisymm (h3.1 (Int.le_of_eq h)) (h3.2 (Int.le_of_eq h.symm))
  exact this ▸ h1
/-- i * 2^k units are a double -/
theorem own_rep (i : Int) (k : Nat) (hi : i.natAbs < 2 ^ 53) (hk : k ≤ 2045) : ∃ V, ZV V (i * ((2 ^ k : Nat) : Int)) := by
  obtain ⟨c', q', h1, h2⟩ := round_exact good_b64 (decide (i < 0)) (c := i.natAbs) (q := (k : Int) + b64.qmin) hi (by omega) (by rw [show b64.qmax = 971 from by decide, qmin_b64]; omega)
  have hf : FP.Core.fits b64 (.fin (decide (i < 0)) c' q') := by rw [← h1]; exact round_fits good_b64 _
  refine ⟨of64 (.fin (decide (i < 0)) c' q'), ⟨_, _, _, val64_of64 hf⟩, ?_⟩
  rw [val64_of64 hf, own_mag, h2]
  unfold inUnits
  rw [show ((k : Int) + b64.qmin - b64.qmin).toNat = k from by omega, signed_mul, own_sgn_z]
  congr 1
  by_cases h : i < 0
  · simp only [h, decide_true, if_true]; omega
  · simp only [h, decide_false]; simp only [Bool.false_eq_true, if_false]; omega
theorem own_one64 : (one64 : Int) = ((2 ^ 1074 : Nat) : Int) := rfl
theorem ZV.of_int {i : Int} (h : DInt i a) : ZV a (i * (one64 : Int)) := by
  refine ⟨?_, DInt_zval h⟩
  unfold DInt at h
  cases h2 : val64 a with
  | nan => rw [h2] at h; exact h.elim
  | inf s => rw [h2] at h; exact h.elim
  | fin s c q => exact ⟨s, c, q, h2⟩
theorem own_i2d (n : Int32) : ZV (FP.i2d n) (n.toInt * (one64 : Int)) := ZV.of_int (i2d_int n)
theorem own_l2d {n : Int64} (h : n.toInt.natAbs ≤ 2 ^ 53) : ZV (FP.l2d n) (n.toInt * (one64 : Int)) := ZV.of_int (l2d_int h)
theorem own_ddiv_nn (ha : DFin a) (hb : DFin b) : FP.ddiv (FP.Core.dneg a) (FP.Core.dneg b) = FP.ddiv a b ∨ val64 (FP.ddiv a b) = .nan := by
  by_cases hn : val64 (FP.ddiv a b) = .nan
  · exact Or.inr hn
  · refine Or.inl (val64_inj hn ?_).symm
    obtain ⟨s, c, q, h1⟩ := ha
    obtain ⟨t, d, r, h2⟩ := hb
    show val64 (FP.Core.ddiv a b) = val64 (FP.Core.ddiv _ _)
    rw [val64_ddiv, val64_ddiv, val64_dneg, val64_dneg, h1, h2]
    show quotient b64 (.fin s c q) (.fin t d r) = quotient b64 (.fin (!s) c q) (.fin (!t) d r)
    simp only [quotient]
    have : ((!s) != (!t)) = (s != t) := by cases s <;> cases t <;> rfl
    rw [this]
theorem ZV.dneg (h : ZV a x) : ZV (FP.Core.dneg a) (-x) := by
  refine ⟨?_, by rw [val64_dneg, zval_negate, h.2]⟩
  obtain ⟨⟨s, c, q, h1⟩, -⟩ := h; exact ⟨!s, c, q, by rw [val64_dneg, h1]; rfl⟩
/-- the quotient by a negative double of at most minus one -/
theorem ZV.div_neg (ha : ZV a x) (hb : ZV b y) (hy : y ≤ -(one64 : Int)) : ∃ r, ZV (FP.ddiv a b) r ∧ Quo (-x) (-y) r := by
  obtain ⟨r, h1, h2⟩ := ha.dneg.div hb.dneg (by omega)
  have o1 := one64_pos
  obtain ⟨s, c, q, t, d, r', -, -, -, h3, -⟩ := own_quot ha hb (by omega)
  rcases own_ddiv_nn ha.1 hb.1 with h | h
  · exact ⟨r, h ▸ h1, h2⟩
  · rw [h3] at h; exact absurd h (roundRatio_ne_nan _ _ _ _ _)
/-- n / D against i / 2^j -/
theorem own_quo_int {n D r : Int} (h : Quo (n * (one64 : Int)) (D * (one64 : Int)) r) (i : Int) (j : Nat) (hj : j ≤ 1074) (hi : i.natAbs < 2 ^ 53) :
    (n * ((2 ^ j : Nat) : Int) ≤ i * D → r ≤ i * ((2 ^ (1074 - j) : Nat) : Int)) ∧ (i * D ≤ n * ((2 ^ j : Nat) : Int) → i * ((2 ^ (1074 - j) : Nat) : Int) ≤ r) := by
  obtain ⟨V, hV⟩ := own_rep i (1074 - j) hi (by omega)
  have q := h V _ hV
  have e : (one64 : Int) = ((2 ^ j : Nat) : Int) * ((2 ^ (1074 - j) : Nat) : Int) := by
    rw [own_one64, ← Int.natCast_mul, ← Nat.pow_add]; congr 2; omega
  have hu : (0 : Int) ≤ ((2 ^ (1074 - j) : Nat) : Int) * (one64 : Int) := Int.mul_nonneg (Int.natCast_nonneg _) (Int.natCast_nonneg _)
  have e1 : n * (one64 : Int) * (one64 : Int) = n * ((2 ^ j : Nat) : Int) * (((2 ^ (1074 - j) : Nat) : Int) * (one64 : Int)) := by
    conv => lhs; arg 1; rw [e]
    rw [← Int.mul_assoc n, Int.mul_assoc (n * _)]
  have e2 : i * ((2 ^ (1074 - j) : Nat) : Int) * (D * (one64 : Int)) = i * D * (((2 ^ (1074 - j) : Nat) : Int) * (one64 : Int)) := by rw [Int.mul_assoc i, Int.mul_left_comm _ D, ← Int.mul_assoc i D]
  rw [e1, e2] at q
  exact ⟨fun z => q.1 (Int.mul_le_mul_of_nonneg_right z hu), fun z => q.2 (Int.mul_le_mul_of_nonneg_right z hu)⟩
theorem own_zero : ZV (0 : UInt64) 0 := ⟨⟨_, _, _, val64_zero⟩, zval64_zero⟩
theorem own_one : ZV (4607182418800017408 : UInt64) (one64 : Int) := by
  have := ZV.of_int dint_one; rwa [Int.one_mul] at this
theorem own_cmp_gt {x y : Int} : some (compare x y) = some Ordering.gt ↔ y < x := by rw [Option.some.injEq]; exact compare_gt_iff x y
theorem own_cmp_lt {x y : Int} : some (compare x y) = some Ordering.lt ↔ x < y := by rw [Option.some.injEq]; exact compare_lt_iff x y
theorem own_cmp_eq {x y : Int} : some (compare x y) = some Ordering.eq ↔ x = y := by rw [Option.some.injEq]; exact compare_eq_iff x y
theorem own_dnn {i : Int} {a : UInt64} (h : DInt i a) : Jvm.Free.Fl.NoNaN64 a := (ZV.of_int h).nn
theorem own_nnd' {a : UInt64} (ha : DFin a) (n : Int32) (hn : n ≠ 0) : Jvm.Free.Fl.NoNaN64 (FP.ddiv a (FP.i2d n)) :=
  Jvm.Free.Fl.noNaN64_no.mpr (FP.Core.ddiv_out ha.notNaN (i2d_fin n) (fun q => i2d_ne_zero hn (by rwa [zero_bits2] at q)))
theorem own_nnd (s : Int64) (n : Int32) (hn : n ≠ 0) : Jvm.Free.Fl.NoNaN64 (FP.ddiv (FP.l2d s) (FP.i2d n)) := own_nnd' (l2d_fin s) n hn
theorem own_dz : DInt 0 (0 : UInt64) := by
  have : (0 : UInt64) = FP.l2d 0 := FP.Core.l2d_zero.symm
  rw [this]; exact l2d_int (a := 0) (by decide)
theorem own_div_eq {S S' : UInt64} {s : Int} (h : DInt s S) (h' : DInt s S') (n : Int32) (hn : 1 ≤ n.toInt) : FP.dcmp (FP.ddiv S (FP.i2d n)) (FP.ddiv S' (FP.i2d n)) = some .eq := by
  have hy : (one64 : Int) ≤ n.toInt * (one64 : Int) := by
    have := Int.mul_le_mul_of_nonneg_right hn (show (0 : Int) ≤ (one64 : Int) by omega)
    rwa [Int.one_mul] at this
  by_cases hs : s = 0
  · subst hs
    have z1 := ZV.of_int h
    have z2 := ZV.of_int h'
    rw [Int.zero_mul] at z1 z2
    have q1 := z1.div_exact (own_i2d n) hy own_zero (by rw [Int.zero_mul, Int.zero_mul])
    have q2 := z2.div_exact (own_i2d n) hy own_zero (by rw [Int.zero_mul, Int.zero_mul])
    rw [q1.cmp q2, own_cmp_eq]
  · have e := dint_unique hs h h'
    subst e
    have hz : n ≠ 0 := fun q => by subst q; revert hn; decide
    exact dcmp_refl (Jvm.Free.Fl.noNaN64_no.mp (own_nnd' (ZV.of_int h).1 n hz))
theorem own_ib (x : Int32) : x.toInt.natAbs ≤ 2147483648 := by have := x.le_toInt; have := x.toInt_lt; omega
end OwnFp
abbrev Si (n : Int32) : Slot := .val (.int n)
abbrev Sj (n : Int64) : Slot := .val (.long n)
abbrev Sd (n : UInt64) : Slot := .val (.double n)
abbrev Sr (n : Addr) : Slot := .val (.ref n)
def inV (t nw w : Int64) : Int32 := if (nw - w) < t then (if nw < t then (0 : Int32) else (1 : Int32)) else (0 : Int32)
section PureLaw
open Jvm.FP.Core
variable {x lo d1 wn : UInt64} {t nw w : Int64}
/-- a time, a now and a width that a double holds -/
def Tb (t : Int64) : Prop := t.toInt.natAbs ≤ 1099511627776
theorem own_bl (h : Tb t) (e : x = FP.l2d t) : ZV x (t.toInt * (one64 : Int)) := by subst e; unfold Tb at h; exact own_l2d (by omega)
theorem own_opos : (0 : Int) < (one64 : Int) := by have := one64_pos; omega
theorem own_cmpI (x y : Int) : compare (x * (one64 : Int)) (y * (one64 : Int)) = compare x y := compare_mul_pos x y _ own_opos
theorem own_lo (hn : Tb nw) (hw : Tb w) (e1 : d1 = FP.l2d nw) (e2 : wn = FP.l2d w) : ZV (FP.dsub d1 wn) ((nw.toInt - w.toInt) * (one64 : Int)) := by
  unfold Tb at hn hw
  obtain ⟨V, hV⟩ := own_rep (nw.toInt - w.toInt) 1074 (by omega) (by omega)
  have h1 := own_bl (x := d1) (t := nw) (by unfold Tb; omega) e1
  have h2 := own_bl (x := wn) (t := w) (by unfold Tb; omega) e2
  have eW : ((2 ^ 1074 : Nat) : Int) = (one64 : Int) := own_one64.symm
  rw [eW, Int.sub_mul] at hV
  rw [Int.sub_mul]
  exact h1.sub h2 hV
theorem own_cg (hx : ZV x (t.toInt * (one64 : Int))) {k : Int} (hl : ZV lo (k * (one64 : Int))) : (0 : Int32) < (cmpValue (FP.dcmp x lo) .g) ↔ k < t.toInt := by
  rw [hx.cmp hl, own_cmpI, own_cg_gt, own_cmp_lt, own_cmp_eq]; omega
theorem own_cl (hx : ZV x (t.toInt * (one64 : Int))) {k : Int} (hl : ZV lo (k * (one64 : Int))) : (0 : Int32) < (cmpValue (FP.dcmp x lo) .l) ↔ k < t.toInt := by
  rw [hx.cmp hl, own_cmpI, own_cl_gt, own_cmp_gt]
theorem own_sw (hn : Tb nw) (hw : Tb w) : (nw - w).toInt = nw.toInt - w.toInt := by
  unfold Tb at hn hw
  exact Jvm.Kit.i64_sub (by omega) (by omega)
theorem own_in1 (hn : Tb nw) (hw : Tb w) (h1 : nw.toInt - w.toInt < t.toInt) (h2 : t.toInt ≤ nw.toInt) : inV t nw w = 1 := by
  unfold inV
  rw [if_pos (by rw [Int64.lt_iff_toInt_lt, own_sw hn hw]; exact h1), if_neg (by rw [Int64.lt_iff_toInt_lt]; omega)]
theorem own_in0 (hn : Tb nw) (hw : Tb w) (h : t.toInt ≤ nw.toInt - w.toInt ∨ nw.toInt < t.toInt) : inV t nw w = 0 := by
  unfold inV
  simp only [Int64.lt_iff_toInt_lt, own_sw hn hw]
  split
  · rw [if_pos (by omega)]
  · rfl
theorem own_rt (c : Int32) (e : wn = FP.l2d w) (h : 1 ≤ w.toInt) (hb : Tb w) : Jvm.Free.Fl.NoNaN64 (FP.ddiv (FP.i2d c) wn) := by
  have hy : (one64 : Int) ≤ w.toInt * (one64 : Int) := by
    have := Int.mul_le_mul_of_nonneg_right h (show (0 : Int) ≤ (one64 : Int) by have := own_opos; omega)
    rwa [Int.one_mul] at this
  obtain ⟨r, hr, -⟩ := (own_i2d c).div (own_bl hb e) hy
  exact hr.nn
theorem own_same {c c' : Int32} {r : UInt64} (hr : FP.ddiv (FP.i2d c) wn = r) (h : c = c') (e : FP.l2d w = wn) (h1 : 1 ≤ w.toInt) (hb : Tb w) : (cmpValue (FP.dcmp r (FP.ddiv (FP.i2d c') wn)) .l) = (0 : Int32) := by
  subst h
  rw [hr, own_c_eq]
  exact dcmp_refl (Jvm.Free.Fl.noNaN64_no.mp (hr ▸ own_rt c e.symm h1 hb))
theorem own_k4 {i kk : Int32} (h : (i &&& (3 : Int32)) = kk) : kk = (0 : Int32) ∨ kk = (1 : Int32) ∨ kk = (2 : Int32) ∨ kk = (3 : Int32) := by
  have e1 : (i &&& 3).toInt = i.toInt % 2 ^ 2 := Jvm.Kit.i32_mask i 3 (k := 2) (by decide) (by decide)
  rw [h] at e1
  have k0 : (0 : Int32).toInt = 0 := by decide
  have k1 : (1 : Int32).toInt = 1 := by decide
  have k2 : (2 : Int32).toInt = 2 := by decide
  have k3 : (3 : Int32).toInt = 3 := by decide
  simp only [← Int32.toInt_inj, k0, k1, k2, k3]; omega
theorem own_lt {P : Prop} [Decidable P] {z : Int32} (h : z = (if P then (0 : Int32) else (1 : Int32))) : z = (0 : Int32) ∨ z = (1 : Int32) := by
  rw [h]; split
  · exact Or.inl rfl
  · exact Or.inr rfl
theorem own_m (y : Int32) (n : Int32) (k : Nat) (h1 : n.toBitVec.toNat = 2 ^ k - 1) (h0 : n.toInt = 2 ^ k - 1) (hk : k ≤ 31) : 0 ≤ (y &&& n).toInt64.toInt ∧ (y &&& n).toInt64.toInt ≤ n.toInt := by
  have e1 : (y &&& n).toInt = y.toInt % 2 ^ k := Jvm.Kit.i32_mask y n (k := k) (by omega) h1
  rw [Int32.toInt_toInt64, e1, h0]
  have : (0 : Int) < 2 ^ k := Int.pow_pos (by decide)
  have a := Int.emod_nonneg y.toInt (Int.ne_of_gt this)
  have b := Int.emod_lt_of_pos y.toInt this
  omega
theorem own_w {i : Int32} {j : Int64} (h : ((1 : Int32) + (i &&& (15 : Int32))).toInt64 = j) : 1 ≤ j.toInt ∧ j.toInt ≤ 16 := by
  have e1 : (i &&& 15).toInt = i.toInt % 2 ^ 4 := Jvm.Kit.i32_mask i 15 (k := 4) (by decide) (by decide)
  have l1 : (1 : Int32).toInt = 1 := by decide
  rw [← h, Int32.toInt_toInt64, Jvm.Kit.i32_add (by rw [e1, l1]; omega) (by rw [e1, l1]; omega), e1, l1]; omega
theorem own_ad {a z : Int64} {y : Int32} (h : (a + (y &&& (7 : Int32)).toInt64) = z) (hb : a.toInt.natAbs ≤ 4294967296) : a.toInt ≤ z.toInt ∧ z.toInt ≤ a.toInt + 7 := by
  have m := own_m y 7 3 (by decide) (by decide) (by decide)
  rw [show (7 : Int32).toInt = 7 by decide] at m
  rw [← h, Jvm.Kit.i64_add (by omega) (by omega)]; omega
theorem own_ad15 {a z : Int64} {y : Int32} (h : (a + (y &&& (15 : Int32)).toInt64) = z) (hb : a.toInt.natAbs ≤ 4294967296) : a.toInt ≤ z.toInt ∧ z.toInt ≤ a.toInt + 15 := by
  have m := own_m y 15 4 (by decide) (by decide) (by decide)
  rw [show (15 : Int32).toInt = 15 by decide] at m
  rw [← h, Jvm.Kit.i64_add (by omega) (by omega)]; omega
theorem own_nw {a z : Int64} {y : Int32} (h : (a + ((y &&& (31 : Int32)) - (10 : Int32)).toInt64) = z) (hb : a.toInt.natAbs ≤ 4294967296) : a.toInt - 10 ≤ z.toInt ∧ z.toInt ≤ a.toInt + 21 := by
  have e1 : (y &&& 31).toInt = y.toInt % 2 ^ 5 := Jvm.Kit.i32_mask y 31 (k := 5) (by decide) (by decide)
  have l1 : (10 : Int32).toInt = 10 := by decide
  have e2 : ((y &&& (31 : Int32)) - (10 : Int32)).toInt64.toInt = y.toInt % 2 ^ 5 - 10 := by
    rw [Int32.toInt_toInt64, Jvm.Kit.i32_sub (by rw [e1, l1]; omega) (by rw [e1, l1]; omega), e1, l1]
  rw [← h, Jvm.Kit.i64_add (by rw [e2]; omega) (by rw [e2]; omega), e2]; omega
theorem own_b0 {i : Int32} {j : Int64} (h : i.toInt64 = j) : j.toInt.natAbs ≤ 2147483648 := by
  rw [← h, Int32.toInt_toInt64]; exact own_ib i
theorem own_inf (h : Tb t) : ¬ ((cmpValue (FP.dcmp (FP.l2d t) (18442240474082181120 : UInt64)) .l) < (0 : Int32)) := by
  rw [own_cl_lt]
  have := (fin_lt_inf (own_bl h rfl).1).2
  exact fun q => q (Or.inl this.1)
theorem own_ge {u : Int64} (h : Tb t) (h' : Tb u) (hle : u.toInt ≤ t.toInt) : ¬ ((cmpValue (FP.dcmp (FP.l2d t) (FP.l2d u)) .l) < (0 : Int32)) := by
  rw [own_cl_lt, (own_bl h rfl).cmp (own_bl h' rfl), own_cmpI, own_cmp_gt, own_cmp_eq]; omega
theorem own_wpos (e : FP.l2d w = wn) (h : 1 ≤ w.toInt) (hb : Tb w) : (0 : Int32) < (cmpValue (FP.dcmp wn (0 : UInt64)) .l) := by
  rw [own_cl_gt, (own_bl hb e.symm).cmp own_zero, own_cmp_gt]
  exact Int.mul_pos (by omega) own_opos
theorem own_winf (e : FP.l2d w = wn) (hb : Tb w) : (cmpValue (FP.dcmp wn (9218868437227405312 : UInt64)) .g) < (0 : Int32) := by
  rw [own_cg_lt]; exact (fin_lt_inf (own_bl hb e.symm).1).1
end PureLaw

theorem d1_0 : decode prog_30_method_1_code 0 = .ok (.aload_n 0, 1) := by decide +kernel
theorem d1_1 : decode prog_30_method_1_code 1 = .ok (.invokespecial 1, 3) := by decide +kernel
theorem d1_4 : decode prog_30_method_1_code 4 = .ok (.aload_n 0, 1) := by decide +kernel
theorem d1_5 : decode prog_30_method_1_code 5 = .ok (.bipush 64, 2) := by decide +kernel
theorem d1_7 : decode prog_30_method_1_code 7 = .ok (.newarray .double, 2) := by decide +kernel
theorem d1_9 : decode prog_30_method_1_code 9 = .ok (.putfield 9, 3) := by decide +kernel
theorem d1_12 : decode prog_30_method_1_code 12 = .ok (.aload_n 0, 1) := by decide +kernel
theorem d1_13 : decode prog_30_method_1_code 13 = .ok (.ldc2_w 15, 3) := by decide +kernel
theorem d1_16 : decode prog_30_method_1_code 16 = .ok (.putfield 17, 3) := by decide +kernel
theorem d1_19 : decode prog_30_method_1_code 19 = .ok (.dload_n 1, 1) := by decide +kernel
theorem d1_20 : decode prog_30_method_1_code 20 = .ok (.dconst 0, 1) := by decide +kernel
theorem d1_21 : decode prog_30_method_1_code 21 = .ok (.dcmp .l, 1) := by decide +kernel
theorem d1_22 : decode prog_30_method_1_code 22 = .ok (.ifCond .le 11, 3) := by decide +kernel
theorem d1_25 : decode prog_30_method_1_code 25 = .ok (.dload_n 1, 1) := by decide +kernel
theorem d1_26 : decode prog_30_method_1_code 26 = .ok (.ldc2_w 21, 3) := by decide +kernel
theorem d1_29 : decode prog_30_method_1_code 29 = .ok (.dcmp .g, 1) := by decide +kernel
theorem d1_30 : decode prog_30_method_1_code 30 = .ok (.ifCond .lt 17, 3) := by decide +kernel
theorem d1_47 : decode prog_30_method_1_code 47 = .ok (.aload_n 0, 1) := by decide +kernel
theorem d1_48 : decode prog_30_method_1_code 48 = .ok (.dload_n 1, 1) := by decide +kernel
theorem d1_49 : decode prog_30_method_1_code 49 = .ok (.putfield 32, 3) := by decide +kernel
theorem d1_52 : decode prog_30_method_1_code 52 = .ok (.return_, 1) := by decide +kernel
theorem pn_0 : plainName "com/example/deliberate_scaler/deliberatescaler/model/RateWindow" = true := by first | (simp [plainName, overriddenIn]; done) | decide +kernel
theorem ef_rm1 (m : MethodId) (a0 : Addr) (d1 : UInt64) : entryFrame m #[(.ref a0), (.double d1)] 3 = mkF m 0 #[.val (.ref a0), .val (.double d1), .second] [] := by first | (simp [entryFrame, mkF, argsToLocals, Value.category]; done) | rfl
def Q_rm1 (Z : State) (a0 : Addr) (d1 : UInt64) (h0 : Heap) (n0 : Nat) (v : Option Value) (h : Heap) (L : List Loc) : Prop := v = none ∧ Fr n0 L ∧ ∃ (ar : Addr) (k_ar : ClassId), Keep h0 h [a0] ∧ h0.size ≤ ar ∧ Exa Z h a0 "com/example/deliberate_scaler/deliberatescaler/model/RateWindow" ∧ Fld Z h a0 "com/example/deliberate_scaler/deliberatescaler/model/RateWindow" "times" "[D" (.ref ar) ∧ Fld Z h a0 "com/example/deliberate_scaler/deliberatescaler/model/RateWindow" "latest" "D" (.double (18442240474082181120 : UInt64)) ∧ Fld Z h a0 "com/example/deliberate_scaler/deliberatescaler/model/RateWindow" "window" "D" (.double d1) ∧ Fld Z h a0 "com/example/deliberate_scaler/deliberatescaler/model/RateWindow" "first" "I" (.int (0 : Int32)) ∧ Fld Z h a0 "com/example/deliberate_scaler/deliberatescaler/model/RateWindow" "end" "I" (.int (0 : Int32)) ∧ Arv Z h ar k_ar .double (64 : Int32) [(.double (0 : UInt64)), (.double (0 : UInt64)), (.double (0 : UInt64)), (.double (0 : UInt64)), (.double (0 : UInt64)), (.double (0 : UInt64)), (.double (0 : UInt64)), (.double (0 : UInt64)), (.double (0 : UInt64)), (.double (0 : UInt64)), (.double (0 : UInt64)), (.double (0 : UInt64)), (.double (0 : UInt64)), (.double (0 : UInt64)), (.double (0 : UInt64)), (.double (0 : UInt64)), (.double (0 : UInt64)), (.double (0 : UInt64)), (.double (0 : UInt64)), (.double (0 : UInt64)), (.double (0 : UInt64)), (.double (0 : UInt64)), (.double (0 : UInt64)), (.double (0 : UInt64)), (.double (0 : UInt64)), (.double (0 : UInt64)), (.double (0 : UInt64)), (.double (0 : UInt64)), (.double (0 : UInt64)), (.double (0 : UInt64)), (.double (0 : UInt64)), (.double (0 : UInt64)), (.double (0 : UInt64)), (.double (0 : UInt64)), (.double (0 : UInt64)), (.double (0 : UInt64)), (.double (0 : UInt64)), (.double (0 : UInt64)), (.double (0 : UInt64)), (.double (0 : UInt64)), (.double (0 : UInt64)), (.double (0 : UInt64)), (.double (0 : UInt64)), (.double (0 : UInt64)), (.double (0 : UInt64)), (.double (0 : UInt64)), (.double (0 : UInt64)), (.double (0 : UInt64)), (.double (0 : UInt64)), (.double (0 : UInt64)), (.double (0 : UInt64)), (.double (0 : UInt64)), (.double (0 : UInt64)), (.double (0 : UInt64)), (.double (0 : UInt64)), (.double (0 : UInt64)), (.double (0 : UInt64)), (.double (0 : UInt64)), (.double (0 : UInt64)), (.double (0 : UInt64)), (.double (0 : UInt64)), (.double (0 : UInt64)), (.double (0 : UInt64)), (.double (0 : UInt64))] (.double (0 : UInt64))
set_option maxRecDepth 65536 in
set_option maxHeartbeats 40000000 in
theorem rm1 (l : Launch) (Z : State) (aw : Array Value) (hw : ∀ d ∈ tables_1, d.before aw Z = true) (ws : List Jvm.Cond) (a0 : Addr) (d1 : UInt64) (h0 : Heap) (n0 : Nat) (Z0 : n0 ≤ h0.size) (E_a0 : Exa Z h0 a0 "com/example/deliberate_scaler/deliberatescaler/model/RateWindow") (F_times_a0 : Fld Z h0 a0 "com/example/deliberate_scaler/deliberatescaler/model/RateWindow" "times" "[D" .null) (F_latest_a0 : Fld Z h0 a0 "com/example/deliberate_scaler/deliberatescaler/model/RateWindow" "latest" "D" (.double (0 : UInt64))) (F_window_a0 : Fld Z h0 a0 "com/example/deliberate_scaler/deliberatescaler/model/RateWindow" "window" "D" (.double (0 : UInt64))) (F_first_a0 : Fld Z h0 a0 "com/example/deliberate_scaler/deliberatescaler/model/RateWindow" "first" "I" (.int (0 : Int32))) (F_end_a0 : Fld Z h0 a0 "com/example/deliberate_scaler/deliberatescaler/model/RateWindow" "end" "I" (.int (0 : Int32))) (g_a0 : n0 ≤ a0) (hp : (0 : Int32) < (cmpValue (FP.dcmp d1 (0 : UInt64)) .l)) (hi : (cmpValue (FP.dcmp d1 (9218868437227405312 : UInt64)) .g) < (0 : Int32)) :
    MetFree l (⟨"com/example/deliberate_scaler/deliberatescaler/model/RateWindow", "<init>", "(D)V"⟩ : MethodName) (head1 (Jvm.Cond.code (⟨"com/example/deliberate_scaler/deliberatescaler/model/RateWindow", "<init>", "(D)V"⟩ : MethodName) prog_30_method_1_code 3 none :: ws) ({ frames := 1, cells := 1, slots := 64, locals := 12 } : Room)) (fun a U => a = #[(.ref a0), (.double d1)] ∧ Z.Warmed39 U.vm ∧ U.heap = h0) (fun _ _ _ _ _ => True) (fun _ U o U' => ∃ v L, o = .returned v ∧ Q_rm1 Z a0 d1 h0 n0 v U'.heap L ∧ FrameEnd U o U' L ({ frames := 1, cells := 1, slots := 64, locals := 12 } : Room).cells ({ frames := 1, cells := 1, slots := 64, locals := 12 } : Room).slots) := by
  refine MetFree.of_bodySF (plainFor_of_name pn_0) hisR ?_
  intro p e s m args below meth c s₁ Bd hml0 hP hK
  obtain ⟨rfl, hZ, hh⟩ := hP
  have hx := Bd.exec
  have hby := Bd.bytes
  have hml : c.maxLocals = 3 := hml0
  have hown : s.vm.findClass "com/example/deliberate_scaler/deliberatescaler/model/RateWindow" = some m.cls := findClass_of_methodNamed Bd.named
  have hnm := (name_of_methodNamed Bd.named Bd.method).1
  have hlk : meth.locks = false := BodyLoose.notSynchronized Bd
  have X0 : Stand p l e ({ frames := 1, cells := 1, slots := 64, locals := 12 } : Room) s m #[(.ref a0), (.double d1)] below meth c s₁ [] 0 0 := Stand.of_body Bd
  have e0 : s₁.heap = h0 := by rw [← hh, Bd.state]; rfl
  have N0 := Fr.nil n0
  have ZZ := Z0
  show Go p e below s ({ frames := 1, cells := 1, slots := 64, locals := 12 } : Room).cells ({ frames := 1, cells := 1, slots := 64, locals := 12 } : Room).slots (fun v h L => Q_rm1 Z a0 d1 h0 n0 v h L) s₁ (entryFrame m #[(.ref a0), (.double d1)] 3)
  refine Go.cast (ef_rm1 m a0 d1) ?_
  refine Go.gen ?_
  intro K1 K2 QQ hK1 hK2 hQQ
  have KP : Keep h0 h0 [a0] := Keep.refl _ _
  refine Go.on (fun _ k => XS.aloadN X0.here hx rfl (hb hby d1_0) rfl rfl k) ?_
  show Go _ _ _ _ _ _ _ _ (mkF m 1 #[.val (.ref a0), .val (.double d1), .second] [(.ref a0)])
  obtain ⟨T1, X1, e1, st1⟩ := initO X0 hx hZ hown (hw _ (List.mem_of_getElem? (i := 6) rfl)) (hw _ (List.mem_of_getElem? (i := 7) rfl)) (hw _ (List.mem_of_getElem? (i := 8) rfl)) e0 (g := (mkF m 1 #[.val (.ref a0), .val (.double d1), .second] [(.ref a0)])) rfl (by rw [hml]; rfl) rfl (hb hby d1_1) (by decide) (W := 0) (by show 2 * 0 + _ ≤ _; exact Nat.le_of_eq rfl) (by decide)
  refine Go.on st1 ?_
  show Go _ _ _ _ _ _ _ _ (mkF m 4 #[.val (.ref a0), .val (.double d1), .second] [])
  refine Go.on (fun _ k => XS.aloadN X1.here hx rfl (hb hby d1_4) rfl rfl k) ?_
  show Go _ _ _ _ _ _ _ _ (mkF m 5 #[.val (.ref a0), .val (.double d1), .second] [(.ref a0)])
  refine Go.on (fun _ k => XS.bipush X1.here hx rfl (hb hby d1_5) k) ?_
  show Go _ _ _ _ _ _ _ _ (mkF m 7 #[.val (.ref a0), .val (.double d1), .second] [(.int (64 : Int32)), (.ref a0)])
  obtain ⟨T2, h2, k_ar, X2, e2, E2, A2, st2⟩ := newP X1 hx hZ (hw _ (List.mem_of_getElem? (i := 9) rfl)) e1 (g := (mkF m 7 #[.val (.ref a0), .val (.double d1), .second] [(.int (64 : Int32)), (.ref a0)])) rfl (hb hby d1_7) rfl (by decide) (cap := 64) (by decide) (by decide) (by decide) (by decide)
  obtain ⟨ar, g2⟩ : ∃ z, z = h0.size := ⟨_, rfl⟩
  have ne_a0_ar : a0 ≠ ar := Nat.ne_of_lt (Nat.lt_of_lt_of_le E_a0.lt (Nat.le_of_eq g2.symm))
  have g_ar : n0 ≤ ar := Nat.le_trans ZZ (Nat.le_of_eq g2.symm)
  have sz_ar : h0.size ≤ ar := Nat.le_trans KP.1 (Nat.le_of_eq g2.symm)
  rw [← g2] at A2 st2
  replace E_a0 := E_a0.ext E2
  replace F_times_a0 := F_times_a0.ext E2
  replace F_latest_a0 := F_latest_a0.ext E2
  replace F_window_a0 := F_window_a0.ext E2
  replace F_first_a0 := F_first_a0.ext E2
  replace F_end_a0 := F_end_a0.ext E2
  replace ZZ := Nat.le_trans ZZ E2.1
  replace KP := KP.ext E2
  have V_ar : Arv Z h2 ar k_ar .double (64 : Int32) [(.double (0 : UInt64)), (.double (0 : UInt64)), (.double (0 : UInt64)), (.double (0 : UInt64)), (.double (0 : UInt64)), (.double (0 : UInt64)), (.double (0 : UInt64)), (.double (0 : UInt64)), (.double (0 : UInt64)), (.double (0 : UInt64)), (.double (0 : UInt64)), (.double (0 : UInt64)), (.double (0 : UInt64)), (.double (0 : UInt64)), (.double (0 : UInt64)), (.double (0 : UInt64)), (.double (0 : UInt64)), (.double (0 : UInt64)), (.double (0 : UInt64)), (.double (0 : UInt64)), (.double (0 : UInt64)), (.double (0 : UInt64)), (.double (0 : UInt64)), (.double (0 : UInt64)), (.double (0 : UInt64)), (.double (0 : UInt64)), (.double (0 : UInt64)), (.double (0 : UInt64)), (.double (0 : UInt64)), (.double (0 : UInt64)), (.double (0 : UInt64)), (.double (0 : UInt64)), (.double (0 : UInt64)), (.double (0 : UInt64)), (.double (0 : UInt64)), (.double (0 : UInt64)), (.double (0 : UInt64)), (.double (0 : UInt64)), (.double (0 : UInt64)), (.double (0 : UInt64)), (.double (0 : UInt64)), (.double (0 : UInt64)), (.double (0 : UInt64)), (.double (0 : UInt64)), (.double (0 : UInt64)), (.double (0 : UInt64)), (.double (0 : UInt64)), (.double (0 : UInt64)), (.double (0 : UInt64)), (.double (0 : UInt64)), (.double (0 : UInt64)), (.double (0 : UInt64)), (.double (0 : UInt64)), (.double (0 : UInt64)), (.double (0 : UInt64)), (.double (0 : UInt64)), (.double (0 : UInt64)), (.double (0 : UInt64)), (.double (0 : UInt64)), (.double (0 : UInt64)), (.double (0 : UInt64)), (.double (0 : UInt64)), (.double (0 : UInt64)), (.double (0 : UInt64))] (.double (0 : UInt64)) := (Arv.new A2 (by decide)).pad (pad_rep [] (.double (0 : UInt64)) 64)
  refine Go.on st2 ?_
  show Go _ _ _ _ _ _ _ _ (mkF m 9 #[.val (.ref a0), .val (.double d1), .second] [(.ref ar), (.ref a0)])
  obtain ⟨T3, h3, X3, e3, W3, st3⟩ := putF X2 hx hZ hown (host := "") (Or.inl (hw _ (List.mem_of_getElem? (i := 10) rfl))) Via.refl e2 F_times_a0 E_a0 (Or.inl (hw _ (List.mem_of_getElem? (i := 11) rfl))) (hw _ (List.mem_of_getElem? (i := 1) rfl)) (ty := (.array .double)) (by decide) rfl rfl (g := (mkF m 9 #[.val (.ref a0), .val (.double d1), .second] [(.ref ar), (.ref a0)])) rfl rfl (hb hby d1_9)
  refine Go.on st3 ?_
  replace F_times_a0 := F_times_a0.same W3
  replace E_a0 := E_a0.wr W3
  replace F_latest_a0 := F_latest_a0.other W3 (Or.inr (slot_ne (Or.inl (hw _ (List.mem_of_getElem? (i := 14) rfl))) (Or.inl (hw _ (List.mem_of_getElem? (i := 11) rfl))) (by decide) (t := .double) (t' := (.array .double)) (by decide) (by decide)))
  replace F_window_a0 := F_window_a0.other W3 (Or.inr (slot_ne (Or.inr (hw _ (List.mem_of_getElem? (i := 17) rfl))) (Or.inl (hw _ (List.mem_of_getElem? (i := 11) rfl))) (by decide) (t := .double) (t' := (.array .double)) (by decide) (by decide)))
  replace F_first_a0 := F_first_a0.other W3 (Or.inr (slot_ne (Or.inl (hw _ (List.mem_of_getElem? (i := 31) rfl))) (Or.inl (hw _ (List.mem_of_getElem? (i := 11) rfl))) (by decide) (t := .int) (t' := (.array .double)) (by decide) (by decide)))
  replace F_end_a0 := F_end_a0.other W3 (Or.inr (slot_ne (Or.inl (hw _ (List.mem_of_getElem? (i := 24) rfl))) (Or.inl (hw _ (List.mem_of_getElem? (i := 11) rfl))) (by decide) (t := .int) (t' := (.array .double)) (by decide) (by decide)))
  replace V_ar := V_ar.other W3 (Ne.symm ne_a0_ar)
  have N3 := Fr.snoc X3 N0 g_a0
  replace ZZ := Nat.le_trans ZZ (Keep.of_wr W3).1
  replace KP := KP.wr W3 (Or.inl (List.mem_of_getElem? (i := 0) rfl))
  show Go _ _ _ _ _ _ _ _ (mkF m 12 #[.val (.ref a0), .val (.double d1), .second] [])
  refine Go.on (fun _ k => XS.aloadN X3.here hx rfl (hb hby d1_12) rfl rfl k) ?_
  show Go _ _ _ _ _ _ _ _ (mkF m 13 #[.val (.ref a0), .val (.double d1), .second] [(.ref a0)])
  refine Go.on (X3.ldc2DoubleC hx hown (mvT hZ (hw _ (List.mem_of_getElem? (i := 12) rfl))) (g := (mkF m 13 #[.val (.ref a0), .val (.double d1), .second] [(.ref a0)])) rfl (hb hby d1_13)) ?_
  show Go _ _ _ _ _ _ _ _ (mkF m 16 #[.val (.ref a0), .val (.double d1), .second] [(.double (18442240474082181120 : UInt64)), (.ref a0)])
  obtain ⟨T4, h4, X4, e4, W4, st4⟩ := putF X3 hx hZ hown (host := "") (Or.inl (hw _ (List.mem_of_getElem? (i := 13) rfl))) Via.refl e3 F_latest_a0 E_a0 (Or.inl (hw _ (List.mem_of_getElem? (i := 14) rfl))) (hw _ (List.mem_of_getElem? (i := 1) rfl)) (ty := .double) (by decide) rfl rfl (g := (mkF m 16 #[.val (.ref a0), .val (.double d1), .second] [(.double (18442240474082181120 : UInt64)), (.ref a0)])) rfl rfl (hb hby d1_16)
  refine Go.on st4 ?_
  replace F_latest_a0 := F_latest_a0.same W4
  replace E_a0 := E_a0.wr W4
  replace F_times_a0 := F_times_a0.other W4 (Or.inr (slot_ne (Or.inl (hw _ (List.mem_of_getElem? (i := 11) rfl))) (Or.inl (hw _ (List.mem_of_getElem? (i := 14) rfl))) (by decide) (t := (.array .double)) (t' := .double) (by decide) (by decide)))
  replace F_window_a0 := F_window_a0.other W4 (Or.inr (slot_ne (Or.inr (hw _ (List.mem_of_getElem? (i := 17) rfl))) (Or.inl (hw _ (List.mem_of_getElem? (i := 14) rfl))) (by decide) (t := .double) (t' := .double) (by decide) (by decide)))
  replace F_first_a0 := F_first_a0.other W4 (Or.inr (slot_ne (Or.inl (hw _ (List.mem_of_getElem? (i := 31) rfl))) (Or.inl (hw _ (List.mem_of_getElem? (i := 14) rfl))) (by decide) (t := .int) (t' := .double) (by decide) (by decide)))
  replace F_end_a0 := F_end_a0.other W4 (Or.inr (slot_ne (Or.inl (hw _ (List.mem_of_getElem? (i := 24) rfl))) (Or.inl (hw _ (List.mem_of_getElem? (i := 14) rfl))) (by decide) (t := .int) (t' := .double) (by decide) (by decide)))
  replace V_ar := V_ar.other W4 (Ne.symm ne_a0_ar)
  have N4 := Fr.snoc X4 N3 g_a0
  replace ZZ := Nat.le_trans ZZ (Keep.of_wr W4).1
  replace KP := KP.wr W4 (Or.inl (List.mem_of_getElem? (i := 0) rfl))
  show Go _ _ _ _ _ _ _ _ (mkF m 19 #[.val (.ref a0), .val (.double d1), .second] [])
  refine Go.on (fun _ k => XS.dloadN X4.here hx rfl (hb hby d1_19) rfl k) ?_
  show Go _ _ _ _ _ _ _ _ (mkF m 20 #[.val (.ref a0), .val (.double d1), .second] [(.double d1)])
  refine Go.on (fun _ k => XS.dconst0 X4.here hx rfl (v := (0 : UInt64)) (hb hby d1_20) rfl k) ?_
  show Go _ _ _ _ _ _ _ _ (mkF m 21 #[.val (.ref a0), .val (.double d1), .second] [(.double (0 : UInt64)), (.double d1)])
  refine Go.on (fun _ k => XS.dcmpS X4.here hx rfl (hb hby d1_21) rfl rfl k) ?_
  show Go _ _ _ _ _ _ _ _ (mkF m 22 #[.val (.ref a0), .val (.double d1), .second] [(.int (cmpValue (FP.dcmp d1 (0 : UInt64)) .l))])
  have hc5 : (0 : Int32) < (cmpValue (FP.dcmp d1 (0 : UInt64)) .l) := hp
  refine Go.on (fun _ k => XS.ifNo X4.here hx rfl (hb hby d1_22) rfl ((if0 _ _).trans (tlt hc5).2.2.2) k) ?_
  show Go _ _ _ _ _ _ _ _ (mkF m 25 #[.val (.ref a0), .val (.double d1), .second] [])
  refine Go.on (fun _ k => XS.dloadN X4.here hx rfl (hb hby d1_25) rfl k) ?_
  show Go _ _ _ _ _ _ _ _ (mkF m 26 #[.val (.ref a0), .val (.double d1), .second] [(.double d1)])
  refine Go.on (X4.ldc2DoubleC hx hown (mvT hZ (hw _ (List.mem_of_getElem? (i := 15) rfl))) (g := (mkF m 26 #[.val (.ref a0), .val (.double d1), .second] [(.double d1)])) rfl (hb hby d1_26)) ?_
  show Go _ _ _ _ _ _ _ _ (mkF m 29 #[.val (.ref a0), .val (.double d1), .second] [(.double (9218868437227405312 : UInt64)), (.double d1)])
  refine Go.on (fun _ k => XS.dcmpS X4.here hx rfl (hb hby d1_29) rfl rfl k) ?_
  show Go _ _ _ _ _ _ _ _ (mkF m 30 #[.val (.ref a0), .val (.double d1), .second] [(.int (cmpValue (FP.dcmp d1 (9218868437227405312 : UInt64)) .g))])
  have hc6 : (cmpValue (FP.dcmp d1 (9218868437227405312 : UInt64)) .g) < (0 : Int32) := hi
  refine Go.on (fun _ k => XS.ifYes X4.here hx rfl (pc0 := 30) (pc' := 47) rfl (hb hby d1_30) rfl ((if0 _ _).trans (tlt hc6).1) (by decide) (by decide) k) ?_
  show Go _ _ _ _ _ _ _ _ (mkF m 47 #[.val (.ref a0), .val (.double d1), .second] [])
  refine Go.on (fun _ k => XS.aloadN X4.here hx rfl (hb hby d1_47) rfl rfl k) ?_
  show Go _ _ _ _ _ _ _ _ (mkF m 48 #[.val (.ref a0), .val (.double d1), .second] [(.ref a0)])
  refine Go.on (fun _ k => XS.dloadN X4.here hx rfl (hb hby d1_48) rfl k) ?_
  show Go _ _ _ _ _ _ _ _ (mkF m 49 #[.val (.ref a0), .val (.double d1), .second] [(.double d1), (.ref a0)])
  obtain ⟨T7, h7, X7, e7, W7, st7⟩ := putF X4 hx hZ hown (host := "") (Or.inl (hw _ (List.mem_of_getElem? (i := 16) rfl))) Via.refl e4 F_window_a0 E_a0 (Or.inr ⟨(hw _ (List.mem_of_getElem? (i := 17) rfl)), rfl, hnm⟩) (hw _ (List.mem_of_getElem? (i := 1) rfl)) (ty := .double) (by decide) rfl rfl (g := (mkF m 49 #[.val (.ref a0), .val (.double d1), .second] [(.double d1), (.ref a0)])) rfl rfl (hb hby d1_49)
  refine Go.on st7 ?_
  replace F_window_a0 := F_window_a0.same W7
  replace E_a0 := E_a0.wr W7
  replace F_times_a0 := F_times_a0.other W7 (Or.inr (slot_ne (Or.inl (hw _ (List.mem_of_getElem? (i := 11) rfl))) (Or.inr (hw _ (List.mem_of_getElem? (i := 17) rfl))) (by decide) (t := (.array .double)) (t' := .double) (by decide) (by decide)))
  replace F_latest_a0 := F_latest_a0.other W7 (Or.inr (slot_ne (Or.inl (hw _ (List.mem_of_getElem? (i := 14) rfl))) (Or.inr (hw _ (List.mem_of_getElem? (i := 17) rfl))) (by decide) (t := .double) (t' := .double) (by decide) (by decide)))
  replace F_first_a0 := F_first_a0.other W7 (Or.inr (slot_ne (Or.inl (hw _ (List.mem_of_getElem? (i := 31) rfl))) (Or.inr (hw _ (List.mem_of_getElem? (i := 17) rfl))) (by decide) (t := .int) (t' := .double) (by decide) (by decide)))
  replace F_end_a0 := F_end_a0.other W7 (Or.inr (slot_ne (Or.inl (hw _ (List.mem_of_getElem? (i := 24) rfl))) (Or.inr (hw _ (List.mem_of_getElem? (i := 17) rfl))) (by decide) (t := .int) (t' := .double) (by decide) (by decide)))
  replace V_ar := V_ar.other W7 (Ne.symm ne_a0_ar)
  have N7 := Fr.snoc X7 N4 g_a0
  replace ZZ := Nat.le_trans ZZ (Keep.of_wr W7).1
  replace KP := KP.wr W7 (Or.inl (List.mem_of_getElem? (i := 0) rfl))
  show Go _ _ _ _ _ _ _ _ (mkF m 52 #[.val (.ref a0), .val (.double d1), .second] [])
  refine Go.ret0 X7 hx Bd.returns (hb hby d1_52) ?_ (by rw [hK1]; decide) (by rw [hK2]; decide)
  rw [e7, ← hQQ]
  exact ⟨rfl, N7, ar, k_ar, KP, sz_ar, E_a0, F_times_a0, F_latest_a0, F_window_a0, F_first_a0, F_end_a0, V_ar⟩
theorem d3_0 : decode prog_30_method_2_code 0 = .ok (.dload_n 1, 1) := by decide +kernel
theorem d3_1 : decode prog_30_method_2_code 1 = .ok (.aload_n 0, 1) := by decide +kernel
theorem d3_2 : decode prog_30_method_2_code 2 = .ok (.getfield 17, 3) := by decide +kernel
theorem d3_5 : decode prog_30_method_2_code 5 = .ok (.dcmp .l, 1) := by decide +kernel
theorem d3_6 : decode prog_30_method_2_code 6 = .ok (.ifCond .ge 21, 3) := by decide +kernel
theorem d3_27 : decode prog_30_method_2_code 27 = .ok (.aload_n 0, 1) := by decide +kernel
theorem d3_28 : decode prog_30_method_2_code 28 = .ok (.dload_n 1, 1) := by decide +kernel
theorem d3_29 : decode prog_30_method_2_code 29 = .ok (.putfield 17, 3) := by decide +kernel
theorem d3_32 : decode prog_30_method_2_code 32 = .ok (.aload_n 0, 1) := by decide +kernel
theorem d3_33 : decode prog_30_method_2_code 33 = .ok (.getfield 38, 3) := by decide +kernel
theorem d3_36 : decode prog_30_method_2_code 36 = .ok (.aload_n 0, 1) := by decide +kernel
theorem d3_37 : decode prog_30_method_2_code 37 = .ok (.getfield 9, 3) := by decide +kernel
theorem d3_40 : decode prog_30_method_2_code 40 = .ok (.arraylength, 1) := by decide +kernel
theorem d3_41 : decode prog_30_method_2_code 41 = .ok (.if_icmp .ne 73, 3) := by decide +kernel
theorem d3_114 : decode prog_30_method_2_code 114 = .ok (.aload_n 0, 1) := by decide +kernel
theorem d3_115 : decode prog_30_method_2_code 115 = .ok (.getfield 9, 3) := by decide +kernel
theorem d3_118 : decode prog_30_method_2_code 118 = .ok (.aload_n 0, 1) := by decide +kernel
theorem d3_119 : decode prog_30_method_2_code 119 = .ok (.getfield 38, 3) := by decide +kernel
theorem d3_122 : decode prog_30_method_2_code 122 = .ok (.dload_n 1, 1) := by decide +kernel
theorem d3_123 : decode prog_30_method_2_code 123 = .ok (.dastore, 1) := by decide +kernel
theorem d3_124 : decode prog_30_method_2_code 124 = .ok (.aload_n 0, 1) := by decide +kernel
theorem d3_125 : decode prog_30_method_2_code 125 = .ok (.dup, 1) := by decide +kernel
theorem d3_126 : decode prog_30_method_2_code 126 = .ok (.getfield 38, 3) := by decide +kernel
theorem d3_129 : decode prog_30_method_2_code 129 = .ok (.iconst 1, 1) := by decide +kernel
theorem d3_130 : decode prog_30_method_2_code 130 = .ok (.iadd, 1) := by decide +kernel
theorem d3_131 : decode prog_30_method_2_code 131 = .ok (.putfield 38, 3) := by decide +kernel
theorem d3_134 : decode prog_30_method_2_code 134 = .ok (.return_, 1) := by decide +kernel
theorem ef_rw_add_0 (m : MethodId) (a0 : Addr) (d1 : UInt64) : entryFrame m #[(.ref a0), (.double d1)] 5 = mkF m 0 #[.val (.ref a0), .val (.double d1), .second, .unset, .unset] [] := by first | (simp [entryFrame, mkF, argsToLocals, Value.category]; done) | rfl
def Q_rw_add_0 (Z : State) (a0 : Addr) (d1 : UInt64) (as : Addr) (lt : UInt64) (wn : UInt64) (f0 : Int32) (k_as : ClassId) (h0 : Heap) (n0 : Nat) (v : Option Value) (h : Heap) (L : List Loc) : Prop := v = none ∧ Fr n0 L ∧ Keep h0 h [a0, as] ∧ Exa Z h a0 "com/example/deliberate_scaler/deliberatescaler/model/RateWindow" ∧ Fld Z h a0 "com/example/deliberate_scaler/deliberatescaler/model/RateWindow" "times" "[D" (.ref as) ∧ Fld Z h a0 "com/example/deliberate_scaler/deliberatescaler/model/RateWindow" "latest" "D" (.double d1) ∧ Fld Z h a0 "com/example/deliberate_scaler/deliberatescaler/model/RateWindow" "window" "D" (.double wn) ∧ Fld Z h a0 "com/example/deliberate_scaler/deliberatescaler/model/RateWindow" "first" "I" (.int f0) ∧ Fld Z h a0 "com/example/deliberate_scaler/deliberatescaler/model/RateWindow" "end" "I" (.int (1 : Int32)) ∧ Arv Z h as k_as .double (64 : Int32) [(.double d1), (.double (0 : UInt64)), (.double (0 : UInt64)), (.double (0 : UInt64)), (.double (0 : UInt64)), (.double (0 : UInt64)), (.double (0 : UInt64)), (.double (0 : UInt64)), (.double (0 : UInt64)), (.double (0 : UInt64)), (.double (0 : UInt64)), (.double (0 : UInt64)), (.double (0 : UInt64)), (.double (0 : UInt64)), (.double (0 : UInt64)), (.double (0 : UInt64)), (.double (0 : UInt64)), (.double (0 : UInt64)), (.double (0 : UInt64)), (.double (0 : UInt64)), (.double (0 : UInt64)), (.double (0 : UInt64)), (.double (0 : UInt64)), (.double (0 : UInt64)), (.double (0 : UInt64)), (.double (0 : UInt64)), (.double (0 : UInt64)), (.double (0 : UInt64)), (.double (0 : UInt64)), (.double (0 : UInt64)), (.double (0 : UInt64)), (.double (0 : UInt64)), (.double (0 : UInt64)), (.double (0 : UInt64)), (.double (0 : UInt64)), (.double (0 : UInt64)), (.double (0 : UInt64)), (.double (0 : UInt64)), (.double (0 : UInt64)), (.double (0 : UInt64)), (.double (0 : UInt64)), (.double (0 : UInt64)), (.double (0 : UInt64)), (.double (0 : UInt64)), (.double (0 : UInt64)), (.double (0 : UInt64)), (.double (0 : UInt64)), (.double (0 : UInt64)), (.double (0 : UInt64)), (.double (0 : UInt64)), (.double (0 : UInt64)), (.double (0 : UInt64)), (.double (0 : UInt64)), (.double (0 : UInt64)), (.double (0 : UInt64)), (.double (0 : UInt64)), (.double (0 : UInt64)), (.double (0 : UInt64)), (.double (0 : UInt64)), (.double (0 : UInt64)), (.double (0 : UInt64)), (.double (0 : UInt64)), (.double (0 : UInt64)), (.double (0 : UInt64))] (.double (0 : UInt64))
set_option maxRecDepth 65536 in
set_option maxHeartbeats 40000000 in
theorem rw_add_0 (l : Launch) (Z : State) (aw : Array Value) (hw : ∀ d ∈ tables_1, d.before aw Z = true) (ws : List Jvm.Cond) (a0 : Addr) (d1 : UInt64) (as : Addr) (lt : UInt64) (wn : UInt64) (f0 : Int32) (k_as : ClassId) (h0 : Heap) (n0 : Nat) (Z0 : n0 ≤ h0.size) (E_a0 : Exa Z h0 a0 "com/example/deliberate_scaler/deliberatescaler/model/RateWindow") (F_times_a0 : Fld Z h0 a0 "com/example/deliberate_scaler/deliberatescaler/model/RateWindow" "times" "[D" (.ref as)) (F_latest_a0 : Fld Z h0 a0 "com/example/deliberate_scaler/deliberatescaler/model/RateWindow" "latest" "D" (.double lt)) (F_window_a0 : Fld Z h0 a0 "com/example/deliberate_scaler/deliberatescaler/model/RateWindow" "window" "D" (.double wn)) (F_first_a0 : Fld Z h0 a0 "com/example/deliberate_scaler/deliberatescaler/model/RateWindow" "first" "I" (.int f0)) (F_end_a0 : Fld Z h0 a0 "com/example/deliberate_scaler/deliberatescaler/model/RateWindow" "end" "I" (.int (0 : Int32))) (V_as : Arv Z h0 as k_as .double (64 : Int32) [(.double (0 : UInt64)), (.double (0 : UInt64)), (.double (0 : UInt64)), (.double (0 : UInt64)), (.double (0 : UInt64)), (.double (0 : UInt64)), (.double (0 : UInt64)), (.double (0 : UInt64)), (.double (0 : UInt64)), (.double (0 : UInt64)), (.double (0 : UInt64)), (.double (0 : UInt64)), (.double (0 : UInt64)), (.double (0 : UInt64)), (.double (0 : UInt64)), (.double (0 : UInt64)), (.double (0 : UInt64)), (.double (0 : UInt64)), (.double (0 : UInt64)), (.double (0 : UInt64)), (.double (0 : UInt64)), (.double (0 : UInt64)), (.double (0 : UInt64)), (.double (0 : UInt64)), (.double (0 : UInt64)), (.double (0 : UInt64)), (.double (0 : UInt64)), (.double (0 : UInt64)), (.double (0 : UInt64)), (.double (0 : UInt64)), (.double (0 : UInt64)), (.double (0 : UInt64)), (.double (0 : UInt64)), (.double (0 : UInt64)), (.double (0 : UInt64)), (.double (0 : UInt64)), (.double (0 : UInt64)), (.double (0 : UInt64)), (.double (0 : UInt64)), (.double (0 : UInt64)), (.double (0 : UInt64)), (.double (0 : UInt64)), (.double (0 : UInt64)), (.double (0 : UInt64)), (.double (0 : UInt64)), (.double (0 : UInt64)), (.double (0 : UInt64)), (.double (0 : UInt64)), (.double (0 : UInt64)), (.double (0 : UInt64)), (.double (0 : UInt64)), (.double (0 : UInt64)), (.double (0 : UInt64)), (.double (0 : UInt64)), (.double (0 : UInt64)), (.double (0 : UInt64)), (.double (0 : UInt64)), (.double (0 : UInt64)), (.double (0 : UInt64)), (.double (0 : UInt64)), (.double (0 : UInt64)), (.double (0 : UInt64)), (.double (0 : UInt64)), (.double (0 : UInt64))] (.double (0 : UInt64))) (g_a0 : n0 ≤ a0) (g_as : n0 ≤ as) (ne_a0_as : a0 ≠ as) (hge : ¬ ((cmpValue (FP.dcmp d1 lt) .l) < (0 : Int32))) :
    MetFree l (⟨"com/example/deliberate_scaler/deliberatescaler/model/RateWindow", "add", "(D)V"⟩ : MethodName) (head1 (Jvm.Cond.code (⟨"com/example/deliberate_scaler/deliberatescaler/model/RateWindow", "add", "(D)V"⟩ : MethodName) prog_30_method_2_code 5 none :: ws) ({ frames := 0, cells := 0, slots := 0, locals := 0 } : Room)) (fun a U => a = #[(.ref a0), (.double d1)] ∧ Z.Warmed39 U.vm ∧ U.heap = h0) (fun _ _ _ _ _ => True) (fun _ U o U' => ∃ v L, o = .returned v ∧ Q_rw_add_0 Z a0 d1 as lt wn f0 k_as h0 n0 v U'.heap L ∧ FrameEnd U o U' L ({ frames := 0, cells := 0, slots := 0, locals := 0 } : Room).cells ({ frames := 0, cells := 0, slots := 0, locals := 0 } : Room).slots) := by
  refine MetFree.of_bodySF (plainFor_of_name pn_0) hisR ?_
  intro p e s m args below meth c s₁ Bd hml0 hP hK
  obtain ⟨rfl, hZ, hh⟩ := hP
  have hx := Bd.exec
  have hby := Bd.bytes
  have hml : c.maxLocals = 5 := hml0
  have hown : s.vm.findClass "com/example/deliberate_scaler/deliberatescaler/model/RateWindow" = some m.cls := findClass_of_methodNamed Bd.named
  have hnm := (name_of_methodNamed Bd.named Bd.method).1
  have hlk : meth.locks = false := BodyLoose.notSynchronized Bd
  have X0 : Stand p l e ({ frames := 0, cells := 0, slots := 0, locals := 0 } : Room) s m #[(.ref a0), (.double d1)] below meth c s₁ [] 0 0 := Stand.of_body Bd
  have e0 : s₁.heap = h0 := by rw [← hh, Bd.state]; rfl
  have N0 := Fr.nil n0
  have ZZ := Z0
  show Go p e below s ({ frames := 0, cells := 0, slots := 0, locals := 0 } : Room).cells ({ frames := 0, cells := 0, slots := 0, locals := 0 } : Room).slots (fun v h L => Q_rw_add_0 Z a0 d1 as lt wn f0 k_as h0 n0 v h L) s₁ (entryFrame m #[(.ref a0), (.double d1)] 5)
  refine Go.cast (ef_rw_add_0 m a0 d1) ?_
  refine Go.gen ?_
  intro K1 K2 QQ hK1 hK2 hQQ
  have KP : Keep h0 h0 [a0, as] := Keep.refl _ _
  refine Go.on (fun _ k => XS.dloadN X0.here hx rfl (hb hby d3_0) rfl k) ?_
  show Go _ _ _ _ _ _ _ _ (mkF m 1 #[.val (.ref a0), .val (.double d1), .second, .unset, .unset] [(.double d1)])
  refine Go.on (fun _ k => XS.aloadN X0.here hx rfl (hb hby d3_1) rfl rfl k) ?_
  show Go _ _ _ _ _ _ _ _ (mkF m 2 #[.val (.ref a0), .val (.double d1), .second, .unset, .unset] [(.ref a0), (.double d1)])
  obtain ⟨T1, X1, e1, st1⟩ := getF X0 hx hZ hown (host := "") (Or.inl (hw _ (List.mem_of_getElem? (i := 13) rfl))) Via.refl e0 F_latest_a0 (g := (mkF m 2 #[.val (.ref a0), .val (.double d1), .second, .unset, .unset] [(.ref a0), (.double d1)])) rfl rfl (hb hby d3_2)
  refine Go.on st1 ?_
  show Go _ _ _ _ _ _ _ _ (mkF m 5 #[.val (.ref a0), .val (.double d1), .second, .unset, .unset] [(.double lt), (.double d1)])
  refine Go.on (fun _ k => XS.dcmpS X1.here hx rfl (hb hby d3_5) rfl rfl k) ?_
  show Go _ _ _ _ _ _ _ _ (mkF m 6 #[.val (.ref a0), .val (.double d1), .second, .unset, .unset] [(.int (cmpValue (FP.dcmp d1 lt) .l))])
  have hc2 : ¬ ((cmpValue (FP.dcmp d1 lt) .l) < (0 : Int32)) := hge
  refine Go.on (fun _ k => XS.ifYes X1.here hx rfl (pc0 := 6) (pc' := 27) rfl (hb hby d3_6) rfl ((if0 _ _).trans (flt hc2).2.1) (by decide) (by decide) k) ?_
  show Go _ _ _ _ _ _ _ _ (mkF m 27 #[.val (.ref a0), .val (.double d1), .second, .unset, .unset] [])
  refine Go.on (fun _ k => XS.aloadN X1.here hx rfl (hb hby d3_27) rfl rfl k) ?_
  show Go _ _ _ _ _ _ _ _ (mkF m 28 #[.val (.ref a0), .val (.double d1), .second, .unset, .unset] [(.ref a0)])
  refine Go.on (fun _ k => XS.dloadN X1.here hx rfl (hb hby d3_28) rfl k) ?_
  show Go _ _ _ _ _ _ _ _ (mkF m 29 #[.val (.ref a0), .val (.double d1), .second, .unset, .unset] [(.double d1), (.ref a0)])
  obtain ⟨T3, h3, X3, e3, W3, st3⟩ := putF X1 hx hZ hown (host := "") (Or.inl (hw _ (List.mem_of_getElem? (i := 13) rfl))) Via.refl e1 F_latest_a0 E_a0 (Or.inl (hw _ (List.mem_of_getElem? (i := 14) rfl))) (hw _ (List.mem_of_getElem? (i := 1) rfl)) (ty := .double) (by decide) rfl rfl (g := (mkF m 29 #[.val (.ref a0), .val (.double d1), .second, .unset, .unset] [(.double d1), (.ref a0)])) rfl rfl (hb hby d3_29)
  refine Go.on st3 ?_
  replace F_latest_a0 := F_latest_a0.same W3
  replace E_a0 := E_a0.wr W3
  replace F_times_a0 := F_times_a0.other W3 (Or.inr (slot_ne (Or.inl (hw _ (List.mem_of_getElem? (i := 11) rfl))) (Or.inl (hw _ (List.mem_of_getElem? (i := 14) rfl))) (by decide) (t := (.array .double)) (t' := .double) (by decide) (by decide)))
  replace F_window_a0 := F_window_a0.other W3 (Or.inr (slot_ne (Or.inr (hw _ (List.mem_of_getElem? (i := 17) rfl))) (Or.inl (hw _ (List.mem_of_getElem? (i := 14) rfl))) (by decide) (t := .double) (t' := .double) (by decide) (by decide)))
  replace F_first_a0 := F_first_a0.other W3 (Or.inr (slot_ne (Or.inl (hw _ (List.mem_of_getElem? (i := 31) rfl))) (Or.inl (hw _ (List.mem_of_getElem? (i := 14) rfl))) (by decide) (t := .int) (t' := .double) (by decide) (by decide)))
  replace F_end_a0 := F_end_a0.other W3 (Or.inr (slot_ne (Or.inl (hw _ (List.mem_of_getElem? (i := 24) rfl))) (Or.inl (hw _ (List.mem_of_getElem? (i := 14) rfl))) (by decide) (t := .int) (t' := .double) (by decide) (by decide)))
  replace V_as := V_as.other W3 (Ne.symm ne_a0_as)
  have N3 := Fr.snoc X3 N0 g_a0
  replace ZZ := Nat.le_trans ZZ (Keep.of_wr W3).1
  replace KP := KP.wr W3 (Or.inl (List.mem_of_getElem? (i := 0) rfl))
  show Go _ _ _ _ _ _ _ _ (mkF m 32 #[.val (.ref a0), .val (.double d1), .second, .unset, .unset] [])
  refine Go.on (fun _ k => XS.aloadN X3.here hx rfl (hb hby d3_32) rfl rfl k) ?_
  show Go _ _ _ _ _ _ _ _ (mkF m 33 #[.val (.ref a0), .val (.double d1), .second, .unset, .unset] [(.ref a0)])
  obtain ⟨T4, X4, e4, st4⟩ := getF X3 hx hZ hown (host := "") (Or.inl (hw _ (List.mem_of_getElem? (i := 23) rfl))) Via.refl e3 F_end_a0 (g := (mkF m 33 #[.val (.ref a0), .val (.double d1), .second, .unset, .unset] [(.ref a0)])) rfl rfl (hb hby d3_33)
  refine Go.on st4 ?_
  show Go _ _ _ _ _ _ _ _ (mkF m 36 #[.val (.ref a0), .val (.double d1), .second, .unset, .unset] [(.int (0 : Int32))])
  refine Go.on (fun _ k => XS.aloadN X4.here hx rfl (hb hby d3_36) rfl rfl k) ?_
  show Go _ _ _ _ _ _ _ _ (mkF m 37 #[.val (.ref a0), .val (.double d1), .second, .unset, .unset] [(.ref a0), (.int (0 : Int32))])
  obtain ⟨T5, X5, e5, st5⟩ := getF X4 hx hZ hown (host := "") (Or.inl (hw _ (List.mem_of_getElem? (i := 10) rfl))) Via.refl e4 F_times_a0 (g := (mkF m 37 #[.val (.ref a0), .val (.double d1), .second, .unset, .unset] [(.ref a0), (.int (0 : Int32))])) rfl rfl (hb hby d3_37)
  refine Go.on st5 ?_
  show Go _ _ _ _ _ _ _ _ (mkF m 40 #[.val (.ref a0), .val (.double d1), .second, .unset, .unset] [(.ref as), (.int (0 : Int32))])
  obtain ⟨cl6, Ar6, -, S6, N6n, -, -⟩ := id V_as
  refine Go.on (X5.arraylength hx (by rw [e5]; exact Ar6.1) (State.isArrayOf_alike hZ.alike Ar6.2.1) (g := (mkF m 40 #[.val (.ref a0), .val (.double d1), .second, .unset, .unset] [(.ref as), (.int (0 : Int32))])) rfl rfl (hb hby d3_40)) ?_
  rw [len_of S6 N6n]
  show Go _ _ _ _ _ _ _ _ (mkF m 41 #[.val (.ref a0), .val (.double d1), .second, .unset, .unset] [(.int (64 : Int32)), (.int (0 : Int32))])
  have hc7 : ¬ ((0 : Int32) = (64 : Int32)) := by decide
  refine Go.on (fun _ k => XS.icmpYes X5.here hx rfl (pc0 := 41) (pc' := 114) rfl (hb hby d3_41) rfl (feq hc7).2 (by decide) (by decide) k) ?_
  show Go _ _ _ _ _ _ _ _ (mkF m 114 #[.val (.ref a0), .val (.double d1), .second, .unset, .unset] [])
  refine Go.on (fun _ k => XS.aloadN X5.here hx rfl (hb hby d3_114) rfl rfl k) ?_
  show Go _ _ _ _ _ _ _ _ (mkF m 115 #[.val (.ref a0), .val (.double d1), .second, .unset, .unset] [(.ref a0)])
  obtain ⟨T8, X8, e8, st8⟩ := getF X5 hx hZ hown (host := "") (Or.inl (hw _ (List.mem_of_getElem? (i := 10) rfl))) Via.refl e5 F_times_a0 (g := (mkF m 115 #[.val (.ref a0), .val (.double d1), .second, .unset, .unset] [(.ref a0)])) rfl rfl (hb hby d3_115)
  refine Go.on st8 ?_
  show Go _ _ _ _ _ _ _ _ (mkF m 118 #[.val (.ref a0), .val (.double d1), .second, .unset, .unset] [(.ref as)])
  refine Go.on (fun _ k => XS.aloadN X8.here hx rfl (hb hby d3_118) rfl rfl k) ?_
  show Go _ _ _ _ _ _ _ _ (mkF m 119 #[.val (.ref a0), .val (.double d1), .second, .unset, .unset] [(.ref a0), (.ref as)])
  obtain ⟨T9, X9, e9, st9⟩ := getF X8 hx hZ hown (host := "") (Or.inl (hw _ (List.mem_of_getElem? (i := 23) rfl))) Via.refl e8 F_end_a0 (g := (mkF m 119 #[.val (.ref a0), .val (.double d1), .second, .unset, .unset] [(.ref a0), (.ref as)])) rfl rfl (hb hby d3_119)
  refine Go.on st9 ?_
  show Go _ _ _ _ _ _ _ _ (mkF m 122 #[.val (.ref a0), .val (.double d1), .second, .unset, .unset] [(.int (0 : Int32)), (.ref as)])
  refine Go.on (fun _ k => XS.dloadN X9.here hx rfl (hb hby d3_122) rfl k) ?_
  show Go _ _ _ _ _ _ _ _ (mkF m 123 #[.val (.ref a0), .val (.double d1), .second, .unset, .unset] [(.double d1), (.int (0 : Int32)), (.ref as)])
  obtain ⟨cl10, Ar10, q10, S10, N10n, H10, G10⟩ := id V_as
  have hin10 : ¬ ((0 : Int32) < 0 ∨ cl10.slots.size ≤ ((0 : Int32)).toNatClampNeg) := inb_of S10 ⟨by decide, by decide⟩
  obtain ⟨T10, h10, X10, e10, W10, st10⟩ := stD X9 hx hZ e9 Ar10 (j := (0 : Int32)) hin10 (g := (mkF m 123 #[.val (.ref a0), .val (.double d1), .second, .unset, .unset] [(.double d1), (.int (0 : Int32)), (.ref as)])) rfl rfl (hb hby d3_123)
  replace V_as := Arv.set Ar10 q10 S10 N10n H10 G10 rfl W10 0 rfl (Nat.le_of_ble_eq_true rfl)
  replace E_a0 := E_a0.wr W10
  replace F_times_a0 := F_times_a0.other W10 (Or.inl ne_a0_as)
  replace F_latest_a0 := F_latest_a0.other W10 (Or.inl ne_a0_as)
  replace F_window_a0 := F_window_a0.other W10 (Or.inl ne_a0_as)
  replace F_first_a0 := F_first_a0.other W10 (Or.inl ne_a0_as)
  replace F_end_a0 := F_end_a0.other W10 (Or.inl ne_a0_as)
  refine Go.on st10 ?_
  have N10 := Fr.snoc X10 N3 g_as
  replace ZZ := Nat.le_trans ZZ (Keep.of_wr W10).1
  replace KP := KP.wr W10 (Or.inl (List.mem_of_getElem? (i := 1) rfl))
  change Arv Z h10 as k_as .double (64 : Int32) [(.double d1), (.double (0 : UInt64)), (.double (0 : UInt64)), (.double (0 : UInt64)), (.double (0 : UInt64)), (.double (0 : UInt64)), (.double (0 : UInt64)), (.double (0 : UInt64)), (.double (0 : UInt64)), (.double (0 : UInt64)), (.double (0 : UInt64)), (.double (0 : UInt64)), (.double (0 : UInt64)), (.double (0 : UInt64)), (.double (0 : UInt64)), (.double (0 : UInt64)), (.double (0 : UInt64)), (.double (0 : UInt64)), (.double (0 : UInt64)), (.double (0 : UInt64)), (.double (0 : UInt64)), (.double (0 : UInt64)), (.double (0 : UInt64)), (.double (0 : UInt64)), (.double (0 : UInt64)), (.double (0 : UInt64)), (.double (0 : UInt64)), (.double (0 : UInt64)), (.double (0 : UInt64)), (.double (0 : UInt64)), (.double (0 : UInt64)), (.double (0 : UInt64)), (.double (0 : UInt64)), (.double (0 : UInt64)), (.double (0 : UInt64)), (.double (0 : UInt64)), (.double (0 : UInt64)), (.double (0 : UInt64)), (.double (0 : UInt64)), (.double (0 : UInt64)), (.double (0 : UInt64)), (.double (0 : UInt64)), (.double (0 : UInt64)), (.double (0 : UInt64)), (.double (0 : UInt64)), (.double (0 : UInt64)), (.double (0 : UInt64)), (.double (0 : UInt64)), (.double (0 : UInt64)), (.double (0 : UInt64)), (.double (0 : UInt64)), (.double (0 : UInt64)), (.double (0 : UInt64)), (.double (0 : UInt64)), (.double (0 : UInt64)), (.double (0 : UInt64)), (.double (0 : UInt64)), (.double (0 : UInt64)), (.double (0 : UInt64)), (.double (0 : UInt64)), (.double (0 : UInt64)), (.double (0 : UInt64)), (.double (0 : UInt64)), (.double (0 : UInt64))] (.double (0 : UInt64)) at V_as
  show Go _ _ _ _ _ _ _ _ (mkF m 124 #[.val (.ref a0), .val (.double d1), .second, .unset, .unset] [])
  refine Go.on (fun _ k => XS.aloadN X10.here hx rfl (hb hby d3_124) rfl rfl k) ?_
  show Go _ _ _ _ _ _ _ _ (mkF m 125 #[.val (.ref a0), .val (.double d1), .second, .unset, .unset] [(.ref a0)])
  refine Go.on (fun _ k => XS.dup X10.here hx rfl (hb hby d3_125) rfl rfl k) ?_
  show Go _ _ _ _ _ _ _ _ (mkF m 126 #[.val (.ref a0), .val (.double d1), .second, .unset, .unset] [(.ref a0), (.ref a0)])
  obtain ⟨T11, X11, e11, st11⟩ := getF X10 hx hZ hown (host := "") (Or.inl (hw _ (List.mem_of_getElem? (i := 23) rfl))) Via.refl e10 F_end_a0 (g := (mkF m 126 #[.val (.ref a0), .val (.double d1), .second, .unset, .unset] [(.ref a0), (.ref a0)])) rfl rfl (hb hby d3_126)
  refine Go.on st11 ?_
  show Go _ _ _ _ _ _ _ _ (mkF m 129 #[.val (.ref a0), .val (.double d1), .second, .unset, .unset] [(.int (0 : Int32)), (.ref a0)])
  refine Go.on (fun _ k => XS.iconst X11.here hx rfl (hb hby d3_129) k) ?_
  show Go _ _ _ _ _ _ _ _ (mkF m 130 #[.val (.ref a0), .val (.double d1), .second, .unset, .unset] [(.int (1 : Int32)), (.int (0 : Int32)), (.ref a0)])
  refine Go.on (fun _ k => XS.iadd X11.here hx rfl (hb hby d3_130) rfl k) ?_
  show Go _ _ _ _ _ _ _ _ (mkF m 131 #[.val (.ref a0), .val (.double d1), .second, .unset, .unset] [(.int (1 : Int32)), (.ref a0)])
  obtain ⟨T12, h12, X12, e12, W12, st12⟩ := putF X11 hx hZ hown (host := "") (Or.inl (hw _ (List.mem_of_getElem? (i := 23) rfl))) Via.refl e11 F_end_a0 E_a0 (Or.inl (hw _ (List.mem_of_getElem? (i := 24) rfl))) (hw _ (List.mem_of_getElem? (i := 1) rfl)) (ty := .int) (by decide) rfl rfl (g := (mkF m 131 #[.val (.ref a0), .val (.double d1), .second, .unset, .unset] [(.int (1 : Int32)), (.ref a0)])) rfl rfl (hb hby d3_131)
  refine Go.on st12 ?_
  replace F_end_a0 := F_end_a0.same W12
  replace E_a0 := E_a0.wr W12
  replace F_times_a0 := F_times_a0.other W12 (Or.inr (slot_ne (Or.inl (hw _ (List.mem_of_getElem? (i := 11) rfl))) (Or.inl (hw _ (List.mem_of_getElem? (i := 24) rfl))) (by decide) (t := (.array .double)) (t' := .int) (by decide) (by decide)))
  replace F_latest_a0 := F_latest_a0.other W12 (Or.inr (slot_ne (Or.inl (hw _ (List.mem_of_getElem? (i := 14) rfl))) (Or.inl (hw _ (List.mem_of_getElem? (i := 24) rfl))) (by decide) (t := .double) (t' := .int) (by decide) (by decide)))
  replace F_window_a0 := F_window_a0.other W12 (Or.inr (slot_ne (Or.inr (hw _ (List.mem_of_getElem? (i := 17) rfl))) (Or.inl (hw _ (List.mem_of_getElem? (i := 24) rfl))) (by decide) (t := .double) (t' := .int) (by decide) (by decide)))
  replace F_first_a0 := F_first_a0.other W12 (Or.inr (slot_ne (Or.inl (hw _ (List.mem_of_getElem? (i := 31) rfl))) (Or.inl (hw _ (List.mem_of_getElem? (i := 24) rfl))) (by decide) (t := .int) (t' := .int) (by decide) (by decide)))
  replace V_as := V_as.other W12 (Ne.symm ne_a0_as)
  have N12 := Fr.snoc X12 N10 g_a0
  replace ZZ := Nat.le_trans ZZ (Keep.of_wr W12).1
  replace KP := KP.wr W12 (Or.inl (List.mem_of_getElem? (i := 0) rfl))
  show Go _ _ _ _ _ _ _ _ (mkF m 134 #[.val (.ref a0), .val (.double d1), .second, .unset, .unset] [])
  refine Go.ret0 X12 hx Bd.returns (hb hby d3_134) ?_ (by rw [hK1]; decide) (by rw [hK2]; decide)
  rw [e12, ← hQQ]
  exact ⟨rfl, N12, KP, E_a0, F_times_a0, F_latest_a0, F_window_a0, F_first_a0, F_end_a0, V_as⟩
theorem ef_rw_add_1 (m : MethodId) (a0 : Addr) (d1 : UInt64) : entryFrame m #[(.ref a0), (.double d1)] 5 = mkF m 0 #[.val (.ref a0), .val (.double d1), .second, .unset, .unset] [] := by first | (simp [entryFrame, mkF, argsToLocals, Value.category]; done) | rfl
def Q_rw_add_1 (Z : State) (a0 : Addr) (d1 : UInt64) (as : Addr) (lt : UInt64) (wn : UInt64) (f0 : Int32) (k_as : ClassId) (y0 : UInt64) (h0 : Heap) (n0 : Nat) (v : Option Value) (h : Heap) (L : List Loc) : Prop := v = none ∧ Fr n0 L ∧ Keep h0 h [a0, as] ∧ Exa Z h a0 "com/example/deliberate_scaler/deliberatescaler/model/RateWindow" ∧ Fld Z h a0 "com/example/deliberate_scaler/deliberatescaler/model/RateWindow" "times" "[D" (.ref as) ∧ Fld Z h a0 "com/example/deliberate_scaler/deliberatescaler/model/RateWindow" "latest" "D" (.double d1) ∧ Fld Z h a0 "com/example/deliberate_scaler/deliberatescaler/model/RateWindow" "window" "D" (.double wn) ∧ Fld Z h a0 "com/example/deliberate_scaler/deliberatescaler/model/RateWindow" "first" "I" (.int f0) ∧ Fld Z h a0 "com/example/deliberate_scaler/deliberatescaler/model/RateWindow" "end" "I" (.int (2 : Int32)) ∧ Arv Z h as k_as .double (64 : Int32) [(.double y0), (.double d1), (.double (0 : UInt64)), (.double (0 : UInt64)), (.double (0 : UInt64)), (.double (0 : UInt64)), (.double (0 : UInt64)), (.double (0 : UInt64)), (.double (0 : UInt64)), (.double (0 : UInt64)), (.double (0 : UInt64)), (.double (0 : UInt64)), (.double (0 : UInt64)), (.double (0 : UInt64)), (.double (0 : UInt64)), (.double (0 : UInt64)), (.double (0 : UInt64)), (.double (0 : UInt64)), (.double (0 : UInt64)), (.double (0 : UInt64)), (.double (0 : UInt64)), (.double (0 : UInt64)), (.double (0 : UInt64)), (.double (0 : UInt64)), (.double (0 : UInt64)), (.double (0 : UInt64)), (.double (0 : UInt64)), (.double (0 : UInt64)), (.double (0 : UInt64)), (.double (0 : UInt64)), (.double (0 : UInt64)), (.double (0 : UInt64)), (.double (0 : UInt64)), (.double (0 : UInt64)), (.double (0 : UInt64)), (.double (0 : UInt64)), (.double (0 : UInt64)), (.double (0 : UInt64)), (.double (0 : UInt64)), (.double (0 : UInt64)), (.double (0 : UInt64)), (.double (0 : UInt64)), (.double (0 : UInt64)), (.double (0 : UInt64)), (.double (0 : UInt64)), (.double (0 : UInt64)), (.double (0 : UInt64)), (.double (0 : UInt64)), (.double (0 : UInt64)), (.double (0 : UInt64)), (.double (0 : UInt64)), (.double (0 : UInt64)), (.double (0 : UInt64)), (.double (0 : UInt64)), (.double (0 : UInt64)), (.double (0 : UInt64)), (.double (0 : UInt64)), (.double (0 : UInt64)), (.double (0 : UInt64)), (.double (0 : UInt64)), (.double (0 : UInt64)), (.double (0 : UInt64)), (.double (0 : UInt64)), (.double (0 : UInt64))] (.double (0 : UInt64))
set_option maxRecDepth 65536 in
set_option maxHeartbeats 40000000 in
theorem rw_add_1 (l : Launch) (Z : State) (aw : Array Value) (hw : ∀ d ∈ tables_1, d.before aw Z = true) (ws : List Jvm.Cond) (a0 : Addr) (d1 : UInt64) (as : Addr) (lt : UInt64) (wn : UInt64) (f0 : Int32) (k_as : ClassId) (y0 : UInt64) (h0 : Heap) (n0 : Nat) (Z0 : n0 ≤ h0.size) (E_a0 : Exa Z h0 a0 "com/example/deliberate_scaler/deliberatescaler/model/RateWindow") (F_times_a0 : Fld Z h0 a0 "com/example/deliberate_scaler/deliberatescaler/model/RateWindow" "times" "[D" (.ref as)) (F_latest_a0 : Fld Z h0 a0 "com/example/deliberate_scaler/deliberatescaler/model/RateWindow" "latest" "D" (.double lt)) (F_window_a0 : Fld Z h0 a0 "com/example/deliberate_scaler/deliberatescaler/model/RateWindow" "window" "D" (.double wn)) (F_first_a0 : Fld Z h0 a0 "com/example/deliberate_scaler/deliberatescaler/model/RateWindow" "first" "I" (.int f0)) (F_end_a0 : Fld Z h0 a0 "com/example/deliberate_scaler/deliberatescaler/model/RateWindow" "end" "I" (.int (1 : Int32))) (V_as : Arv Z h0 as k_as .double (64 : Int32) [(.double y0), (.double (0 : UInt64)), (.double (0 : UInt64)), (.double (0 : UInt64)), (.double (0 : UInt64)), (.double (0 : UInt64)), (.double (0 : UInt64)), (.double (0 : UInt64)), (.double (0 : UInt64)), (.double (0 : UInt64)), (.double (0 : UInt64)), (.double (0 : UInt64)), (.double (0 : UInt64)), (.double (0 : UInt64)), (.double (0 : UInt64)), (.double (0 : UInt64)), (.double (0 : UInt64)), (.double (0 : UInt64)), (.double (0 : UInt64)), (.double (0 : UInt64)), (.double (0 : UInt64)), (.double (0 : UInt64)), (.double (0 : UInt64)), (.double (0 : UInt64)), (.double (0 : UInt64)), (.double (0 : UInt64)), (.double (0 : UInt64)), (.double (0 : UInt64)), (.double (0 : UInt64)), (.double (0 : UInt64)), (.double (0 : UInt64)), (.double (0 : UInt64)), (.double (0 : UInt64)), (.double (0 : UInt64)), (.double (0 : UInt64)), (.double (0 : UInt64)), (.double (0 : UInt64)), (.double (0 : UInt64)), (.double (0 : UInt64)), (.double (0 : UInt64)), (.double (0 : UInt64)), (.double (0 : UInt64)), (.double (0 : UInt64)), (.double (0 : UInt64)), (.double (0 : UInt64)), (.double (0 : UInt64)), (.double (0 : UInt64)), (.double (0 : UInt64)), (.double (0 : UInt64)), (.double (0 : UInt64)), (.double (0 : UInt64)), (.double (0 : UInt64)), (.double (0 : UInt64)), (.double (0 : UInt64)), (.double (0 : UInt64)), (.double (0 : UInt64)), (.double (0 : UInt64)), (.double (0 : UInt64)), (.double (0 : UInt64)), (.double (0 : UInt64)), (.double (0 : UInt64)), (.double (0 : UInt64)), (.double (0 : UInt64)), (.double (0 : UInt64))] (.double (0 : UInt64))) (g_a0 : n0 ≤ a0) (g_as : n0 ≤ as) (ne_a0_as : a0 ≠ as) (hge : ¬ ((cmpValue (FP.dcmp d1 lt) .l) < (0 : Int32))) :
    MetFree l (⟨"com/example/deliberate_scaler/deliberatescaler/model/RateWindow", "add", "(D)V"⟩ : MethodName) (head1 (Jvm.Cond.code (⟨"com/example/deliberate_scaler/deliberatescaler/model/RateWindow", "add", "(D)V"⟩ : MethodName) prog_30_method_2_code 5 none :: ws) ({ frames := 0, cells := 0, slots := 0, locals := 0 } : Room)) (fun a U => a = #[(.ref a0), (.double d1)] ∧ Z.Warmed39 U.vm ∧ U.heap = h0) (fun _ _ _ _ _ => True) (fun _ U o U' => ∃ v L, o = .returned v ∧ Q_rw_add_1 Z a0 d1 as lt wn f0 k_as y0 h0 n0 v U'.heap L ∧ FrameEnd U o U' L ({ frames := 0, cells := 0, slots := 0, locals := 0 } : Room).cells ({ frames := 0, cells := 0, slots := 0, locals := 0 } : Room).slots) := by
  refine MetFree.of_bodySF (plainFor_of_name pn_0) hisR ?_
  intro p e s m args below meth c s₁ Bd hml0 hP hK
  obtain ⟨rfl, hZ, hh⟩ := hP
  have hx := Bd.exec
  have hby := Bd.bytes
  have hml : c.maxLocals = 5 := hml0
  have hown : s.vm.findClass "com/example/deliberate_scaler/deliberatescaler/model/RateWindow" = some m.cls := findClass_of_methodNamed Bd.named
  have hnm := (name_of_methodNamed Bd.named Bd.method).1
  have hlk : meth.locks = false := BodyLoose.notSynchronized Bd
  have X0 : Stand p l e ({ frames := 0, cells := 0, slots := 0, locals := 0 } : Room) s m #[(.ref a0), (.double d1)] below meth c s₁ [] 0 0 := Stand.of_body Bd
  have e0 : s₁.heap = h0 := by rw [← hh, Bd.state]; rfl
  have N0 := Fr.nil n0
  have ZZ := Z0
  show Go p e below s ({ frames := 0, cells := 0, slots := 0, locals := 0 } : Room).cells ({ frames := 0, cells := 0, slots := 0, locals := 0 } : Room).slots (fun v h L => Q_rw_add_1 Z a0 d1 as lt wn f0 k_as y0 h0 n0 v h L) s₁ (entryFrame m #[(.ref a0), (.double d1)] 5)
  refine Go.cast (ef_rw_add_1 m a0 d1) ?_
  refine Go.gen ?_
  intro K1 K2 QQ hK1 hK2 hQQ
  have KP : Keep h0 h0 [a0, as] := Keep.refl _ _
  refine Go.on (fun _ k => XS.dloadN X0.here hx rfl (hb hby d3_0) rfl k) ?_
  show Go _ _ _ _ _ _ _ _ (mkF m 1 #[.val (.ref a0), .val (.double d1), .second, .unset, .unset] [(.double d1)])
  refine Go.on (fun _ k => XS.aloadN X0.here hx rfl (hb hby d3_1) rfl rfl k) ?_
  show Go _ _ _ _ _ _ _ _ (mkF m 2 #[.val (.ref a0), .val (.double d1), .second, .unset, .unset] [(.ref a0), (.double d1)])
  obtain ⟨T1, X1, e1, st1⟩ := getF X0 hx hZ hown (host := "") (Or.inl (hw _ (List.mem_of_getElem? (i := 13) rfl))) Via.refl e0 F_latest_a0 (g := (mkF m 2 #[.val (.ref a0), .val (.double d1), .second, .unset, .unset] [(.ref a0), (.double d1)])) rfl rfl (hb hby d3_2)
  refine Go.on st1 ?_
  show Go _ _ _ _ _ _ _ _ (mkF m 5 #[.val (.ref a0), .val (.double d1), .second, .unset, .unset] [(.double lt), (.double d1)])
  refine Go.on (fun _ k => XS.dcmpS X1.here hx rfl (hb hby d3_5) rfl rfl k) ?_
  show Go _ _ _ _ _ _ _ _ (mkF m 6 #[.val (.ref a0), .val (.double d1), .second, .unset, .unset] [(.int (cmpValue (FP.dcmp d1 lt) .l))])
  have hc2 : ¬ ((cmpValue (FP.dcmp d1 lt) .l) < (0 : Int32)) := hge
  refine Go.on (fun _ k => XS.ifYes X1.here hx rfl (pc0 := 6) (pc' := 27) rfl (hb hby d3_6) rfl ((if0 _ _).trans (flt hc2).2.1) (by decide) (by decide) k) ?_
  show Go _ _ _ _ _ _ _ _ (mkF m 27 #[.val (.ref a0), .val (.double d1), .second, .unset, .unset] [])
  refine Go.on (fun _ k => XS.aloadN X1.here hx rfl (hb hby d3_27) rfl rfl k) ?_
  show Go _ _ _ _ _ _ _ _ (mkF m 28 #[.val (.ref a0), .val (.double d1), .second, .unset, .unset] [(.ref a0)])
  refine Go.on (fun _ k => XS.dloadN X1.here hx rfl (hb hby d3_28) rfl k) ?_
  show Go _ _ _ _ _ _ _ _ (mkF m 29 #[.val (.ref a0), .val (.double d1), .second, .unset, .unset] [(.double d1), (.ref a0)])
  obtain ⟨T3, h3, X3, e3, W3, st3⟩ := putF X1 hx hZ hown (host := "") (Or.inl (hw _ (List.mem_of_getElem? (i := 13) rfl))) Via.refl e1 F_latest_a0 E_a0 (Or.inl (hw _ (List.mem_of_getElem? (i := 14) rfl))) (hw _ (List.mem_of_getElem? (i := 1) rfl)) (ty := .double) (by decide) rfl rfl (g := (mkF m 29 #[.val (.ref a0), .val (.double d1), .second, .unset, .unset] [(.double d1), (.ref a0)])) rfl rfl (hb hby d3_29)
  refine Go.on st3 ?_
  replace F_latest_a0 := F_latest_a0.same W3
  replace E_a0 := E_a0.wr W3
  replace F_times_a0 := F_times_a0.other W3 (Or.inr (slot_ne (Or.inl (hw _ (List.mem_of_getElem? (i := 11) rfl))) (Or.inl (hw _ (List.mem_of_getElem? (i := 14) rfl))) (by decide) (t := (.array .double)) (t' := .double) (by decide) (by decide)))
  replace F_window_a0 := F_window_a0.other W3 (Or.inr (slot_ne (Or.inr (hw _ (List.mem_of_getElem? (i := 17) rfl))) (Or.inl (hw _ (List.mem_of_getElem? (i := 14) rfl))) (by decide) (t := .double) (t' := .double) (by decide) (by decide)))
  replace F_first_a0 := F_first_a0.other W3 (Or.inr (slot_ne (Or.inl (hw _ (List.mem_of_getElem? (i := 31) rfl))) (Or.inl (hw _ (List.mem_of_getElem? (i := 14) rfl))) (by decide) (t := .int) (t' := .double) (by decide) (by decide)))
  replace F_end_a0 := F_end_a0.other W3 (Or.inr (slot_ne (Or.inl (hw _ (List.mem_of_getElem? (i := 24) rfl))) (Or.inl (hw _ (List.mem_of_getElem? (i := 14) rfl))) (by decide) (t := .int) (t' := .double) (by decide) (by decide)))
  replace V_as := V_as.other W3 (Ne.symm ne_a0_as)
  have N3 := Fr.snoc X3 N0 g_a0
  replace ZZ := Nat.le_trans ZZ (Keep.of_wr W3).1
  replace KP := KP.wr W3 (Or.inl (List.mem_of_getElem? (i := 0) rfl))
  show Go _ _ _ _ _ _ _ _ (mkF m 32 #[.val (.ref a0), .val (.double d1), .second, .unset, .unset] [])
  refine Go.on (fun _ k => XS.aloadN X3.here hx rfl (hb hby d3_32) rfl rfl k) ?_
  show Go _ _ _ _ _ _ _ _ (mkF m 33 #[.val (.ref a0), .val (.double d1), .second, .unset, .unset] [(.ref a0)])
  obtain ⟨T4, X4, e4, st4⟩ := getF X3 hx hZ hown (host := "") (Or.inl (hw _ (List.mem_of_getElem? (i := 23) rfl))) Via.refl e3 F_end_a0 (g := (mkF m 33 #[.val (.ref a0), .val (.double d1), .second, .unset, .unset] [(.ref a0)])) rfl rfl (hb hby d3_33)
  refine Go.on st4 ?_
  show Go _ _ _ _ _ _ _ _ (mkF m 36 #[.val (.ref a0), .val (.double d1), .second, .unset, .unset] [(.int (1 : Int32))])
  refine Go.on (fun _ k => XS.aloadN X4.here hx rfl (hb hby d3_36) rfl rfl k) ?_
  show Go _ _ _ _ _ _ _ _ (mkF m 37 #[.val (.ref a0), .val (.double d1), .second, .unset, .unset] [(.ref a0), (.int (1 : Int32))])
  obtain ⟨T5, X5, e5, st5⟩ := getF X4 hx hZ hown (host := "") (Or.inl (hw _ (List.mem_of_getElem? (i := 10) rfl))) Via.refl e4 F_times_a0 (g := (mkF m 37 #[.val (.ref a0), .val (.double d1), .second, .unset, .unset] [(.ref a0), (.int (1 : Int32))])) rfl rfl (hb hby d3_37)
  refine Go.on st5 ?_
  show Go _ _ _ _ _ _ _ _ (mkF m 40 #[.val (.ref a0), .val (.double d1), .second, .unset, .unset] [(.ref as), (.int (1 : Int32))])
  obtain ⟨cl6, Ar6, -, S6, N6n, -, -⟩ := id V_as
  refine Go.on (X5.arraylength hx (by rw [e5]; exact Ar6.1) (State.isArrayOf_alike hZ.alike Ar6.2.1) (g := (mkF m 40 #[.val (.ref a0), .val (.double d1), .second, .unset, .unset] [(.ref as), (.int (1 : Int32))])) rfl rfl (hb hby d3_40)) ?_
  rw [len_of S6 N6n]
  show Go _ _ _ _ _ _ _ _ (mkF m 41 #[.val (.ref a0), .val (.double d1), .second, .unset, .unset] [(.int (64 : Int32)), (.int (1 : Int32))])
  have hc7 : ¬ ((1 : Int32) = (64 : Int32)) := by decide
  refine Go.on (fun _ k => XS.icmpYes X5.here hx rfl (pc0 := 41) (pc' := 114) rfl (hb hby d3_41) rfl (feq hc7).2 (by decide) (by decide) k) ?_
  show Go _ _ _ _ _ _ _ _ (mkF m 114 #[.val (.ref a0), .val (.double d1), .second, .unset, .unset] [])
  refine Go.on (fun _ k => XS.aloadN X5.here hx rfl (hb hby d3_114) rfl rfl k) ?_
  show Go _ _ _ _ _ _ _ _ (mkF m 115 #[.val (.ref a0), .val (.double d1), .second, .unset, .unset] [(.ref a0)])
  obtain ⟨T8, X8, e8, st8⟩ := getF X5 hx hZ hown (host := "") (Or.inl (hw _ (List.mem_of_getElem? (i := 10) rfl))) Via.refl e5 F_times_a0 (g := (mkF m 115 #[.val (.ref a0), .val (.double d1), .second, .unset, .unset] [(.ref a0)])) rfl rfl (hb hby d3_115)
  refine Go.on st8 ?_
  show Go _ _ _ _ _ _ _ _ (mkF m 118 #[.val (.ref a0), .val (.double d1), .second, .unset, .unset] [(.ref as)])
  refine Go.on (fun _ k => XS.aloadN X8.here hx rfl (hb hby d3_118) rfl rfl k) ?_
  show Go _ _ _ _ _ _ _ _ (mkF m 119 #[.val (.ref a0), .val (.double d1), .second, .unset, .unset] [(.ref a0), (.ref as)])
  obtain ⟨T9, X9, e9, st9⟩ := getF X8 hx hZ hown (host := "") (Or.inl (hw _ (List.mem_of_getElem? (i := 23) rfl))) Via.refl e8 F_end_a0 (g := (mkF m 119 #[.val (.ref a0), .val (.double d1), .second, .unset, .unset] [(.ref a0), (.ref as)])) rfl rfl (hb hby d3_119)
  refine Go.on st9 ?_
  show Go _ _ _ _ _ _ _ _ (mkF m 122 #[.val (.ref a0), .val (.double d1), .second, .unset, .unset] [(.int (1 : Int32)), (.ref as)])
  refine Go.on (fun _ k => XS.dloadN X9.here hx rfl (hb hby d3_122) rfl k) ?_
  show Go _ _ _ _ _ _ _ _ (mkF m 123 #[.val (.ref a0), .val (.double d1), .second, .unset, .unset] [(.double d1), (.int (1 : Int32)), (.ref as)])
  obtain ⟨cl10, Ar10, q10, S10, N10n, H10, G10⟩ := id V_as
  have hin10 : ¬ ((1 : Int32) < 0 ∨ cl10.slots.size ≤ ((1 : Int32)).toNatClampNeg) := inb_of S10 ⟨by decide, by decide⟩
  obtain ⟨T10, h10, X10, e10, W10, st10⟩ := stD X9 hx hZ e9 Ar10 (j := (1 : Int32)) hin10 (g := (mkF m 123 #[.val (.ref a0), .val (.double d1), .second, .unset, .unset] [(.double d1), (.int (1 : Int32)), (.ref as)])) rfl rfl (hb hby d3_123)
  replace V_as := Arv.set Ar10 q10 S10 N10n H10 G10 rfl W10 1 rfl (Nat.le_of_ble_eq_true rfl)
  replace E_a0 := E_a0.wr W10
  replace F_times_a0 := F_times_a0.other W10 (Or.inl ne_a0_as)
  replace F_latest_a0 := F_latest_a0.other W10 (Or.inl ne_a0_as)
  replace F_window_a0 := F_window_a0.other W10 (Or.inl ne_a0_as)
  replace F_first_a0 := F_first_a0.other W10 (Or.inl ne_a0_as)
  replace F_end_a0 := F_end_a0.other W10 (Or.inl ne_a0_as)
  refine Go.on st10 ?_
  have N10 := Fr.snoc X10 N3 g_as
  replace ZZ := Nat.le_trans ZZ (Keep.of_wr W10).1
  replace KP := KP.wr W10 (Or.inl (List.mem_of_getElem? (i := 1) rfl))
  change Arv Z h10 as k_as .double (64 : Int32) [(.double y0), (.double d1), (.double (0 : UInt64)), (.double (0 : UInt64)), (.double (0 : UInt64)), (.double (0 : UInt64)), (.double (0 : UInt64)), (.double (0 : UInt64)), (.double (0 : UInt64)), (.double (0 : UInt64)), (.double (0 : UInt64)), (.double (0 : UInt64)), (.double (0 : UInt64)), (.double (0 : UInt64)), (.double (0 : UInt64)), (.double (0 : UInt64)), (.double (0 : UInt64)), (.double (0 : UInt64)), (.double (0 : UInt64)), (.double (0 : UInt64)), (.double (0 : UInt64)), (.double (0 : UInt64)), (.double (0 : UInt64)), (.double (0 : UInt64)), (.double (0 : UInt64)), (.double (0 : UInt64)), (.double (0 : UInt64)), (.double (0 : UInt64)), (.double (0 : UInt64)), (.double (0 : UInt64)), (.double (0 : UInt64)), (.double (0 : UInt64)), (.double (0 : UInt64)), (.double (0 : UInt64)), (.double (0 : UInt64)), (.double (0 : UInt64)), (.double (0 : UInt64)), (.double (0 : UInt64)), (.double (0 : UInt64)), (.double (0 : UInt64)), (.double (0 : UInt64)), (.double (0 : UInt64)), (.double (0 : UInt64)), (.double (0 : UInt64)), (.double (0 : UInt64)), (.double (0 : UInt64)), (.double (0 : UInt64)), (.double (0 : UInt64)), (.double (0 : UInt64)), (.double (0 : UInt64)), (.double (0 : UInt64)), (.double (0 : UInt64)), (.double (0 : UInt64)), (.double (0 : UInt64)), (.double (0 : UInt64)), (.double (0 : UInt64)), (.double (0 : UInt64)), (.double (0 : UInt64)), (.double (0 : UInt64)), (.double (0 : UInt64)), (.double (0 : UInt64)), (.double (0 : UInt64)), (.double (0 : UInt64)), (.double (0 : UInt64))] (.double (0 : UInt64)) at V_as
  show Go _ _ _ _ _ _ _ _ (mkF m 124 #[.val (.ref a0), .val (.double d1), .second, .unset, .unset] [])
  refine Go.on (fun _ k => XS.aloadN X10.here hx rfl (hb hby d3_124) rfl rfl k) ?_
  show Go _ _ _ _ _ _ _ _ (mkF m 125 #[.val (.ref a0), .val (.double d1), .second, .unset, .unset] [(.ref a0)])
  refine Go.on (fun _ k => XS.dup X10.here hx rfl (hb hby d3_125) rfl rfl k) ?_
  show Go _ _ _ _ _ _ _ _ (mkF m 126 #[.val (.ref a0), .val (.double d1), .second, .unset, .unset] [(.ref a0), (.ref a0)])
  obtain ⟨T11, X11, e11, st11⟩ := getF X10 hx hZ hown (host := "") (Or.inl (hw _ (List.mem_of_getElem? (i := 23) rfl))) Via.refl e10 F_end_a0 (g := (mkF m 126 #[.val (.ref a0), .val (.double d1), .second, .unset, .unset] [(.ref a0), (.ref a0)])) rfl rfl (hb hby d3_126)
  refine Go.on st11 ?_
  show Go _ _ _ _ _ _ _ _ (mkF m 129 #[.val (.ref a0), .val (.double d1), .second, .unset, .unset] [(.int (1 : Int32)), (.ref a0)])
  refine Go.on (fun _ k => XS.iconst X11.here hx rfl (hb hby d3_129) k) ?_
  show Go _ _ _ _ _ _ _ _ (mkF m 130 #[.val (.ref a0), .val (.double d1), .second, .unset, .unset] [(.int (1 : Int32)), (.int (1 : Int32)), (.ref a0)])
  refine Go.on (fun _ k => XS.iadd X11.here hx rfl (hb hby d3_130) rfl k) ?_
  show Go _ _ _ _ _ _ _ _ (mkF m 131 #[.val (.ref a0), .val (.double d1), .second, .unset, .unset] [(.int (2 : Int32)), (.ref a0)])
  obtain ⟨T12, h12, X12, e12, W12, st12⟩ := putF X11 hx hZ hown (host := "") (Or.inl (hw _ (List.mem_of_getElem? (i := 23) rfl))) Via.refl e11 F_end_a0 E_a0 (Or.inl (hw _ (List.mem_of_getElem? (i := 24) rfl))) (hw _ (List.mem_of_getElem? (i := 1) rfl)) (ty := .int) (by decide) rfl rfl (g := (mkF m 131 #[.val (.ref a0), .val (.double d1), .second, .unset, .unset] [(.int (2 : Int32)), (.ref a0)])) rfl rfl (hb hby d3_131)
  refine Go.on st12 ?_
  replace F_end_a0 := F_end_a0.same W12
  replace E_a0 := E_a0.wr W12
  replace F_times_a0 := F_times_a0.other W12 (Or.inr (slot_ne (Or.inl (hw _ (List.mem_of_getElem? (i := 11) rfl))) (Or.inl (hw _ (List.mem_of_getElem? (i := 24) rfl))) (by decide) (t := (.array .double)) (t' := .int) (by decide) (by decide)))
  replace F_latest_a0 := F_latest_a0.other W12 (Or.inr (slot_ne (Or.inl (hw _ (List.mem_of_getElem? (i := 14) rfl))) (Or.inl (hw _ (List.mem_of_getElem? (i := 24) rfl))) (by decide) (t := .double) (t' := .int) (by decide) (by decide)))
  replace F_window_a0 := F_window_a0.other W12 (Or.inr (slot_ne (Or.inr (hw _ (List.mem_of_getElem? (i := 17) rfl))) (Or.inl (hw _ (List.mem_of_getElem? (i := 24) rfl))) (by decide) (t := .double) (t' := .int) (by decide) (by decide)))
  replace F_first_a0 := F_first_a0.other W12 (Or.inr (slot_ne (Or.inl (hw _ (List.mem_of_getElem? (i := 31) rfl))) (Or.inl (hw _ (List.mem_of_getElem? (i := 24) rfl))) (by decide) (t := .int) (t' := .int) (by decide) (by decide)))
  replace V_as := V_as.other W12 (Ne.symm ne_a0_as)
  have N12 := Fr.snoc X12 N10 g_a0
  replace ZZ := Nat.le_trans ZZ (Keep.of_wr W12).1
  replace KP := KP.wr W12 (Or.inl (List.mem_of_getElem? (i := 0) rfl))
  show Go _ _ _ _ _ _ _ _ (mkF m 134 #[.val (.ref a0), .val (.double d1), .second, .unset, .unset] [])
  refine Go.ret0 X12 hx Bd.returns (hb hby d3_134) ?_ (by rw [hK1]; decide) (by rw [hK2]; decide)
  rw [e12, ← hQQ]
  exact ⟨rfl, N12, KP, E_a0, F_times_a0, F_latest_a0, F_window_a0, F_first_a0, F_end_a0, V_as⟩
theorem ef_rw_add_2 (m : MethodId) (a0 : Addr) (d1 : UInt64) : entryFrame m #[(.ref a0), (.double d1)] 5 = mkF m 0 #[.val (.ref a0), .val (.double d1), .second, .unset, .unset] [] := by first | (simp [entryFrame, mkF, argsToLocals, Value.category]; done) | rfl
def Q_rw_add_2 (Z : State) (a0 : Addr) (d1 : UInt64) (as : Addr) (lt : UInt64) (wn : UInt64) (f0 : Int32) (k_as : ClassId) (y0 : UInt64) (y1 : UInt64) (h0 : Heap) (n0 : Nat) (v : Option Value) (h : Heap) (L : List Loc) : Prop := v = none ∧ Fr n0 L ∧ Keep h0 h [a0, as] ∧ Exa Z h a0 "com/example/deliberate_scaler/deliberatescaler/model/RateWindow" ∧ Fld Z h a0 "com/example/deliberate_scaler/deliberatescaler/model/RateWindow" "times" "[D" (.ref as) ∧ Fld Z h a0 "com/example/deliberate_scaler/deliberatescaler/model/RateWindow" "latest" "D" (.double d1) ∧ Fld Z h a0 "com/example/deliberate_scaler/deliberatescaler/model/RateWindow" "window" "D" (.double wn) ∧ Fld Z h a0 "com/example/deliberate_scaler/deliberatescaler/model/RateWindow" "first" "I" (.int f0) ∧ Fld Z h a0 "com/example/deliberate_scaler/deliberatescaler/model/RateWindow" "end" "I" (.int (3 : Int32)) ∧ Arv Z h as k_as .double (64 : Int32) [(.double y0), (.double y1), (.double d1), (.double (0 : UInt64)), (.double (0 : UInt64)), (.double (0 : UInt64)), (.double (0 : UInt64)), (.double (0 : UInt64)), (.double (0 : UInt64)), (.double (0 : UInt64)), (.double (0 : UInt64)), (.double (0 : UInt64)), (.double (0 : UInt64)), (.double (0 : UInt64)), (.double (0 : UInt64)), (.double (0 : UInt64)), (.double (0 : UInt64)), (.double (0 : UInt64)), (.double (0 : UInt64)), (.double (0 : UInt64)), (.double (0 : UInt64)), (.double (0 : UInt64)), (.double (0 : UInt64)), (.double (0 : UInt64)), (.double (0 : UInt64)), (.double (0 : UInt64)), (.double (0 : UInt64)), (.double (0 : UInt64)), (.double (0 : UInt64)), (.double (0 : UInt64)), (.double (0 : UInt64)), (.double (0 : UInt64)), (.double (0 : UInt64)), (.double (0 : UInt64)), (.double (0 : UInt64)), (.double (0 : UInt64)), (.double (0 : UInt64)), (.double (0 : UInt64)), (.double (0 : UInt64)), (.double (0 : UInt64)), (.double (0 : UInt64)), (.double (0 : UInt64)), (.double (0 : UInt64)), (.double (0 : UInt64)), (.double (0 : UInt64)), (.double (0 : UInt64)), (.double (0 : UInt64)), (.double (0 : UInt64)), (.double (0 : UInt64)), (.double (0 : UInt64)), (.double (0 : UInt64)), (.double (0 : UInt64)), (.double (0 : UInt64)), (.double (0 : UInt64)), (.double (0 : UInt64)), (.double (0 : UInt64)), (.double (0 : UInt64)), (.double (0 : UInt64)), (.double (0 : UInt64)), (.double (0 : UInt64)), (.double (0 : UInt64)), (.double (0 : UInt64)), (.double (0 : UInt64)), (.double (0 : UInt64))] (.double (0 : UInt64))
set_option maxRecDepth 65536 in
set_option maxHeartbeats 40000000 in
theorem rw_add_2 (l : Launch) (Z : State) (aw : Array Value) (hw : ∀ d ∈ tables_1, d.before aw Z = true) (ws : List Jvm.Cond) (a0 : Addr) (d1 : UInt64) (as : Addr) (lt : UInt64) (wn : UInt64) (f0 : Int32) (k_as : ClassId) (y0 : UInt64) (y1 : UInt64) (h0 : Heap) (n0 : Nat) (Z0 : n0 ≤ h0.size) (E_a0 : Exa Z h0 a0 "com/example/deliberate_scaler/deliberatescaler/model/RateWindow") (F_times_a0 : Fld Z h0 a0 "com/example/deliberate_scaler/deliberatescaler/model/RateWindow" "times" "[D" (.ref as)) (F_latest_a0 : Fld Z h0 a0 "com/example/deliberate_scaler/deliberatescaler/model/RateWindow" "latest" "D" (.double lt)) (F_window_a0 : Fld Z h0 a0 "com/example/deliberate_scaler/deliberatescaler/model/RateWindow" "window" "D" (.double wn)) (F_first_a0 : Fld Z h0 a0 "com/example/deliberate_scaler/deliberatescaler/model/RateWindow" "first" "I" (.int f0)) (F_end_a0 : Fld Z h0 a0 "com/example/deliberate_scaler/deliberatescaler/model/RateWindow" "end" "I" (.int (2 : Int32))) (V_as : Arv Z h0 as k_as .double (64 : Int32) [(.double y0), (.double y1), (.double (0 : UInt64)), (.double (0 : UInt64)), (.double (0 : UInt64)), (.double (0 : UInt64)), (.double (0 : UInt64)), (.double (0 : UInt64)), (.double (0 : UInt64)), (.double (0 : UInt64)), (.double (0 : UInt64)), (.double (0 : UInt64)), (.double (0 : UInt64)), (.double (0 : UInt64)), (.double (0 : UInt64)), (.double (0 : UInt64)), (.double (0 : UInt64)), (.double (0 : UInt64)), (.double (0 : UInt64)), (.double (0 : UInt64)), (.double (0 : UInt64)), (.double (0 : UInt64)), (.double (0 : UInt64)), (.double (0 : UInt64)), (.double (0 : UInt64)), (.double (0 : UInt64)), (.double (0 : UInt64)), (.double (0 : UInt64)), (.double (0 : UInt64)), (.double (0 : UInt64)), (.double (0 : UInt64)), (.double (0 : UInt64)), (.double (0 : UInt64)), (.double (0 : UInt64)), (.double (0 : UInt64)), (.double (0 : UInt64)), (.double (0 : UInt64)), (.double (0 : UInt64)), (.double (0 : UInt64)), (.double (0 : UInt64)), (.double (0 : UInt64)), (.double (0 : UInt64)), (.double (0 : UInt64)), (.double (0 : UInt64)), (.double (0 : UInt64)), (.double (0 : UInt64)), (.double (0 : UInt64)), (.double (0 : UInt64)), (.double (0 : UInt64)), (.double (0 : UInt64)), (.double (0 : UInt64)), (.double (0 : UInt64)), (.double (0 : UInt64)), (.double (0 : UInt64)), (.double (0 : UInt64)), (.double (0 : UInt64)), (.double (0 : UInt64)), (.double (0 : UInt64)), (.double (0 : UInt64)), (.double (0 : UInt64)), (.double (0 : UInt64)), (.double (0 : UInt64)), (.double (0 : UInt64)), (.double (0 : UInt64))] (.double (0 : UInt64))) (g_a0 : n0 ≤ a0) (g_as : n0 ≤ as) (ne_a0_as : a0 ≠ as) (hge : ¬ ((cmpValue (FP.dcmp d1 lt) .l) < (0 : Int32))) :
    MetFree l (⟨"com/example/deliberate_scaler/deliberatescaler/model/RateWindow", "add", "(D)V"⟩ : MethodName) (head1 (Jvm.Cond.code (⟨"com/example/deliberate_scaler/deliberatescaler/model/RateWindow", "add", "(D)V"⟩ : MethodName) prog_30_method_2_code 5 none :: ws) ({ frames := 0, cells := 0, slots := 0, locals := 0 } : Room)) (fun a U => a = #[(.ref a0), (.double d1)] ∧ Z.Warmed39 U.vm ∧ U.heap = h0) (fun _ _ _ _ _ => True) (fun _ U o U' => ∃ v L, o = .returned v ∧ Q_rw_add_2 Z a0 d1 as lt wn f0 k_as y0 y1 h0 n0 v U'.heap L ∧ FrameEnd U o U' L ({ frames := 0, cells := 0, slots := 0, locals := 0 } : Room).cells ({ frames := 0, cells := 0, slots := 0, locals := 0 } : Room).slots) := by
  refine MetFree.of_bodySF (plainFor_of_name pn_0) hisR ?_
  intro p e s m args below meth c s₁ Bd hml0 hP hK
  obtain ⟨rfl, hZ, hh⟩ := hP
  have hx := Bd.exec
  have hby := Bd.bytes
  have hml : c.maxLocals = 5 := hml0
  have hown : s.vm.findClass "com/example/deliberate_scaler/deliberatescaler/model/RateWindow" = some m.cls := findClass_of_methodNamed Bd.named
  have hnm := (name_of_methodNamed Bd.named Bd.method).1
  have hlk : meth.locks = false := BodyLoose.notSynchronized Bd
  have X0 : Stand p l e ({ frames := 0, cells := 0, slots := 0, locals := 0 } : Room) s m #[(.ref a0), (.double d1)] below meth c s₁ [] 0 0 := Stand.of_body Bd
  have e0 : s₁.heap = h0 := by rw [← hh, Bd.state]; rfl
  have N0 := Fr.nil n0
  have ZZ := Z0
  show Go p e below s ({ frames := 0, cells := 0, slots := 0, locals := 0 } : Room).cells ({ frames := 0, cells := 0, slots := 0, locals := 0 } : Room).slots (fun v h L => Q_rw_add_2 Z a0 d1 as lt wn f0 k_as y0 y1 h0 n0 v h L) s₁ (entryFrame m #[(.ref a0), (.double d1)] 5)
  refine Go.cast (ef_rw_add_2 m a0 d1) ?_
  refine Go.gen ?_
  intro K1 K2 QQ hK1 hK2 hQQ
  have KP : Keep h0 h0 [a0, as] := Keep.refl _ _
  refine Go.on (fun _ k => XS.dloadN X0.here hx rfl (hb hby d3_0) rfl k) ?_
  show Go _ _ _ _ _ _ _ _ (mkF m 1 #[.val (.ref a0), .val (.double d1), .second, .unset, .unset] [(.double d1)])
  refine Go.on (fun _ k => XS.aloadN X0.here hx rfl (hb hby d3_1) rfl rfl k) ?_
  show Go _ _ _ _ _ _ _ _ (mkF m 2 #[.val (.ref a0), .val (.double d1), .second, .unset, .unset] [(.ref a0), (.double d1)])
  obtain ⟨T1, X1, e1, st1⟩ := getF X0 hx hZ hown (host := "") (Or.inl (hw _ (List.mem_of_getElem? (i := 13) rfl))) Via.refl e0 F_latest_a0 (g := (mkF m 2 #[.val (.ref a0), .val (.double d1), .second, .unset, .unset] [(.ref a0), (.double d1)])) rfl rfl (hb hby d3_2)
  refine Go.on st1 ?_
  show Go _ _ _ _ _ _ _ _ (mkF m 5 #[.val (.ref a0), .val (.double d1), .second, .unset, .unset] [(.double lt), (.double d1)])
  refine Go.on (fun _ k => XS.dcmpS X1.here hx rfl (hb hby d3_5) rfl rfl k) ?_
  show Go _ _ _ _ _ _ _ _ (mkF m 6 #[.val (.ref a0), .val (.double d1), .second, .unset, .unset] [(.int (cmpValue (FP.dcmp d1 lt) .l))])
  have hc2 : ¬ ((cmpValue (FP.dcmp d1 lt) .l) < (0 : Int32)) := hge
  refine Go.on (fun _ k => XS.ifYes X1.here hx rfl (pc0 := 6) (pc' := 27) rfl (hb hby d3_6) rfl ((if0 _ _).trans (flt hc2).2.1) (by decide) (by decide) k) ?_
  show Go _ _ _ _ _ _ _ _ (mkF m 27 #[.val (.ref a0), .val (.double d1), .second, .unset, .unset] [])
  refine Go.on (fun _ k => XS.aloadN X1.here hx rfl (hb hby d3_27) rfl rfl k) ?_
  show Go _ _ _ _ _ _ _ _ (mkF m 28 #[.val (.ref a0), .val (.double d1), .second, .unset, .unset] [(.ref a0)])
  refine Go.on (fun _ k => XS.dloadN X1.here hx rfl (hb hby d3_28) rfl k) ?_
  show Go _ _ _ _ _ _ _ _ (mkF m 29 #[.val (.ref a0), .val (.double d1), .second, .unset, .unset] [(.double d1), (.ref a0)])
  obtain ⟨T3, h3, X3, e3, W3, st3⟩ := putF X1 hx hZ hown (host := "") (Or.inl (hw _ (List.mem_of_getElem? (i := 13) rfl))) Via.refl e1 F_latest_a0 E_a0 (Or.inl (hw _ (List.mem_of_getElem? (i := 14) rfl))) (hw _ (List.mem_of_getElem? (i := 1) rfl)) (ty := .double) (by decide) rfl rfl (g := (mkF m 29 #[.val (.ref a0), .val (.double d1), .second, .unset, .unset] [(.double d1), (.ref a0)])) rfl rfl (hb hby d3_29)
  refine Go.on st3 ?_
  replace F_latest_a0 := F_latest_a0.same W3
  replace E_a0 := E_a0.wr W3
  replace F_times_a0 := F_times_a0.other W3 (Or.inr (slot_ne (Or.inl (hw _ (List.mem_of_getElem? (i := 11) rfl))) (Or.inl (hw _ (List.mem_of_getElem? (i := 14) rfl))) (by decide) (t := (.array .double)) (t' := .double) (by decide) (by decide)))
  replace F_window_a0 := F_window_a0.other W3 (Or.inr (slot_ne (Or.inr (hw _ (List.mem_of_getElem? (i := 17) rfl))) (Or.inl (hw _ (List.mem_of_getElem? (i := 14) rfl))) (by decide) (t := .double) (t' := .double) (by decide) (by decide)))
  replace F_first_a0 := F_first_a0.other W3 (Or.inr (slot_ne (Or.inl (hw _ (List.mem_of_getElem? (i := 31) rfl))) (Or.inl (hw _ (List.mem_of_getElem? (i := 14) rfl))) (by decide) (t := .int) (t' := .double) (by decide) (by decide)))
  replace F_end_a0 := F_end_a0.other W3 (Or.inr (slot_ne (Or.inl (hw _ (List.mem_of_getElem? (i := 24) rfl))) (Or.inl (hw _ (List.mem_of_getElem? (i := 14) rfl))) (by decide) (t := .int) (t' := .double) (by decide) (by decide)))
  replace V_as := V_as.other W3 (Ne.symm ne_a0_as)
  have N3 := Fr.snoc X3 N0 g_a0
  replace ZZ := Nat.le_trans ZZ (Keep.of_wr W3).1
  replace KP := KP.wr W3 (Or.inl (List.mem_of_getElem? (i := 0) rfl))
  show Go _ _ _ _ _ _ _ _ (mkF m 32 #[.val (.ref a0), .val (.double d1), .second, .unset, .unset] [])
  refine Go.on (fun _ k => XS.aloadN X3.here hx rfl (hb hby d3_32) rfl rfl k) ?_
  show Go _ _ _ _ _ _ _ _ (mkF m 33 #[.val (.ref a0), .val (.double d1), .second, .unset, .unset] [(.ref a0)])
  obtain ⟨T4, X4, e4, st4⟩ := getF X3 hx hZ hown (host := "") (Or.inl (hw _ (List.mem_of_getElem? (i := 23) rfl))) Via.refl e3 F_end_a0 (g := (mkF m 33 #[.val (.ref a0), .val (.double d1), .second, .unset, .unset] [(.ref a0)])) rfl rfl (hb hby d3_33)
  refine Go.on st4 ?_
  show Go _ _ _ _ _ _ _ _ (mkF m 36 #[.val (.ref a0), .val (.double d1), .second, .unset, .unset] [(.int (2 : Int32))])
  refine Go.on (fun _ k => XS.aloadN X4.here hx rfl (hb hby d3_36) rfl rfl k) ?_
  show Go _ _ _ _ _ _ _ _ (mkF m 37 #[.val (.ref a0), .val (.double d1), .second, .unset, .unset] [(.ref a0), (.int (2 : Int32))])
  obtain ⟨T5, X5, e5, st5⟩ := getF X4 hx hZ hown (host := "") (Or.inl (hw _ (List.mem_of_getElem? (i := 10) rfl))) Via.refl e4 F_times_a0 (g := (mkF m 37 #[.val (.ref a0), .val (.double d1), .second, .unset, .unset] [(.ref a0), (.int (2 : Int32))])) rfl rfl (hb hby d3_37)
  refine Go.on st5 ?_
  show Go _ _ _ _ _ _ _ _ (mkF m 40 #[.val (.ref a0), .val (.double d1), .second, .unset, .unset] [(.ref as), (.int (2 : Int32))])
  obtain ⟨cl6, Ar6, -, S6, N6n, -, -⟩ := id V_as
  refine Go.on (X5.arraylength hx (by rw [e5]; exact Ar6.1) (State.isArrayOf_alike hZ.alike Ar6.2.1) (g := (mkF m 40 #[.val (.ref a0), .val (.double d1), .second, .unset, .unset] [(.ref as), (.int (2 : Int32))])) rfl rfl (hb hby d3_40)) ?_
  rw [len_of S6 N6n]
  show Go _ _ _ _ _ _ _ _ (mkF m 41 #[.val (.ref a0), .val (.double d1), .second, .unset, .unset] [(.int (64 : Int32)), (.int (2 : Int32))])
  have hc7 : ¬ ((2 : Int32) = (64 : Int32)) := by decide
  refine Go.on (fun _ k => XS.icmpYes X5.here hx rfl (pc0 := 41) (pc' := 114) rfl (hb hby d3_41) rfl (feq hc7).2 (by decide) (by decide) k) ?_
  show Go _ _ _ _ _ _ _ _ (mkF m 114 #[.val (.ref a0), .val (.double d1), .second, .unset, .unset] [])
  refine Go.on (fun _ k => XS.aloadN X5.here hx rfl (hb hby d3_114) rfl rfl k) ?_
  show Go _ _ _ _ _ _ _ _ (mkF m 115 #[.val (.ref a0), .val (.double d1), .second, .unset, .unset] [(.ref a0)])
  obtain ⟨T8, X8, e8, st8⟩ := getF X5 hx hZ hown (host := "") (Or.inl (hw _ (List.mem_of_getElem? (i := 10) rfl))) Via.refl e5 F_times_a0 (g := (mkF m 115 #[.val (.ref a0), .val (.double d1), .second, .unset, .unset] [(.ref a0)])) rfl rfl (hb hby d3_115)
  refine Go.on st8 ?_
  show Go _ _ _ _ _ _ _ _ (mkF m 118 #[.val (.ref a0), .val (.double d1), .second, .unset, .unset] [(.ref as)])
  refine Go.on (fun _ k => XS.aloadN X8.here hx rfl (hb hby d3_118) rfl rfl k) ?_
  show Go _ _ _ _ _ _ _ _ (mkF m 119 #[.val (.ref a0), .val (.double d1), .second, .unset, .unset] [(.ref a0), (.ref as)])
  obtain ⟨T9, X9, e9, st9⟩ := getF X8 hx hZ hown (host := "") (Or.inl (hw _ (List.mem_of_getElem? (i := 23) rfl))) Via.refl e8 F_end_a0 (g := (mkF m 119 #[.val (.ref a0), .val (.double d1), .second, .unset, .unset] [(.ref a0), (.ref as)])) rfl rfl (hb hby d3_119)
  refine Go.on st9 ?_
  show Go _ _ _ _ _ _ _ _ (mkF m 122 #[.val (.ref a0), .val (.double d1), .second, .unset, .unset] [(.int (2 : Int32)), (.ref as)])
  refine Go.on (fun _ k => XS.dloadN X9.here hx rfl (hb hby d3_122) rfl k) ?_
  show Go _ _ _ _ _ _ _ _ (mkF m 123 #[.val (.ref a0), .val (.double d1), .second, .unset, .unset] [(.double d1), (.int (2 : Int32)), (.ref as)])
  obtain ⟨cl10, Ar10, q10, S10, N10n, H10, G10⟩ := id V_as
  have hin10 : ¬ ((2 : Int32) < 0 ∨ cl10.slots.size ≤ ((2 : Int32)).toNatClampNeg) := inb_of S10 ⟨by decide, by decide⟩
  obtain ⟨T10, h10, X10, e10, W10, st10⟩ := stD X9 hx hZ e9 Ar10 (j := (2 : Int32)) hin10 (g := (mkF m 123 #[.val (.ref a0), .val (.double d1), .second, .unset, .unset] [(.double d1), (.int (2 : Int32)), (.ref as)])) rfl rfl (hb hby d3_123)
  replace V_as := Arv.set Ar10 q10 S10 N10n H10 G10 rfl W10 2 rfl (Nat.le_of_ble_eq_true rfl)
  replace E_a0 := E_a0.wr W10
  replace F_times_a0 := F_times_a0.other W10 (Or.inl ne_a0_as)
  replace F_latest_a0 := F_latest_a0.other W10 (Or.inl ne_a0_as)
  replace F_window_a0 := F_window_a0.other W10 (Or.inl ne_a0_as)
  replace F_first_a0 := F_first_a0.other W10 (Or.inl ne_a0_as)
  replace F_end_a0 := F_end_a0.other W10 (Or.inl ne_a0_as)
  refine Go.on st10 ?_
  have N10 := Fr.snoc X10 N3 g_as
  replace ZZ := Nat.le_trans ZZ (Keep.of_wr W10).1
  replace KP := KP.wr W10 (Or.inl (List.mem_of_getElem? (i := 1) rfl))
  change Arv Z h10 as k_as .double (64 : Int32) [(.double y0), (.double y1), (.double d1), (.double (0 : UInt64)), (.double (0 : UInt64)), (.double (0 : UInt64)), (.double (0 : UInt64)), (.double (0 : UInt64)), (.double (0 : UInt64)), (.double (0 : UInt64)), (.double (0 : UInt64)), (.double (0 : UInt64)), (.double (0 : UInt64)), (.double (0 : UInt64)), (.double (0 : UInt64)), (.double (0 : UInt64)), (.double (0 : UInt64)), (.double (0 : UInt64)), (.double (0 : UInt64)), (.double (0 : UInt64)), (.double (0 : UInt64)), (.double (0 : UInt64)), (.double (0 : UInt64)), (.double (0 : UInt64)), (.double (0 : UInt64)), (.double (0 : UInt64)), (.double (0 : UInt64)), (.double (0 : UInt64)), (.double (0 : UInt64)), (.double (0 : UInt64)), (.double (0 : UInt64)), (.double (0 : UInt64)), (.double (0 : UInt64)), (.double (0 : UInt64)), (.double (0 : UInt64)), (.double (0 : UInt64)), (.double (0 : UInt64)), (.double (0 : UInt64)), (.double (0 : UInt64)), (.double (0 : UInt64)), (.double (0 : UInt64)), (.double (0 : UInt64)), (.double (0 : UInt64)), (.double (0 : UInt64)), (.double (0 : UInt64)), (.double (0 : UInt64)), (.double (0 : UInt64)), (.double (0 : UInt64)), (.double (0 : UInt64)), (.double (0 : UInt64)), (.double (0 : UInt64)), (.double (0 : UInt64)), (.double (0 : UInt64)), (.double (0 : UInt64)), (.double (0 : UInt64)), (.double (0 : UInt64)), (.double (0 : UInt64)), (.double (0 : UInt64)), (.double (0 : UInt64)), (.double (0 : UInt64)), (.double (0 : UInt64)), (.double (0 : UInt64)), (.double (0 : UInt64)), (.double (0 : UInt64))] (.double (0 : UInt64)) at V_as
  show Go _ _ _ _ _ _ _ _ (mkF m 124 #[.val (.ref a0), .val (.double d1), .second, .unset, .unset] [])
  refine Go.on (fun _ k => XS.aloadN X10.here hx rfl (hb hby d3_124) rfl rfl k) ?_
  show Go _ _ _ _ _ _ _ _ (mkF m 125 #[.val (.ref a0), .val (.double d1), .second, .unset, .unset] [(.ref a0)])
  refine Go.on (fun _ k => XS.dup X10.here hx rfl (hb hby d3_125) rfl rfl k) ?_
  show Go _ _ _ _ _ _ _ _ (mkF m 126 #[.val (.ref a0), .val (.double d1), .second, .unset, .unset] [(.ref a0), (.ref a0)])
  obtain ⟨T11, X11, e11, st11⟩ := getF X10 hx hZ hown (host := "") (Or.inl (hw _ (List.mem_of_getElem? (i := 23) rfl))) Via.refl e10 F_end_a0 (g := (mkF m 126 #[.val (.ref a0), .val (.double d1), .second, .unset, .unset] [(.ref a0), (.ref a0)])) rfl rfl (hb hby d3_126)
  refine Go.on st11 ?_
  show Go _ _ _ _ _ _ _ _ (mkF m 129 #[.val (.ref a0), .val (.double d1), .second, .unset, .unset] [(.int (2 : Int32)), (.ref a0)])
  refine Go.on (fun _ k => XS.iconst X11.here hx rfl (hb hby d3_129) k) ?_
  show Go _ _ _ _ _ _ _ _ (mkF m 130 #[.val (.ref a0), .val (.double d1), .second, .unset, .unset] [(.int (1 : Int32)), (.int (2 : Int32)), (.ref a0)])
  refine Go.on (fun _ k => XS.iadd X11.here hx rfl (hb hby d3_130) rfl k) ?_
  show Go _ _ _ _ _ _ _ _ (mkF m 131 #[.val (.ref a0), .val (.double d1), .second, .unset, .unset] [(.int (3 : Int32)), (.ref a0)])
  obtain ⟨T12, h12, X12, e12, W12, st12⟩ := putF X11 hx hZ hown (host := "") (Or.inl (hw _ (List.mem_of_getElem? (i := 23) rfl))) Via.refl e11 F_end_a0 E_a0 (Or.inl (hw _ (List.mem_of_getElem? (i := 24) rfl))) (hw _ (List.mem_of_getElem? (i := 1) rfl)) (ty := .int) (by decide) rfl rfl (g := (mkF m 131 #[.val (.ref a0), .val (.double d1), .second, .unset, .unset] [(.int (3 : Int32)), (.ref a0)])) rfl rfl (hb hby d3_131)
  refine Go.on st12 ?_
  replace F_end_a0 := F_end_a0.same W12
  replace E_a0 := E_a0.wr W12
  replace F_times_a0 := F_times_a0.other W12 (Or.inr (slot_ne (Or.inl (hw _ (List.mem_of_getElem? (i := 11) rfl))) (Or.inl (hw _ (List.mem_of_getElem? (i := 24) rfl))) (by decide) (t := (.array .double)) (t' := .int) (by decide) (by decide)))
  replace F_latest_a0 := F_latest_a0.other W12 (Or.inr (slot_ne (Or.inl (hw _ (List.mem_of_getElem? (i := 14) rfl))) (Or.inl (hw _ (List.mem_of_getElem? (i := 24) rfl))) (by decide) (t := .double) (t' := .int) (by decide) (by decide)))
  replace F_window_a0 := F_window_a0.other W12 (Or.inr (slot_ne (Or.inr (hw _ (List.mem_of_getElem? (i := 17) rfl))) (Or.inl (hw _ (List.mem_of_getElem? (i := 24) rfl))) (by decide) (t := .double) (t' := .int) (by decide) (by decide)))
  replace F_first_a0 := F_first_a0.other W12 (Or.inr (slot_ne (Or.inl (hw _ (List.mem_of_getElem? (i := 31) rfl))) (Or.inl (hw _ (List.mem_of_getElem? (i := 24) rfl))) (by decide) (t := .int) (t' := .int) (by decide) (by decide)))
  replace V_as := V_as.other W12 (Ne.symm ne_a0_as)
  have N12 := Fr.snoc X12 N10 g_a0
  replace ZZ := Nat.le_trans ZZ (Keep.of_wr W12).1
  replace KP := KP.wr W12 (Or.inl (List.mem_of_getElem? (i := 0) rfl))
  show Go _ _ _ _ _ _ _ _ (mkF m 134 #[.val (.ref a0), .val (.double d1), .second, .unset, .unset] [])
  refine Go.ret0 X12 hx Bd.returns (hb hby d3_134) ?_ (by rw [hK1]; decide) (by rw [hK2]; decide)
  rw [e12, ← hQQ]
  exact ⟨rfl, N12, KP, E_a0, F_times_a0, F_latest_a0, F_window_a0, F_first_a0, F_end_a0, V_as⟩
theorem ef_rw_add_3 (m : MethodId) (a0 : Addr) (d1 : UInt64) : entryFrame m #[(.ref a0), (.double d1)] 5 = mkF m 0 #[.val (.ref a0), .val (.double d1), .second, .unset, .unset] [] := by first | (simp [entryFrame, mkF, argsToLocals, Value.category]; done) | rfl
def Q_rw_add_3 (Z : State) (a0 : Addr) (d1 : UInt64) (as : Addr) (lt : UInt64) (wn : UInt64) (f0 : Int32) (k_as : ClassId) (y0 : UInt64) (y1 : UInt64) (y2 : UInt64) (h0 : Heap) (n0 : Nat) (v : Option Value) (h : Heap) (L : List Loc) : Prop := v = none ∧ Fr n0 L ∧ Keep h0 h [a0, as] ∧ Exa Z h a0 "com/example/deliberate_scaler/deliberatescaler/model/RateWindow" ∧ Fld Z h a0 "com/example/deliberate_scaler/deliberatescaler/model/RateWindow" "times" "[D" (.ref as) ∧ Fld Z h a0 "com/example/deliberate_scaler/deliberatescaler/model/RateWindow" "latest" "D" (.double d1) ∧ Fld Z h a0 "com/example/deliberate_scaler/deliberatescaler/model/RateWindow" "window" "D" (.double wn) ∧ Fld Z h a0 "com/example/deliberate_scaler/deliberatescaler/model/RateWindow" "first" "I" (.int f0) ∧ Fld Z h a0 "com/example/deliberate_scaler/deliberatescaler/model/RateWindow" "end" "I" (.int (4 : Int32)) ∧ Arv Z h as k_as .double (64 : Int32) [(.double y0), (.double y1), (.double y2), (.double d1), (.double (0 : UInt64)), (.double (0 : UInt64)), (.double (0 : UInt64)), (.double (0 : UInt64)), (.double (0 : UInt64)), (.double (0 : UInt64)), (.double (0 : UInt64)), (.double (0 : UInt64)), (.double (0 : UInt64)), (.double (0 : UInt64)), (.double (0 : UInt64)), (.double (0 : UInt64)), (.double (0 : UInt64)), (.double (0 : UInt64)), (.double (0 : UInt64)), (.double (0 : UInt64)), (.double (0 : UInt64)), (.double (0 : UInt64)), (.double (0 : UInt64)), (.double (0 : UInt64)), (.double (0 : UInt64)), (.double (0 : UInt64)), (.double (0 : UInt64)), (.double (0 : UInt64)), (.double (0 : UInt64)), (.double (0 : UInt64)), (.double (0 : UInt64)), (.double (0 : UInt64)), (.double (0 : UInt64)), (.double (0 : UInt64)), (.double (0 : UInt64)), (.double (0 : UInt64)), (.double (0 : UInt64)), (.double (0 : UInt64)), (.double (0 : UInt64)), (.double (0 : UInt64)), (.double (0 : UInt64)), (.double (0 : UInt64)), (.double (0 : UInt64)), (.double (0 : UInt64)), (.double (0 : UInt64)), (.double (0 : UInt64)), (.double (0 : UInt64)), (.double (0 : UInt64)), (.double (0 : UInt64)), (.double (0 : UInt64)), (.double (0 : UInt64)), (.double (0 : UInt64)), (.double (0 : UInt64)), (.double (0 : UInt64)), (.double (0 : UInt64)), (.double (0 : UInt64)), (.double (0 : UInt64)), (.double (0 : UInt64)), (.double (0 : UInt64)), (.double (0 : UInt64)), (.double (0 : UInt64)), (.double (0 : UInt64)), (.double (0 : UInt64)), (.double (0 : UInt64))] (.double (0 : UInt64))
set_option maxRecDepth 65536 in
set_option maxHeartbeats 40000000 in
theorem rw_add_3 (l : Launch) (Z : State) (aw : Array Value) (hw : ∀ d ∈ tables_1, d.before aw Z = true) (ws : List Jvm.Cond) (a0 : Addr) (d1 : UInt64) (as : Addr) (lt : UInt64) (wn : UInt64) (f0 : Int32) (k_as : ClassId) (y0 : UInt64) (y1 : UInt64) (y2 : UInt64) (h0 : Heap) (n0 : Nat) (Z0 : n0 ≤ h0.size) (E_a0 : Exa Z h0 a0 "com/example/deliberate_scaler/deliberatescaler/model/RateWindow") (F_times_a0 : Fld Z h0 a0 "com/example/deliberate_scaler/deliberatescaler/model/RateWindow" "times" "[D" (.ref as)) (F_latest_a0 : Fld Z h0 a0 "com/example/deliberate_scaler/deliberatescaler/model/RateWindow" "latest" "D" (.double lt)) (F_window_a0 : Fld Z h0 a0 "com/example/deliberate_scaler/deliberatescaler/model/RateWindow" "window" "D" (.double wn)) (F_first_a0 : Fld Z h0 a0 "com/example/deliberate_scaler/deliberatescaler/model/RateWindow" "first" "I" (.int f0)) (F_end_a0 : Fld Z h0 a0 "com/example/deliberate_scaler/deliberatescaler/model/RateWindow" "end" "I" (.int (3 : Int32))) (V_as : Arv Z h0 as k_as .double (64 : Int32) [(.double y0), (.double y1), (.double y2), (.double (0 : UInt64)), (.double (0 : UInt64)), (.double (0 : UInt64)), (.double (0 : UInt64)), (.double (0 : UInt64)), (.double (0 : UInt64)), (.double (0 : UInt64)), (.double (0 : UInt64)), (.double (0 : UInt64)), (.double (0 : UInt64)), (.double (0 : UInt64)), (.double (0 : UInt64)), (.double (0 : UInt64)), (.double (0 : UInt64)), (.double (0 : UInt64)), (.double (0 : UInt64)), (.double (0 : UInt64)), (.double (0 : UInt64)), (.double (0 : UInt64)), (.double (0 : UInt64)), (.double (0 : UInt64)), (.double (0 : UInt64)), (.double (0 : UInt64)), (.double (0 : UInt64)), (.double (0 : UInt64)), (.double (0 : UInt64)), (.double (0 : UInt64)), (.double (0 : UInt64)), (.double (0 : UInt64)), (.double (0 : UInt64)), (.double (0 : UInt64)), (.double (0 : UInt64)), (.double (0 : UInt64)), (.double (0 : UInt64)), (.double (0 : UInt64)), (.double (0 : UInt64)), (.double (0 : UInt64)), (.double (0 : UInt64)), (.double (0 : UInt64)), (.double (0 : UInt64)), (.double (0 : UInt64)), (.double (0 : UInt64)), (.double (0 : UInt64)), (.double (0 : UInt64)), (.double (0 : UInt64)), (.double (0 : UInt64)), (.double (0 : UInt64)), (.double (0 : UInt64)), (.double (0 : UInt64)), (.double (0 : UInt64)), (.double (0 : UInt64)), (.double (0 : UInt64)), (.double (0 : UInt64)), (.double (0 : UInt64)), (.double (0 : UInt64)), (.double (0 : UInt64)), (.double (0 : UInt64)), (.double (0 : UInt64)), (.double (0 : UInt64)), (.double (0 : UInt64)), (.double (0 : UInt64))] (.double (0 : UInt64))) (g_a0 : n0 ≤ a0) (g_as : n0 ≤ as) (ne_a0_as : a0 ≠ as) (hge : ¬ ((cmpValue (FP.dcmp d1 lt) .l) < (0 : Int32))) :
    MetFree l (⟨"com/example/deliberate_scaler/deliberatescaler/model/RateWindow", "add", "(D)V"⟩ : MethodName) (head1 (Jvm.Cond.code (⟨"com/example/deliberate_scaler/deliberatescaler/model/RateWindow", "add", "(D)V"⟩ : MethodName) prog_30_method_2_code 5 none :: ws) ({ frames := 0, cells := 0, slots := 0, locals := 0 } : Room)) (fun a U => a = #[(.ref a0), (.double d1)] ∧ Z.Warmed39 U.vm ∧ U.heap = h0) (fun _ _ _ _ _ => True) (fun _ U o U' => ∃ v L, o = .returned v ∧ Q_rw_add_3 Z a0 d1 as lt wn f0 k_as y0 y1 y2 h0 n0 v U'.heap L ∧ FrameEnd U o U' L ({ frames := 0, cells := 0, slots := 0, locals := 0 } : Room).cells ({ frames := 0, cells := 0, slots := 0, locals := 0 } : Room).slots) := by
  refine MetFree.of_bodySF (plainFor_of_name pn_0) hisR ?_
  intro p e s m args below meth c s₁ Bd hml0 hP hK
  obtain ⟨rfl, hZ, hh⟩ := hP
  have hx := Bd.exec
  have hby := Bd.bytes
  have hml : c.maxLocals = 5 := hml0
  have hown : s.vm.findClass "com/example/deliberate_scaler/deliberatescaler/model/RateWindow" = some m.cls := findClass_of_methodNamed Bd.named
  have hnm := (name_of_methodNamed Bd.named Bd.method).1
  have hlk : meth.locks = false := BodyLoose.notSynchronized Bd
  have X0 : Stand p l e ({ frames := 0, cells := 0, slots := 0, locals := 0 } : Room) s m #[(.ref a0), (.double d1)] below meth c s₁ [] 0 0 := Stand.of_body Bd
  have e0 : s₁.heap = h0 := by rw [← hh, Bd.state]; rfl
  have N0 := Fr.nil n0
  have ZZ := Z0
  show Go p e below s ({ frames := 0, cells := 0, slots := 0, locals := 0 } : Room).cells ({ frames := 0, cells := 0, slots := 0, locals := 0 } : Room).slots (fun v h L => Q_rw_add_3 Z a0 d1 as lt wn f0 k_as y0 y1 y2 h0 n0 v h L) s₁ (entryFrame m #[(.ref a0), (.double d1)] 5)
  refine Go.cast (ef_rw_add_3 m a0 d1) ?_
  refine Go.gen ?_
  intro K1 K2 QQ hK1 hK2 hQQ
  have KP : Keep h0 h0 [a0, as] := Keep.refl _ _
  refine Go.on (fun _ k => XS.dloadN X0.here hx rfl (hb hby d3_0) rfl k) ?_
  show Go _ _ _ _ _ _ _ _ (mkF m 1 #[.val (.ref a0), .val (.double d1), .second, .unset, .unset] [(.double d1)])
  refine Go.on (fun _ k => XS.aloadN X0.here hx rfl (hb hby d3_1) rfl rfl k) ?_
  show Go _ _ _ _ _ _ _ _ (mkF m 2 #[.val (.ref a0), .val (.double d1), .second, .unset, .unset] [(.ref a0), (.double d1)])
  obtain ⟨T1, X1, e1, st1⟩ := getF X0 hx hZ hown (host := "") (Or.inl (hw _ (List.mem_of_getElem? (i := 13) rfl))) Via.refl e0 F_latest_a0 (g := (mkF m 2 #[.val (.ref a0), .val (.double d1), .second, .unset, .unset] [(.ref a0), (.double d1)])) rfl rfl (hb hby d3_2)
  refine Go.on st1 ?_
  show Go _ _ _ _ _ _ _ _ (mkF m 5 #[.val (.ref a0), .val (.double d1), .second, .unset, .unset] [(.double lt), (.double d1)])
  refine Go.on (fun _ k => XS.dcmpS X1.here hx rfl (hb hby d3_5) rfl rfl k) ?_
  show Go _ _ _ _ _ _ _ _ (mkF m 6 #[.val (.ref a0), .val (.double d1), .second, .unset, .unset] [(.int (cmpValue (FP.dcmp d1 lt) .l))])
  have hc2 : ¬ ((cmpValue (FP.dcmp d1 lt) .l) < (0 : Int32)) := hge
  refine Go.on (fun _ k => XS.ifYes X1.here hx rfl (pc0 := 6) (pc' := 27) rfl (hb hby d3_6) rfl ((if0 _ _).trans (flt hc2).2.1) (by decide) (by decide) k) ?_
  show Go _ _ _ _ _ _ _ _ (mkF m 27 #[.val (.ref a0), .val (.double d1), .second, .unset, .unset] [])
  refine Go.on (fun _ k => XS.aloadN X1.here hx rfl (hb hby d3_27) rfl rfl k) ?_
  show Go _ _ _ _ _ _ _ _ (mkF m 28 #[.val (.ref a0), .val (.double d1), .second, .unset, .unset] [(.ref a0)])
  refine Go.on (fun _ k => XS.dloadN X1.here hx rfl (hb hby d3_28) rfl k) ?_
  show Go _ _ _ _ _ _ _ _ (mkF m 29 #[.val (.ref a0), .val (.double d1), .second, .unset, .unset] [(.double d1), (.ref a0)])
  obtain ⟨T3, h3, X3, e3, W3, st3⟩ := putF X1 hx hZ hown (host := "") (Or.inl (hw _ (List.mem_of_getElem? (i := 13) rfl))) Via.refl e1 F_latest_a0 E_a0 (Or.inl (hw _ (List.mem_of_getElem? (i := 14) rfl))) (hw _ (List.mem_of_getElem? (i := 1) rfl)) (ty := .double) (by decide) rfl rfl (g := (mkF m 29 #[.val (.ref a0), .val (.double d1), .second, .unset, .unset] [(.double d1), (.ref a0)])) rfl rfl (hb hby d3_29)
  refine Go.on st3 ?_
  replace F_latest_a0 := F_latest_a0.same W3
  replace E_a0 := E_a0.wr W3
  replace F_times_a0 := F_times_a0.other W3 (Or.inr (slot_ne (Or.inl (hw _ (List.mem_of_getElem? (i := 11) rfl))) (Or.inl (hw _ (List.mem_of_getElem? (i := 14) rfl))) (by decide) (t := (.array .double)) (t' := .double) (by decide) (by decide)))
  replace F_window_a0 := F_window_a0.other W3 (Or.inr (slot_ne (Or.inr (hw _ (List.mem_of_getElem? (i := 17) rfl))) (Or.inl (hw _ (List.mem_of_getElem? (i := 14) rfl))) (by decide) (t := .double) (t' := .double) (by decide) (by decide)))
  replace F_first_a0 := F_first_a0.other W3 (Or.inr (slot_ne (Or.inl (hw _ (List.mem_of_getElem? (i := 31) rfl))) (Or.inl (hw _ (List.mem_of_getElem? (i := 14) rfl))) (by decide) (t := .int) (t' := .double) (by decide) (by decide)))
  replace F_end_a0 := F_end_a0.other W3 (Or.inr (slot_ne (Or.inl (hw _ (List.mem_of_getElem? (i := 24) rfl))) (Or.inl (hw _ (List.mem_of_getElem? (i := 14) rfl))) (by decide) (t := .int) (t' := .double) (by decide) (by decide)))
  replace V_as := V_as.other W3 (Ne.symm ne_a0_as)
  have N3 := Fr.snoc X3 N0 g_a0
  replace ZZ := Nat.le_trans ZZ (Keep.of_wr W3).1
  replace KP := KP.wr W3 (Or.inl (List.mem_of_getElem? (i := 0) rfl))
  show Go _ _ _ _ _ _ _ _ (mkF m 32 #[.val (.ref a0), .val (.double d1), .second, .unset, .unset] [])
  refine Go.on (fun _ k => XS.aloadN X3.here hx rfl (hb hby d3_32) rfl rfl k) ?_
  show Go _ _ _ _ _ _ _ _ (mkF m 33 #[.val (.ref a0), .val (.double d1), .second, .unset, .unset] [(.ref a0)])
  obtain ⟨T4, X4, e4, st4⟩ := getF X3 hx hZ hown (host := "") (Or.inl (hw _ (List.mem_of_getElem? (i := 23) rfl))) Via.refl e3 F_end_a0 (g := (mkF m 33 #[.val (.ref a0), .val (.double d1), .second, .unset, .unset] [(.ref a0)])) rfl rfl (hb hby d3_33)
  refine Go.on st4 ?_
  show Go _ _ _ _ _ _ _ _ (mkF m 36 #[.val (.ref a0), .val (.double d1), .second, .unset, .unset] [(.int (3 : Int32))])
  refine Go.on (fun _ k => XS.aloadN X4.here hx rfl (hb hby d3_36) rfl rfl k) ?_
  show Go _ _ _ _ _ _ _ _ (mkF m 37 #[.val (.ref a0), .val (.double d1), .second, .unset, .unset] [(.ref a0), (.int (3 : Int32))])
  obtain ⟨T5, X5, e5, st5⟩ := getF X4 hx hZ hown (host := "") (Or.inl (hw _ (List.mem_of_getElem? (i := 10) rfl))) Via.refl e4 F_times_a0 (g := (mkF m 37 #[.val (.ref a0), .val (.double d1), .second, .unset, .unset] [(.ref a0), (.int (3 : Int32))])) rfl rfl (hb hby d3_37)
  refine Go.on st5 ?_
  show Go _ _ _ _ _ _ _ _ (mkF m 40 #[.val (.ref a0), .val (.double d1), .second, .unset, .unset] [(.ref as), (.int (3 : Int32))])
  obtain ⟨cl6, Ar6, -, S6, N6n, -, -⟩ := id V_as
  refine Go.on (X5.arraylength hx (by rw [e5]; exact Ar6.1) (State.isArrayOf_alike hZ.alike Ar6.2.1) (g := (mkF m 40 #[.val (.ref a0), .val (.double d1), .second, .unset, .unset] [(.ref as), (.int (3 : Int32))])) rfl rfl (hb hby d3_40)) ?_
  rw [len_of S6 N6n]
  show Go _ _ _ _ _ _ _ _ (mkF m 41 #[.val (.ref a0), .val (.double d1), .second, .unset, .unset] [(.int (64 : Int32)), (.int (3 : Int32))])
  have hc7 : ¬ ((3 : Int32) = (64 : Int32)) := by decide
  refine Go.on (fun _ k => XS.icmpYes X5.here hx rfl (pc0 := 41) (pc' := 114) rfl (hb hby d3_41) rfl (feq hc7).2 (by decide) (by decide) k) ?_
  show Go _ _ _ _ _ _ _ _ (mkF m 114 #[.val (.ref a0), .val (.double d1), .second, .unset, .unset] [])
  refine Go.on (fun _ k => XS.aloadN X5.here hx rfl (hb hby d3_114) rfl rfl k) ?_
  show Go _ _ _ _ _ _ _ _ (mkF m 115 #[.val (.ref a0), .val (.double d1), .second, .unset, .unset] [(.ref a0)])
  obtain ⟨T8, X8, e8, st8⟩ := getF X5 hx hZ hown (host := "") (Or.inl (hw _ (List.mem_of_getElem? (i := 10) rfl))) Via.refl e5 F_times_a0 (g := (mkF m 115 #[.val (.ref a0), .val (.double d1), .second, .unset, .unset] [(.ref a0)])) rfl rfl (hb hby d3_115)
  refine Go.on st8 ?_
  show Go _ _ _ _ _ _ _ _ (mkF m 118 #[.val (.ref a0), .val (.double d1), .second, .unset, .unset] [(.ref as)])
  refine Go.on (fun _ k => XS.aloadN X8.here hx rfl (hb hby d3_118) rfl rfl k) ?_
  show Go _ _ _ _ _ _ _ _ (mkF m 119 #[.val (.ref a0), .val (.double d1), .second, .unset, .unset] [(.ref a0), (.ref as)])
  obtain ⟨T9, X9, e9, st9⟩ := getF X8 hx hZ hown (host := "") (Or.inl (hw _ (List.mem_of_getElem? (i := 23) rfl))) Via.refl e8 F_end_a0 (g := (mkF m 119 #[.val (.ref a0), .val (.double d1), .second, .unset, .unset] [(.ref a0), (.ref as)])) rfl rfl (hb hby d3_119)
  refine Go.on st9 ?_
  show Go _ _ _ _ _ _ _ _ (mkF m 122 #[.val (.ref a0), .val (.double d1), .second, .unset, .unset] [(.int (3 : Int32)), (.ref as)])
  refine Go.on (fun _ k => XS.dloadN X9.here hx rfl (hb hby d3_122) rfl k) ?_
  show Go _ _ _ _ _ _ _ _ (mkF m 123 #[.val (.ref a0), .val (.double d1), .second, .unset, .unset] [(.double d1), (.int (3 : Int32)), (.ref as)])
  obtain ⟨cl10, Ar10, q10, S10, N10n, H10, G10⟩ := id V_as
  have hin10 : ¬ ((3 : Int32) < 0 ∨ cl10.slots.size ≤ ((3 : Int32)).toNatClampNeg) := inb_of S10 ⟨by decide, by decide⟩
  obtain ⟨T10, h10, X10, e10, W10, st10⟩ := stD X9 hx hZ e9 Ar10 (j := (3 : Int32)) hin10 (g := (mkF m 123 #[.val (.ref a0), .val (.double d1), .second, .unset, .unset] [(.double d1), (.int (3 : Int32)), (.ref as)])) rfl rfl (hb hby d3_123)
  replace V_as := Arv.set Ar10 q10 S10 N10n H10 G10 rfl W10 3 rfl (Nat.le_of_ble_eq_true rfl)
  replace E_a0 := E_a0.wr W10
  replace F_times_a0 := F_times_a0.other W10 (Or.inl ne_a0_as)
  replace F_latest_a0 := F_latest_a0.other W10 (Or.inl ne_a0_as)
  replace F_window_a0 := F_window_a0.other W10 (Or.inl ne_a0_as)
  replace F_first_a0 := F_first_a0.other W10 (Or.inl ne_a0_as)
  replace F_end_a0 := F_end_a0.other W10 (Or.inl ne_a0_as)
  refine Go.on st10 ?_
  have N10 := Fr.snoc X10 N3 g_as
  replace ZZ := Nat.le_trans ZZ (Keep.of_wr W10).1
  replace KP := KP.wr W10 (Or.inl (List.mem_of_getElem? (i := 1) rfl))
  change Arv Z h10 as k_as .double (64 : Int32) [(.double y0), (.double y1), (.double y2), (.double d1), (.double (0 : UInt64)), (.double (0 : UInt64)), (.double (0 : UInt64)), (.double (0 : UInt64)), (.double (0 : UInt64)), (.double (0 : UInt64)), (.double (0 : UInt64)), (.double (0 : UInt64)), (.double (0 : UInt64)), (.double (0 : UInt64)), (.double (0 : UInt64)), (.double (0 : UInt64)), (.double (0 : UInt64)), (.double (0 : UInt64)), (.double (0 : UInt64)), (.double (0 : UInt64)), (.double (0 : UInt64)), (.double (0 : UInt64)), (.double (0 : UInt64)), (.double (0 : UInt64)), (.double (0 : UInt64)), (.double (0 : UInt64)), (.double (0 : UInt64)), (.double (0 : UInt64)), (.double (0 : UInt64)), (.double (0 : UInt64)), (.double (0 : UInt64)), (.double (0 : UInt64)), (.double (0 : UInt64)), (.double (0 : UInt64)), (.double (0 : UInt64)), (.double (0 : UInt64)), (.double (0 : UInt64)), (.double (0 : UInt64)), (.double (0 : UInt64)), (.double (0 : UInt64)), (.double (0 : UInt64)), (.double (0 : UInt64)), (.double (0 : UInt64)), (.double (0 : UInt64)), (.double (0 : UInt64)), (.double (0 : UInt64)), (.double (0 : UInt64)), (.double (0 : UInt64)), (.double (0 : UInt64)), (.double (0 : UInt64)), (.double (0 : UInt64)), (.double (0 : UInt64)), (.double (0 : UInt64)), (.double (0 : UInt64)), (.double (0 : UInt64)), (.double (0 : UInt64)), (.double (0 : UInt64)), (.double (0 : UInt64)), (.double (0 : UInt64)), (.double (0 : UInt64)), (.double (0 : UInt64)), (.double (0 : UInt64)), (.double (0 : UInt64)), (.double (0 : UInt64))] (.double (0 : UInt64)) at V_as
  show Go _ _ _ _ _ _ _ _ (mkF m 124 #[.val (.ref a0), .val (.double d1), .second, .unset, .unset] [])
  refine Go.on (fun _ k => XS.aloadN X10.here hx rfl (hb hby d3_124) rfl rfl k) ?_
  show Go _ _ _ _ _ _ _ _ (mkF m 125 #[.val (.ref a0), .val (.double d1), .second, .unset, .unset] [(.ref a0)])
  refine Go.on (fun _ k => XS.dup X10.here hx rfl (hb hby d3_125) rfl rfl k) ?_
  show Go _ _ _ _ _ _ _ _ (mkF m 126 #[.val (.ref a0), .val (.double d1), .second, .unset, .unset] [(.ref a0), (.ref a0)])
  obtain ⟨T11, X11, e11, st11⟩ := getF X10 hx hZ hown (host := "") (Or.inl (hw _ (List.mem_of_getElem? (i := 23) rfl))) Via.refl e10 F_end_a0 (g := (mkF m 126 #[.val (.ref a0), .val (.double d1), .second, .unset, .unset] [(.ref a0), (.ref a0)])) rfl rfl (hb hby d3_126)
  refine Go.on st11 ?_
  show Go _ _ _ _ _ _ _ _ (mkF m 129 #[.val (.ref a0), .val (.double d1), .second, .unset, .unset] [(.int (3 : Int32)), (.ref a0)])
  refine Go.on (fun _ k => XS.iconst X11.here hx rfl (hb hby d3_129) k) ?_
  show Go _ _ _ _ _ _ _ _ (mkF m 130 #[.val (.ref a0), .val (.double d1), .second, .unset, .unset] [(.int (1 : Int32)), (.int (3 : Int32)), (.ref a0)])
  refine Go.on (fun _ k => XS.iadd X11.here hx rfl (hb hby d3_130) rfl k) ?_
  show Go _ _ _ _ _ _ _ _ (mkF m 131 #[.val (.ref a0), .val (.double d1), .second, .unset, .unset] [(.int (4 : Int32)), (.ref a0)])
  obtain ⟨T12, h12, X12, e12, W12, st12⟩ := putF X11 hx hZ hown (host := "") (Or.inl (hw _ (List.mem_of_getElem? (i := 23) rfl))) Via.refl e11 F_end_a0 E_a0 (Or.inl (hw _ (List.mem_of_getElem? (i := 24) rfl))) (hw _ (List.mem_of_getElem? (i := 1) rfl)) (ty := .int) (by decide) rfl rfl (g := (mkF m 131 #[.val (.ref a0), .val (.double d1), .second, .unset, .unset] [(.int (4 : Int32)), (.ref a0)])) rfl rfl (hb hby d3_131)
  refine Go.on st12 ?_
  replace F_end_a0 := F_end_a0.same W12
  replace E_a0 := E_a0.wr W12
  replace F_times_a0 := F_times_a0.other W12 (Or.inr (slot_ne (Or.inl (hw _ (List.mem_of_getElem? (i := 11) rfl))) (Or.inl (hw _ (List.mem_of_getElem? (i := 24) rfl))) (by decide) (t := (.array .double)) (t' := .int) (by decide) (by decide)))
  replace F_latest_a0 := F_latest_a0.other W12 (Or.inr (slot_ne (Or.inl (hw _ (List.mem_of_getElem? (i := 14) rfl))) (Or.inl (hw _ (List.mem_of_getElem? (i := 24) rfl))) (by decide) (t := .double) (t' := .int) (by decide) (by decide)))
  replace F_window_a0 := F_window_a0.other W12 (Or.inr (slot_ne (Or.inr (hw _ (List.mem_of_getElem? (i := 17) rfl))) (Or.inl (hw _ (List.mem_of_getElem? (i := 24) rfl))) (by decide) (t := .double) (t' := .int) (by decide) (by decide)))
  replace F_first_a0 := F_first_a0.other W12 (Or.inr (slot_ne (Or.inl (hw _ (List.mem_of_getElem? (i := 31) rfl))) (Or.inl (hw _ (List.mem_of_getElem? (i := 24) rfl))) (by decide) (t := .int) (t' := .int) (by decide) (by decide)))
  replace V_as := V_as.other W12 (Ne.symm ne_a0_as)
  have N12 := Fr.snoc X12 N10 g_a0
  replace ZZ := Nat.le_trans ZZ (Keep.of_wr W12).1
  replace KP := KP.wr W12 (Or.inl (List.mem_of_getElem? (i := 0) rfl))
  show Go _ _ _ _ _ _ _ _ (mkF m 134 #[.val (.ref a0), .val (.double d1), .second, .unset, .unset] [])
  refine Go.ret0 X12 hx Bd.returns (hb hby d3_134) ?_ (by rw [hK1]; decide) (by rw [hK2]; decide)
  rw [e12, ← hQQ]
  exact ⟨rfl, N12, KP, E_a0, F_times_a0, F_latest_a0, F_window_a0, F_first_a0, F_end_a0, V_as⟩
theorem d4_0 : decode prog_30_method_3_code 0 = .ok (.dload_n 1, 1) := by decide +kernel
theorem d4_1 : decode prog_30_method_3_code 1 = .ok (.aload_n 0, 1) := by decide +kernel
theorem d4_2 : decode prog_30_method_3_code 2 = .ok (.getfield 32, 3) := by decide +kernel
theorem d4_5 : decode prog_30_method_3_code 5 = .ok (.dsub, 1) := by decide +kernel
theorem d4_6 : decode prog_30_method_3_code 6 = .ok (.dstore_n 3, 1) := by decide +kernel
theorem d4_7 : decode prog_30_method_3_code 7 = .ok (.aload_n 0, 1) := by decide +kernel
theorem d4_8 : decode prog_30_method_3_code 8 = .ok (.getfield 42, 3) := by decide +kernel
theorem d4_11 : decode prog_30_method_3_code 11 = .ok (.aload_n 0, 1) := by decide +kernel
theorem d4_12 : decode prog_30_method_3_code 12 = .ok (.getfield 38, 3) := by decide +kernel
theorem d4_15 : decode prog_30_method_3_code 15 = .ok (.if_icmp .ge 30, 3) := by decide +kernel
theorem d4_45 : decode prog_30_method_3_code 45 = .ok (.aload_n 0, 1) := by decide +kernel
theorem d4_46 : decode prog_30_method_3_code 46 = .ok (.getfield 38, 3) := by decide +kernel
theorem d4_49 : decode prog_30_method_3_code 49 = .ok (.istore 5, 2) := by decide +kernel
theorem d4_51 : decode prog_30_method_3_code 51 = .ok (.iload 5, 2) := by decide +kernel
theorem d4_53 : decode prog_30_method_3_code 53 = .ok (.aload_n 0, 1) := by decide +kernel
theorem d4_54 : decode prog_30_method_3_code 54 = .ok (.getfield 42, 3) := by decide +kernel
theorem d4_57 : decode prog_30_method_3_code 57 = .ok (.if_icmp .le 23, 3) := by decide +kernel
theorem d4_80 : decode prog_30_method_3_code 80 = .ok (.iload 5, 2) := by decide +kernel
theorem d4_82 : decode prog_30_method_3_code 82 = .ok (.aload_n 0, 1) := by decide +kernel
theorem d4_83 : decode prog_30_method_3_code 83 = .ok (.getfield 42, 3) := by decide +kernel
theorem d4_86 : decode prog_30_method_3_code 86 = .ok (.isub, 1) := by decide +kernel
theorem d4_87 : decode prog_30_method_3_code 87 = .ok (.i2d, 1) := by decide +kernel
theorem d4_88 : decode prog_30_method_3_code 88 = .ok (.aload_n 0, 1) := by decide +kernel
theorem d4_89 : decode prog_30_method_3_code 89 = .ok (.getfield 32, 3) := by decide +kernel
theorem d4_92 : decode prog_30_method_3_code 92 = .ok (.ddiv, 1) := by decide +kernel
theorem d4_93 : decode prog_30_method_3_code 93 = .ok (.dreturn, 1) := by decide +kernel
theorem ef_rw_rate_0 (m : MethodId) (a0 : Addr) (d1 : UInt64) : entryFrame m #[(.ref a0), (.double d1)] 6 = mkF m 0 #[.val (.ref a0), .val (.double d1), .second, .unset, .unset, .unset] [] := by first | (simp [entryFrame, mkF, argsToLocals, Value.category]; done) | rfl
def Q_rw_rate_0 (Z : State) (a0 : Addr) (d1 : UInt64) (nw : Int64) (jw : Int64) (as : Addr) (lt : UInt64) (wn : UInt64) (f0 : Int32) (k_as : ClassId) (h0 : Heap) (n0 : Nat) (v : Option Value) (h : Heap) (L : List Loc) : Prop := ∃ f1 : Int32, v = some (.double (FP.ddiv (FP.i2d (0 : Int32)) wn)) ∧ Fr n0 L ∧ Keep h0 h [a0] ∧ Exa Z h a0 "com/example/deliberate_scaler/deliberatescaler/model/RateWindow" ∧ Fld Z h a0 "com/example/deliberate_scaler/deliberatescaler/model/RateWindow" "times" "[D" (.ref as) ∧ Fld Z h a0 "com/example/deliberate_scaler/deliberatescaler/model/RateWindow" "latest" "D" (.double lt) ∧ Fld Z h a0 "com/example/deliberate_scaler/deliberatescaler/model/RateWindow" "window" "D" (.double wn) ∧ Fld Z h a0 "com/example/deliberate_scaler/deliberatescaler/model/RateWindow" "first" "I" (.int f1) ∧ Fld Z h a0 "com/example/deliberate_scaler/deliberatescaler/model/RateWindow" "end" "I" (.int (0 : Int32)) ∧ (f1 = (0 : Int32))
set_option maxRecDepth 65536 in
set_option maxHeartbeats 40000000 in
theorem rw_rate_0 (l : Launch) (Z : State) (aw : Array Value) (hw : ∀ d ∈ tables_1, d.before aw Z = true) (ws : List Jvm.Cond) (a0 : Addr) (d1 : UInt64) (nw : Int64) (jw : Int64) (as : Addr) (lt : UInt64) (wn : UInt64) (f0 : Int32) (k_as : ClassId) (h0 : Heap) (n0 : Nat) (Z0 : n0 ≤ h0.size) (E_a0 : Exa Z h0 a0 "com/example/deliberate_scaler/deliberatescaler/model/RateWindow") (F_times_a0 : Fld Z h0 a0 "com/example/deliberate_scaler/deliberatescaler/model/RateWindow" "times" "[D" (.ref as)) (F_latest_a0 : Fld Z h0 a0 "com/example/deliberate_scaler/deliberatescaler/model/RateWindow" "latest" "D" (.double lt)) (F_window_a0 : Fld Z h0 a0 "com/example/deliberate_scaler/deliberatescaler/model/RateWindow" "window" "D" (.double wn)) (F_first_a0 : Fld Z h0 a0 "com/example/deliberate_scaler/deliberatescaler/model/RateWindow" "first" "I" (.int f0)) (F_end_a0 : Fld Z h0 a0 "com/example/deliberate_scaler/deliberatescaler/model/RateWindow" "end" "I" (.int (0 : Int32))) (V_as : Arv Z h0 as k_as .double (64 : Int32) [(.double (0 : UInt64)), (.double (0 : UInt64)), (.double (0 : UInt64)), (.double (0 : UInt64)), (.double (0 : UInt64)), (.double (0 : UInt64)), (.double (0 : UInt64)), (.double (0 : UInt64)), (.double (0 : UInt64)), (.double (0 : UInt64)), (.double (0 : UInt64)), (.double (0 : UInt64)), (.double (0 : UInt64)), (.double (0 : UInt64)), (.double (0 : UInt64)), (.double (0 : UInt64)), (.double (0 : UInt64)), (.double (0 : UInt64)), (.double (0 : UInt64)), (.double (0 : UInt64)), (.double (0 : UInt64)), (.double (0 : UInt64)), (.double (0 : UInt64)), (.double (0 : UInt64)), (.double (0 : UInt64)), (.double (0 : UInt64)), (.double (0 : UInt64)), (.double (0 : UInt64)), (.double (0 : UInt64)), (.double (0 : UInt64)), (.double (0 : UInt64)), (.double (0 : UInt64)), (.double (0 : UInt64)), (.double (0 : UInt64)), (.double (0 : UInt64)), (.double (0 : UInt64)), (.double (0 : UInt64)), (.double (0 : UInt64)), (.double (0 : UInt64)), (.double (0 : UInt64)), (.double (0 : UInt64)), (.double (0 : UInt64)), (.double (0 : UInt64)), (.double (0 : UInt64)), (.double (0 : UInt64)), (.double (0 : UInt64)), (.double (0 : UInt64)), (.double (0 : UInt64)), (.double (0 : UInt64)), (.double (0 : UInt64)), (.double (0 : UInt64)), (.double (0 : UInt64)), (.double (0 : UInt64)), (.double (0 : UInt64)), (.double (0 : UInt64)), (.double (0 : UInt64)), (.double (0 : UInt64)), (.double (0 : UInt64)), (.double (0 : UInt64)), (.double (0 : UInt64)), (.double (0 : UInt64)), (.double (0 : UInt64)), (.double (0 : UInt64)), (.double (0 : UInt64))] (.double (0 : UInt64))) (g_a0 : n0 ≤ a0) (ne_a0_as : a0 ≠ as) (hnw : d1 = FP.l2d nw) (hwn : wn = FP.l2d jw) (bn : Tb nw) (bw : Tb jw) (hw1 : 1 ≤ jw.toInt) (hf : f0 = (0 : Int32)) :
    MetFree l (⟨"com/example/deliberate_scaler/deliberatescaler/model/RateWindow", "rate", "(D)D"⟩ : MethodName) (head1 (Jvm.Cond.code (⟨"com/example/deliberate_scaler/deliberatescaler/model/RateWindow", "rate", "(D)D"⟩ : MethodName) prog_30_method_3_code 6 (some .double) :: ws) ({ frames := 0, cells := 0, slots := 0, locals := 0 } : Room)) (fun a U => a = #[(.ref a0), (.double d1)] ∧ Z.Warmed39 U.vm ∧ U.heap = h0) (fun _ _ _ _ _ => True) (fun _ U o U' => ∃ v L, o = .returned v ∧ Q_rw_rate_0 Z a0 d1 nw jw as lt wn f0 k_as h0 n0 v U'.heap L ∧ FrameEnd U o U' L ({ frames := 0, cells := 0, slots := 0, locals := 0 } : Room).cells ({ frames := 0, cells := 0, slots := 0, locals := 0 } : Room).slots) := by
  refine MetFree.of_bodySF (plainFor_of_name pn_0) hisR ?_
  intro p e s m args below meth c s₁ Bd hml0 hP hK
  obtain ⟨rfl, hZ, hh⟩ := hP
  have hx := Bd.exec
  have hby := Bd.bytes
  have hml : c.maxLocals = 6 := hml0
  have hown : s.vm.findClass "com/example/deliberate_scaler/deliberatescaler/model/RateWindow" = some m.cls := findClass_of_methodNamed Bd.named
  have hnm := (name_of_methodNamed Bd.named Bd.method).1
  have hlk : meth.locks = false := BodyLoose.notSynchronized Bd
  have X0 : Stand p l e ({ frames := 0, cells := 0, slots := 0, locals := 0 } : Room) s m #[(.ref a0), (.double d1)] below meth c s₁ [] 0 0 := Stand.of_body Bd
  have e0 : s₁.heap = h0 := by rw [← hh, Bd.state]; rfl
  have N0 := Fr.nil n0
  have ZZ := Z0
  show Go p e below s ({ frames := 0, cells := 0, slots := 0, locals := 0 } : Room).cells ({ frames := 0, cells := 0, slots := 0, locals := 0 } : Room).slots (fun v h L => Q_rw_rate_0 Z a0 d1 nw jw as lt wn f0 k_as h0 n0 v h L) s₁ (entryFrame m #[(.ref a0), (.double d1)] 6)
  refine Go.cast (ef_rw_rate_0 m a0 d1) ?_
  refine Go.gen ?_
  intro K1 K2 QQ hK1 hK2 hQQ
  have KP : Keep h0 h0 [a0] := Keep.refl _ _
  have zl := own_lo bn bw hnw hwn
  have zn := own_bl bn hnw
  have hL0 : ∀ (T1 : State) (locs1 : List Loc) (h1 : Heap), Stand p l e ({ frames := 0, cells := 0, slots := 0, locals := 0 } : Room) s m #[(.ref a0), (.double d1)] below meth c T1 locs1 0 0 → T1.heap = h1 → Fr n0 locs1 → n0 ≤ h1.size → Keep h0 h1 [a0] → Exa Z h1 a0 "com/example/deliberate_scaler/deliberatescaler/model/RateWindow" → Fld Z h1 a0 "com/example/deliberate_scaler/deliberatescaler/model/RateWindow" "times" "[D" (.ref as) → Fld Z h1 a0 "com/example/deliberate_scaler/deliberatescaler/model/RateWindow" "latest" "D" (.double lt) → Fld Z h1 a0 "com/example/deliberate_scaler/deliberatescaler/model/RateWindow" "window" "D" (.double wn) → Fld Z h1 a0 "com/example/deliberate_scaler/deliberatescaler/model/RateWindow" "first" "I" (.int (0 : Int32)) → Fld Z h1 a0 "com/example/deliberate_scaler/deliberatescaler/model/RateWindow" "end" "I" (.int (0 : Int32)) → Arv Z h1 as k_as .double (64 : Int32) [(.double (0 : UInt64)), (.double (0 : UInt64)), (.double (0 : UInt64)), (.double (0 : UInt64)), (.double (0 : UInt64)), (.double (0 : UInt64)), (.double (0 : UInt64)), (.double (0 : UInt64)), (.double (0 : UInt64)), (.double (0 : UInt64)), (.double (0 : UInt64)), (.double (0 : UInt64)), (.double (0 : UInt64)), (.double (0 : UInt64)), (.double (0 : UInt64)), (.double (0 : UInt64)), (.double (0 : UInt64)), (.double (0 : UInt64)), (.double (0 : UInt64)), (.double (0 : UInt64)), (.double (0 : UInt64)), (.double (0 : UInt64)), (.double (0 : UInt64)), (.double (0 : UInt64)), (.double (0 : UInt64)), (.double (0 : UInt64)), (.double (0 : UInt64)), (.double (0 : UInt64)), (.double (0 : UInt64)), (.double (0 : UInt64)), (.double (0 : UInt64)), (.double (0 : UInt64)), (.double (0 : UInt64)), (.double (0 : UInt64)), (.double (0 : UInt64)), (.double (0 : UInt64)), (.double (0 : UInt64)), (.double (0 : UInt64)), (.double (0 : UInt64)), (.double (0 : UInt64)), (.double (0 : UInt64)), (.double (0 : UInt64)), (.double (0 : UInt64)), (.double (0 : UInt64)), (.double (0 : UInt64)), (.double (0 : UInt64)), (.double (0 : UInt64)), (.double (0 : UInt64)), (.double (0 : UInt64)), (.double (0 : UInt64)), (.double (0 : UInt64)), (.double (0 : UInt64)), (.double (0 : UInt64)), (.double (0 : UInt64)), (.double (0 : UInt64)), (.double (0 : UInt64)), (.double (0 : UInt64)), (.double (0 : UInt64)), (.double (0 : UInt64)), (.double (0 : UInt64)), (.double (0 : UInt64)), (.double (0 : UInt64)), (.double (0 : UInt64)), (.double (0 : UInt64))] (.double (0 : UInt64)) → Go p e below s K1 K2 QQ T1 (mkF m 7 #[Sr a0, Sd d1, .second, .val (.double (FP.dsub d1 wn)), .second, .unset] []) := by
    clear ZZ KP E_a0 F_times_a0 F_latest_a0 F_window_a0 F_first_a0 F_end_a0 V_as
    intro T1 locs1 h1 X1 e1 N1 ZZ KP E_a0 F_times_a0 F_latest_a0 F_window_a0 F_first_a0 F_end_a0 V_as 
    show Go _ _ _ _ _ _ _ _ (mkF m 7 #[Sr a0, Sd d1, .second, .val (.double (FP.dsub d1 wn)), .second, .unset] [])
    refine Go.on (fun _ k => XS.aloadN X1.here hx rfl (hb hby d4_7) rfl rfl k) ?_
    show Go _ _ _ _ _ _ _ _ (mkF m 8 #[Sr a0, Sd d1, .second, .val (.double (FP.dsub d1 wn)), .second, .unset] [(.ref a0)])
    obtain ⟨T2, X2, e2, st2⟩ := getF X1 hx hZ hown (host := "") (Or.inl (hw _ (List.mem_of_getElem? (i := 30) rfl))) Via.refl e1 F_first_a0 (g := (mkF m 8 #[Sr a0, Sd d1, .second, .val (.double (FP.dsub d1 wn)), .second, .unset] [(.ref a0)])) rfl rfl (hb hby d4_8)
    refine Go.on st2 ?_
    show Go _ _ _ _ _ _ _ _ (mkF m 11 #[Sr a0, Sd d1, .second, .val (.double (FP.dsub d1 wn)), .second, .unset] [(.int 0)])
    refine Go.on (fun _ k => XS.aloadN X2.here hx rfl (hb hby d4_11) rfl rfl k) ?_
    show Go _ _ _ _ _ _ _ _ (mkF m 12 #[Sr a0, Sd d1, .second, .val (.double (FP.dsub d1 wn)), .second, .unset] [(.ref a0), (.int 0)])
    obtain ⟨T3, X3, e3, st3⟩ := getF X2 hx hZ hown (host := "") (Or.inl (hw _ (List.mem_of_getElem? (i := 23) rfl))) Via.refl e2 F_end_a0 (g := (mkF m 12 #[Sr a0, Sd d1, .second, .val (.double (FP.dsub d1 wn)), .second, .unset] [(.ref a0), (.int 0)])) rfl rfl (hb hby d4_12)
    refine Go.on st3 ?_
    show Go _ _ _ _ _ _ _ _ (mkF m 15 #[Sr a0, Sd d1, .second, .val (.double (FP.dsub d1 wn)), .second, .unset] [(.int 0), (.int 0)])
    have hc4 : ¬ ((0 : Int32) < (0 : Int32)) := by decide
    refine Go.on (fun _ k => XS.icmpYes X3.here hx rfl (pc0 := 15) (pc' := 45) rfl (hb hby d4_15) rfl (flt hc4).2.1 (by decide) (by decide) k) ?_
    refine Go.on (fun _ k => XS.aloadN X3.here hx rfl (hb hby d4_45) rfl rfl k) ?_
    show Go _ _ _ _ _ _ _ _ (mkF m 46 #[Sr a0, Sd d1, .second, .val (.double (FP.dsub d1 wn)), .second, .unset] [(.ref a0)])
    obtain ⟨T5, X5, e5, st5⟩ := getF X3 hx hZ hown (host := "") (Or.inl (hw _ (List.mem_of_getElem? (i := 23) rfl))) Via.refl e3 F_end_a0 (g := (mkF m 46 #[Sr a0, Sd d1, .second, .val (.double (FP.dsub d1 wn)), .second, .unset] [(.ref a0)])) rfl rfl (hb hby d4_46)
    refine Go.on st5 ?_
    show Go _ _ _ _ _ _ _ _ (mkF m 49 #[Sr a0, Sd d1, .second, .val (.double (FP.dsub d1 wn)), .second, .unset] [(.int 0)])
    refine Go.on (fun _ k => XS.istore X5.here hx rfl (hb hby d4_49) rfl (l' := #[.val (.ref a0), .val (.double d1), .second, .val (.double (FP.dsub d1 wn)), .second, .val (.int (0 : Int32))]) rfl k) ?_
    show Go _ _ _ _ _ _ _ _ (mkF m 51 #[Sr a0, Sd d1, .second, .val (.double (FP.dsub d1 wn)), .second, Si 0] [])
    refine Go.on (fun _ k => XS.iload X5.here hx rfl (hb hby d4_51) rfl k) ?_
    refine Go.on (fun _ k => XS.aloadN X5.here hx rfl (hb hby d4_53) rfl rfl k) ?_
    show Go _ _ _ _ _ _ _ _ (mkF m 54 #[Sr a0, Sd d1, .second, .val (.double (FP.dsub d1 wn)), .second, Si 0] [(.ref a0), (.int 0)])
    obtain ⟨T6, X6, e6, st6⟩ := getF X5 hx hZ hown (host := "") (Or.inl (hw _ (List.mem_of_getElem? (i := 30) rfl))) Via.refl e5 F_first_a0 (g := (mkF m 54 #[Sr a0, Sd d1, .second, .val (.double (FP.dsub d1 wn)), .second, Si 0] [(.ref a0), (.int 0)])) rfl rfl (hb hby d4_54)
    refine Go.on st6 ?_
    show Go _ _ _ _ _ _ _ _ (mkF m 57 #[Sr a0, Sd d1, .second, .val (.double (FP.dsub d1 wn)), .second, Si 0] [(.int 0), (.int 0)])
    have hc7 : ¬ ((0 : Int32) < (0 : Int32)) := by decide
    refine Go.on (fun _ k => XS.icmpYes X6.here hx rfl (pc0 := 57) (pc' := 80) rfl (hb hby d4_57) rfl (flt hc7).2.2.2 (by decide) (by decide) k) ?_
    refine Go.on (fun _ k => XS.iload X6.here hx rfl (hb hby d4_80) rfl k) ?_
    refine Go.on (fun _ k => XS.aloadN X6.here hx rfl (hb hby d4_82) rfl rfl k) ?_
    show Go _ _ _ _ _ _ _ _ (mkF m 83 #[Sr a0, Sd d1, .second, .val (.double (FP.dsub d1 wn)), .second, Si 0] [(.ref a0), (.int 0)])
    obtain ⟨T8, X8, e8, st8⟩ := getF X6 hx hZ hown (host := "") (Or.inl (hw _ (List.mem_of_getElem? (i := 30) rfl))) Via.refl e6 F_first_a0 (g := (mkF m 83 #[Sr a0, Sd d1, .second, .val (.double (FP.dsub d1 wn)), .second, Si 0] [(.ref a0), (.int 0)])) rfl rfl (hb hby d4_83)
    refine Go.on st8 ?_
    show Go _ _ _ _ _ _ _ _ (mkF m 86 #[Sr a0, Sd d1, .second, .val (.double (FP.dsub d1 wn)), .second, Si 0] [(.int 0), (.int 0)])
    refine Go.on (fun _ k => XS.isub X8.here hx rfl (hb hby d4_86) rfl k) ?_
    refine Go.on (fun _ k => XS.i2dS X8.here hx rfl (hb hby d4_87) rfl rfl k) ?_
    refine Go.on (fun _ k => XS.aloadN X8.here hx rfl (hb hby d4_88) rfl rfl k) ?_
    show Go _ _ _ _ _ _ _ _ (mkF m 89 #[Sr a0, Sd d1, .second, .val (.double (FP.dsub d1 wn)), .second, Si 0] [(.ref a0), (.double (FP.i2d (0 : Int32)))])
    obtain ⟨T9, X9, e9, st9⟩ := getF X8 hx hZ hown (host := "") (Or.inl (hw _ (List.mem_of_getElem? (i := 16) rfl))) Via.refl e8 F_window_a0 (g := (mkF m 89 #[Sr a0, Sd d1, .second, .val (.double (FP.dsub d1 wn)), .second, Si 0] [(.ref a0), (.double (FP.i2d (0 : Int32)))])) rfl rfl (hb hby d4_89)
    refine Go.on st9 ?_
    show Go _ _ _ _ _ _ _ _ (mkF m 92 #[Sr a0, Sd d1, .second, .val (.double (FP.dsub d1 wn)), .second, Si 0] [(.double wn), (.double (FP.i2d (0 : Int32)))])
    refine Go.on (fun _ k => XS.ddivS X9.here hx rfl (hb hby d4_92) rfl ((own_rt _ hwn hw1 bw)) rfl k) ?_
    show Go _ _ _ _ _ _ _ _ (mkF m 93 #[Sr a0, Sd d1, .second, .val (.double (FP.dsub d1 wn)), .second, Si 0] [(.double (FP.ddiv (FP.i2d (0 : Int32)) wn))])
    refine Go.retV X9 hx Bd.returns rfl (Or.inr (Or.inr (Or.inl ⟨rfl, rfl, _, rfl⟩))) (hb hby d4_93) ?_ (by rw [hK1]; decide) (by rw [hK2]; decide)
    rw [e9, ← hQQ]
    have hC : (0 : Int32) = (0 : Int32) := by rfl
    unfold Q_rw_rate_0
    rw [hC]
    exact ⟨_, rfl, N1, KP, E_a0, F_times_a0, F_latest_a0, F_window_a0, F_first_a0, F_end_a0, rfl⟩
  refine Go.on (fun _ k => XS.dloadN X0.here hx rfl (hb hby d4_0) rfl k) ?_
  refine Go.on (fun _ k => XS.aloadN X0.here hx rfl (hb hby d4_1) rfl rfl k) ?_
  show Go _ _ _ _ _ _ _ _ (mkF m 2 #[Sr a0, Sd d1, .second, .unset, .unset, .unset] [(.ref a0), (.double d1)])
  obtain ⟨T10, X10, e10, st10⟩ := getF X0 hx hZ hown (host := "") (Or.inl (hw _ (List.mem_of_getElem? (i := 16) rfl))) Via.refl e0 F_window_a0 (g := (mkF m 2 #[Sr a0, Sd d1, .second, .unset, .unset, .unset] [(.ref a0), (.double d1)])) rfl rfl (hb hby d4_2)
  refine Go.on st10 ?_
  show Go _ _ _ _ _ _ _ _ (mkF m 5 #[Sr a0, Sd d1, .second, .unset, .unset, .unset] [(.double wn), (.double d1)])
  refine Go.on (fun _ k => XS.dsubS X10.here hx rfl (hb hby d4_5) rfl (zl.nn) rfl k) ?_
  show Go _ _ _ _ _ _ _ _ (mkF m 6 #[Sr a0, Sd d1, .second, .unset, .unset, .unset] [(.double (FP.dsub d1 wn))])
  refine Go.on (fun _ k => XS.dstoreN X10.here hx rfl (hb hby d4_6) rfl (l' := #[.val (.ref a0), .val (.double d1), .second, .val (.double (FP.dsub d1 wn)), .second, .unset]) rfl k) ?_
  show Go _ _ _ _ _ _ _ _ (mkF m 7 #[Sr a0, Sd d1, .second, .val (.double (FP.dsub d1 wn)), .second, .unset] [])
  · subst hf; exact hL0 _ _ _ X10 e10 N0 ZZ KP E_a0 F_times_a0 F_latest_a0 F_window_a0 F_first_a0 F_end_a0 V_as 
theorem d4_18 : decode prog_30_method_3_code 18 = .ok (.aload_n 0, 1) := by decide +kernel
theorem d4_19 : decode prog_30_method_3_code 19 = .ok (.getfield 9, 3) := by decide +kernel
theorem d4_22 : decode prog_30_method_3_code 22 = .ok (.aload_n 0, 1) := by decide +kernel
theorem d4_23 : decode prog_30_method_3_code 23 = .ok (.getfield 42, 3) := by decide +kernel
theorem d4_26 : decode prog_30_method_3_code 26 = .ok (.daload, 1) := by decide +kernel
theorem d4_27 : decode prog_30_method_3_code 27 = .ok (.dload_n 3, 1) := by decide +kernel
theorem d4_28 : decode prog_30_method_3_code 28 = .ok (.dcmp .g, 1) := by decide +kernel
theorem d4_29 : decode prog_30_method_3_code 29 = .ok (.ifCond .gt 16, 3) := by decide +kernel
theorem d4_32 : decode prog_30_method_3_code 32 = .ok (.aload_n 0, 1) := by decide +kernel
theorem d4_33 : decode prog_30_method_3_code 33 = .ok (.dup, 1) := by decide +kernel
theorem d4_34 : decode prog_30_method_3_code 34 = .ok (.getfield 42, 3) := by decide +kernel
theorem d4_37 : decode prog_30_method_3_code 37 = .ok (.iconst 1, 1) := by decide +kernel
theorem d4_38 : decode prog_30_method_3_code 38 = .ok (.iadd, 1) := by decide +kernel
theorem d4_39 : decode prog_30_method_3_code 39 = .ok (.putfield 42, 3) := by decide +kernel
theorem d4_42 : decode prog_30_method_3_code 42 = .ok (.goto (-35), 3) := by decide +kernel
theorem d4_60 : decode prog_30_method_3_code 60 = .ok (.aload_n 0, 1) := by decide +kernel
theorem d4_61 : decode prog_30_method_3_code 61 = .ok (.getfield 9, 3) := by decide +kernel
theorem d4_64 : decode prog_30_method_3_code 64 = .ok (.iload 5, 2) := by decide +kernel
theorem d4_66 : decode prog_30_method_3_code 66 = .ok (.iconst 1, 1) := by decide +kernel
theorem d4_67 : decode prog_30_method_3_code 67 = .ok (.isub, 1) := by decide +kernel
theorem d4_68 : decode prog_30_method_3_code 68 = .ok (.daload, 1) := by decide +kernel
theorem d4_69 : decode prog_30_method_3_code 69 = .ok (.dload_n 1, 1) := by decide +kernel
theorem d4_70 : decode prog_30_method_3_code 70 = .ok (.dcmp .l, 1) := by decide +kernel
theorem d4_71 : decode prog_30_method_3_code 71 = .ok (.ifCond .le 9, 3) := by decide +kernel
theorem d4_74 : decode prog_30_method_3_code 74 = .ok (.iinc 5 (-1), 3) := by decide +kernel
theorem d4_77 : decode prog_30_method_3_code 77 = .ok (.goto (-26), 3) := by decide +kernel
theorem ef_rw_rate_1 (m : MethodId) (a0 : Addr) (d1 : UInt64) : entryFrame m #[(.ref a0), (.double d1)] 6 = mkF m 0 #[.val (.ref a0), .val (.double d1), .second, .unset, .unset, .unset] [] := by first | (simp [entryFrame, mkF, argsToLocals, Value.category]; done) | rfl
def Q_rw_rate_1 (Z : State) (a0 : Addr) (d1 : UInt64) (t0 : Int64) (nw : Int64) (jw : Int64) (as : Addr) (lt : UInt64) (wn : UInt64) (f0 : Int32) (k_as : ClassId) (y0 : UInt64) (h0 : Heap) (n0 : Nat) (v : Option Value) (h : Heap) (L : List Loc) : Prop := ∃ f1 : Int32, v = some (.double (FP.ddiv (FP.i2d (inV t0 nw jw)) wn)) ∧ Fr n0 L ∧ Keep h0 h [a0] ∧ Exa Z h a0 "com/example/deliberate_scaler/deliberatescaler/model/RateWindow" ∧ Fld Z h a0 "com/example/deliberate_scaler/deliberatescaler/model/RateWindow" "times" "[D" (.ref as) ∧ Fld Z h a0 "com/example/deliberate_scaler/deliberatescaler/model/RateWindow" "latest" "D" (.double lt) ∧ Fld Z h a0 "com/example/deliberate_scaler/deliberatescaler/model/RateWindow" "window" "D" (.double wn) ∧ Fld Z h a0 "com/example/deliberate_scaler/deliberatescaler/model/RateWindow" "first" "I" (.int f1) ∧ Fld Z h a0 "com/example/deliberate_scaler/deliberatescaler/model/RateWindow" "end" "I" (.int (1 : Int32)) ∧ (f1 = (0 : Int32) ∨ f1 = (1 : Int32)) ∧ ((0 : Int) < (f1).toInt → t0.toInt ≤ nw.toInt - jw.toInt)
set_option maxRecDepth 65536 in
set_option maxHeartbeats 40000000 in
theorem rw_rate_1 (l : Launch) (Z : State) (aw : Array Value) (hw : ∀ d ∈ tables_1, d.before aw Z = true) (ws : List Jvm.Cond) (a0 : Addr) (d1 : UInt64) (t0 : Int64) (nw : Int64) (jw : Int64) (as : Addr) (lt : UInt64) (wn : UInt64) (f0 : Int32) (k_as : ClassId) (y0 : UInt64) (h0 : Heap) (n0 : Nat) (Z0 : n0 ≤ h0.size) (E_a0 : Exa Z h0 a0 "com/example/deliberate_scaler/deliberatescaler/model/RateWindow") (F_times_a0 : Fld Z h0 a0 "com/example/deliberate_scaler/deliberatescaler/model/RateWindow" "times" "[D" (.ref as)) (F_latest_a0 : Fld Z h0 a0 "com/example/deliberate_scaler/deliberatescaler/model/RateWindow" "latest" "D" (.double lt)) (F_window_a0 : Fld Z h0 a0 "com/example/deliberate_scaler/deliberatescaler/model/RateWindow" "window" "D" (.double wn)) (F_first_a0 : Fld Z h0 a0 "com/example/deliberate_scaler/deliberatescaler/model/RateWindow" "first" "I" (.int f0)) (F_end_a0 : Fld Z h0 a0 "com/example/deliberate_scaler/deliberatescaler/model/RateWindow" "end" "I" (.int (1 : Int32))) (V_as : Arv Z h0 as k_as .double (64 : Int32) [(.double y0), (.double (0 : UInt64)), (.double (0 : UInt64)), (.double (0 : UInt64)), (.double (0 : UInt64)), (.double (0 : UInt64)), (.double (0 : UInt64)), (.double (0 : UInt64)), (.double (0 : UInt64)), (.double (0 : UInt64)), (.double (0 : UInt64)), (.double (0 : UInt64)), (.double (0 : UInt64)), (.double (0 : UInt64)), (.double (0 : UInt64)), (.double (0 : UInt64)), (.double (0 : UInt64)), (.double (0 : UInt64)), (.double (0 : UInt64)), (.double (0 : UInt64)), (.double (0 : UInt64)), (.double (0 : UInt64)), (.double (0 : UInt64)), (.double (0 : UInt64)), (.double (0 : UInt64)), (.double (0 : UInt64)), (.double (0 : UInt64)), (.double (0 : UInt64)), (.double (0 : UInt64)), (.double (0 : UInt64)), (.double (0 : UInt64)), (.double (0 : UInt64)), (.double (0 : UInt64)), (.double (0 : UInt64)), (.double (0 : UInt64)), (.double (0 : UInt64)), (.double (0 : UInt64)), (.double (0 : UInt64)), (.double (0 : UInt64)), (.double (0 : UInt64)), (.double (0 : UInt64)), (.double (0 : UInt64)), (.double (0 : UInt64)), (.double (0 : UInt64)), (.double (0 : UInt64)), (.double (0 : UInt64)), (.double (0 : UInt64)), (.double (0 : UInt64)), (.double (0 : UInt64)), (.double (0 : UInt64)), (.double (0 : UInt64)), (.double (0 : UInt64)), (.double (0 : UInt64)), (.double (0 : UInt64)), (.double (0 : UInt64)), (.double (0 : UInt64)), (.double (0 : UInt64)), (.double (0 : UInt64)), (.double (0 : UInt64)), (.double (0 : UInt64)), (.double (0 : UInt64)), (.double (0 : UInt64)), (.double (0 : UInt64)), (.double (0 : UInt64))] (.double (0 : UInt64))) (g_a0 : n0 ≤ a0) (ne_a0_as : a0 ≠ as) (hnw : d1 = FP.l2d nw) (hwn : wn = FP.l2d jw) (bn : Tb nw) (bw : Tb jw) (hw1 : 1 ≤ jw.toInt) (hx0 : y0 = FP.l2d t0) (b0 : Tb t0) (hf : f0 = (0 : Int32) ∨ f0 = (1 : Int32)) (hd0 : ((0 : Int) < (f0).toInt → t0.toInt ≤ nw.toInt - jw.toInt)) :
    MetFree l (⟨"com/example/deliberate_scaler/deliberatescaler/model/RateWindow", "rate", "(D)D"⟩ : MethodName) (head1 (Jvm.Cond.code (⟨"com/example/deliberate_scaler/deliberatescaler/model/RateWindow", "rate", "(D)D"⟩ : MethodName) prog_30_method_3_code 6 (some .double) :: ws) ({ frames := 0, cells := 0, slots := 0, locals := 0 } : Room)) (fun a U => a = #[(.ref a0), (.double d1)] ∧ Z.Warmed39 U.vm ∧ U.heap = h0) (fun _ _ _ _ _ => True) (fun _ U o U' => ∃ v L, o = .returned v ∧ Q_rw_rate_1 Z a0 d1 t0 nw jw as lt wn f0 k_as y0 h0 n0 v U'.heap L ∧ FrameEnd U o U' L ({ frames := 0, cells := 0, slots := 0, locals := 0 } : Room).cells ({ frames := 0, cells := 0, slots := 0, locals := 0 } : Room).slots) := by
  refine MetFree.of_bodySF (plainFor_of_name pn_0) hisR ?_
  intro p e s m args below meth c s₁ Bd hml0 hP hK
  obtain ⟨rfl, hZ, hh⟩ := hP
  have hx := Bd.exec
  have hby := Bd.bytes
  have hml : c.maxLocals = 6 := hml0
  have hown : s.vm.findClass "com/example/deliberate_scaler/deliberatescaler/model/RateWindow" = some m.cls := findClass_of_methodNamed Bd.named
  have hnm := (name_of_methodNamed Bd.named Bd.method).1
  have hlk : meth.locks = false := BodyLoose.notSynchronized Bd
  have X0 : Stand p l e ({ frames := 0, cells := 0, slots := 0, locals := 0 } : Room) s m #[(.ref a0), (.double d1)] below meth c s₁ [] 0 0 := Stand.of_body Bd
  have e0 : s₁.heap = h0 := by rw [← hh, Bd.state]; rfl
  have N0 := Fr.nil n0
  have ZZ := Z0
  show Go p e below s ({ frames := 0, cells := 0, slots := 0, locals := 0 } : Room).cells ({ frames := 0, cells := 0, slots := 0, locals := 0 } : Room).slots (fun v h L => Q_rw_rate_1 Z a0 d1 t0 nw jw as lt wn f0 k_as y0 h0 n0 v h L) s₁ (entryFrame m #[(.ref a0), (.double d1)] 6)
  refine Go.cast (ef_rw_rate_1 m a0 d1) ?_
  refine Go.gen ?_
  intro K1 K2 QQ hK1 hK2 hQQ
  have KP : Keep h0 h0 [a0] := Keep.refl _ _
  have zl := own_lo bn bw hnw hwn
  have zn := own_bl bn hnw
  have zt0 := own_bl b0 hx0
  have hL1 : ∀ (T1 : State) (locs1 : List Loc) (h1 : Heap), Stand p l e ({ frames := 0, cells := 0, slots := 0, locals := 0 } : Room) s m #[(.ref a0), (.double d1)] below meth c T1 locs1 0 0 → T1.heap = h1 → Fr n0 locs1 → n0 ≤ h1.size → Keep h0 h1 [a0] → Exa Z h1 a0 "com/example/deliberate_scaler/deliberatescaler/model/RateWindow" → Fld Z h1 a0 "com/example/deliberate_scaler/deliberatescaler/model/RateWindow" "times" "[D" (.ref as) → Fld Z h1 a0 "com/example/deliberate_scaler/deliberatescaler/model/RateWindow" "latest" "D" (.double lt) → Fld Z h1 a0 "com/example/deliberate_scaler/deliberatescaler/model/RateWindow" "window" "D" (.double wn) → Fld Z h1 a0 "com/example/deliberate_scaler/deliberatescaler/model/RateWindow" "first" "I" (.int (1 : Int32)) → Fld Z h1 a0 "com/example/deliberate_scaler/deliberatescaler/model/RateWindow" "end" "I" (.int (1 : Int32)) → Arv Z h1 as k_as .double (64 : Int32) [(.double y0), (.double (0 : UInt64)), (.double (0 : UInt64)), (.double (0 : UInt64)), (.double (0 : UInt64)), (.double (0 : UInt64)), (.double (0 : UInt64)), (.double (0 : UInt64)), (.double (0 : UInt64)), (.double (0 : UInt64)), (.double (0 : UInt64)), (.double (0 : UInt64)), (.double (0 : UInt64)), (.double (0 : UInt64)), (.double (0 : UInt64)), (.double (0 : UInt64)), (.double (0 : UInt64)), (.double (0 : UInt64)), (.double (0 : UInt64)), (.double (0 : UInt64)), (.double (0 : UInt64)), (.double (0 : UInt64)), (.double (0 : UInt64)), (.double (0 : UInt64)), (.double (0 : UInt64)), (.double (0 : UInt64)), (.double (0 : UInt64)), (.double (0 : UInt64)), (.double (0 : UInt64)), (.double (0 : UInt64)), (.double (0 : UInt64)), (.double (0 : UInt64)), (.double (0 : UInt64)), (.double (0 : UInt64)), (.double (0 : UInt64)), (.double (0 : UInt64)), (.double (0 : UInt64)), (.double (0 : UInt64)), (.double (0 : UInt64)), (.double (0 : UInt64)), (.double (0 : UInt64)), (.double (0 : UInt64)), (.double (0 : UInt64)), (.double (0 : UInt64)), (.double (0 : UInt64)), (.double (0 : UInt64)), (.double (0 : UInt64)), (.double (0 : UInt64)), (.double (0 : UInt64)), (.double (0 : UInt64)), (.double (0 : UInt64)), (.double (0 : UInt64)), (.double (0 : UInt64)), (.double (0 : UInt64)), (.double (0 : UInt64)), (.double (0 : UInt64)), (.double (0 : UInt64)), (.double (0 : UInt64)), (.double (0 : UInt64)), (.double (0 : UInt64)), (.double (0 : UInt64)), (.double (0 : UInt64)), (.double (0 : UInt64)), (.double (0 : UInt64))] (.double (0 : UInt64)) → t0.toInt ≤ nw.toInt - jw.toInt → Go p e below s K1 K2 QQ T1 (mkF m 7 #[Sr a0, Sd d1, .second, .val (.double (FP.dsub d1 wn)), .second, .unset] []) := by
    clear ZZ KP E_a0 F_times_a0 F_latest_a0 F_window_a0 F_first_a0 F_end_a0 V_as
    intro T1 locs1 h1 X1 e1 N1 ZZ KP E_a0 F_times_a0 F_latest_a0 F_window_a0 F_first_a0 F_end_a0 V_as dd0
    show Go _ _ _ _ _ _ _ _ (mkF m 7 #[Sr a0, Sd d1, .second, .val (.double (FP.dsub d1 wn)), .second, .unset] [])
    refine Go.on (fun _ k => XS.aloadN X1.here hx rfl (hb hby d4_7) rfl rfl k) ?_
    show Go _ _ _ _ _ _ _ _ (mkF m 8 #[Sr a0, Sd d1, .second, .val (.double (FP.dsub d1 wn)), .second, .unset] [(.ref a0)])
    obtain ⟨T2, X2, e2, st2⟩ := getF X1 hx hZ hown (host := "") (Or.inl (hw _ (List.mem_of_getElem? (i := 30) rfl))) Via.refl e1 F_first_a0 (g := (mkF m 8 #[Sr a0, Sd d1, .second, .val (.double (FP.dsub d1 wn)), .second, .unset] [(.ref a0)])) rfl rfl (hb hby d4_8)
    refine Go.on st2 ?_
    show Go _ _ _ _ _ _ _ _ (mkF m 11 #[Sr a0, Sd d1, .second, .val (.double (FP.dsub d1 wn)), .second, .unset] [(.int 1)])
    refine Go.on (fun _ k => XS.aloadN X2.here hx rfl (hb hby d4_11) rfl rfl k) ?_
    show Go _ _ _ _ _ _ _ _ (mkF m 12 #[Sr a0, Sd d1, .second, .val (.double (FP.dsub d1 wn)), .second, .unset] [(.ref a0), (.int 1)])
    obtain ⟨T3, X3, e3, st3⟩ := getF X2 hx hZ hown (host := "") (Or.inl (hw _ (List.mem_of_getElem? (i := 23) rfl))) Via.refl e2 F_end_a0 (g := (mkF m 12 #[Sr a0, Sd d1, .second, .val (.double (FP.dsub d1 wn)), .second, .unset] [(.ref a0), (.int 1)])) rfl rfl (hb hby d4_12)
    refine Go.on st3 ?_
    show Go _ _ _ _ _ _ _ _ (mkF m 15 #[Sr a0, Sd d1, .second, .val (.double (FP.dsub d1 wn)), .second, .unset] [(.int 1), (.int 1)])
    have hc4 : ¬ ((1 : Int32) < (1 : Int32)) := by decide
    refine Go.on (fun _ k => XS.icmpYes X3.here hx rfl (pc0 := 15) (pc' := 45) rfl (hb hby d4_15) rfl (flt hc4).2.1 (by decide) (by decide) k) ?_
    refine Go.on (fun _ k => XS.aloadN X3.here hx rfl (hb hby d4_45) rfl rfl k) ?_
    show Go _ _ _ _ _ _ _ _ (mkF m 46 #[Sr a0, Sd d1, .second, .val (.double (FP.dsub d1 wn)), .second, .unset] [(.ref a0)])
    obtain ⟨T5, X5, e5, st5⟩ := getF X3 hx hZ hown (host := "") (Or.inl (hw _ (List.mem_of_getElem? (i := 23) rfl))) Via.refl e3 F_end_a0 (g := (mkF m 46 #[Sr a0, Sd d1, .second, .val (.double (FP.dsub d1 wn)), .second, .unset] [(.ref a0)])) rfl rfl (hb hby d4_46)
    refine Go.on st5 ?_
    show Go _ _ _ _ _ _ _ _ (mkF m 49 #[Sr a0, Sd d1, .second, .val (.double (FP.dsub d1 wn)), .second, .unset] [(.int 1)])
    refine Go.on (fun _ k => XS.istore X5.here hx rfl (hb hby d4_49) rfl (l' := #[.val (.ref a0), .val (.double d1), .second, .val (.double (FP.dsub d1 wn)), .second, .val (.int (1 : Int32))]) rfl k) ?_
    show Go _ _ _ _ _ _ _ _ (mkF m 51 #[Sr a0, Sd d1, .second, .val (.double (FP.dsub d1 wn)), .second, Si 1] [])
    refine Go.on (fun _ k => XS.iload X5.here hx rfl (hb hby d4_51) rfl k) ?_
    refine Go.on (fun _ k => XS.aloadN X5.here hx rfl (hb hby d4_53) rfl rfl k) ?_
    show Go _ _ _ _ _ _ _ _ (mkF m 54 #[Sr a0, Sd d1, .second, .val (.double (FP.dsub d1 wn)), .second, Si 1] [(.ref a0), (.int 1)])
    obtain ⟨T6, X6, e6, st6⟩ := getF X5 hx hZ hown (host := "") (Or.inl (hw _ (List.mem_of_getElem? (i := 30) rfl))) Via.refl e5 F_first_a0 (g := (mkF m 54 #[Sr a0, Sd d1, .second, .val (.double (FP.dsub d1 wn)), .second, Si 1] [(.ref a0), (.int 1)])) rfl rfl (hb hby d4_54)
    refine Go.on st6 ?_
    show Go _ _ _ _ _ _ _ _ (mkF m 57 #[Sr a0, Sd d1, .second, .val (.double (FP.dsub d1 wn)), .second, Si 1] [(.int 1), (.int 1)])
    have hc7 : ¬ ((1 : Int32) < (1 : Int32)) := by decide
    refine Go.on (fun _ k => XS.icmpYes X6.here hx rfl (pc0 := 57) (pc' := 80) rfl (hb hby d4_57) rfl (flt hc7).2.2.2 (by decide) (by decide) k) ?_
    refine Go.on (fun _ k => XS.iload X6.here hx rfl (hb hby d4_80) rfl k) ?_
    refine Go.on (fun _ k => XS.aloadN X6.here hx rfl (hb hby d4_82) rfl rfl k) ?_
    show Go _ _ _ _ _ _ _ _ (mkF m 83 #[Sr a0, Sd d1, .second, .val (.double (FP.dsub d1 wn)), .second, Si 1] [(.ref a0), (.int 1)])
    obtain ⟨T8, X8, e8, st8⟩ := getF X6 hx hZ hown (host := "") (Or.inl (hw _ (List.mem_of_getElem? (i := 30) rfl))) Via.refl e6 F_first_a0 (g := (mkF m 83 #[Sr a0, Sd d1, .second, .val (.double (FP.dsub d1 wn)), .second, Si 1] [(.ref a0), (.int 1)])) rfl rfl (hb hby d4_83)
    refine Go.on st8 ?_
    show Go _ _ _ _ _ _ _ _ (mkF m 86 #[Sr a0, Sd d1, .second, .val (.double (FP.dsub d1 wn)), .second, Si 1] [(.int 1), (.int 1)])
    refine Go.on (fun _ k => XS.isub X8.here hx rfl (hb hby d4_86) rfl k) ?_
    refine Go.on (fun _ k => XS.i2dS X8.here hx rfl (hb hby d4_87) rfl rfl k) ?_
    refine Go.on (fun _ k => XS.aloadN X8.here hx rfl (hb hby d4_88) rfl rfl k) ?_
    show Go _ _ _ _ _ _ _ _ (mkF m 89 #[Sr a0, Sd d1, .second, .val (.double (FP.dsub d1 wn)), .second, Si 1] [(.ref a0), (.double (FP.i2d (0 : Int32)))])
    obtain ⟨T9, X9, e9, st9⟩ := getF X8 hx hZ hown (host := "") (Or.inl (hw _ (List.mem_of_getElem? (i := 16) rfl))) Via.refl e8 F_window_a0 (g := (mkF m 89 #[Sr a0, Sd d1, .second, .val (.double (FP.dsub d1 wn)), .second, Si 1] [(.ref a0), (.double (FP.i2d (0 : Int32)))])) rfl rfl (hb hby d4_89)
    refine Go.on st9 ?_
    show Go _ _ _ _ _ _ _ _ (mkF m 92 #[Sr a0, Sd d1, .second, .val (.double (FP.dsub d1 wn)), .second, Si 1] [(.double wn), (.double (FP.i2d (0 : Int32)))])
    refine Go.on (fun _ k => XS.ddivS X9.here hx rfl (hb hby d4_92) rfl ((own_rt _ hwn hw1 bw)) rfl k) ?_
    show Go _ _ _ _ _ _ _ _ (mkF m 93 #[Sr a0, Sd d1, .second, .val (.double (FP.dsub d1 wn)), .second, Si 1] [(.double (FP.ddiv (FP.i2d (0 : Int32)) wn))])
    refine Go.retV X9 hx Bd.returns rfl (Or.inr (Or.inr (Or.inl ⟨rfl, rfl, _, rfl⟩))) (hb hby d4_93) ?_ (by rw [hK1]; decide) (by rw [hK2]; decide)
    rw [e9, ← hQQ]
    have i0_ : inV t0 nw jw = 0 := own_in0 bn bw (Or.inl (by omega))
    have hC : (inV t0 nw jw) = (0 : Int32) := by rw [i0_] <;> decide
    unfold Q_rw_rate_1
    rw [hC]
    exact ⟨_, rfl, N1, KP, E_a0, F_times_a0, F_latest_a0, F_window_a0, F_first_a0, F_end_a0, (Or.inr rfl), (fun _ => by omega)⟩
  have hL0 : ∀ (T10 : State) (locs10 : List Loc) (h10 : Heap), Stand p l e ({ frames := 0, cells := 0, slots := 0, locals := 0 } : Room) s m #[(.ref a0), (.double d1)] below meth c T10 locs10 0 0 → T10.heap = h10 → Fr n0 locs10 → n0 ≤ h10.size → Keep h0 h10 [a0] → Exa Z h10 a0 "com/example/deliberate_scaler/deliberatescaler/model/RateWindow" → Fld Z h10 a0 "com/example/deliberate_scaler/deliberatescaler/model/RateWindow" "times" "[D" (.ref as) → Fld Z h10 a0 "com/example/deliberate_scaler/deliberatescaler/model/RateWindow" "latest" "D" (.double lt) → Fld Z h10 a0 "com/example/deliberate_scaler/deliberatescaler/model/RateWindow" "window" "D" (.double wn) → Fld Z h10 a0 "com/example/deliberate_scaler/deliberatescaler/model/RateWindow" "first" "I" (.int (0 : Int32)) → Fld Z h10 a0 "com/example/deliberate_scaler/deliberatescaler/model/RateWindow" "end" "I" (.int (1 : Int32)) → Arv Z h10 as k_as .double (64 : Int32) [(.double y0), (.double (0 : UInt64)), (.double (0 : UInt64)), (.double (0 : UInt64)), (.double (0 : UInt64)), (.double (0 : UInt64)), (.double (0 : UInt64)), (.double (0 : UInt64)), (.double (0 : UInt64)), (.double (0 : UInt64)), (.double (0 : UInt64)), (.double (0 : UInt64)), (.double (0 : UInt64)), (.double (0 : UInt64)), (.double (0 : UInt64)), (.double (0 : UInt64)), (.double (0 : UInt64)), (.double (0 : UInt64)), (.double (0 : UInt64)), (.double (0 : UInt64)), (.double (0 : UInt64)), (.double (0 : UInt64)), (.double (0 : UInt64)), (.double (0 : UInt64)), (.double (0 : UInt64)), (.double (0 : UInt64)), (.double (0 : UInt64)), (.double (0 : UInt64)), (.double (0 : UInt64)), (.double (0 : UInt64)), (.double (0 : UInt64)), (.double (0 : UInt64)), (.double (0 : UInt64)), (.double (0 : UInt64)), (.double (0 : UInt64)), (.double (0 : UInt64)), (.double (0 : UInt64)), (.double (0 : UInt64)), (.double (0 : UInt64)), (.double (0 : UInt64)), (.double (0 : UInt64)), (.double (0 : UInt64)), (.double (0 : UInt64)), (.double (0 : UInt64)), (.double (0 : UInt64)), (.double (0 : UInt64)), (.double (0 : UInt64)), (.double (0 : UInt64)), (.double (0 : UInt64)), (.double (0 : UInt64)), (.double (0 : UInt64)), (.double (0 : UInt64)), (.double (0 : UInt64)), (.double (0 : UInt64)), (.double (0 : UInt64)), (.double (0 : UInt64)), (.double (0 : UInt64)), (.double (0 : UInt64)), (.double (0 : UInt64)), (.double (0 : UInt64)), (.double (0 : UInt64)), (.double (0 : UInt64)), (.double (0 : UInt64)), (.double (0 : UInt64))] (.double (0 : UInt64)) → Go p e below s K1 K2 QQ T10 (mkF m 7 #[Sr a0, Sd d1, .second, .val (.double (FP.dsub d1 wn)), .second, .unset] []) := by
    clear ZZ KP E_a0 F_times_a0 F_latest_a0 F_window_a0 F_first_a0 F_end_a0 V_as
    intro T10 locs10 h10 X10 e10 N10 ZZ KP E_a0 F_times_a0 F_latest_a0 F_window_a0 F_first_a0 F_end_a0 V_as 
    show Go _ _ _ _ _ _ _ _ (mkF m 7 #[Sr a0, Sd d1, .second, .val (.double (FP.dsub d1 wn)), .second, .unset] [])
    refine Go.on (fun _ k => XS.aloadN X10.here hx rfl (hb hby d4_7) rfl rfl k) ?_
    show Go _ _ _ _ _ _ _ _ (mkF m 8 #[Sr a0, Sd d1, .second, .val (.double (FP.dsub d1 wn)), .second, .unset] [(.ref a0)])
    obtain ⟨T11, X11, e11, st11⟩ := getF X10 hx hZ hown (host := "") (Or.inl (hw _ (List.mem_of_getElem? (i := 30) rfl))) Via.refl e10 F_first_a0 (g := (mkF m 8 #[Sr a0, Sd d1, .second, .val (.double (FP.dsub d1 wn)), .second, .unset] [(.ref a0)])) rfl rfl (hb hby d4_8)
    refine Go.on st11 ?_
    show Go _ _ _ _ _ _ _ _ (mkF m 11 #[Sr a0, Sd d1, .second, .val (.double (FP.dsub d1 wn)), .second, .unset] [(.int 0)])
    refine Go.on (fun _ k => XS.aloadN X11.here hx rfl (hb hby d4_11) rfl rfl k) ?_
    show Go _ _ _ _ _ _ _ _ (mkF m 12 #[Sr a0, Sd d1, .second, .val (.double (FP.dsub d1 wn)), .second, .unset] [(.ref a0), (.int 0)])
    obtain ⟨T12, X12, e12, st12⟩ := getF X11 hx hZ hown (host := "") (Or.inl (hw _ (List.mem_of_getElem? (i := 23) rfl))) Via.refl e11 F_end_a0 (g := (mkF m 12 #[Sr a0, Sd d1, .second, .val (.double (FP.dsub d1 wn)), .second, .unset] [(.ref a0), (.int 0)])) rfl rfl (hb hby d4_12)
    refine Go.on st12 ?_
    show Go _ _ _ _ _ _ _ _ (mkF m 15 #[Sr a0, Sd d1, .second, .val (.double (FP.dsub d1 wn)), .second, .unset] [(.int 1), (.int 0)])
    have hc13 : (0 : Int32) < (1 : Int32) := by decide
    refine Go.on (fun _ k => XS.icmpNo X12.here hx rfl (hb hby d4_15) rfl (tlt hc13).2.1 k) ?_
    refine Go.on (fun _ k => XS.aloadN X12.here hx rfl (hb hby d4_18) rfl rfl k) ?_
    show Go _ _ _ _ _ _ _ _ (mkF m 19 #[Sr a0, Sd d1, .second, .val (.double (FP.dsub d1 wn)), .second, .unset] [(.ref a0)])
    obtain ⟨T14, X14, e14, st14⟩ := getF X12 hx hZ hown (host := "") (Or.inl (hw _ (List.mem_of_getElem? (i := 10) rfl))) Via.refl e12 F_times_a0 (g := (mkF m 19 #[Sr a0, Sd d1, .second, .val (.double (FP.dsub d1 wn)), .second, .unset] [(.ref a0)])) rfl rfl (hb hby d4_19)
    refine Go.on st14 ?_
    show Go _ _ _ _ _ _ _ _ (mkF m 22 #[Sr a0, Sd d1, .second, .val (.double (FP.dsub d1 wn)), .second, .unset] [(.ref as)])
    refine Go.on (fun _ k => XS.aloadN X14.here hx rfl (hb hby d4_22) rfl rfl k) ?_
    show Go _ _ _ _ _ _ _ _ (mkF m 23 #[Sr a0, Sd d1, .second, .val (.double (FP.dsub d1 wn)), .second, .unset] [(.ref a0), (.ref as)])
    obtain ⟨T15, X15, e15, st15⟩ := getF X14 hx hZ hown (host := "") (Or.inl (hw _ (List.mem_of_getElem? (i := 30) rfl))) Via.refl e14 F_first_a0 (g := (mkF m 23 #[Sr a0, Sd d1, .second, .val (.double (FP.dsub d1 wn)), .second, .unset] [(.ref a0), (.ref as)])) rfl rfl (hb hby d4_23)
    refine Go.on st15 ?_
    show Go _ _ _ _ _ _ _ _ (mkF m 26 #[Sr a0, Sd d1, .second, .val (.double (FP.dsub d1 wn)), .second, .unset] [(.int 0), (.ref as)])
    obtain ⟨cl16, Ar16, -, S16, -, H16, -⟩ := id V_as
    have hin16 : ¬ ((0 : Int32) < 0 ∨ cl16.slots.size ≤ ((0 : Int32)).toNatClampNeg) := inb_of S16 ⟨by decide, by decide⟩
    refine Go.on (X15.daload hx (j := (0 : Int32)) (v := (.double y0)) (by rw [e15]; exact Ar16.1) (State.isArrayOf_alike hZ.alike Ar16.2.1) Ar16.2.2 hin16 (H16.at hin16 (rfl)) (g := (mkF m 26 #[Sr a0, Sd d1, .second, .val (.double (FP.dsub d1 wn)), .second, .unset] [(.int 0), (.ref as)])) rfl rfl (hb hby d4_26)) ?_
    show Go _ _ _ _ _ _ _ _ (mkF m 27 #[Sr a0, Sd d1, .second, .val (.double (FP.dsub d1 wn)), .second, .unset] [(.double y0)])
    refine Go.on (fun _ k => XS.dloadN X15.here hx rfl (hb hby d4_27) rfl k) ?_
    refine Go.on (fun _ k => XS.dcmpS X15.here hx rfl (hb hby d4_28) rfl rfl k) ?_
    show Go _ _ _ _ _ _ _ _ (mkF m 29 #[Sr a0, Sd d1, .second, .val (.double (FP.dsub d1 wn)), .second, .unset] [(.int (cmpValue (FP.dcmp y0 (FP.dsub d1 wn)) .g))])
    by_cases hc17 : (0 : Int32) < (cmpValue (FP.dcmp y0 (FP.dsub d1 wn)) .g)
    · -- pc 29 yes
      refine Go.on (fun _ k => XS.ifYes X15.here hx rfl (pc0 := 29) (pc' := 45) rfl (hb hby d4_29) rfl ((if0 _ _).trans (tlt hc17).2.2.1) (by decide) (by decide) k) ?_
      show Go _ _ _ _ _ _ _ _ (mkF m 45 #[Sr a0, Sd d1, .second, .val (.double (FP.dsub d1 wn)), .second, .unset] [])
      refine Go.on (fun _ k => XS.aloadN X15.here hx rfl (hb hby d4_45) rfl rfl k) ?_
      show Go _ _ _ _ _ _ _ _ (mkF m 46 #[Sr a0, Sd d1, .second, .val (.double (FP.dsub d1 wn)), .second, .unset] [(.ref a0)])
      obtain ⟨T18, X18, e18, st18⟩ := getF X15 hx hZ hown (host := "") (Or.inl (hw _ (List.mem_of_getElem? (i := 23) rfl))) Via.refl e15 F_end_a0 (g := (mkF m 46 #[Sr a0, Sd d1, .second, .val (.double (FP.dsub d1 wn)), .second, .unset] [(.ref a0)])) rfl rfl (hb hby d4_46)
      refine Go.on st18 ?_
      show Go _ _ _ _ _ _ _ _ (mkF m 49 #[Sr a0, Sd d1, .second, .val (.double (FP.dsub d1 wn)), .second, .unset] [(.int 1)])
      refine Go.on (fun _ k => XS.istore X18.here hx rfl (hb hby d4_49) rfl (l' := #[.val (.ref a0), .val (.double d1), .second, .val (.double (FP.dsub d1 wn)), .second, .val (.int (1 : Int32))]) rfl k) ?_
      show Go _ _ _ _ _ _ _ _ (mkF m 51 #[Sr a0, Sd d1, .second, .val (.double (FP.dsub d1 wn)), .second, Si 1] [])
      refine Go.on (fun _ k => XS.iload X18.here hx rfl (hb hby d4_51) rfl k) ?_
      refine Go.on (fun _ k => XS.aloadN X18.here hx rfl (hb hby d4_53) rfl rfl k) ?_
      show Go _ _ _ _ _ _ _ _ (mkF m 54 #[Sr a0, Sd d1, .second, .val (.double (FP.dsub d1 wn)), .second, Si 1] [(.ref a0), (.int 1)])
      obtain ⟨T19, X19, e19, st19⟩ := getF X18 hx hZ hown (host := "") (Or.inl (hw _ (List.mem_of_getElem? (i := 30) rfl))) Via.refl e18 F_first_a0 (g := (mkF m 54 #[Sr a0, Sd d1, .second, .val (.double (FP.dsub d1 wn)), .second, Si 1] [(.ref a0), (.int 1)])) rfl rfl (hb hby d4_54)
      refine Go.on st19 ?_
      show Go _ _ _ _ _ _ _ _ (mkF m 57 #[Sr a0, Sd d1, .second, .val (.double (FP.dsub d1 wn)), .second, Si 1] [(.int 0), (.int 1)])
      have hc20 : (0 : Int32) < (1 : Int32) := by decide
      refine Go.on (fun _ k => XS.icmpNo X19.here hx rfl (hb hby d4_57) rfl (tlt hc20).2.2.2 k) ?_
      refine Go.on (fun _ k => XS.aloadN X19.here hx rfl (hb hby d4_60) rfl rfl k) ?_
      show Go _ _ _ _ _ _ _ _ (mkF m 61 #[Sr a0, Sd d1, .second, .val (.double (FP.dsub d1 wn)), .second, Si 1] [(.ref a0)])
      obtain ⟨T21, X21, e21, st21⟩ := getF X19 hx hZ hown (host := "") (Or.inl (hw _ (List.mem_of_getElem? (i := 10) rfl))) Via.refl e19 F_times_a0 (g := (mkF m 61 #[Sr a0, Sd d1, .second, .val (.double (FP.dsub d1 wn)), .second, Si 1] [(.ref a0)])) rfl rfl (hb hby d4_61)
      refine Go.on st21 ?_
      show Go _ _ _ _ _ _ _ _ (mkF m 64 #[Sr a0, Sd d1, .second, .val (.double (FP.dsub d1 wn)), .second, Si 1] [(.ref as)])
      refine Go.on (fun _ k => XS.iload X21.here hx rfl (hb hby d4_64) rfl k) ?_
      refine Go.on (fun _ k => XS.iconst X21.here hx rfl (hb hby d4_66) k) ?_
      refine Go.on (fun _ k => XS.isub X21.here hx rfl (hb hby d4_67) rfl k) ?_
      show Go _ _ _ _ _ _ _ _ (mkF m 68 #[Sr a0, Sd d1, .second, .val (.double (FP.dsub d1 wn)), .second, Si 1] [(.int 0), (.ref as)])
      obtain ⟨cl22, Ar22, -, S22, -, H22, -⟩ := id V_as
      have hin22 : ¬ ((0 : Int32) < 0 ∨ cl22.slots.size ≤ ((0 : Int32)).toNatClampNeg) := inb_of S22 ⟨by decide, by decide⟩
      refine Go.on (X21.daload hx (j := (0 : Int32)) (v := (.double y0)) (by rw [e21]; exact Ar22.1) (State.isArrayOf_alike hZ.alike Ar22.2.1) Ar22.2.2 hin22 (H22.at hin22 (rfl)) (g := (mkF m 68 #[Sr a0, Sd d1, .second, .val (.double (FP.dsub d1 wn)), .second, Si 1] [(.int 0), (.ref as)])) rfl rfl (hb hby d4_68)) ?_
      show Go _ _ _ _ _ _ _ _ (mkF m 69 #[Sr a0, Sd d1, .second, .val (.double (FP.dsub d1 wn)), .second, Si 1] [(.double y0)])
      refine Go.on (fun _ k => XS.dloadN X21.here hx rfl (hb hby d4_69) rfl k) ?_
      refine Go.on (fun _ k => XS.dcmpS X21.here hx rfl (hb hby d4_70) rfl rfl k) ?_
      show Go _ _ _ _ _ _ _ _ (mkF m 71 #[Sr a0, Sd d1, .second, .val (.double (FP.dsub d1 wn)), .second, Si 1] [(.int (cmpValue (FP.dcmp y0 d1) .l))])
      by_cases hc23 : (0 : Int32) < (cmpValue (FP.dcmp y0 d1) .l)
      · -- pc 71 yes
        refine Go.on (fun _ k => XS.ifNo X21.here hx rfl (hb hby d4_71) rfl ((if0 _ _).trans (tlt hc23).2.2.2) k) ?_
        show Go _ _ _ _ _ _ _ _ (mkF m 74 #[Sr a0, Sd d1, .second, .val (.double (FP.dsub d1 wn)), .second, Si 1] [])
        refine Go.on (fun _ k => XS.iinc X21.here hx rfl (hb hby d4_74) rfl (l' := #[.val (.ref a0), .val (.double d1), .second, .val (.double (FP.dsub d1 wn)), .second, .val (.int (0 : Int32))]) rfl k) ?_
        show Go _ _ _ _ _ _ _ _ (mkF m 77 #[Sr a0, Sd d1, .second, .val (.double (FP.dsub d1 wn)), .second, Si 0] [])
        refine Go.on (fun _ k => XS.goto X21.here hx rfl (pc0 := 77) (pc' := 51) rfl (hb hby d4_77) (by decide) (by decide) k) ?_
        refine Go.on (fun _ k => XS.iload X21.here hx rfl (hb hby d4_51) rfl k) ?_
        refine Go.on (fun _ k => XS.aloadN X21.here hx rfl (hb hby d4_53) rfl rfl k) ?_
        show Go _ _ _ _ _ _ _ _ (mkF m 54 #[Sr a0, Sd d1, .second, .val (.double (FP.dsub d1 wn)), .second, Si 0] [(.ref a0), (.int 0)])
        obtain ⟨T24, X24, e24, st24⟩ := getF X21 hx hZ hown (host := "") (Or.inl (hw _ (List.mem_of_getElem? (i := 30) rfl))) Via.refl e21 F_first_a0 (g := (mkF m 54 #[Sr a0, Sd d1, .second, .val (.double (FP.dsub d1 wn)), .second, Si 0] [(.ref a0), (.int 0)])) rfl rfl (hb hby d4_54)
        refine Go.on st24 ?_
        show Go _ _ _ _ _ _ _ _ (mkF m 57 #[Sr a0, Sd d1, .second, .val (.double (FP.dsub d1 wn)), .second, Si 0] [(.int 0), (.int 0)])
        have hc25 : ¬ ((0 : Int32) < (0 : Int32)) := by decide
        refine Go.on (fun _ k => XS.icmpYes X24.here hx rfl (pc0 := 57) (pc' := 80) rfl (hb hby d4_57) rfl (flt hc25).2.2.2 (by decide) (by decide) k) ?_
        refine Go.on (fun _ k => XS.iload X24.here hx rfl (hb hby d4_80) rfl k) ?_
        refine Go.on (fun _ k => XS.aloadN X24.here hx rfl (hb hby d4_82) rfl rfl k) ?_
        show Go _ _ _ _ _ _ _ _ (mkF m 83 #[Sr a0, Sd d1, .second, .val (.double (FP.dsub d1 wn)), .second, Si 0] [(.ref a0), (.int 0)])
        obtain ⟨T26, X26, e26, st26⟩ := getF X24 hx hZ hown (host := "") (Or.inl (hw _ (List.mem_of_getElem? (i := 30) rfl))) Via.refl e24 F_first_a0 (g := (mkF m 83 #[Sr a0, Sd d1, .second, .val (.double (FP.dsub d1 wn)), .second, Si 0] [(.ref a0), (.int 0)])) rfl rfl (hb hby d4_83)
        refine Go.on st26 ?_
        show Go _ _ _ _ _ _ _ _ (mkF m 86 #[Sr a0, Sd d1, .second, .val (.double (FP.dsub d1 wn)), .second, Si 0] [(.int 0), (.int 0)])
        refine Go.on (fun _ k => XS.isub X26.here hx rfl (hb hby d4_86) rfl k) ?_
        refine Go.on (fun _ k => XS.i2dS X26.here hx rfl (hb hby d4_87) rfl rfl k) ?_
        refine Go.on (fun _ k => XS.aloadN X26.here hx rfl (hb hby d4_88) rfl rfl k) ?_
        show Go _ _ _ _ _ _ _ _ (mkF m 89 #[Sr a0, Sd d1, .second, .val (.double (FP.dsub d1 wn)), .second, Si 0] [(.ref a0), (.double (FP.i2d (0 : Int32)))])
        obtain ⟨T27, X27, e27, st27⟩ := getF X26 hx hZ hown (host := "") (Or.inl (hw _ (List.mem_of_getElem? (i := 16) rfl))) Via.refl e26 F_window_a0 (g := (mkF m 89 #[Sr a0, Sd d1, .second, .val (.double (FP.dsub d1 wn)), .second, Si 0] [(.ref a0), (.double (FP.i2d (0 : Int32)))])) rfl rfl (hb hby d4_89)
        refine Go.on st27 ?_
        show Go _ _ _ _ _ _ _ _ (mkF m 92 #[Sr a0, Sd d1, .second, .val (.double (FP.dsub d1 wn)), .second, Si 0] [(.double wn), (.double (FP.i2d (0 : Int32)))])
        refine Go.on (fun _ k => XS.ddivS X27.here hx rfl (hb hby d4_92) rfl ((own_rt _ hwn hw1 bw)) rfl k) ?_
        show Go _ _ _ _ _ _ _ _ (mkF m 93 #[Sr a0, Sd d1, .second, .val (.double (FP.dsub d1 wn)), .second, Si 0] [(.double (FP.ddiv (FP.i2d (0 : Int32)) wn))])
        refine Go.retV X27 hx Bd.returns rfl (Or.inr (Or.inr (Or.inl ⟨rfl, rfl, _, rfl⟩))) (hb hby d4_93) ?_ (by rw [hK1]; decide) (by rw [hK2]; decide)
        rw [e27, ← hQQ]
        have q_hc17 : nw.toInt - jw.toInt < t0.toInt := (own_cg zt0 zl).mp hc17
        have q_hc23 : nw.toInt < t0.toInt := (own_cl zt0 zn).mp hc23
        have i0_ : inV t0 nw jw = 0 := own_in0 bn bw (Or.inr (by omega))
        have hC : (inV t0 nw jw) = (0 : Int32) := by rw [i0_] <;> decide
        unfold Q_rw_rate_1
        rw [hC]
        exact ⟨_, rfl, N10, KP, E_a0, F_times_a0, F_latest_a0, F_window_a0, F_first_a0, F_end_a0, (Or.inl rfl), (fun q => absurd q (by decide))⟩
      · -- pc 71 no
        refine Go.on (fun _ k => XS.ifYes X21.here hx rfl (pc0 := 71) (pc' := 80) rfl (hb hby d4_71) rfl ((if0 _ _).trans (flt hc23).2.2.2) (by decide) (by decide) k) ?_
        show Go _ _ _ _ _ _ _ _ (mkF m 80 #[Sr a0, Sd d1, .second, .val (.double (FP.dsub d1 wn)), .second, Si 1] [])
        refine Go.on (fun _ k => XS.iload X21.here hx rfl (hb hby d4_80) rfl k) ?_
        refine Go.on (fun _ k => XS.aloadN X21.here hx rfl (hb hby d4_82) rfl rfl k) ?_
        show Go _ _ _ _ _ _ _ _ (mkF m 83 #[Sr a0, Sd d1, .second, .val (.double (FP.dsub d1 wn)), .second, Si 1] [(.ref a0), (.int 1)])
        obtain ⟨T28, X28, e28, st28⟩ := getF X21 hx hZ hown (host := "") (Or.inl (hw _ (List.mem_of_getElem? (i := 30) rfl))) Via.refl e21 F_first_a0 (g := (mkF m 83 #[Sr a0, Sd d1, .second, .val (.double (FP.dsub d1 wn)), .second, Si 1] [(.ref a0), (.int 1)])) rfl rfl (hb hby d4_83)
        refine Go.on st28 ?_
        show Go _ _ _ _ _ _ _ _ (mkF m 86 #[Sr a0, Sd d1, .second, .val (.double (FP.dsub d1 wn)), .second, Si 1] [(.int 0), (.int 1)])
        refine Go.on (fun _ k => XS.isub X28.here hx rfl (hb hby d4_86) rfl k) ?_
        refine Go.on (fun _ k => XS.i2dS X28.here hx rfl (hb hby d4_87) rfl rfl k) ?_
        refine Go.on (fun _ k => XS.aloadN X28.here hx rfl (hb hby d4_88) rfl rfl k) ?_
        show Go _ _ _ _ _ _ _ _ (mkF m 89 #[Sr a0, Sd d1, .second, .val (.double (FP.dsub d1 wn)), .second, Si 1] [(.ref a0), (.double (FP.i2d (1 : Int32)))])
        obtain ⟨T29, X29, e29, st29⟩ := getF X28 hx hZ hown (host := "") (Or.inl (hw _ (List.mem_of_getElem? (i := 16) rfl))) Via.refl e28 F_window_a0 (g := (mkF m 89 #[Sr a0, Sd d1, .second, .val (.double (FP.dsub d1 wn)), .second, Si 1] [(.ref a0), (.double (FP.i2d (1 : Int32)))])) rfl rfl (hb hby d4_89)
        refine Go.on st29 ?_
        show Go _ _ _ _ _ _ _ _ (mkF m 92 #[Sr a0, Sd d1, .second, .val (.double (FP.dsub d1 wn)), .second, Si 1] [(.double wn), (.double (FP.i2d (1 : Int32)))])
        refine Go.on (fun _ k => XS.ddivS X29.here hx rfl (hb hby d4_92) rfl ((own_rt _ hwn hw1 bw)) rfl k) ?_
        show Go _ _ _ _ _ _ _ _ (mkF m 93 #[Sr a0, Sd d1, .second, .val (.double (FP.dsub d1 wn)), .second, Si 1] [(.double (FP.ddiv (FP.i2d (1 : Int32)) wn))])
        refine Go.retV X29 hx Bd.returns rfl (Or.inr (Or.inr (Or.inl ⟨rfl, rfl, _, rfl⟩))) (hb hby d4_93) ?_ (by rw [hK1]; decide) (by rw [hK2]; decide)
        rw [e29, ← hQQ]
        have q_hc17 : nw.toInt - jw.toInt < t0.toInt := (own_cg zt0 zl).mp hc17
        have q_hc23 : ¬ (nw.toInt < t0.toInt) := fun q => hc23 ((own_cl zt0 zn).mpr q)
        have i0_ : inV t0 nw jw = 1 := own_in1 bn bw (by omega) (by omega)
        have hC : (inV t0 nw jw) = (1 : Int32) := by rw [i0_] <;> decide
        unfold Q_rw_rate_1
        rw [hC]
        exact ⟨_, rfl, N10, KP, E_a0, F_times_a0, F_latest_a0, F_window_a0, F_first_a0, F_end_a0, (Or.inl rfl), (fun q => absurd q (by decide))⟩
    · -- pc 29 no
      refine Go.on (fun _ k => XS.ifNo X15.here hx rfl (hb hby d4_29) rfl ((if0 _ _).trans (flt hc17).2.2.1) k) ?_
      show Go _ _ _ _ _ _ _ _ (mkF m 32 #[Sr a0, Sd d1, .second, .val (.double (FP.dsub d1 wn)), .second, .unset] [])
      refine Go.on (fun _ k => XS.aloadN X15.here hx rfl (hb hby d4_32) rfl rfl k) ?_
      refine Go.on (fun _ k => XS.dup X15.here hx rfl (hb hby d4_33) rfl rfl k) ?_
      show Go _ _ _ _ _ _ _ _ (mkF m 34 #[Sr a0, Sd d1, .second, .val (.double (FP.dsub d1 wn)), .second, .unset] [(.ref a0), (.ref a0)])
      obtain ⟨T30, X30, e30, st30⟩ := getF X15 hx hZ hown (host := "") (Or.inl (hw _ (List.mem_of_getElem? (i := 30) rfl))) Via.refl e15 F_first_a0 (g := (mkF m 34 #[Sr a0, Sd d1, .second, .val (.double (FP.dsub d1 wn)), .second, .unset] [(.ref a0), (.ref a0)])) rfl rfl (hb hby d4_34)
      refine Go.on st30 ?_
      show Go _ _ _ _ _ _ _ _ (mkF m 37 #[Sr a0, Sd d1, .second, .val (.double (FP.dsub d1 wn)), .second, .unset] [(.int 0), (.ref a0)])
      refine Go.on (fun _ k => XS.iconst X30.here hx rfl (hb hby d4_37) k) ?_
      refine Go.on (fun _ k => XS.iadd X30.here hx rfl (hb hby d4_38) rfl k) ?_
      show Go _ _ _ _ _ _ _ _ (mkF m 39 #[Sr a0, Sd d1, .second, .val (.double (FP.dsub d1 wn)), .second, .unset] [(.int 1), (.ref a0)])
      obtain ⟨T31, h31, X31, e31, W31, st31⟩ := putF X30 hx hZ hown (host := "") (Or.inl (hw _ (List.mem_of_getElem? (i := 30) rfl))) Via.refl e30 F_first_a0 E_a0 (Or.inl (hw _ (List.mem_of_getElem? (i := 31) rfl))) (hw _ (List.mem_of_getElem? (i := 1) rfl)) (ty := .int) (by decide) rfl rfl (g := (mkF m 39 #[Sr a0, Sd d1, .second, .val (.double (FP.dsub d1 wn)), .second, .unset] [(.int 1), (.ref a0)])) rfl rfl (hb hby d4_39)
      refine Go.on st31 ?_
      replace F_first_a0 := F_first_a0.same W31
      replace E_a0 := E_a0.wr W31
      replace F_times_a0 := F_times_a0.other W31 (Or.inr (slot_ne (Or.inl (hw _ (List.mem_of_getElem? (i := 11) rfl))) (Or.inl (hw _ (List.mem_of_getElem? (i := 31) rfl))) (by decide) (t := (.array .double)) (t' := .int) (by decide) (by decide)))
      replace F_latest_a0 := F_latest_a0.other W31 (Or.inr (slot_ne (Or.inl (hw _ (List.mem_of_getElem? (i := 14) rfl))) (Or.inl (hw _ (List.mem_of_getElem? (i := 31) rfl))) (by decide) (t := .double) (t' := .int) (by decide) (by decide)))
      replace F_window_a0 := F_window_a0.other W31 (Or.inr (slot_ne (Or.inr (hw _ (List.mem_of_getElem? (i := 17) rfl))) (Or.inl (hw _ (List.mem_of_getElem? (i := 31) rfl))) (by decide) (t := .double) (t' := .int) (by decide) (by decide)))
      replace F_end_a0 := F_end_a0.other W31 (Or.inr (slot_ne (Or.inl (hw _ (List.mem_of_getElem? (i := 24) rfl))) (Or.inl (hw _ (List.mem_of_getElem? (i := 31) rfl))) (by decide) (t := .int) (t' := .int) (by decide) (by decide)))
      replace V_as := V_as.other W31 (Ne.symm ne_a0_as)
      have N31 := Fr.snoc X31 N10 g_a0
      replace ZZ := Nat.le_trans ZZ (Keep.of_wr W31).1
      replace KP := KP.wr W31 (Or.inl (List.mem_of_getElem? (i := 0) rfl))
      show Go _ _ _ _ _ _ _ _ (mkF m 42 #[Sr a0, Sd d1, .second, .val (.double (FP.dsub d1 wn)), .second, .unset] [])
      refine Go.on (fun _ k => XS.goto X31.here hx rfl (pc0 := 42) (pc' := 7) rfl (hb hby d4_42) (by decide) (by decide) k) ?_
      show Go _ _ _ _ _ _ _ _ (mkF m 7 #[Sr a0, Sd d1, .second, .val (.double (FP.dsub d1 wn)), .second, .unset] [])
      have q_ : ¬ (nw.toInt - jw.toInt < t0.toInt) := fun q => hc17 ((own_cg zt0 zl).mpr q)
      exact hL1 _ _ _ X31 e31 N31 ZZ KP E_a0 F_times_a0 F_latest_a0 F_window_a0 F_first_a0 F_end_a0 V_as (by omega)
  refine Go.on (fun _ k => XS.dloadN X0.here hx rfl (hb hby d4_0) rfl k) ?_
  refine Go.on (fun _ k => XS.aloadN X0.here hx rfl (hb hby d4_1) rfl rfl k) ?_
  show Go _ _ _ _ _ _ _ _ (mkF m 2 #[Sr a0, Sd d1, .second, .unset, .unset, .unset] [(.ref a0), (.double d1)])
  obtain ⟨T32, X32, e32, st32⟩ := getF X0 hx hZ hown (host := "") (Or.inl (hw _ (List.mem_of_getElem? (i := 16) rfl))) Via.refl e0 F_window_a0 (g := (mkF m 2 #[Sr a0, Sd d1, .second, .unset, .unset, .unset] [(.ref a0), (.double d1)])) rfl rfl (hb hby d4_2)
  refine Go.on st32 ?_
  show Go _ _ _ _ _ _ _ _ (mkF m 5 #[Sr a0, Sd d1, .second, .unset, .unset, .unset] [(.double wn), (.double d1)])
  refine Go.on (fun _ k => XS.dsubS X32.here hx rfl (hb hby d4_5) rfl (zl.nn) rfl k) ?_
  show Go _ _ _ _ _ _ _ _ (mkF m 6 #[Sr a0, Sd d1, .second, .unset, .unset, .unset] [(.double (FP.dsub d1 wn))])
  refine Go.on (fun _ k => XS.dstoreN X32.here hx rfl (hb hby d4_6) rfl (l' := #[.val (.ref a0), .val (.double d1), .second, .val (.double (FP.dsub d1 wn)), .second, .unset]) rfl k) ?_
  show Go _ _ _ _ _ _ _ _ (mkF m 7 #[Sr a0, Sd d1, .second, .val (.double (FP.dsub d1 wn)), .second, .unset] [])
  rcases hf with hf | hf
  · subst hf; exact hL0 _ _ _ X32 e32 N0 ZZ KP E_a0 F_times_a0 F_latest_a0 F_window_a0 F_first_a0 F_end_a0 V_as 
  · subst hf; exact hL1 _ _ _ X32 e32 N0 ZZ KP E_a0 F_times_a0 F_latest_a0 F_window_a0 F_first_a0 F_end_a0 V_as (hd0 (by decide))
theorem ef_rw_rate_2 (m : MethodId) (a0 : Addr) (d1 : UInt64) : entryFrame m #[(.ref a0), (.double d1)] 6 = mkF m 0 #[.val (.ref a0), .val (.double d1), .second, .unset, .unset, .unset] [] := by first | (simp [entryFrame, mkF, argsToLocals, Value.category]; done) | rfl
def Q_rw_rate_2 (Z : State) (a0 : Addr) (d1 : UInt64) (t0 : Int64) (t1 : Int64) (nw : Int64) (jw : Int64) (as : Addr) (lt : UInt64) (wn : UInt64) (f0 : Int32) (k_as : ClassId) (y0 : UInt64) (y1 : UInt64) (h0 : Heap) (n0 : Nat) (v : Option Value) (h : Heap) (L : List Loc) : Prop := ∃ f1 : Int32, v = some (.double (FP.ddiv (FP.i2d ((inV t0 nw jw) + (inV t1 nw jw))) wn)) ∧ Fr n0 L ∧ Keep h0 h [a0] ∧ Exa Z h a0 "com/example/deliberate_scaler/deliberatescaler/model/RateWindow" ∧ Fld Z h a0 "com/example/deliberate_scaler/deliberatescaler/model/RateWindow" "times" "[D" (.ref as) ∧ Fld Z h a0 "com/example/deliberate_scaler/deliberatescaler/model/RateWindow" "latest" "D" (.double lt) ∧ Fld Z h a0 "com/example/deliberate_scaler/deliberatescaler/model/RateWindow" "window" "D" (.double wn) ∧ Fld Z h a0 "com/example/deliberate_scaler/deliberatescaler/model/RateWindow" "first" "I" (.int f1) ∧ Fld Z h a0 "com/example/deliberate_scaler/deliberatescaler/model/RateWindow" "end" "I" (.int (2 : Int32)) ∧ (f1 = (0 : Int32) ∨ f1 = (1 : Int32) ∨ f1 = (2 : Int32)) ∧ ((0 : Int) < (f1).toInt → t0.toInt ≤ nw.toInt - jw.toInt) ∧ ((1 : Int) < (f1).toInt → t1.toInt ≤ nw.toInt - jw.toInt)
set_option maxRecDepth 65536 in
set_option maxHeartbeats 40000000 in
theorem rw_rate_2 (l : Launch) (Z : State) (aw : Array Value) (hw : ∀ d ∈ tables_1, d.before aw Z = true) (ws : List Jvm.Cond) (a0 : Addr) (d1 : UInt64) (t0 : Int64) (t1 : Int64) (nw : Int64) (jw : Int64) (as : Addr) (lt : UInt64) (wn : UInt64) (f0 : Int32) (k_as : ClassId) (y0 : UInt64) (y1 : UInt64) (h0 : Heap) (n0 : Nat) (Z0 : n0 ≤ h0.size) (E_a0 : Exa Z h0 a0 "com/example/deliberate_scaler/deliberatescaler/model/RateWindow") (F_times_a0 : Fld Z h0 a0 "com/example/deliberate_scaler/deliberatescaler/model/RateWindow" "times" "[D" (.ref as)) (F_latest_a0 : Fld Z h0 a0 "com/example/deliberate_scaler/deliberatescaler/model/RateWindow" "latest" "D" (.double lt)) (F_window_a0 : Fld Z h0 a0 "com/example/deliberate_scaler/deliberatescaler/model/RateWindow" "window" "D" (.double wn)) (F_first_a0 : Fld Z h0 a0 "com/example/deliberate_scaler/deliberatescaler/model/RateWindow" "first" "I" (.int f0)) (F_end_a0 : Fld Z h0 a0 "com/example/deliberate_scaler/deliberatescaler/model/RateWindow" "end" "I" (.int (2 : Int32))) (V_as : Arv Z h0 as k_as .double (64 : Int32) [(.double y0), (.double y1), (.double (0 : UInt64)), (.double (0 : UInt64)), (.double (0 : UInt64)), (.double (0 : UInt64)), (.double (0 : UInt64)), (.double (0 : UInt64)), (.double (0 : UInt64)), (.double (0 : UInt64)), (.double (0 : UInt64)), (.double (0 : UInt64)), (.double (0 : UInt64)), (.double (0 : UInt64)), (.double (0 : UInt64)), (.double (0 : UInt64)), (.double (0 : UInt64)), (.double (0 : UInt64)), (.double (0 : UInt64)), (.double (0 : UInt64)), (.double (0 : UInt64)), (.double (0 : UInt64)), (.double (0 : UInt64)), (.double (0 : UInt64)), (.double (0 : UInt64)), (.double (0 : UInt64)), (.double (0 : UInt64)), (.double (0 : UInt64)), (.double (0 : UInt64)), (.double (0 : UInt64)), (.double (0 : UInt64)), (.double (0 : UInt64)), (.double (0 : UInt64)), (.double (0 : UInt64)), (.double (0 : UInt64)), (.double (0 : UInt64)), (.double (0 : UInt64)), (.double (0 : UInt64)), (.double (0 : UInt64)), (.double (0 : UInt64)), (.double (0 : UInt64)), (.double (0 : UInt64)), (.double (0 : UInt64)), (.double (0 : UInt64)), (.double (0 : UInt64)), (.double (0 : UInt64)), (.double (0 : UInt64)), (.double (0 : UInt64)), (.double (0 : UInt64)), (.double (0 : UInt64)), (.double (0 : UInt64)), (.double (0 : UInt64)), (.double (0 : UInt64)), (.double (0 : UInt64)), (.double (0 : UInt64)), (.double (0 : UInt64)), (.double (0 : UInt64)), (.double (0 : UInt64)), (.double (0 : UInt64)), (.double (0 : UInt64)), (.double (0 : UInt64)), (.double (0 : UInt64)), (.double (0 : UInt64)), (.double (0 : UInt64))] (.double (0 : UInt64))) (g_a0 : n0 ≤ a0) (ne_a0_as : a0 ≠ as) (hnw : d1 = FP.l2d nw) (hwn : wn = FP.l2d jw) (bn : Tb nw) (bw : Tb jw) (hw1 : 1 ≤ jw.toInt) (hx0 : y0 = FP.l2d t0) (hx1 : y1 = FP.l2d t1) (b0 : Tb t0) (b1 : Tb t1) (s0 : t0.toInt ≤ t1.toInt) (hf : f0 = (0 : Int32) ∨ f0 = (1 : Int32) ∨ f0 = (2 : Int32)) (hd0 : ((0 : Int) < (f0).toInt → t0.toInt ≤ nw.toInt - jw.toInt)) (hd1 : ((1 : Int) < (f0).toInt → t1.toInt ≤ nw.toInt - jw.toInt)) :
    MetFree l (⟨"com/example/deliberate_scaler/deliberatescaler/model/RateWindow", "rate", "(D)D"⟩ : MethodName) (head1 (Jvm.Cond.code (⟨"com/example/deliberate_scaler/deliberatescaler/model/RateWindow", "rate", "(D)D"⟩ : MethodName) prog_30_method_3_code 6 (some .double) :: ws) ({ frames := 0, cells := 0, slots := 0, locals := 0 } : Room)) (fun a U => a = #[(.ref a0), (.double d1)] ∧ Z.Warmed39 U.vm ∧ U.heap = h0) (fun _ _ _ _ _ => True) (fun _ U o U' => ∃ v L, o = .returned v ∧ Q_rw_rate_2 Z a0 d1 t0 t1 nw jw as lt wn f0 k_as y0 y1 h0 n0 v U'.heap L ∧ FrameEnd U o U' L ({ frames := 0, cells := 0, slots := 0, locals := 0 } : Room).cells ({ frames := 0, cells := 0, slots := 0, locals := 0 } : Room).slots) := by
  refine MetFree.of_bodySF (plainFor_of_name pn_0) hisR ?_
  intro p e s m args below meth c s₁ Bd hml0 hP hK
  obtain ⟨rfl, hZ, hh⟩ := hP
  have hx := Bd.exec
  have hby := Bd.bytes
  have hml : c.maxLocals = 6 := hml0
  have hown : s.vm.findClass "com/example/deliberate_scaler/deliberatescaler/model/RateWindow" = some m.cls := findClass_of_methodNamed Bd.named
  have hnm := (name_of_methodNamed Bd.named Bd.method).1
  have hlk : meth.locks = false := BodyLoose.notSynchronized Bd
  have X0 : Stand p l e ({ frames := 0, cells := 0, slots := 0, locals := 0 } : Room) s m #[(.ref a0), (.double d1)] below meth c s₁ [] 0 0 := Stand.of_body Bd
  have e0 : s₁.heap = h0 := by rw [← hh, Bd.state]; rfl
  have N0 := Fr.nil n0
  have ZZ := Z0
  show Go p e below s ({ frames := 0, cells := 0, slots := 0, locals := 0 } : Room).cells ({ frames := 0, cells := 0, slots := 0, locals := 0 } : Room).slots (fun v h L => Q_rw_rate_2 Z a0 d1 t0 t1 nw jw as lt wn f0 k_as y0 y1 h0 n0 v h L) s₁ (entryFrame m #[(.ref a0), (.double d1)] 6)
  refine Go.cast (ef_rw_rate_2 m a0 d1) ?_
  refine Go.gen ?_
  intro K1 K2 QQ hK1 hK2 hQQ
  have KP : Keep h0 h0 [a0] := Keep.refl _ _
  have zl := own_lo bn bw hnw hwn
  have zn := own_bl bn hnw
  have zt0 := own_bl b0 hx0
  have zt1 := own_bl b1 hx1
  have hL2 : ∀ (T1 : State) (locs1 : List Loc) (h1 : Heap), Stand p l e ({ frames := 0, cells := 0, slots := 0, locals := 0 } : Room) s m #[(.ref a0), (.double d1)] below meth c T1 locs1 0 0 → T1.heap = h1 → Fr n0 locs1 → n0 ≤ h1.size → Keep h0 h1 [a0] → Exa Z h1 a0 "com/example/deliberate_scaler/deliberatescaler/model/RateWindow" → Fld Z h1 a0 "com/example/deliberate_scaler/deliberatescaler/model/RateWindow" "times" "[D" (.ref as) → Fld Z h1 a0 "com/example/deliberate_scaler/deliberatescaler/model/RateWindow" "latest" "D" (.double lt) → Fld Z h1 a0 "com/example/deliberate_scaler/deliberatescaler/model/RateWindow" "window" "D" (.double wn) → Fld Z h1 a0 "com/example/deliberate_scaler/deliberatescaler/model/RateWindow" "first" "I" (.int (2 : Int32)) → Fld Z h1 a0 "com/example/deliberate_scaler/deliberatescaler/model/RateWindow" "end" "I" (.int (2 : Int32)) → Arv Z h1 as k_as .double (64 : Int32) [(.double y0), (.double y1), (.double (0 : UInt64)), (.double (0 : UInt64)), (.double (0 : UInt64)), (.double (0 : UInt64)), (.double (0 : UInt64)), (.double (0 : UInt64)), (.double (0 : UInt64)), (.double (0 : UInt64)), (.double (0 : UInt64)), (.double (0 : UInt64)), (.double (0 : UInt64)), (.double (0 : UInt64)), (.double (0 : UInt64)), (.double (0 : UInt64)), (.double (0 : UInt64)), (.double (0 : UInt64)), (.double (0 : UInt64)), (.double (0 : UInt64)), (.double (0 : UInt64)), (.double (0 : UInt64)), (.double (0 : UInt64)), (.double (0 : UInt64)), (.double (0 : UInt64)), (.double (0 : UInt64)), (.double (0 : UInt64)), (.double (0 : UInt64)), (.double (0 : UInt64)), (.double (0 : UInt64)), (.double (0 : UInt64)), (.double (0 : UInt64)), (.double (0 : UInt64)), (.double (0 : UInt64)), (.double (0 : UInt64)), (.double (0 : UInt64)), (.double (0 : UInt64)), (.double (0 : UInt64)), (.double (0 : UInt64)), (.double (0 : UInt64)), (.double (0 : UInt64)), (.double (0 : UInt64)), (.double (0 : UInt64)), (.double (0 : UInt64)), (.double (0 : UInt64)), (.double (0 : UInt64)), (.double (0 : UInt64)), (.double (0 : UInt64)), (.double (0 : UInt64)), (.double (0 : UInt64)), (.double (0 : UInt64)), (.double (0 : UInt64)), (.double (0 : UInt64)), (.double (0 : UInt64)), (.double (0 : UInt64)), (.double (0 : UInt64)), (.double (0 : UInt64)), (.double (0 : UInt64)), (.double (0 : UInt64)), (.double (0 : UInt64)), (.double (0 : UInt64)), (.double (0 : UInt64)), (.double (0 : UInt64)), (.double (0 : UInt64))] (.double (0 : UInt64)) → t0.toInt ≤ nw.toInt - jw.toInt → t1.toInt ≤ nw.toInt - jw.toInt → Go p e below s K1 K2 QQ T1 (mkF m 7 #[Sr a0, Sd d1, .second, .val (.double (FP.dsub d1 wn)), .second, .unset] []) := by
    clear ZZ KP E_a0 F_times_a0 F_latest_a0 F_window_a0 F_first_a0 F_end_a0 V_as
    intro T1 locs1 h1 X1 e1 N1 ZZ KP E_a0 F_times_a0 F_latest_a0 F_window_a0 F_first_a0 F_end_a0 V_as dd0 dd1
    show Go _ _ _ _ _ _ _ _ (mkF m 7 #[Sr a0, Sd d1, .second, .val (.double (FP.dsub d1 wn)), .second, .unset] [])
    refine Go.on (fun _ k => XS.aloadN X1.here hx rfl (hb hby d4_7) rfl rfl k) ?_
    show Go _ _ _ _ _ _ _ _ (mkF m 8 #[Sr a0, Sd d1, .second, .val (.double (FP.dsub d1 wn)), .second, .unset] [(.ref a0)])
    obtain ⟨T2, X2, e2, st2⟩ := getF X1 hx hZ hown (host := "") (Or.inl (hw _ (List.mem_of_getElem? (i := 30) rfl))) Via.refl e1 F_first_a0 (g := (mkF m 8 #[Sr a0, Sd d1, .second, .val (.double (FP.dsub d1 wn)), .second, .unset] [(.ref a0)])) rfl rfl (hb hby d4_8)
    refine Go.on st2 ?_
    show Go _ _ _ _ _ _ _ _ (mkF m 11 #[Sr a0, Sd d1, .second, .val (.double (FP.dsub d1 wn)), .second, .unset] [(.int 2)])
    refine Go.on (fun _ k => XS.aloadN X2.here hx rfl (hb hby d4_11) rfl rfl k) ?_
    show Go _ _ _ _ _ _ _ _ (mkF m 12 #[Sr a0, Sd d1, .second, .val (.double (FP.dsub d1 wn)), .second, .unset] [(.ref a0), (.int 2)])
    obtain ⟨T3, X3, e3, st3⟩ := getF X2 hx hZ hown (host := "") (Or.inl (hw _ (List.mem_of_getElem? (i := 23) rfl))) Via.refl e2 F_end_a0 (g := (mkF m 12 #[Sr a0, Sd d1, .second, .val (.double (FP.dsub d1 wn)), .second, .unset] [(.ref a0), (.int 2)])) rfl rfl (hb hby d4_12)
    refine Go.on st3 ?_
    show Go _ _ _ _ _ _ _ _ (mkF m 15 #[Sr a0, Sd d1, .second, .val (.double (FP.dsub d1 wn)), .second, .unset] [(.int 2), (.int 2)])
    have hc4 : ¬ ((2 : Int32) < (2 : Int32)) := by decide
    refine Go.on (fun _ k => XS.icmpYes X3.here hx rfl (pc0 := 15) (pc' := 45) rfl (hb hby d4_15) rfl (flt hc4).2.1 (by decide) (by decide) k) ?_
    refine Go.on (fun _ k => XS.aloadN X3.here hx rfl (hb hby d4_45) rfl rfl k) ?_
    show Go _ _ _ _ _ _ _ _ (mkF m 46 #[Sr a0, Sd d1, .second, .val (.double (FP.dsub d1 wn)), .second, .unset] [(.ref a0)])
    obtain ⟨T5, X5, e5, st5⟩ := getF X3 hx hZ hown (host := "") (Or.inl (hw _ (List.mem_of_getElem? (i := 23) rfl))) Via.refl e3 F_end_a0 (g := (mkF m 46 #[Sr a0, Sd d1, .second, .val (.double (FP.dsub d1 wn)), .second, .unset] [(.ref a0)])) rfl rfl (hb hby d4_46)
    refine Go.on st5 ?_
    show Go _ _ _ _ _ _ _ _ (mkF m 49 #[Sr a0, Sd d1, .second, .val (.double (FP.dsub d1 wn)), .second, .unset] [(.int 2)])
    refine Go.on (fun _ k => XS.istore X5.here hx rfl (hb hby d4_49) rfl (l' := #[.val (.ref a0), .val (.double d1), .second, .val (.double (FP.dsub d1 wn)), .second, .val (.int (2 : Int32))]) rfl k) ?_
    show Go _ _ _ _ _ _ _ _ (mkF m 51 #[Sr a0, Sd d1, .second, .val (.double (FP.dsub d1 wn)), .second, Si 2] [])
    refine Go.on (fun _ k => XS.iload X5.here hx rfl (hb hby d4_51) rfl k) ?_
    refine Go.on (fun _ k => XS.aloadN X5.here hx rfl (hb hby d4_53) rfl rfl k) ?_
    show Go _ _ _ _ _ _ _ _ (mkF m 54 #[Sr a0, Sd d1, .second, .val (.double (FP.dsub d1 wn)), .second, Si 2] [(.ref a0), (.int 2)])
    obtain ⟨T6, X6, e6, st6⟩ := getF X5 hx hZ hown (host := "") (Or.inl (hw _ (List.mem_of_getElem? (i := 30) rfl))) Via.refl e5 F_first_a0 (g := (mkF m 54 #[Sr a0, Sd d1, .second, .val (.double (FP.dsub d1 wn)), .second, Si 2] [(.ref a0), (.int 2)])) rfl rfl (hb hby d4_54)
    refine Go.on st6 ?_
    show Go _ _ _ _ _ _ _ _ (mkF m 57 #[Sr a0, Sd d1, .second, .val (.double (FP.dsub d1 wn)), .second, Si 2] [(.int 2), (.int 2)])
    have hc7 : ¬ ((2 : Int32) < (2 : Int32)) := by decide
    refine Go.on (fun _ k => XS.icmpYes X6.here hx rfl (pc0 := 57) (pc' := 80) rfl (hb hby d4_57) rfl (flt hc7).2.2.2 (by decide) (by decide) k) ?_
    refine Go.on (fun _ k => XS.iload X6.here hx rfl (hb hby d4_80) rfl k) ?_
    refine Go.on (fun _ k => XS.aloadN X6.here hx rfl (hb hby d4_82) rfl rfl k) ?_
    show Go _ _ _ _ _ _ _ _ (mkF m 83 #[Sr a0, Sd d1, .second, .val (.double (FP.dsub d1 wn)), .second, Si 2] [(.ref a0), (.int 2)])
    obtain ⟨T8, X8, e8, st8⟩ := getF X6 hx hZ hown (host := "") (Or.inl (hw _ (List.mem_of_getElem? (i := 30) rfl))) Via.refl e6 F_first_a0 (g := (mkF m 83 #[Sr a0, Sd d1, .second, .val (.double (FP.dsub d1 wn)), .second, Si 2] [(.ref a0), (.int 2)])) rfl rfl (hb hby d4_83)
    refine Go.on st8 ?_
    show Go _ _ _ _ _ _ _ _ (mkF m 86 #[Sr a0, Sd d1, .second, .val (.double (FP.dsub d1 wn)), .second, Si 2] [(.int 2), (.int 2)])
    refine Go.on (fun _ k => XS.isub X8.here hx rfl (hb hby d4_86) rfl k) ?_
    refine Go.on (fun _ k => XS.i2dS X8.here hx rfl (hb hby d4_87) rfl rfl k) ?_
    refine Go.on (fun _ k => XS.aloadN X8.here hx rfl (hb hby d4_88) rfl rfl k) ?_
    show Go _ _ _ _ _ _ _ _ (mkF m 89 #[Sr a0, Sd d1, .second, .val (.double (FP.dsub d1 wn)), .second, Si 2] [(.ref a0), (.double (FP.i2d (0 : Int32)))])
    obtain ⟨T9, X9, e9, st9⟩ := getF X8 hx hZ hown (host := "") (Or.inl (hw _ (List.mem_of_getElem? (i := 16) rfl))) Via.refl e8 F_window_a0 (g := (mkF m 89 #[Sr a0, Sd d1, .second, .val (.double (FP.dsub d1 wn)), .second, Si 2] [(.ref a0), (.double (FP.i2d (0 : Int32)))])) rfl rfl (hb hby d4_89)
    refine Go.on st9 ?_
    show Go _ _ _ _ _ _ _ _ (mkF m 92 #[Sr a0, Sd d1, .second, .val (.double (FP.dsub d1 wn)), .second, Si 2] [(.double wn), (.double (FP.i2d (0 : Int32)))])
    refine Go.on (fun _ k => XS.ddivS X9.here hx rfl (hb hby d4_92) rfl ((own_rt _ hwn hw1 bw)) rfl k) ?_
    show Go _ _ _ _ _ _ _ _ (mkF m 93 #[Sr a0, Sd d1, .second, .val (.double (FP.dsub d1 wn)), .second, Si 2] [(.double (FP.ddiv (FP.i2d (0 : Int32)) wn))])
    refine Go.retV X9 hx Bd.returns rfl (Or.inr (Or.inr (Or.inl ⟨rfl, rfl, _, rfl⟩))) (hb hby d4_93) ?_ (by rw [hK1]; decide) (by rw [hK2]; decide)
    rw [e9, ← hQQ]
    have i0_ : inV t0 nw jw = 0 := own_in0 bn bw (Or.inl (by omega))
    have i1_ : inV t1 nw jw = 0 := own_in0 bn bw (Or.inl (by omega))
    have hC : ((inV t0 nw jw) + (inV t1 nw jw)) = (0 : Int32) := by rw [i0_, i1_] <;> decide
    unfold Q_rw_rate_2
    rw [hC]
    exact ⟨_, rfl, N1, KP, E_a0, F_times_a0, F_latest_a0, F_window_a0, F_first_a0, F_end_a0, (Or.inr (Or.inr rfl)), (fun _ => by omega), (fun _ => by omega)⟩
  have hL1 : ∀ (T10 : State) (locs10 : List Loc) (h10 : Heap), Stand p l e ({ frames := 0, cells := 0, slots := 0, locals := 0 } : Room) s m #[(.ref a0), (.double d1)] below meth c T10 locs10 0 0 → T10.heap = h10 → Fr n0 locs10 → n0 ≤ h10.size → Keep h0 h10 [a0] → Exa Z h10 a0 "com/example/deliberate_scaler/deliberatescaler/model/RateWindow" → Fld Z h10 a0 "com/example/deliberate_scaler/deliberatescaler/model/RateWindow" "times" "[D" (.ref as) → Fld Z h10 a0 "com/example/deliberate_scaler/deliberatescaler/model/RateWindow" "latest" "D" (.double lt) → Fld Z h10 a0 "com/example/deliberate_scaler/deliberatescaler/model/RateWindow" "window" "D" (.double wn) → Fld Z h10 a0 "com/example/deliberate_scaler/deliberatescaler/model/RateWindow" "first" "I" (.int (1 : Int32)) → Fld Z h10 a0 "com/example/deliberate_scaler/deliberatescaler/model/RateWindow" "end" "I" (.int (2 : Int32)) → Arv Z h10 as k_as .double (64 : Int32) [(.double y0), (.double y1), (.double (0 : UInt64)), (.double (0 : UInt64)), (.double (0 : UInt64)), (.double (0 : UInt64)), (.double (0 : UInt64)), (.double (0 : UInt64)), (.double (0 : UInt64)), (.double (0 : UInt64)), (.double (0 : UInt64)), (.double (0 : UInt64)), (.double (0 : UInt64)), (.double (0 : UInt64)), (.double (0 : UInt64)), (.double (0 : UInt64)), (.double (0 : UInt64)), (.double (0 : UInt64)), (.double (0 : UInt64)), (.double (0 : UInt64)), (.double (0 : UInt64)), (.double (0 : UInt64)), (.double (0 : UInt64)), (.double (0 : UInt64)), (.double (0 : UInt64)), (.double (0 : UInt64)), (.double (0 : UInt64)), (.double (0 : UInt64)), (.double (0 : UInt64)), (.double (0 : UInt64)), (.double (0 : UInt64)), (.double (0 : UInt64)), (.double (0 : UInt64)), (.double (0 : UInt64)), (.double (0 : UInt64)), (.double (0 : UInt64)), (.double (0 : UInt64)), (.double (0 : UInt64)), (.double (0 : UInt64)), (.double (0 : UInt64)), (.double (0 : UInt64)), (.double (0 : UInt64)), (.double (0 : UInt64)), (.double (0 : UInt64)), (.double (0 : UInt64)), (.double (0 : UInt64)), (.double (0 : UInt64)), (.double (0 : UInt64)), (.double (0 : UInt64)), (.double (0 : UInt64)), (.double (0 : UInt64)), (.double (0 : UInt64)), (.double (0 : UInt64)), (.double (0 : UInt64)), (.double (0 : UInt64)), (.double (0 : UInt64)), (.double (0 : UInt64)), (.double (0 : UInt64)), (.double (0 : UInt64)), (.double (0 : UInt64)), (.double (0 : UInt64)), (.double (0 : UInt64)), (.double (0 : UInt64)), (.double (0 : UInt64))] (.double (0 : UInt64)) → t0.toInt ≤ nw.toInt - jw.toInt → Go p e below s K1 K2 QQ T10 (mkF m 7 #[Sr a0, Sd d1, .second, .val (.double (FP.dsub d1 wn)), .second, .unset] []) := by
    clear ZZ KP E_a0 F_times_a0 F_latest_a0 F_window_a0 F_first_a0 F_end_a0 V_as
    intro T10 locs10 h10 X10 e10 N10 ZZ KP E_a0 F_times_a0 F_latest_a0 F_window_a0 F_first_a0 F_end_a0 V_as dd0
    show Go _ _ _ _ _ _ _ _ (mkF m 7 #[Sr a0, Sd d1, .second, .val (.double (FP.dsub d1 wn)), .second, .unset] [])
    refine Go.on (fun _ k => XS.aloadN X10.here hx rfl (hb hby d4_7) rfl rfl k) ?_
    show Go _ _ _ _ _ _ _ _ (mkF m 8 #[Sr a0, Sd d1, .second, .val (.double (FP.dsub d1 wn)), .second, .unset] [(.ref a0)])
    obtain ⟨T11, X11, e11, st11⟩ := getF X10 hx hZ hown (host := "") (Or.inl (hw _ (List.mem_of_getElem? (i := 30) rfl))) Via.refl e10 F_first_a0 (g := (mkF m 8 #[Sr a0, Sd d1, .second, .val (.double (FP.dsub d1 wn)), .second, .unset] [(.ref a0)])) rfl rfl (hb hby d4_8)
    refine Go.on st11 ?_
    show Go _ _ _ _ _ _ _ _ (mkF m 11 #[Sr a0, Sd d1, .second, .val (.double (FP.dsub d1 wn)), .second, .unset] [(.int 1)])
    refine Go.on (fun _ k => XS.aloadN X11.here hx rfl (hb hby d4_11) rfl rfl k) ?_
    show Go _ _ _ _ _ _ _ _ (mkF m 12 #[Sr a0, Sd d1, .second, .val (.double (FP.dsub d1 wn)), .second, .unset] [(.ref a0), (.int 1)])
    obtain ⟨T12, X12, e12, st12⟩ := getF X11 hx hZ hown (host := "") (Or.inl (hw _ (List.mem_of_getElem? (i := 23) rfl))) Via.refl e11 F_end_a0 (g := (mkF m 12 #[Sr a0, Sd d1, .second, .val (.double (FP.dsub d1 wn)), .second, .unset] [(.ref a0), (.int 1)])) rfl rfl (hb hby d4_12)
    refine Go.on st12 ?_
    show Go _ _ _ _ _ _ _ _ (mkF m 15 #[Sr a0, Sd d1, .second, .val (.double (FP.dsub d1 wn)), .second, .unset] [(.int 2), (.int 1)])
    have hc13 : (1 : Int32) < (2 : Int32) := by decide
    refine Go.on (fun _ k => XS.icmpNo X12.here hx rfl (hb hby d4_15) rfl (tlt hc13).2.1 k) ?_
    refine Go.on (fun _ k => XS.aloadN X12.here hx rfl (hb hby d4_18) rfl rfl k) ?_
    show Go _ _ _ _ _ _ _ _ (mkF m 19 #[Sr a0, Sd d1, .second, .val (.double (FP.dsub d1 wn)), .second, .unset] [(.ref a0)])
    obtain ⟨T14, X14, e14, st14⟩ := getF X12 hx hZ hown (host := "") (Or.inl (hw _ (List.mem_of_getElem? (i := 10) rfl))) Via.refl e12 F_times_a0 (g := (mkF m 19 #[Sr a0, Sd d1, .second, .val (.double (FP.dsub d1 wn)), .second, .unset] [(.ref a0)])) rfl rfl (hb hby d4_19)
    refine Go.on st14 ?_
    show Go _ _ _ _ _ _ _ _ (mkF m 22 #[Sr a0, Sd d1, .second, .val (.double (FP.dsub d1 wn)), .second, .unset] [(.ref as)])
    refine Go.on (fun _ k => XS.aloadN X14.here hx rfl (hb hby d4_22) rfl rfl k) ?_
    show Go _ _ _ _ _ _ _ _ (mkF m 23 #[Sr a0, Sd d1, .second, .val (.double (FP.dsub d1 wn)), .second, .unset] [(.ref a0), (.ref as)])
    obtain ⟨T15, X15, e15, st15⟩ := getF X14 hx hZ hown (host := "") (Or.inl (hw _ (List.mem_of_getElem? (i := 30) rfl))) Via.refl e14 F_first_a0 (g := (mkF m 23 #[Sr a0, Sd d1, .second, .val (.double (FP.dsub d1 wn)), .second, .unset] [(.ref a0), (.ref as)])) rfl rfl (hb hby d4_23)
    refine Go.on st15 ?_
    show Go _ _ _ _ _ _ _ _ (mkF m 26 #[Sr a0, Sd d1, .second, .val (.double (FP.dsub d1 wn)), .second, .unset] [(.int 1), (.ref as)])
    obtain ⟨cl16, Ar16, -, S16, -, H16, -⟩ := id V_as
    have hin16 : ¬ ((1 : Int32) < 0 ∨ cl16.slots.size ≤ ((1 : Int32)).toNatClampNeg) := inb_of S16 ⟨by decide, by decide⟩
    refine Go.on (X15.daload hx (j := (1 : Int32)) (v := (.double y1)) (by rw [e15]; exact Ar16.1) (State.isArrayOf_alike hZ.alike Ar16.2.1) Ar16.2.2 hin16 (H16.at hin16 (rfl)) (g := (mkF m 26 #[Sr a0, Sd d1, .second, .val (.double (FP.dsub d1 wn)), .second, .unset] [(.int 1), (.ref as)])) rfl rfl (hb hby d4_26)) ?_
    show Go _ _ _ _ _ _ _ _ (mkF m 27 #[Sr a0, Sd d1, .second, .val (.double (FP.dsub d1 wn)), .second, .unset] [(.double y1)])
    refine Go.on (fun _ k => XS.dloadN X15.here hx rfl (hb hby d4_27) rfl k) ?_
    refine Go.on (fun _ k => XS.dcmpS X15.here hx rfl (hb hby d4_28) rfl rfl k) ?_
    show Go _ _ _ _ _ _ _ _ (mkF m 29 #[Sr a0, Sd d1, .second, .val (.double (FP.dsub d1 wn)), .second, .unset] [(.int (cmpValue (FP.dcmp y1 (FP.dsub d1 wn)) .g))])
    by_cases hc17 : (0 : Int32) < (cmpValue (FP.dcmp y1 (FP.dsub d1 wn)) .g)
    · -- pc 29 yes
      refine Go.on (fun _ k => XS.ifYes X15.here hx rfl (pc0 := 29) (pc' := 45) rfl (hb hby d4_29) rfl ((if0 _ _).trans (tlt hc17).2.2.1) (by decide) (by decide) k) ?_
      show Go _ _ _ _ _ _ _ _ (mkF m 45 #[Sr a0, Sd d1, .second, .val (.double (FP.dsub d1 wn)), .second, .unset] [])
      refine Go.on (fun _ k => XS.aloadN X15.here hx rfl (hb hby d4_45) rfl rfl k) ?_
      show Go _ _ _ _ _ _ _ _ (mkF m 46 #[Sr a0, Sd d1, .second, .val (.double (FP.dsub d1 wn)), .second, .unset] [(.ref a0)])
      obtain ⟨T18, X18, e18, st18⟩ := getF X15 hx hZ hown (host := "") (Or.inl (hw _ (List.mem_of_getElem? (i := 23) rfl))) Via.refl e15 F_end_a0 (g := (mkF m 46 #[Sr a0, Sd d1, .second, .val (.double (FP.dsub d1 wn)), .second, .unset] [(.ref a0)])) rfl rfl (hb hby d4_46)
      refine Go.on st18 ?_
      show Go _ _ _ _ _ _ _ _ (mkF m 49 #[Sr a0, Sd d1, .second, .val (.double (FP.dsub d1 wn)), .second, .unset] [(.int 2)])
      refine Go.on (fun _ k => XS.istore X18.here hx rfl (hb hby d4_49) rfl (l' := #[.val (.ref a0), .val (.double d1), .second, .val (.double (FP.dsub d1 wn)), .second, .val (.int (2 : Int32))]) rfl k) ?_
      show Go _ _ _ _ _ _ _ _ (mkF m 51 #[Sr a0, Sd d1, .second, .val (.double (FP.dsub d1 wn)), .second, Si 2] [])
      refine Go.on (fun _ k => XS.iload X18.here hx rfl (hb hby d4_51) rfl k) ?_
      refine Go.on (fun _ k => XS.aloadN X18.here hx rfl (hb hby d4_53) rfl rfl k) ?_
      show Go _ _ _ _ _ _ _ _ (mkF m 54 #[Sr a0, Sd d1, .second, .val (.double (FP.dsub d1 wn)), .second, Si 2] [(.ref a0), (.int 2)])
      obtain ⟨T19, X19, e19, st19⟩ := getF X18 hx hZ hown (host := "") (Or.inl (hw _ (List.mem_of_getElem? (i := 30) rfl))) Via.refl e18 F_first_a0 (g := (mkF m 54 #[Sr a0, Sd d1, .second, .val (.double (FP.dsub d1 wn)), .second, Si 2] [(.ref a0), (.int 2)])) rfl rfl (hb hby d4_54)
      refine Go.on st19 ?_
      show Go _ _ _ _ _ _ _ _ (mkF m 57 #[Sr a0, Sd d1, .second, .val (.double (FP.dsub d1 wn)), .second, Si 2] [(.int 1), (.int 2)])
      have hc20 : (1 : Int32) < (2 : Int32) := by decide
      refine Go.on (fun _ k => XS.icmpNo X19.here hx rfl (hb hby d4_57) rfl (tlt hc20).2.2.2 k) ?_
      refine Go.on (fun _ k => XS.aloadN X19.here hx rfl (hb hby d4_60) rfl rfl k) ?_
      show Go _ _ _ _ _ _ _ _ (mkF m 61 #[Sr a0, Sd d1, .second, .val (.double (FP.dsub d1 wn)), .second, Si 2] [(.ref a0)])
      obtain ⟨T21, X21, e21, st21⟩ := getF X19 hx hZ hown (host := "") (Or.inl (hw _ (List.mem_of_getElem? (i := 10) rfl))) Via.refl e19 F_times_a0 (g := (mkF m 61 #[Sr a0, Sd d1, .second, .val (.double (FP.dsub d1 wn)), .second, Si 2] [(.ref a0)])) rfl rfl (hb hby d4_61)
      refine Go.on st21 ?_
      show Go _ _ _ _ _ _ _ _ (mkF m 64 #[Sr a0, Sd d1, .second, .val (.double (FP.dsub d1 wn)), .second, Si 2] [(.ref as)])
      refine Go.on (fun _ k => XS.iload X21.here hx rfl (hb hby d4_64) rfl k) ?_
      refine Go.on (fun _ k => XS.iconst X21.here hx rfl (hb hby d4_66) k) ?_
      refine Go.on (fun _ k => XS.isub X21.here hx rfl (hb hby d4_67) rfl k) ?_
      show Go _ _ _ _ _ _ _ _ (mkF m 68 #[Sr a0, Sd d1, .second, .val (.double (FP.dsub d1 wn)), .second, Si 2] [(.int 1), (.ref as)])
      obtain ⟨cl22, Ar22, -, S22, -, H22, -⟩ := id V_as
      have hin22 : ¬ ((1 : Int32) < 0 ∨ cl22.slots.size ≤ ((1 : Int32)).toNatClampNeg) := inb_of S22 ⟨by decide, by decide⟩
      refine Go.on (X21.daload hx (j := (1 : Int32)) (v := (.double y1)) (by rw [e21]; exact Ar22.1) (State.isArrayOf_alike hZ.alike Ar22.2.1) Ar22.2.2 hin22 (H22.at hin22 (rfl)) (g := (mkF m 68 #[Sr a0, Sd d1, .second, .val (.double (FP.dsub d1 wn)), .second, Si 2] [(.int 1), (.ref as)])) rfl rfl (hb hby d4_68)) ?_
      show Go _ _ _ _ _ _ _ _ (mkF m 69 #[Sr a0, Sd d1, .second, .val (.double (FP.dsub d1 wn)), .second, Si 2] [(.double y1)])
      refine Go.on (fun _ k => XS.dloadN X21.here hx rfl (hb hby d4_69) rfl k) ?_
      refine Go.on (fun _ k => XS.dcmpS X21.here hx rfl (hb hby d4_70) rfl rfl k) ?_
      show Go _ _ _ _ _ _ _ _ (mkF m 71 #[Sr a0, Sd d1, .second, .val (.double (FP.dsub d1 wn)), .second, Si 2] [(.int (cmpValue (FP.dcmp y1 d1) .l))])
      by_cases hc23 : (0 : Int32) < (cmpValue (FP.dcmp y1 d1) .l)
      · -- pc 71 yes
        refine Go.on (fun _ k => XS.ifNo X21.here hx rfl (hb hby d4_71) rfl ((if0 _ _).trans (tlt hc23).2.2.2) k) ?_
        show Go _ _ _ _ _ _ _ _ (mkF m 74 #[Sr a0, Sd d1, .second, .val (.double (FP.dsub d1 wn)), .second, Si 2] [])
        refine Go.on (fun _ k => XS.iinc X21.here hx rfl (hb hby d4_74) rfl (l' := #[.val (.ref a0), .val (.double d1), .second, .val (.double (FP.dsub d1 wn)), .second, .val (.int (1 : Int32))]) rfl k) ?_
        show Go _ _ _ _ _ _ _ _ (mkF m 77 #[Sr a0, Sd d1, .second, .val (.double (FP.dsub d1 wn)), .second, Si 1] [])
        refine Go.on (fun _ k => XS.goto X21.here hx rfl (pc0 := 77) (pc' := 51) rfl (hb hby d4_77) (by decide) (by decide) k) ?_
        refine Go.on (fun _ k => XS.iload X21.here hx rfl (hb hby d4_51) rfl k) ?_
        refine Go.on (fun _ k => XS.aloadN X21.here hx rfl (hb hby d4_53) rfl rfl k) ?_
        show Go _ _ _ _ _ _ _ _ (mkF m 54 #[Sr a0, Sd d1, .second, .val (.double (FP.dsub d1 wn)), .second, Si 1] [(.ref a0), (.int 1)])
        obtain ⟨T24, X24, e24, st24⟩ := getF X21 hx hZ hown (host := "") (Or.inl (hw _ (List.mem_of_getElem? (i := 30) rfl))) Via.refl e21 F_first_a0 (g := (mkF m 54 #[Sr a0, Sd d1, .second, .val (.double (FP.dsub d1 wn)), .second, Si 1] [(.ref a0), (.int 1)])) rfl rfl (hb hby d4_54)
        refine Go.on st24 ?_
        show Go _ _ _ _ _ _ _ _ (mkF m 57 #[Sr a0, Sd d1, .second, .val (.double (FP.dsub d1 wn)), .second, Si 1] [(.int 1), (.int 1)])
        have hc25 : ¬ ((1 : Int32) < (1 : Int32)) := by decide
        refine Go.on (fun _ k => XS.icmpYes X24.here hx rfl (pc0 := 57) (pc' := 80) rfl (hb hby d4_57) rfl (flt hc25).2.2.2 (by decide) (by decide) k) ?_
        refine Go.on (fun _ k => XS.iload X24.here hx rfl (hb hby d4_80) rfl k) ?_
        refine Go.on (fun _ k => XS.aloadN X24.here hx rfl (hb hby d4_82) rfl rfl k) ?_
        show Go _ _ _ _ _ _ _ _ (mkF m 83 #[Sr a0, Sd d1, .second, .val (.double (FP.dsub d1 wn)), .second, Si 1] [(.ref a0), (.int 1)])
        obtain ⟨T26, X26, e26, st26⟩ := getF X24 hx hZ hown (host := "") (Or.inl (hw _ (List.mem_of_getElem? (i := 30) rfl))) Via.refl e24 F_first_a0 (g := (mkF m 83 #[Sr a0, Sd d1, .second, .val (.double (FP.dsub d1 wn)), .second, Si 1] [(.ref a0), (.int 1)])) rfl rfl (hb hby d4_83)
        refine Go.on st26 ?_
        show Go _ _ _ _ _ _ _ _ (mkF m 86 #[Sr a0, Sd d1, .second, .val (.double (FP.dsub d1 wn)), .second, Si 1] [(.int 1), (.int 1)])
        refine Go.on (fun _ k => XS.isub X26.here hx rfl (hb hby d4_86) rfl k) ?_
        refine Go.on (fun _ k => XS.i2dS X26.here hx rfl (hb hby d4_87) rfl rfl k) ?_
        refine Go.on (fun _ k => XS.aloadN X26.here hx rfl (hb hby d4_88) rfl rfl k) ?_
        show Go _ _ _ _ _ _ _ _ (mkF m 89 #[Sr a0, Sd d1, .second, .val (.double (FP.dsub d1 wn)), .second, Si 1] [(.ref a0), (.double (FP.i2d (0 : Int32)))])
        obtain ⟨T27, X27, e27, st27⟩ := getF X26 hx hZ hown (host := "") (Or.inl (hw _ (List.mem_of_getElem? (i := 16) rfl))) Via.refl e26 F_window_a0 (g := (mkF m 89 #[Sr a0, Sd d1, .second, .val (.double (FP.dsub d1 wn)), .second, Si 1] [(.ref a0), (.double (FP.i2d (0 : Int32)))])) rfl rfl (hb hby d4_89)
        refine Go.on st27 ?_
        show Go _ _ _ _ _ _ _ _ (mkF m 92 #[Sr a0, Sd d1, .second, .val (.double (FP.dsub d1 wn)), .second, Si 1] [(.double wn), (.double (FP.i2d (0 : Int32)))])
        refine Go.on (fun _ k => XS.ddivS X27.here hx rfl (hb hby d4_92) rfl ((own_rt _ hwn hw1 bw)) rfl k) ?_
        show Go _ _ _ _ _ _ _ _ (mkF m 93 #[Sr a0, Sd d1, .second, .val (.double (FP.dsub d1 wn)), .second, Si 1] [(.double (FP.ddiv (FP.i2d (0 : Int32)) wn))])
        refine Go.retV X27 hx Bd.returns rfl (Or.inr (Or.inr (Or.inl ⟨rfl, rfl, _, rfl⟩))) (hb hby d4_93) ?_ (by rw [hK1]; decide) (by rw [hK2]; decide)
        rw [e27, ← hQQ]
        have q_hc17 : nw.toInt - jw.toInt < t1.toInt := (own_cg zt1 zl).mp hc17
        have q_hc23 : nw.toInt < t1.toInt := (own_cl zt1 zn).mp hc23
        have i0_ : inV t0 nw jw = 0 := own_in0 bn bw (Or.inl (by omega))
        have i1_ : inV t1 nw jw = 0 := own_in0 bn bw (Or.inr (by omega))
        have hC : ((inV t0 nw jw) + (inV t1 nw jw)) = (0 : Int32) := by rw [i0_, i1_] <;> decide
        unfold Q_rw_rate_2
        rw [hC]
        exact ⟨_, rfl, N10, KP, E_a0, F_times_a0, F_latest_a0, F_window_a0, F_first_a0, F_end_a0, (Or.inr (Or.inl rfl)), (fun _ => by omega), (fun q => absurd q (by decide))⟩
      · -- pc 71 no
        refine Go.on (fun _ k => XS.ifYes X21.here hx rfl (pc0 := 71) (pc' := 80) rfl (hb hby d4_71) rfl ((if0 _ _).trans (flt hc23).2.2.2) (by decide) (by decide) k) ?_
        show Go _ _ _ _ _ _ _ _ (mkF m 80 #[Sr a0, Sd d1, .second, .val (.double (FP.dsub d1 wn)), .second, Si 2] [])
        refine Go.on (fun _ k => XS.iload X21.here hx rfl (hb hby d4_80) rfl k) ?_
        refine Go.on (fun _ k => XS.aloadN X21.here hx rfl (hb hby d4_82) rfl rfl k) ?_
        show Go _ _ _ _ _ _ _ _ (mkF m 83 #[Sr a0, Sd d1, .second, .val (.double (FP.dsub d1 wn)), .second, Si 2] [(.ref a0), (.int 2)])
        obtain ⟨T28, X28, e28, st28⟩ := getF X21 hx hZ hown (host := "") (Or.inl (hw _ (List.mem_of_getElem? (i := 30) rfl))) Via.refl e21 F_first_a0 (g := (mkF m 83 #[Sr a0, Sd d1, .second, .val (.double (FP.dsub d1 wn)), .second, Si 2] [(.ref a0), (.int 2)])) rfl rfl (hb hby d4_83)
        refine Go.on st28 ?_
        show Go _ _ _ _ _ _ _ _ (mkF m 86 #[Sr a0, Sd d1, .second, .val (.double (FP.dsub d1 wn)), .second, Si 2] [(.int 1), (.int 2)])
        refine Go.on (fun _ k => XS.isub X28.here hx rfl (hb hby d4_86) rfl k) ?_
        refine Go.on (fun _ k => XS.i2dS X28.here hx rfl (hb hby d4_87) rfl rfl k) ?_
        refine Go.on (fun _ k => XS.aloadN X28.here hx rfl (hb hby d4_88) rfl rfl k) ?_
        show Go _ _ _ _ _ _ _ _ (mkF m 89 #[Sr a0, Sd d1, .second, .val (.double (FP.dsub d1 wn)), .second, Si 2] [(.ref a0), (.double (FP.i2d (1 : Int32)))])
        obtain ⟨T29, X29, e29, st29⟩ := getF X28 hx hZ hown (host := "") (Or.inl (hw _ (List.mem_of_getElem? (i := 16) rfl))) Via.refl e28 F_window_a0 (g := (mkF m 89 #[Sr a0, Sd d1, .second, .val (.double (FP.dsub d1 wn)), .second, Si 2] [(.ref a0), (.double (FP.i2d (1 : Int32)))])) rfl rfl (hb hby d4_89)
        refine Go.on st29 ?_
        show Go _ _ _ _ _ _ _ _ (mkF m 92 #[Sr a0, Sd d1, .second, .val (.double (FP.dsub d1 wn)), .second, Si 2] [(.double wn), (.double (FP.i2d (1 : Int32)))])
        refine Go.on (fun _ k => XS.ddivS X29.here hx rfl (hb hby d4_92) rfl ((own_rt _ hwn hw1 bw)) rfl k) ?_
        show Go _ _ _ _ _ _ _ _ (mkF m 93 #[Sr a0, Sd d1, .second, .val (.double (FP.dsub d1 wn)), .second, Si 2] [(.double (FP.ddiv (FP.i2d (1 : Int32)) wn))])
        refine Go.retV X29 hx Bd.returns rfl (Or.inr (Or.inr (Or.inl ⟨rfl, rfl, _, rfl⟩))) (hb hby d4_93) ?_ (by rw [hK1]; decide) (by rw [hK2]; decide)
        rw [e29, ← hQQ]
        have q_hc17 : nw.toInt - jw.toInt < t1.toInt := (own_cg zt1 zl).mp hc17
        have q_hc23 : ¬ (nw.toInt < t1.toInt) := fun q => hc23 ((own_cl zt1 zn).mpr q)
        have i0_ : inV t0 nw jw = 0 := own_in0 bn bw (Or.inl (by omega))
        have i1_ : inV t1 nw jw = 1 := own_in1 bn bw (by omega) (by omega)
        have hC : ((inV t0 nw jw) + (inV t1 nw jw)) = (1 : Int32) := by rw [i0_, i1_] <;> decide
        unfold Q_rw_rate_2
        rw [hC]
        exact ⟨_, rfl, N10, KP, E_a0, F_times_a0, F_latest_a0, F_window_a0, F_first_a0, F_end_a0, (Or.inr (Or.inl rfl)), (fun _ => by omega), (fun q => absurd q (by decide))⟩
    · -- pc 29 no
      refine Go.on (fun _ k => XS.ifNo X15.here hx rfl (hb hby d4_29) rfl ((if0 _ _).trans (flt hc17).2.2.1) k) ?_
      show Go _ _ _ _ _ _ _ _ (mkF m 32 #[Sr a0, Sd d1, .second, .val (.double (FP.dsub d1 wn)), .second, .unset] [])
      refine Go.on (fun _ k => XS.aloadN X15.here hx rfl (hb hby d4_32) rfl rfl k) ?_
      refine Go.on (fun _ k => XS.dup X15.here hx rfl (hb hby d4_33) rfl rfl k) ?_
      show Go _ _ _ _ _ _ _ _ (mkF m 34 #[Sr a0, Sd d1, .second, .val (.double (FP.dsub d1 wn)), .second, .unset] [(.ref a0), (.ref a0)])
      obtain ⟨T30, X30, e30, st30⟩ := getF X15 hx hZ hown (host := "") (Or.inl (hw _ (List.mem_of_getElem? (i := 30) rfl))) Via.refl e15 F_first_a0 (g := (mkF m 34 #[Sr a0, Sd d1, .second, .val (.double (FP.dsub d1 wn)), .second, .unset] [(.ref a0), (.ref a0)])) rfl rfl (hb hby d4_34)
      refine Go.on st30 ?_
      show Go _ _ _ _ _ _ _ _ (mkF m 37 #[Sr a0, Sd d1, .second, .val (.double (FP.dsub d1 wn)), .second, .unset] [(.int 1), (.ref a0)])
      refine Go.on (fun _ k => XS.iconst X30.here hx rfl (hb hby d4_37) k) ?_
      refine Go.on (fun _ k => XS.iadd X30.here hx rfl (hb hby d4_38) rfl k) ?_
      show Go _ _ _ _ _ _ _ _ (mkF m 39 #[Sr a0, Sd d1, .second, .val (.double (FP.dsub d1 wn)), .second, .unset] [(.int 2), (.ref a0)])
      obtain ⟨T31, h31, X31, e31, W31, st31⟩ := putF X30 hx hZ hown (host := "") (Or.inl (hw _ (List.mem_of_getElem? (i := 30) rfl))) Via.refl e30 F_first_a0 E_a0 (Or.inl (hw _ (List.mem_of_getElem? (i := 31) rfl))) (hw _ (List.mem_of_getElem? (i := 1) rfl)) (ty := .int) (by decide) rfl rfl (g := (mkF m 39 #[Sr a0, Sd d1, .second, .val (.double (FP.dsub d1 wn)), .second, .unset] [(.int 2), (.ref a0)])) rfl rfl (hb hby d4_39)
      refine Go.on st31 ?_
      replace F_first_a0 := F_first_a0.same W31
      replace E_a0 := E_a0.wr W31
      replace F_times_a0 := F_times_a0.other W31 (Or.inr (slot_ne (Or.inl (hw _ (List.mem_of_getElem? (i := 11) rfl))) (Or.inl (hw _ (List.mem_of_getElem? (i := 31) rfl))) (by decide) (t := (.array .double)) (t' := .int) (by decide) (by decide)))
      replace F_latest_a0 := F_latest_a0.other W31 (Or.inr (slot_ne (Or.inl (hw _ (List.mem_of_getElem? (i := 14) rfl))) (Or.inl (hw _ (List.mem_of_getElem? (i := 31) rfl))) (by decide) (t := .double) (t' := .int) (by decide) (by decide)))
      replace F_window_a0 := F_window_a0.other W31 (Or.inr (slot_ne (Or.inr (hw _ (List.mem_of_getElem? (i := 17) rfl))) (Or.inl (hw _ (List.mem_of_getElem? (i := 31) rfl))) (by decide) (t := .double) (t' := .int) (by decide) (by decide)))
      replace F_end_a0 := F_end_a0.other W31 (Or.inr (slot_ne (Or.inl (hw _ (List.mem_of_getElem? (i := 24) rfl))) (Or.inl (hw _ (List.mem_of_getElem? (i := 31) rfl))) (by decide) (t := .int) (t' := .int) (by decide) (by decide)))
      replace V_as := V_as.other W31 (Ne.symm ne_a0_as)
      have N31 := Fr.snoc X31 N10 g_a0
      replace ZZ := Nat.le_trans ZZ (Keep.of_wr W31).1
      replace KP := KP.wr W31 (Or.inl (List.mem_of_getElem? (i := 0) rfl))
      show Go _ _ _ _ _ _ _ _ (mkF m 42 #[Sr a0, Sd d1, .second, .val (.double (FP.dsub d1 wn)), .second, .unset] [])
      refine Go.on (fun _ k => XS.goto X31.here hx rfl (pc0 := 42) (pc' := 7) rfl (hb hby d4_42) (by decide) (by decide) k) ?_
      show Go _ _ _ _ _ _ _ _ (mkF m 7 #[Sr a0, Sd d1, .second, .val (.double (FP.dsub d1 wn)), .second, .unset] [])
      have q_ : ¬ (nw.toInt - jw.toInt < t1.toInt) := fun q => hc17 ((own_cg zt1 zl).mpr q)
      exact hL2 _ _ _ X31 e31 N31 ZZ KP E_a0 F_times_a0 F_latest_a0 F_window_a0 F_first_a0 F_end_a0 V_as dd0 (by omega)
  have hL0 : ∀ (T32 : State) (locs32 : List Loc) (h32 : Heap), Stand p l e ({ frames := 0, cells := 0, slots := 0, locals := 0 } : Room) s m #[(.ref a0), (.double d1)] below meth c T32 locs32 0 0 → T32.heap = h32 → Fr n0 locs32 → n0 ≤ h32.size → Keep h0 h32 [a0] → Exa Z h32 a0 "com/example/deliberate_scaler/deliberatescaler/model/RateWindow" → Fld Z h32 a0 "com/example/deliberate_scaler/deliberatescaler/model/RateWindow" "times" "[D" (.ref as) → Fld Z h32 a0 "com/example/deliberate_scaler/deliberatescaler/model/RateWindow" "latest" "D" (.double lt) → Fld Z h32 a0 "com/example/deliberate_scaler/deliberatescaler/model/RateWindow" "window" "D" (.double wn) → Fld Z h32 a0 "com/example/deliberate_scaler/deliberatescaler/model/RateWindow" "first" "I" (.int (0 : Int32)) → Fld Z h32 a0 "com/example/deliberate_scaler/deliberatescaler/model/RateWindow" "end" "I" (.int (2 : Int32)) → Arv Z h32 as k_as .double (64 : Int32) [(.double y0), (.double y1), (.double (0 : UInt64)), (.double (0 : UInt64)), (.double (0 : UInt64)), (.double (0 : UInt64)), (.double (0 : UInt64)), (.double (0 : UInt64)), (.double (0 : UInt64)), (.double (0 : UInt64)), (.double (0 : UInt64)), (.double (0 : UInt64)), (.double (0 : UInt64)), (.double (0 : UInt64)), (.double (0 : UInt64)), (.double (0 : UInt64)), (.double (0 : UInt64)), (.double (0 : UInt64)), (.double (0 : UInt64)), (.double (0 : UInt64)), (.double (0 : UInt64)), (.double (0 : UInt64)), (.double (0 : UInt64)), (.double (0 : UInt64)), (.double (0 : UInt64)), (.double (0 : UInt64)), (.double (0 : UInt64)), (.double (0 : UInt64)), (.double (0 : UInt64)), (.double (0 : UInt64)), (.double (0 : UInt64)), (.double (0 : UInt64)), (.double (0 : UInt64)), (.double (0 : UInt64)), (.double (0 : UInt64)), (.double (0 : UInt64)), (.double (0 : UInt64)), (.double (0 : UInt64)), (.double (0 : UInt64)), (.double (0 : UInt64)), (.double (0 : UInt64)), (.double (0 : UInt64)), (.double (0 : UInt64)), (.double (0 : UInt64)), (.double (0 : UInt64)), (.double (0 : UInt64)), (.double (0 : UInt64)), (.double (0 : UInt64)), (.double (0 : UInt64)), (.double (0 : UInt64)), (.double (0 : UInt64)), (.double (0 : UInt64)), (.double (0 : UInt64)), (.double (0 : UInt64)), (.double (0 : UInt64)), (.double (0 : UInt64)), (.double (0 : UInt64)), (.double (0 : UInt64)), (.double (0 : UInt64)), (.double (0 : UInt64)), (.double (0 : UInt64)), (.double (0 : UInt64)), (.double (0 : UInt64)), (.double (0 : UInt64))] (.double (0 : UInt64)) → Go p e below s K1 K2 QQ T32 (mkF m 7 #[Sr a0, Sd d1, .second, .val (.double (FP.dsub d1 wn)), .second, .unset] []) := by
    clear ZZ KP E_a0 F_times_a0 F_latest_a0 F_window_a0 F_first_a0 F_end_a0 V_as
    intro T32 locs32 h32 X32 e32 N32 ZZ KP E_a0 F_times_a0 F_latest_a0 F_window_a0 F_first_a0 F_end_a0 V_as 
    show Go _ _ _ _ _ _ _ _ (mkF m 7 #[Sr a0, Sd d1, .second, .val (.double (FP.dsub d1 wn)), .second, .unset] [])
    refine Go.on (fun _ k => XS.aloadN X32.here hx rfl (hb hby d4_7) rfl rfl k) ?_
    show Go _ _ _ _ _ _ _ _ (mkF m 8 #[Sr a0, Sd d1, .second, .val (.double (FP.dsub d1 wn)), .second, .unset] [(.ref a0)])
    obtain ⟨T33, X33, e33, st33⟩ := getF X32 hx hZ hown (host := "") (Or.inl (hw _ (List.mem_of_getElem? (i := 30) rfl))) Via.refl e32 F_first_a0 (g := (mkF m 8 #[Sr a0, Sd d1, .second, .val (.double (FP.dsub d1 wn)), .second, .unset] [(.ref a0)])) rfl rfl (hb hby d4_8)
    refine Go.on st33 ?_
    show Go _ _ _ _ _ _ _ _ (mkF m 11 #[Sr a0, Sd d1, .second, .val (.double (FP.dsub d1 wn)), .second, .unset] [(.int 0)])
    refine Go.on (fun _ k => XS.aloadN X33.here hx rfl (hb hby d4_11) rfl rfl k) ?_
    show Go _ _ _ _ _ _ _ _ (mkF m 12 #[Sr a0, Sd d1, .second, .val (.double (FP.dsub d1 wn)), .second, .unset] [(.ref a0), (.int 0)])
    obtain ⟨T34, X34, e34, st34⟩ := getF X33 hx hZ hown (host := "") (Or.inl (hw _ (List.mem_of_getElem? (i := 23) rfl))) Via.refl e33 F_end_a0 (g := (mkF m 12 #[Sr a0, Sd d1, .second, .val (.double (FP.dsub d1 wn)), .second, .unset] [(.ref a0), (.int 0)])) rfl rfl (hb hby d4_12)
    refine Go.on st34 ?_
    show Go _ _ _ _ _ _ _ _ (mkF m 15 #[Sr a0, Sd d1, .second, .val (.double (FP.dsub d1 wn)), .second, .unset] [(.int 2), (.int 0)])
    have hc35 : (0 : Int32) < (2 : Int32) := by decide
    refine Go.on (fun _ k => XS.icmpNo X34.here hx rfl (hb hby d4_15) rfl (tlt hc35).2.1 k) ?_
    refine Go.on (fun _ k => XS.aloadN X34.here hx rfl (hb hby d4_18) rfl rfl k) ?_
    show Go _ _ _ _ _ _ _ _ (mkF m 19 #[Sr a0, Sd d1, .second, .val (.double (FP.dsub d1 wn)), .second, .unset] [(.ref a0)])
    obtain ⟨T36, X36, e36, st36⟩ := getF X34 hx hZ hown (host := "") (Or.inl (hw _ (List.mem_of_getElem? (i := 10) rfl))) Via.refl e34 F_times_a0 (g := (mkF m 19 #[Sr a0, Sd d1, .second, .val (.double (FP.dsub d1 wn)), .second, .unset] [(.ref a0)])) rfl rfl (hb hby d4_19)
    refine Go.on st36 ?_
    show Go _ _ _ _ _ _ _ _ (mkF m 22 #[Sr a0, Sd d1, .second, .val (.double (FP.dsub d1 wn)), .second, .unset] [(.ref as)])
    refine Go.on (fun _ k => XS.aloadN X36.here hx rfl (hb hby d4_22) rfl rfl k) ?_
    show Go _ _ _ _ _ _ _ _ (mkF m 23 #[Sr a0, Sd d1, .second, .val (.double (FP.dsub d1 wn)), .second, .unset] [(.ref a0), (.ref as)])
    obtain ⟨T37, X37, e37, st37⟩ := getF X36 hx hZ hown (host := "") (Or.inl (hw _ (List.mem_of_getElem? (i := 30) rfl))) Via.refl e36 F_first_a0 (g := (mkF m 23 #[Sr a0, Sd d1, .second, .val (.double (FP.dsub d1 wn)), .second, .unset] [(.ref a0), (.ref as)])) rfl rfl (hb hby d4_23)
    refine Go.on st37 ?_
    show Go _ _ _ _ _ _ _ _ (mkF m 26 #[Sr a0, Sd d1, .second, .val (.double (FP.dsub d1 wn)), .second, .unset] [(.int 0), (.ref as)])
    obtain ⟨cl38, Ar38, -, S38, -, H38, -⟩ := id V_as
    have hin38 : ¬ ((0 : Int32) < 0 ∨ cl38.slots.size ≤ ((0 : Int32)).toNatClampNeg) := inb_of S38 ⟨by decide, by decide⟩
    refine Go.on (X37.daload hx (j := (0 : Int32)) (v := (.double y0)) (by rw [e37]; exact Ar38.1) (State.isArrayOf_alike hZ.alike Ar38.2.1) Ar38.2.2 hin38 (H38.at hin38 (rfl)) (g := (mkF m 26 #[Sr a0, Sd d1, .second, .val (.double (FP.dsub d1 wn)), .second, .unset] [(.int 0), (.ref as)])) rfl rfl (hb hby d4_26)) ?_
    show Go _ _ _ _ _ _ _ _ (mkF m 27 #[Sr a0, Sd d1, .second, .val (.double (FP.dsub d1 wn)), .second, .unset] [(.double y0)])
    refine Go.on (fun _ k => XS.dloadN X37.here hx rfl (hb hby d4_27) rfl k) ?_
    refine Go.on (fun _ k => XS.dcmpS X37.here hx rfl (hb hby d4_28) rfl rfl k) ?_
    show Go _ _ _ _ _ _ _ _ (mkF m 29 #[Sr a0, Sd d1, .second, .val (.double (FP.dsub d1 wn)), .second, .unset] [(.int (cmpValue (FP.dcmp y0 (FP.dsub d1 wn)) .g))])
    by_cases hc39 : (0 : Int32) < (cmpValue (FP.dcmp y0 (FP.dsub d1 wn)) .g)
    · -- pc 29 yes
      refine Go.on (fun _ k => XS.ifYes X37.here hx rfl (pc0 := 29) (pc' := 45) rfl (hb hby d4_29) rfl ((if0 _ _).trans (tlt hc39).2.2.1) (by decide) (by decide) k) ?_
      show Go _ _ _ _ _ _ _ _ (mkF m 45 #[Sr a0, Sd d1, .second, .val (.double (FP.dsub d1 wn)), .second, .unset] [])
      refine Go.on (fun _ k => XS.aloadN X37.here hx rfl (hb hby d4_45) rfl rfl k) ?_
      show Go _ _ _ _ _ _ _ _ (mkF m 46 #[Sr a0, Sd d1, .second, .val (.double (FP.dsub d1 wn)), .second, .unset] [(.ref a0)])
      obtain ⟨T40, X40, e40, st40⟩ := getF X37 hx hZ hown (host := "") (Or.inl (hw _ (List.mem_of_getElem? (i := 23) rfl))) Via.refl e37 F_end_a0 (g := (mkF m 46 #[Sr a0, Sd d1, .second, .val (.double (FP.dsub d1 wn)), .second, .unset] [(.ref a0)])) rfl rfl (hb hby d4_46)
      refine Go.on st40 ?_
      show Go _ _ _ _ _ _ _ _ (mkF m 49 #[Sr a0, Sd d1, .second, .val (.double (FP.dsub d1 wn)), .second, .unset] [(.int 2)])
      refine Go.on (fun _ k => XS.istore X40.here hx rfl (hb hby d4_49) rfl (l' := #[.val (.ref a0), .val (.double d1), .second, .val (.double (FP.dsub d1 wn)), .second, .val (.int (2 : Int32))]) rfl k) ?_
      show Go _ _ _ _ _ _ _ _ (mkF m 51 #[Sr a0, Sd d1, .second, .val (.double (FP.dsub d1 wn)), .second, Si 2] [])
      refine Go.on (fun _ k => XS.iload X40.here hx rfl (hb hby d4_51) rfl k) ?_
      refine Go.on (fun _ k => XS.aloadN X40.here hx rfl (hb hby d4_53) rfl rfl k) ?_
      show Go _ _ _ _ _ _ _ _ (mkF m 54 #[Sr a0, Sd d1, .second, .val (.double (FP.dsub d1 wn)), .second, Si 2] [(.ref a0), (.int 2)])
      obtain ⟨T41, X41, e41, st41⟩ := getF X40 hx hZ hown (host := "") (Or.inl (hw _ (List.mem_of_getElem? (i := 30) rfl))) Via.refl e40 F_first_a0 (g := (mkF m 54 #[Sr a0, Sd d1, .second, .val (.double (FP.dsub d1 wn)), .second, Si 2] [(.ref a0), (.int 2)])) rfl rfl (hb hby d4_54)
      refine Go.on st41 ?_
      show Go _ _ _ _ _ _ _ _ (mkF m 57 #[Sr a0, Sd d1, .second, .val (.double (FP.dsub d1 wn)), .second, Si 2] [(.int 0), (.int 2)])
      have hc42 : (0 : Int32) < (2 : Int32) := by decide
      refine Go.on (fun _ k => XS.icmpNo X41.here hx rfl (hb hby d4_57) rfl (tlt hc42).2.2.2 k) ?_
      refine Go.on (fun _ k => XS.aloadN X41.here hx rfl (hb hby d4_60) rfl rfl k) ?_
      show Go _ _ _ _ _ _ _ _ (mkF m 61 #[Sr a0, Sd d1, .second, .val (.double (FP.dsub d1 wn)), .second, Si 2] [(.ref a0)])
      obtain ⟨T43, X43, e43, st43⟩ := getF X41 hx hZ hown (host := "") (Or.inl (hw _ (List.mem_of_getElem? (i := 10) rfl))) Via.refl e41 F_times_a0 (g := (mkF m 61 #[Sr a0, Sd d1, .second, .val (.double (FP.dsub d1 wn)), .second, Si 2] [(.ref a0)])) rfl rfl (hb hby d4_61)
      refine Go.on st43 ?_
      show Go _ _ _ _ _ _ _ _ (mkF m 64 #[Sr a0, Sd d1, .second, .val (.double (FP.dsub d1 wn)), .second, Si 2] [(.ref as)])
      refine Go.on (fun _ k => XS.iload X43.here hx rfl (hb hby d4_64) rfl k) ?_
      refine Go.on (fun _ k => XS.iconst X43.here hx rfl (hb hby d4_66) k) ?_
      refine Go.on (fun _ k => XS.isub X43.here hx rfl (hb hby d4_67) rfl k) ?_
      show Go _ _ _ _ _ _ _ _ (mkF m 68 #[Sr a0, Sd d1, .second, .val (.double (FP.dsub d1 wn)), .second, Si 2] [(.int 1), (.ref as)])
      obtain ⟨cl44, Ar44, -, S44, -, H44, -⟩ := id V_as
      have hin44 : ¬ ((1 : Int32) < 0 ∨ cl44.slots.size ≤ ((1 : Int32)).toNatClampNeg) := inb_of S44 ⟨by decide, by decide⟩
      refine Go.on (X43.daload hx (j := (1 : Int32)) (v := (.double y1)) (by rw [e43]; exact Ar44.1) (State.isArrayOf_alike hZ.alike Ar44.2.1) Ar44.2.2 hin44 (H44.at hin44 (rfl)) (g := (mkF m 68 #[Sr a0, Sd d1, .second, .val (.double (FP.dsub d1 wn)), .second, Si 2] [(.int 1), (.ref as)])) rfl rfl (hb hby d4_68)) ?_
      show Go _ _ _ _ _ _ _ _ (mkF m 69 #[Sr a0, Sd d1, .second, .val (.double (FP.dsub d1 wn)), .second, Si 2] [(.double y1)])
      refine Go.on (fun _ k => XS.dloadN X43.here hx rfl (hb hby d4_69) rfl k) ?_
      refine Go.on (fun _ k => XS.dcmpS X43.here hx rfl (hb hby d4_70) rfl rfl k) ?_
      show Go _ _ _ _ _ _ _ _ (mkF m 71 #[Sr a0, Sd d1, .second, .val (.double (FP.dsub d1 wn)), .second, Si 2] [(.int (cmpValue (FP.dcmp y1 d1) .l))])
      by_cases hc45 : (0 : Int32) < (cmpValue (FP.dcmp y1 d1) .l)
      · -- pc 71 yes
        refine Go.on (fun _ k => XS.ifNo X43.here hx rfl (hb hby d4_71) rfl ((if0 _ _).trans (tlt hc45).2.2.2) k) ?_
        show Go _ _ _ _ _ _ _ _ (mkF m 74 #[Sr a0, Sd d1, .second, .val (.double (FP.dsub d1 wn)), .second, Si 2] [])
        refine Go.on (fun _ k => XS.iinc X43.here hx rfl (hb hby d4_74) rfl (l' := #[.val (.ref a0), .val (.double d1), .second, .val (.double (FP.dsub d1 wn)), .second, .val (.int (1 : Int32))]) rfl k) ?_
        show Go _ _ _ _ _ _ _ _ (mkF m 77 #[Sr a0, Sd d1, .second, .val (.double (FP.dsub d1 wn)), .second, Si 1] [])
        refine Go.on (fun _ k => XS.goto X43.here hx rfl (pc0 := 77) (pc' := 51) rfl (hb hby d4_77) (by decide) (by decide) k) ?_
        refine Go.on (fun _ k => XS.iload X43.here hx rfl (hb hby d4_51) rfl k) ?_
        refine Go.on (fun _ k => XS.aloadN X43.here hx rfl (hb hby d4_53) rfl rfl k) ?_
        show Go _ _ _ _ _ _ _ _ (mkF m 54 #[Sr a0, Sd d1, .second, .val (.double (FP.dsub d1 wn)), .second, Si 1] [(.ref a0), (.int 1)])
        obtain ⟨T46, X46, e46, st46⟩ := getF X43 hx hZ hown (host := "") (Or.inl (hw _ (List.mem_of_getElem? (i := 30) rfl))) Via.refl e43 F_first_a0 (g := (mkF m 54 #[Sr a0, Sd d1, .second, .val (.double (FP.dsub d1 wn)), .second, Si 1] [(.ref a0), (.int 1)])) rfl rfl (hb hby d4_54)
        refine Go.on st46 ?_
        show Go _ _ _ _ _ _ _ _ (mkF m 57 #[Sr a0, Sd d1, .second, .val (.double (FP.dsub d1 wn)), .second, Si 1] [(.int 0), (.int 1)])
        have hc47 : (0 : Int32) < (1 : Int32) := by decide
        refine Go.on (fun _ k => XS.icmpNo X46.here hx rfl (hb hby d4_57) rfl (tlt hc47).2.2.2 k) ?_
        refine Go.on (fun _ k => XS.aloadN X46.here hx rfl (hb hby d4_60) rfl rfl k) ?_
        show Go _ _ _ _ _ _ _ _ (mkF m 61 #[Sr a0, Sd d1, .second, .val (.double (FP.dsub d1 wn)), .second, Si 1] [(.ref a0)])
        obtain ⟨T48, X48, e48, st48⟩ := getF X46 hx hZ hown (host := "") (Or.inl (hw _ (List.mem_of_getElem? (i := 10) rfl))) Via.refl e46 F_times_a0 (g := (mkF m 61 #[Sr a0, Sd d1, .second, .val (.double (FP.dsub d1 wn)), .second, Si 1] [(.ref a0)])) rfl rfl (hb hby d4_61)
        refine Go.on st48 ?_
        show Go _ _ _ _ _ _ _ _ (mkF m 64 #[Sr a0, Sd d1, .second, .val (.double (FP.dsub d1 wn)), .second, Si 1] [(.ref as)])
        refine Go.on (fun _ k => XS.iload X48.here hx rfl (hb hby d4_64) rfl k) ?_
        refine Go.on (fun _ k => XS.iconst X48.here hx rfl (hb hby d4_66) k) ?_
        refine Go.on (fun _ k => XS.isub X48.here hx rfl (hb hby d4_67) rfl k) ?_
        show Go _ _ _ _ _ _ _ _ (mkF m 68 #[Sr a0, Sd d1, .second, .val (.double (FP.dsub d1 wn)), .second, Si 1] [(.int 0), (.ref as)])
        obtain ⟨cl49, Ar49, -, S49, -, H49, -⟩ := id V_as
        have hin49 : ¬ ((0 : Int32) < 0 ∨ cl49.slots.size ≤ ((0 : Int32)).toNatClampNeg) := inb_of S49 ⟨by decide, by decide⟩
        refine Go.on (X48.daload hx (j := (0 : Int32)) (v := (.double y0)) (by rw [e48]; exact Ar49.1) (State.isArrayOf_alike hZ.alike Ar49.2.1) Ar49.2.2 hin49 (H49.at hin49 (rfl)) (g := (mkF m 68 #[Sr a0, Sd d1, .second, .val (.double (FP.dsub d1 wn)), .second, Si 1] [(.int 0), (.ref as)])) rfl rfl (hb hby d4_68)) ?_
        show Go _ _ _ _ _ _ _ _ (mkF m 69 #[Sr a0, Sd d1, .second, .val (.double (FP.dsub d1 wn)), .second, Si 1] [(.double y0)])
        refine Go.on (fun _ k => XS.dloadN X48.here hx rfl (hb hby d4_69) rfl k) ?_
        refine Go.on (fun _ k => XS.dcmpS X48.here hx rfl (hb hby d4_70) rfl rfl k) ?_
        show Go _ _ _ _ _ _ _ _ (mkF m 71 #[Sr a0, Sd d1, .second, .val (.double (FP.dsub d1 wn)), .second, Si 1] [(.int (cmpValue (FP.dcmp y0 d1) .l))])
        by_cases hc50 : (0 : Int32) < (cmpValue (FP.dcmp y0 d1) .l)
        · -- pc 71 yes
          refine Go.on (fun _ k => XS.ifNo X48.here hx rfl (hb hby d4_71) rfl ((if0 _ _).trans (tlt hc50).2.2.2) k) ?_
          show Go _ _ _ _ _ _ _ _ (mkF m 74 #[Sr a0, Sd d1, .second, .val (.double (FP.dsub d1 wn)), .second, Si 1] [])
          refine Go.on (fun _ k => XS.iinc X48.here hx rfl (hb hby d4_74) rfl (l' := #[.val (.ref a0), .val (.double d1), .second, .val (.double (FP.dsub d1 wn)), .second, .val (.int (0 : Int32))]) rfl k) ?_
          show Go _ _ _ _ _ _ _ _ (mkF m 77 #[Sr a0, Sd d1, .second, .val (.double (FP.dsub d1 wn)), .second, Si 0] [])
          refine Go.on (fun _ k => XS.goto X48.here hx rfl (pc0 := 77) (pc' := 51) rfl (hb hby d4_77) (by decide) (by decide) k) ?_
          refine Go.on (fun _ k => XS.iload X48.here hx rfl (hb hby d4_51) rfl k) ?_
          refine Go.on (fun _ k => XS.aloadN X48.here hx rfl (hb hby d4_53) rfl rfl k) ?_
          show Go _ _ _ _ _ _ _ _ (mkF m 54 #[Sr a0, Sd d1, .second, .val (.double (FP.dsub d1 wn)), .second, Si 0] [(.ref a0), (.int 0)])
          obtain ⟨T51, X51, e51, st51⟩ := getF X48 hx hZ hown (host := "") (Or.inl (hw _ (List.mem_of_getElem? (i := 30) rfl))) Via.refl e48 F_first_a0 (g := (mkF m 54 #[Sr a0, Sd d1, .second, .val (.double (FP.dsub d1 wn)), .second, Si 0] [(.ref a0), (.int 0)])) rfl rfl (hb hby d4_54)
          refine Go.on st51 ?_
          show Go _ _ _ _ _ _ _ _ (mkF m 57 #[Sr a0, Sd d1, .second, .val (.double (FP.dsub d1 wn)), .second, Si 0] [(.int 0), (.int 0)])
          have hc52 : ¬ ((0 : Int32) < (0 : Int32)) := by decide
          refine Go.on (fun _ k => XS.icmpYes X51.here hx rfl (pc0 := 57) (pc' := 80) rfl (hb hby d4_57) rfl (flt hc52).2.2.2 (by decide) (by decide) k) ?_
          refine Go.on (fun _ k => XS.iload X51.here hx rfl (hb hby d4_80) rfl k) ?_
          refine Go.on (fun _ k => XS.aloadN X51.here hx rfl (hb hby d4_82) rfl rfl k) ?_
          show Go _ _ _ _ _ _ _ _ (mkF m 83 #[Sr a0, Sd d1, .second, .val (.double (FP.dsub d1 wn)), .second, Si 0] [(.ref a0), (.int 0)])
          obtain ⟨T53, X53, e53, st53⟩ := getF X51 hx hZ hown (host := "") (Or.inl (hw _ (List.mem_of_getElem? (i := 30) rfl))) Via.refl e51 F_first_a0 (g := (mkF m 83 #[Sr a0, Sd d1, .second, .val (.double (FP.dsub d1 wn)), .second, Si 0] [(.ref a0), (.int 0)])) rfl rfl (hb hby d4_83)
          refine Go.on st53 ?_
          show Go _ _ _ _ _ _ _ _ (mkF m 86 #[Sr a0, Sd d1, .second, .val (.double (FP.dsub d1 wn)), .second, Si 0] [(.int 0), (.int 0)])
          refine Go.on (fun _ k => XS.isub X53.here hx rfl (hb hby d4_86) rfl k) ?_
          refine Go.on (fun _ k => XS.i2dS X53.here hx rfl (hb hby d4_87) rfl rfl k) ?_
          refine Go.on (fun _ k => XS.aloadN X53.here hx rfl (hb hby d4_88) rfl rfl k) ?_
          show Go _ _ _ _ _ _ _ _ (mkF m 89 #[Sr a0, Sd d1, .second, .val (.double (FP.dsub d1 wn)), .second, Si 0] [(.ref a0), (.double (FP.i2d (0 : Int32)))])
          obtain ⟨T54, X54, e54, st54⟩ := getF X53 hx hZ hown (host := "") (Or.inl (hw _ (List.mem_of_getElem? (i := 16) rfl))) Via.refl e53 F_window_a0 (g := (mkF m 89 #[Sr a0, Sd d1, .second, .val (.double (FP.dsub d1 wn)), .second, Si 0] [(.ref a0), (.double (FP.i2d (0 : Int32)))])) rfl rfl (hb hby d4_89)
          refine Go.on st54 ?_
          show Go _ _ _ _ _ _ _ _ (mkF m 92 #[Sr a0, Sd d1, .second, .val (.double (FP.dsub d1 wn)), .second, Si 0] [(.double wn), (.double (FP.i2d (0 : Int32)))])
          refine Go.on (fun _ k => XS.ddivS X54.here hx rfl (hb hby d4_92) rfl ((own_rt _ hwn hw1 bw)) rfl k) ?_
          show Go _ _ _ _ _ _ _ _ (mkF m 93 #[Sr a0, Sd d1, .second, .val (.double (FP.dsub d1 wn)), .second, Si 0] [(.double (FP.ddiv (FP.i2d (0 : Int32)) wn))])
          refine Go.retV X54 hx Bd.returns rfl (Or.inr (Or.inr (Or.inl ⟨rfl, rfl, _, rfl⟩))) (hb hby d4_93) ?_ (by rw [hK1]; decide) (by rw [hK2]; decide)
          rw [e54, ← hQQ]
          have q_hc39 : nw.toInt - jw.toInt < t0.toInt := (own_cg zt0 zl).mp hc39
          have q_hc45 : nw.toInt < t1.toInt := (own_cl zt1 zn).mp hc45
          have q_hc50 : nw.toInt < t0.toInt := (own_cl zt0 zn).mp hc50
          have i0_ : inV t0 nw jw = 0 := own_in0 bn bw (Or.inr (by omega))
          have i1_ : inV t1 nw jw = 0 := own_in0 bn bw (Or.inr (by omega))
          have hC : ((inV t0 nw jw) + (inV t1 nw jw)) = (0 : Int32) := by rw [i0_, i1_] <;> decide
          unfold Q_rw_rate_2
          rw [hC]
          exact ⟨_, rfl, N32, KP, E_a0, F_times_a0, F_latest_a0, F_window_a0, F_first_a0, F_end_a0, (Or.inl rfl), (fun q => absurd q (by decide)), (fun q => absurd q (by decide))⟩
        · -- pc 71 no
          refine Go.on (fun _ k => XS.ifYes X48.here hx rfl (pc0 := 71) (pc' := 80) rfl (hb hby d4_71) rfl ((if0 _ _).trans (flt hc50).2.2.2) (by decide) (by decide) k) ?_
          show Go _ _ _ _ _ _ _ _ (mkF m 80 #[Sr a0, Sd d1, .second, .val (.double (FP.dsub d1 wn)), .second, Si 1] [])
          refine Go.on (fun _ k => XS.iload X48.here hx rfl (hb hby d4_80) rfl k) ?_
          refine Go.on (fun _ k => XS.aloadN X48.here hx rfl (hb hby d4_82) rfl rfl k) ?_
          show Go _ _ _ _ _ _ _ _ (mkF m 83 #[Sr a0, Sd d1, .second, .val (.double (FP.dsub d1 wn)), .second, Si 1] [(.ref a0), (.int 1)])
          obtain ⟨T55, X55, e55, st55⟩ := getF X48 hx hZ hown (host := "") (Or.inl (hw _ (List.mem_of_getElem? (i := 30) rfl))) Via.refl e48 F_first_a0 (g := (mkF m 83 #[Sr a0, Sd d1, .second, .val (.double (FP.dsub d1 wn)), .second, Si 1] [(.ref a0), (.int 1)])) rfl rfl (hb hby d4_83)
          refine Go.on st55 ?_
          show Go _ _ _ _ _ _ _ _ (mkF m 86 #[Sr a0, Sd d1, .second, .val (.double (FP.dsub d1 wn)), .second, Si 1] [(.int 0), (.int 1)])
          refine Go.on (fun _ k => XS.isub X55.here hx rfl (hb hby d4_86) rfl k) ?_
          refine Go.on (fun _ k => XS.i2dS X55.here hx rfl (hb hby d4_87) rfl rfl k) ?_
          refine Go.on (fun _ k => XS.aloadN X55.here hx rfl (hb hby d4_88) rfl rfl k) ?_
          show Go _ _ _ _ _ _ _ _ (mkF m 89 #[Sr a0, Sd d1, .second, .val (.double (FP.dsub d1 wn)), .second, Si 1] [(.ref a0), (.double (FP.i2d (1 : Int32)))])
          obtain ⟨T56, X56, e56, st56⟩ := getF X55 hx hZ hown (host := "") (Or.inl (hw _ (List.mem_of_getElem? (i := 16) rfl))) Via.refl e55 F_window_a0 (g := (mkF m 89 #[Sr a0, Sd d1, .second, .val (.double (FP.dsub d1 wn)), .second, Si 1] [(.ref a0), (.double (FP.i2d (1 : Int32)))])) rfl rfl (hb hby d4_89)
          refine Go.on st56 ?_
          show Go _ _ _ _ _ _ _ _ (mkF m 92 #[Sr a0, Sd d1, .second, .val (.double (FP.dsub d1 wn)), .second, Si 1] [(.double wn), (.double (FP.i2d (1 : Int32)))])
          refine Go.on (fun _ k => XS.ddivS X56.here hx rfl (hb hby d4_92) rfl ((own_rt _ hwn hw1 bw)) rfl k) ?_
          show Go _ _ _ _ _ _ _ _ (mkF m 93 #[Sr a0, Sd d1, .second, .val (.double (FP.dsub d1 wn)), .second, Si 1] [(.double (FP.ddiv (FP.i2d (1 : Int32)) wn))])
          refine Go.retV X56 hx Bd.returns rfl (Or.inr (Or.inr (Or.inl ⟨rfl, rfl, _, rfl⟩))) (hb hby d4_93) ?_ (by rw [hK1]; decide) (by rw [hK2]; decide)
          rw [e56, ← hQQ]
          have q_hc39 : nw.toInt - jw.toInt < t0.toInt := (own_cg zt0 zl).mp hc39
          have q_hc45 : nw.toInt < t1.toInt := (own_cl zt1 zn).mp hc45
          have q_hc50 : ¬ (nw.toInt < t0.toInt) := fun q => hc50 ((own_cl zt0 zn).mpr q)
          have i0_ : inV t0 nw jw = 1 := own_in1 bn bw (by omega) (by omega)
          have i1_ : inV t1 nw jw = 0 := own_in0 bn bw (Or.inr (by omega))
          have hC : ((inV t0 nw jw) + (inV t1 nw jw)) = (1 : Int32) := by rw [i0_, i1_] <;> decide
          unfold Q_rw_rate_2
          rw [hC]
          exact ⟨_, rfl, N32, KP, E_a0, F_times_a0, F_latest_a0, F_window_a0, F_first_a0, F_end_a0, (Or.inl rfl), (fun q => absurd q (by decide)), (fun q => absurd q (by decide))⟩
      · -- pc 71 no
        refine Go.on (fun _ k => XS.ifYes X43.here hx rfl (pc0 := 71) (pc' := 80) rfl (hb hby d4_71) rfl ((if0 _ _).trans (flt hc45).2.2.2) (by decide) (by decide) k) ?_
        show Go _ _ _ _ _ _ _ _ (mkF m 80 #[Sr a0, Sd d1, .second, .val (.double (FP.dsub d1 wn)), .second, Si 2] [])
        refine Go.on (fun _ k => XS.iload X43.here hx rfl (hb hby d4_80) rfl k) ?_
        refine Go.on (fun _ k => XS.aloadN X43.here hx rfl (hb hby d4_82) rfl rfl k) ?_
        show Go _ _ _ _ _ _ _ _ (mkF m 83 #[Sr a0, Sd d1, .second, .val (.double (FP.dsub d1 wn)), .second, Si 2] [(.ref a0), (.int 2)])
        obtain ⟨T57, X57, e57, st57⟩ := getF X43 hx hZ hown (host := "") (Or.inl (hw _ (List.mem_of_getElem? (i := 30) rfl))) Via.refl e43 F_first_a0 (g := (mkF m 83 #[Sr a0, Sd d1, .second, .val (.double (FP.dsub d1 wn)), .second, Si 2] [(.ref a0), (.int 2)])) rfl rfl (hb hby d4_83)
        refine Go.on st57 ?_
        show Go _ _ _ _ _ _ _ _ (mkF m 86 #[Sr a0, Sd d1, .second, .val (.double (FP.dsub d1 wn)), .second, Si 2] [(.int 0), (.int 2)])
        refine Go.on (fun _ k => XS.isub X57.here hx rfl (hb hby d4_86) rfl k) ?_
        refine Go.on (fun _ k => XS.i2dS X57.here hx rfl (hb hby d4_87) rfl rfl k) ?_
        refine Go.on (fun _ k => XS.aloadN X57.here hx rfl (hb hby d4_88) rfl rfl k) ?_
        show Go _ _ _ _ _ _ _ _ (mkF m 89 #[Sr a0, Sd d1, .second, .val (.double (FP.dsub d1 wn)), .second, Si 2] [(.ref a0), (.double (FP.i2d (2 : Int32)))])
        obtain ⟨T58, X58, e58, st58⟩ := getF X57 hx hZ hown (host := "") (Or.inl (hw _ (List.mem_of_getElem? (i := 16) rfl))) Via.refl e57 F_window_a0 (g := (mkF m 89 #[Sr a0, Sd d1, .second, .val (.double (FP.dsub d1 wn)), .second, Si 2] [(.ref a0), (.double (FP.i2d (2 : Int32)))])) rfl rfl (hb hby d4_89)
        refine Go.on st58 ?_
        show Go _ _ _ _ _ _ _ _ (mkF m 92 #[Sr a0, Sd d1, .second, .val (.double (FP.dsub d1 wn)), .second, Si 2] [(.double wn), (.double (FP.i2d (2 : Int32)))])
        refine Go.on (fun _ k => XS.ddivS X58.here hx rfl (hb hby d4_92) rfl ((own_rt _ hwn hw1 bw)) rfl k) ?_
        show Go _ _ _ _ _ _ _ _ (mkF m 93 #[Sr a0, Sd d1, .second, .val (.double (FP.dsub d1 wn)), .second, Si 2] [(.double (FP.ddiv (FP.i2d (2 : Int32)) wn))])
        refine Go.retV X58 hx Bd.returns rfl (Or.inr (Or.inr (Or.inl ⟨rfl, rfl, _, rfl⟩))) (hb hby d4_93) ?_ (by rw [hK1]; decide) (by rw [hK2]; decide)
        rw [e58, ← hQQ]
        have q_hc39 : nw.toInt - jw.toInt < t0.toInt := (own_cg zt0 zl).mp hc39
        have q_hc45 : ¬ (nw.toInt < t1.toInt) := fun q => hc45 ((own_cl zt1 zn).mpr q)
        have i0_ : inV t0 nw jw = 1 := own_in1 bn bw (by omega) (by omega)
        have i1_ : inV t1 nw jw = 1 := own_in1 bn bw (by omega) (by omega)
        have hC : ((inV t0 nw jw) + (inV t1 nw jw)) = (2 : Int32) := by rw [i0_, i1_] <;> decide
        unfold Q_rw_rate_2
        rw [hC]
        exact ⟨_, rfl, N32, KP, E_a0, F_times_a0, F_latest_a0, F_window_a0, F_first_a0, F_end_a0, (Or.inl rfl), (fun q => absurd q (by decide)), (fun q => absurd q (by decide))⟩
    · -- pc 29 no
      refine Go.on (fun _ k => XS.ifNo X37.here hx rfl (hb hby d4_29) rfl ((if0 _ _).trans (flt hc39).2.2.1) k) ?_
      show Go _ _ _ _ _ _ _ _ (mkF m 32 #[Sr a0, Sd d1, .second, .val (.double (FP.dsub d1 wn)), .second, .unset] [])
      refine Go.on (fun _ k => XS.aloadN X37.here hx rfl (hb hby d4_32) rfl rfl k) ?_
      refine Go.on (fun _ k => XS.dup X37.here hx rfl (hb hby d4_33) rfl rfl k) ?_
      show Go _ _ _ _ _ _ _ _ (mkF m 34 #[Sr a0, Sd d1, .second, .val (.double (FP.dsub d1 wn)), .second, .unset] [(.ref a0), (.ref a0)])
      obtain ⟨T59, X59, e59, st59⟩ := getF X37 hx hZ hown (host := "") (Or.inl (hw _ (List.mem_of_getElem? (i := 30) rfl))) Via.refl e37 F_first_a0 (g := (mkF m 34 #[Sr a0, Sd d1, .second, .val (.double (FP.dsub d1 wn)), .second, .unset] [(.ref a0), (.ref a0)])) rfl rfl (hb hby d4_34)
      refine Go.on st59 ?_
      show Go _ _ _ _ _ _ _ _ (mkF m 37 #[Sr a0, Sd d1, .second, .val (.double (FP.dsub d1 wn)), .second, .unset] [(.int 0), (.ref a0)])
      refine Go.on (fun _ k => XS.iconst X59.here hx rfl (hb hby d4_37) k) ?_
      refine Go.on (fun _ k => XS.iadd X59.here hx rfl (hb hby d4_38) rfl k) ?_
      show Go _ _ _ _ _ _ _ _ (mkF m 39 #[Sr a0, Sd d1, .second, .val (.double (FP.dsub d1 wn)), .second, .unset] [(.int 1), (.ref a0)])
      obtain ⟨T60, h60, X60, e60, W60, st60⟩ := putF X59 hx hZ hown (host := "") (Or.inl (hw _ (List.mem_of_getElem? (i := 30) rfl))) Via.refl e59 F_first_a0 E_a0 (Or.inl (hw _ (List.mem_of_getElem? (i := 31) rfl))) (hw _ (List.mem_of_getElem? (i := 1) rfl)) (ty := .int) (by decide) rfl rfl (g := (mkF m 39 #[Sr a0, Sd d1, .second, .val (.double (FP.dsub d1 wn)), .second, .unset] [(.int 1), (.ref a0)])) rfl rfl (hb hby d4_39)
      refine Go.on st60 ?_
      replace F_first_a0 := F_first_a0.same W60
      replace E_a0 := E_a0.wr W60
      replace F_times_a0 := F_times_a0.other W60 (Or.inr (slot_ne (Or.inl (hw _ (List.mem_of_getElem? (i := 11) rfl))) (Or.inl (hw _ (List.mem_of_getElem? (i := 31) rfl))) (by decide) (t := (.array .double)) (t' := .int) (by decide) (by decide)))
      replace F_latest_a0 := F_latest_a0.other W60 (Or.inr (slot_ne (Or.inl (hw _ (List.mem_of_getElem? (i := 14) rfl))) (Or.inl (hw _ (List.mem_of_getElem? (i := 31) rfl))) (by decide) (t := .double) (t' := .int) (by decide) (by decide)))
      replace F_window_a0 := F_window_a0.other W60 (Or.inr (slot_ne (Or.inr (hw _ (List.mem_of_getElem? (i := 17) rfl))) (Or.inl (hw _ (List.mem_of_getElem? (i := 31) rfl))) (by decide) (t := .double) (t' := .int) (by decide) (by decide)))
      replace F_end_a0 := F_end_a0.other W60 (Or.inr (slot_ne (Or.inl (hw _ (List.mem_of_getElem? (i := 24) rfl))) (Or.inl (hw _ (List.mem_of_getElem? (i := 31) rfl))) (by decide) (t := .int) (t' := .int) (by decide) (by decide)))
      replace V_as := V_as.other W60 (Ne.symm ne_a0_as)
      have N60 := Fr.snoc X60 N32 g_a0
      replace ZZ := Nat.le_trans ZZ (Keep.of_wr W60).1
      replace KP := KP.wr W60 (Or.inl (List.mem_of_getElem? (i := 0) rfl))
      show Go _ _ _ _ _ _ _ _ (mkF m 42 #[Sr a0, Sd d1, .second, .val (.double (FP.dsub d1 wn)), .second, .unset] [])
      refine Go.on (fun _ k => XS.goto X60.here hx rfl (pc0 := 42) (pc' := 7) rfl (hb hby d4_42) (by decide) (by decide) k) ?_
      show Go _ _ _ _ _ _ _ _ (mkF m 7 #[Sr a0, Sd d1, .second, .val (.double (FP.dsub d1 wn)), .second, .unset] [])
      have q_ : ¬ (nw.toInt - jw.toInt < t0.toInt) := fun q => hc39 ((own_cg zt0 zl).mpr q)
      exact hL1 _ _ _ X60 e60 N60 ZZ KP E_a0 F_times_a0 F_latest_a0 F_window_a0 F_first_a0 F_end_a0 V_as (by omega)
  refine Go.on (fun _ k => XS.dloadN X0.here hx rfl (hb hby d4_0) rfl k) ?_
  refine Go.on (fun _ k => XS.aloadN X0.here hx rfl (hb hby d4_1) rfl rfl k) ?_
  show Go _ _ _ _ _ _ _ _ (mkF m 2 #[Sr a0, Sd d1, .second, .unset, .unset, .unset] [(.ref a0), (.double d1)])
  obtain ⟨T61, X61, e61, st61⟩ := getF X0 hx hZ hown (host := "") (Or.inl (hw _ (List.mem_of_getElem? (i := 16) rfl))) Via.refl e0 F_window_a0 (g := (mkF m 2 #[Sr a0, Sd d1, .second, .unset, .unset, .unset] [(.ref a0), (.double d1)])) rfl rfl (hb hby d4_2)
  refine Go.on st61 ?_
  show Go _ _ _ _ _ _ _ _ (mkF m 5 #[Sr a0, Sd d1, .second, .unset, .unset, .unset] [(.double wn), (.double d1)])
  refine Go.on (fun _ k => XS.dsubS X61.here hx rfl (hb hby d4_5) rfl (zl.nn) rfl k) ?_
  show Go _ _ _ _ _ _ _ _ (mkF m 6 #[Sr a0, Sd d1, .second, .unset, .unset, .unset] [(.double (FP.dsub d1 wn))])
  refine Go.on (fun _ k => XS.dstoreN X61.here hx rfl (hb hby d4_6) rfl (l' := #[.val (.ref a0), .val (.double d1), .second, .val (.double (FP.dsub d1 wn)), .second, .unset]) rfl k) ?_
  show Go _ _ _ _ _ _ _ _ (mkF m 7 #[Sr a0, Sd d1, .second, .val (.double (FP.dsub d1 wn)), .second, .unset] [])
  rcases hf with hf | hf | hf
  · subst hf; exact hL0 _ _ _ X61 e61 N0 ZZ KP E_a0 F_times_a0 F_latest_a0 F_window_a0 F_first_a0 F_end_a0 V_as 
  · subst hf; exact hL1 _ _ _ X61 e61 N0 ZZ KP E_a0 F_times_a0 F_latest_a0 F_window_a0 F_first_a0 F_end_a0 V_as (hd0 (by decide))
  · subst hf; exact hL2 _ _ _ X61 e61 N0 ZZ KP E_a0 F_times_a0 F_latest_a0 F_window_a0 F_first_a0 F_end_a0 V_as (hd0 (by decide)) (hd1 (by decide))
theorem ef_rw_rate_3 (m : MethodId) (a0 : Addr) (d1 : UInt64) : entryFrame m #[(.ref a0), (.double d1)] 6 = mkF m 0 #[.val (.ref a0), .val (.double d1), .second, .unset, .unset, .unset] [] := by first | (simp [entryFrame, mkF, argsToLocals, Value.category]; done) | rfl
def Q_rw_rate_3 (Z : State) (a0 : Addr) (d1 : UInt64) (t0 : Int64) (t1 : Int64) (t2 : Int64) (nw : Int64) (jw : Int64) (as : Addr) (lt : UInt64) (wn : UInt64) (f0 : Int32) (k_as : ClassId) (y0 : UInt64) (y1 : UInt64) (y2 : UInt64) (h0 : Heap) (n0 : Nat) (v : Option Value) (h : Heap) (L : List Loc) : Prop := ∃ f1 : Int32, v = some (.double (FP.ddiv (FP.i2d (((inV t0 nw jw) + (inV t1 nw jw)) + (inV t2 nw jw))) wn)) ∧ Fr n0 L ∧ Keep h0 h [a0] ∧ Exa Z h a0 "com/example/deliberate_scaler/deliberatescaler/model/RateWindow" ∧ Fld Z h a0 "com/example/deliberate_scaler/deliberatescaler/model/RateWindow" "times" "[D" (.ref as) ∧ Fld Z h a0 "com/example/deliberate_scaler/deliberatescaler/model/RateWindow" "latest" "D" (.double lt) ∧ Fld Z h a0 "com/example/deliberate_scaler/deliberatescaler/model/RateWindow" "window" "D" (.double wn) ∧ Fld Z h a0 "com/example/deliberate_scaler/deliberatescaler/model/RateWindow" "first" "I" (.int f1) ∧ Fld Z h a0 "com/example/deliberate_scaler/deliberatescaler/model/RateWindow" "end" "I" (.int (3 : Int32)) ∧ (f1 = (0 : Int32) ∨ f1 = (1 : Int32) ∨ f1 = (2 : Int32) ∨ f1 = (3 : Int32)) ∧ ((0 : Int) < (f1).toInt → t0.toInt ≤ nw.toInt - jw.toInt) ∧ ((1 : Int) < (f1).toInt → t1.toInt ≤ nw.toInt - jw.toInt) ∧ ((2 : Int) < (f1).toInt → t2.toInt ≤ nw.toInt - jw.toInt)
set_option maxRecDepth 65536 in
set_option maxHeartbeats 40000000 in
theorem rw_rate_3 (l : Launch) (Z : State) (aw : Array Value) (hw : ∀ d ∈ tables_1, d.before aw Z = true) (ws : List Jvm.Cond) (a0 : Addr) (d1 : UInt64) (t0 : Int64) (t1 : Int64) (t2 : Int64) (nw : Int64) (jw : Int64) (as : Addr) (lt : UInt64) (wn : UInt64) (f0 : Int32) (k_as : ClassId) (y0 : UInt64) (y1 : UInt64) (y2 : UInt64) (h0 : Heap) (n0 : Nat) (Z0 : n0 ≤ h0.size) (E_a0 : Exa Z h0 a0 "com/example/deliberate_scaler/deliberatescaler/model/RateWindow") (F_times_a0 : Fld Z h0 a0 "com/example/deliberate_scaler/deliberatescaler/model/RateWindow" "times" "[D" (.ref as)) (F_latest_a0 : Fld Z h0 a0 "com/example/deliberate_scaler/deliberatescaler/model/RateWindow" "latest" "D" (.double lt)) (F_window_a0 : Fld Z h0 a0 "com/example/deliberate_scaler/deliberatescaler/model/RateWindow" "window" "D" (.double wn)) (F_first_a0 : Fld Z h0 a0 "com/example/deliberate_scaler/deliberatescaler/model/RateWindow" "first" "I" (.int f0)) (F_end_a0 : Fld Z h0 a0 "com/example/deliberate_scaler/deliberatescaler/model/RateWindow" "end" "I" (.int (3 : Int32))) (V_as : Arv Z h0 as k_as .double (64 : Int32) [(.double y0), (.double y1), (.double y2), (.double (0 : UInt64)), (.double (0 : UInt64)), (.double (0 : UInt64)), (.double (0 : UInt64)), (.double (0 : UInt64)), (.double (0 : UInt64)), (.double (0 : UInt64)), (.double (0 : UInt64)), (.double (0 : UInt64)), (.double (0 : UInt64)), (.double (0 : UInt64)), (.double (0 : UInt64)), (.double (0 : UInt64)), (.double (0 : UInt64)), (.double (0 : UInt64)), (.double (0 : UInt64)), (.double (0 : UInt64)), (.double (0 : UInt64)), (.double (0 : UInt64)), (.double (0 : UInt64)), (.double (0 : UInt64)), (.double (0 : UInt64)), (.double (0 : UInt64)), (.double (0 : UInt64)), (.double (0 : UInt64)), (.double (0 : UInt64)), (.double (0 : UInt64)), (.double (0 : UInt64)), (.double (0 : UInt64)), (.double (0 : UInt64)), (.double (0 : UInt64)), (.double (0 : UInt64)), (.double (0 : UInt64)), (.double (0 : UInt64)), (.double (0 : UInt64)), (.double (0 : UInt64)), (.double (0 : UInt64)), (.double (0 : UInt64)), (.double (0 : UInt64)), (.double (0 : UInt64)), (.double (0 : UInt64)), (.double (0 : UInt64)), (.double (0 : UInt64)), (.double (0 : UInt64)), (.double (0 : UInt64)), (.double (0 : UInt64)), (.double (0 : UInt64)), (.double (0 : UInt64)), (.double (0 : UInt64)), (.double (0 : UInt64)), (.double (0 : UInt64)), (.double (0 : UInt64)), (.double (0 : UInt64)), (.double (0 : UInt64)), (.double (0 : UInt64)), (.double (0 : UInt64)), (.double (0 : UInt64)), (.double (0 : UInt64)), (.double (0 : UInt64)), (.double (0 : UInt64)), (.double (0 : UInt64))] (.double (0 : UInt64))) (g_a0 : n0 ≤ a0) (ne_a0_as : a0 ≠ as) (hnw : d1 = FP.l2d nw) (hwn : wn = FP.l2d jw) (bn : Tb nw) (bw : Tb jw) (hw1 : 1 ≤ jw.toInt) (hx0 : y0 = FP.l2d t0) (hx1 : y1 = FP.l2d t1) (hx2 : y2 = FP.l2d t2) (b0 : Tb t0) (b1 : Tb t1) (b2 : Tb t2) (s0 : t0.toInt ≤ t1.toInt) (s1 : t1.toInt ≤ t2.toInt) (hf : f0 = (0 : Int32) ∨ f0 = (1 : Int32) ∨ f0 = (2 : Int32) ∨ f0 = (3 : Int32)) (hd0 : ((0 : Int) < (f0).toInt → t0.toInt ≤ nw.toInt - jw.toInt)) (hd1 : ((1 : Int) < (f0).toInt → t1.toInt ≤ nw.toInt - jw.toInt)) (hd2 : ((2 : Int) < (f0).toInt → t2.toInt ≤ nw.toInt - jw.toInt)) :
    MetFree l (⟨"com/example/deliberate_scaler/deliberatescaler/model/RateWindow", "rate", "(D)D"⟩ : MethodName) (head1 (Jvm.Cond.code (⟨"com/example/deliberate_scaler/deliberatescaler/model/RateWindow", "rate", "(D)D"⟩ : MethodName) prog_30_method_3_code 6 (some .double) :: ws) ({ frames := 0, cells := 0, slots := 0, locals := 0 } : Room)) (fun a U => a = #[(.ref a0), (.double d1)] ∧ Z.Warmed39 U.vm ∧ U.heap = h0) (fun _ _ _ _ _ => True) (fun _ U o U' => ∃ v L, o = .returned v ∧ Q_rw_rate_3 Z a0 d1 t0 t1 t2 nw jw as lt wn f0 k_as y0 y1 y2 h0 n0 v U'.heap L ∧ FrameEnd U o U' L ({ frames := 0, cells := 0, slots := 0, locals := 0 } : Room).cells ({ frames := 0, cells := 0, slots := 0, locals := 0 } : Room).slots) := by
  refine MetFree.of_bodySF (plainFor_of_name pn_0) hisR ?_
  intro p e s m args below meth c s₁ Bd hml0 hP hK
  obtain ⟨rfl, hZ, hh⟩ := hP
  have hx := Bd.exec
  have hby := Bd.bytes
  have hml : c.maxLocals = 6 := hml0
  have hown : s.vm.findClass "com/example/deliberate_scaler/deliberatescaler/model/RateWindow" = some m.cls := findClass_of_methodNamed Bd.named
  have hnm := (name_of_methodNamed Bd.named Bd.method).1
  have hlk : meth.locks = false := BodyLoose.notSynchronized Bd
  have X0 : Stand p l e ({ frames := 0, cells := 0, slots := 0, locals := 0 } : Room) s m #[(.ref a0), (.double d1)] below meth c s₁ [] 0 0 := Stand.of_body Bd
  have e0 : s₁.heap = h0 := by rw [← hh, Bd.state]; rfl
  have N0 := Fr.nil n0
  have ZZ := Z0
  show Go p e below s ({ frames := 0, cells := 0, slots := 0, locals := 0 } : Room).cells ({ frames := 0, cells := 0, slots := 0, locals := 0 } : Room).slots (fun v h L => Q_rw_rate_3 Z a0 d1 t0 t1 t2 nw jw as lt wn f0 k_as y0 y1 y2 h0 n0 v h L) s₁ (entryFrame m #[(.ref a0), (.double d1)] 6)
  refine Go.cast (ef_rw_rate_3 m a0 d1) ?_
  refine Go.gen ?_
  intro K1 K2 QQ hK1 hK2 hQQ
  have KP : Keep h0 h0 [a0] := Keep.refl _ _
  have zl := own_lo bn bw hnw hwn
  have zn := own_bl bn hnw
  have zt0 := own_bl b0 hx0
  have zt1 := own_bl b1 hx1
  have zt2 := own_bl b2 hx2
  have hL3 : ∀ (T1 : State) (locs1 : List Loc) (h1 : Heap), Stand p l e ({ frames := 0, cells := 0, slots := 0, locals := 0 } : Room) s m #[(.ref a0), (.double d1)] below meth c T1 locs1 0 0 → T1.heap = h1 → Fr n0 locs1 → n0 ≤ h1.size → Keep h0 h1 [a0] → Exa Z h1 a0 "com/example/deliberate_scaler/deliberatescaler/model/RateWindow" → Fld Z h1 a0 "com/example/deliberate_scaler/deliberatescaler/model/RateWindow" "times" "[D" (.ref as) → Fld Z h1 a0 "com/example/deliberate_scaler/deliberatescaler/model/RateWindow" "latest" "D" (.double lt) → Fld Z h1 a0 "com/example/deliberate_scaler/deliberatescaler/model/RateWindow" "window" "D" (.double wn) → Fld Z h1 a0 "com/example/deliberate_scaler/deliberatescaler/model/RateWindow" "first" "I" (.int (3 : Int32)) → Fld Z h1 a0 "com/example/deliberate_scaler/deliberatescaler/model/RateWindow" "end" "I" (.int (3 : Int32)) → Arv Z h1 as k_as .double (64 : Int32) [(.double y0), (.double y1), (.double y2), (.double (0 : UInt64)), (.double (0 : UInt64)), (.double (0 : UInt64)), (.double (0 : UInt64)), (.double (0 : UInt64)), (.double (0 : UInt64)), (.double (0 : UInt64)), (.double (0 : UInt64)), (.double (0 : UInt64)), (.double (0 : UInt64)), (.double (0 : UInt64)), (.double (0 : UInt64)), (.double (0 : UInt64)), (.double (0 : UInt64)), (.double (0 : UInt64)), (.double (0 : UInt64)), (.double (0 : UInt64)), (.double (0 : UInt64)), (.double (0 : UInt64)), (.double (0 : UInt64)), (.double (0 : UInt64)), (.double (0 : UInt64)), (.double (0 : UInt64)), (.double (0 : UInt64)), (.double (0 : UInt64)), (.double (0 : UInt64)), (.double (0 : UInt64)), (.double (0 : UInt64)), (.double (0 : UInt64)), (.double (0 : UInt64)), (.double (0 : UInt64)), (.double (0 : UInt64)), (.double (0 : UInt64)), (.double (0 : UInt64)), (.double (0 : UInt64)), (.double (0 : UInt64)), (.double (0 : UInt64)), (.double (0 : UInt64)), (.double (0 : UInt64)), (.double (0 : UInt64)), (.double (0 : UInt64)), (.double (0 : UInt64)), (.double (0 : UInt64)), (.double (0 : UInt64)), (.double (0 : UInt64)), (.double (0 : UInt64)), (.double (0 : UInt64)), (.double (0 : UInt64)), (.double (0 : UInt64)), (.double (0 : UInt64)), (.double (0 : UInt64)), (.double (0 : UInt64)), (.double (0 : UInt64)), (.double (0 : UInt64)), (.double (0 : UInt64)), (.double (0 : UInt64)), (.double (0 : UInt64)), (.double (0 : UInt64)), (.double (0 : UInt64)), (.double (0 : UInt64)), (.double (0 : UInt64))] (.double (0 : UInt64)) → t0.toInt ≤ nw.toInt - jw.toInt → t1.toInt ≤ nw.toInt - jw.toInt → t2.toInt ≤ nw.toInt - jw.toInt → Go p e below s K1 K2 QQ T1 (mkF m 7 #[Sr a0, Sd d1, .second, .val (.double (FP.dsub d1 wn)), .second, .unset] []) := by
    clear ZZ KP E_a0 F_times_a0 F_latest_a0 F_window_a0 F_first_a0 F_end_a0 V_as
    intro T1 locs1 h1 X1 e1 N1 ZZ KP E_a0 F_times_a0 F_latest_a0 F_window_a0 F_first_a0 F_end_a0 V_as dd0 dd1 dd2
    show Go _ _ _ _ _ _ _ _ (mkF m 7 #[Sr a0, Sd d1, .second, .val (.double (FP.dsub d1 wn)), .second, .unset] [])
    refine Go.on (fun _ k => XS.aloadN X1.here hx rfl (hb hby d4_7) rfl rfl k) ?_
    show Go _ _ _ _ _ _ _ _ (mkF m 8 #[Sr a0, Sd d1, .second, .val (.double (FP.dsub d1 wn)), .second, .unset] [(.ref a0)])
    obtain ⟨T2, X2, e2, st2⟩ := getF X1 hx hZ hown (host := "") (Or.inl (hw _ (List.mem_of_getElem? (i := 30) rfl))) Via.refl e1 F_first_a0 (g := (mkF m 8 #[Sr a0, Sd d1, .second, .val (.double (FP.dsub d1 wn)), .second, .unset] [(.ref a0)])) rfl rfl (hb hby d4_8)
    refine Go.on st2 ?_
    show Go _ _ _ _ _ _ _ _ (mkF m 11 #[Sr a0, Sd d1, .second, .val (.double (FP.dsub d1 wn)), .second, .unset] [(.int 3)])
    refine Go.on (fun _ k => XS.aloadN X2.here hx rfl (hb hby d4_11) rfl rfl k) ?_
    show Go _ _ _ _ _ _ _ _ (mkF m 12 #[Sr a0, Sd d1, .second, .val (.double (FP.dsub d1 wn)), .second, .unset] [(.ref a0), (.int 3)])
    obtain ⟨T3, X3, e3, st3⟩ := getF X2 hx hZ hown (host := "") (Or.inl (hw _ (List.mem_of_getElem? (i := 23) rfl))) Via.refl e2 F_end_a0 (g := (mkF m 12 #[Sr a0, Sd d1, .second, .val (.double (FP.dsub d1 wn)), .second, .unset] [(.ref a0), (.int 3)])) rfl rfl (hb hby d4_12)
    refine Go.on st3 ?_
    show Go _ _ _ _ _ _ _ _ (mkF m 15 #[Sr a0, Sd d1, .second, .val (.double (FP.dsub d1 wn)), .second, .unset] [(.int 3), (.int 3)])
    have hc4 : ¬ ((3 : Int32) < (3 : Int32)) := by decide
    refine Go.on (fun _ k => XS.icmpYes X3.here hx rfl (pc0 := 15) (pc' := 45) rfl (hb hby d4_15) rfl (flt hc4).2.1 (by decide) (by decide) k) ?_
    refine Go.on (fun _ k => XS.aloadN X3.here hx rfl (hb hby d4_45) rfl rfl k) ?_
    show Go _ _ _ _ _ _ _ _ (mkF m 46 #[Sr a0, Sd d1, .second, .val (.double (FP.dsub d1 wn)), .second, .unset] [(.ref a0)])
    obtain ⟨T5, X5, e5, st5⟩ := getF X3 hx hZ hown (host := "") (Or.inl (hw _ (List.mem_of_getElem? (i := 23) rfl))) Via.refl e3 F_end_a0 (g := (mkF m 46 #[Sr a0, Sd d1, .second, .val (.double (FP.dsub d1 wn)), .second, .unset] [(.ref a0)])) rfl rfl (hb hby d4_46)
    refine Go.on st5 ?_
    show Go _ _ _ _ _ _ _ _ (mkF m 49 #[Sr a0, Sd d1, .second, .val (.double (FP.dsub d1 wn)), .second, .unset] [(.int 3)])
    refine Go.on (fun _ k => XS.istore X5.here hx rfl (hb hby d4_49) rfl (l' := #[.val (.ref a0), .val (.double d1), .second, .val (.double (FP.dsub d1 wn)), .second, .val (.int (3 : Int32))]) rfl k) ?_
    show Go _ _ _ _ _ _ _ _ (mkF m 51 #[Sr a0, Sd d1, .second, .val (.double (FP.dsub d1 wn)), .second, Si 3] [])
    refine Go.on (fun _ k => XS.iload X5.here hx rfl (hb hby d4_51) rfl k) ?_
    refine Go.on (fun _ k => XS.aloadN X5.here hx rfl (hb hby d4_53) rfl rfl k) ?_
    show Go _ _ _ _ _ _ _ _ (mkF m 54 #[Sr a0, Sd d1, .second, .val (.double (FP.dsub d1 wn)), .second, Si 3] [(.ref a0), (.int 3)])
    obtain ⟨T6, X6, e6, st6⟩ := getF X5 hx hZ hown (host := "") (Or.inl (hw _ (List.mem_of_getElem? (i := 30) rfl))) Via.refl e5 F_first_a0 (g := (mkF m 54 #[Sr a0, Sd d1, .second, .val (.double (FP.dsub d1 wn)), .second, Si 3] [(.ref a0), (.int 3)])) rfl rfl (hb hby d4_54)
    refine Go.on st6 ?_
    show Go _ _ _ _ _ _ _ _ (mkF m 57 #[Sr a0, Sd d1, .second, .val (.double (FP.dsub d1 wn)), .second, Si 3] [(.int 3), (.int 3)])
    have hc7 : ¬ ((3 : Int32) < (3 : Int32)) := by decide
    refine Go.on (fun _ k => XS.icmpYes X6.here hx rfl (pc0 := 57) (pc' := 80) rfl (hb hby d4_57) rfl (flt hc7).2.2.2 (by decide) (by decide) k) ?_
    refine Go.on (fun _ k => XS.iload X6.here hx rfl (hb hby d4_80) rfl k) ?_
    refine Go.on (fun _ k => XS.aloadN X6.here hx rfl (hb hby d4_82) rfl rfl k) ?_
    show Go _ _ _ _ _ _ _ _ (mkF m 83 #[Sr a0, Sd d1, .second, .val (.double (FP.dsub d1 wn)), .second, Si 3] [(.ref a0), (.int 3)])
    obtain ⟨T8, X8, e8, st8⟩ := getF X6 hx hZ hown (host := "") (Or.inl (hw _ (List.mem_of_getElem? (i := 30) rfl))) Via.refl e6 F_first_a0 (g := (mkF m 83 #[Sr a0, Sd d1, .second, .val (.double (FP.dsub d1 wn)), .second, Si 3] [(.ref a0), (.int 3)])) rfl rfl (hb hby d4_83)
    refine Go.on st8 ?_
    show Go _ _ _ _ _ _ _ _ (mkF m 86 #[Sr a0, Sd d1, .second, .val (.double (FP.dsub d1 wn)), .second, Si 3] [(.int 3), (.int 3)])
    refine Go.on (fun _ k => XS.isub X8.here hx rfl (hb hby d4_86) rfl k) ?_
    refine Go.on (fun _ k => XS.i2dS X8.here hx rfl (hb hby d4_87) rfl rfl k) ?_
    refine Go.on (fun _ k => XS.aloadN X8.here hx rfl (hb hby d4_88) rfl rfl k) ?_
    show Go _ _ _ _ _ _ _ _ (mkF m 89 #[Sr a0, Sd d1, .second, .val (.double (FP.dsub d1 wn)), .second, Si 3] [(.ref a0), (.double (FP.i2d (0 : Int32)))])
    obtain ⟨T9, X9, e9, st9⟩ := getF X8 hx hZ hown (host := "") (Or.inl (hw _ (List.mem_of_getElem? (i := 16) rfl))) Via.refl e8 F_window_a0 (g := (mkF m 89 #[Sr a0, Sd d1, .second, .val (.double (FP.dsub d1 wn)), .second, Si 3] [(.ref a0), (.double (FP.i2d (0 : Int32)))])) rfl rfl (hb hby d4_89)
    refine Go.on st9 ?_
    show Go _ _ _ _ _ _ _ _ (mkF m 92 #[Sr a0, Sd d1, .second, .val (.double (FP.dsub d1 wn)), .second, Si 3] [(.double wn), (.double (FP.i2d (0 : Int32)))])
    refine Go.on (fun _ k => XS.ddivS X9.here hx rfl (hb hby d4_92) rfl ((own_rt _ hwn hw1 bw)) rfl k) ?_
    show Go _ _ _ _ _ _ _ _ (mkF m 93 #[Sr a0, Sd d1, .second, .val (.double (FP.dsub d1 wn)), .second, Si 3] [(.double (FP.ddiv (FP.i2d (0 : Int32)) wn))])
    refine Go.retV X9 hx Bd.returns rfl (Or.inr (Or.inr (Or.inl ⟨rfl, rfl, _, rfl⟩))) (hb hby d4_93) ?_ (by rw [hK1]; decide) (by rw [hK2]; decide)
    rw [e9, ← hQQ]
    have i0_ : inV t0 nw jw = 0 := own_in0 bn bw (Or.inl (by omega))
    have i1_ : inV t1 nw jw = 0 := own_in0 bn bw (Or.inl (by omega))
    have i2_ : inV t2 nw jw = 0 := own_in0 bn bw (Or.inl (by omega))
    have hC : (((inV t0 nw jw) + (inV t1 nw jw)) + (inV t2 nw jw)) = (0 : Int32) := by rw [i0_, i1_, i2_] <;> decide
    unfold Q_rw_rate_3
    rw [hC]
    exact ⟨_, rfl, N1, KP, E_a0, F_times_a0, F_latest_a0, F_window_a0, F_first_a0, F_end_a0, (Or.inr (Or.inr (Or.inr rfl))), (fun _ => by omega), (fun _ => by omega), (fun _ => by omega)⟩
  have hL2 : ∀ (T10 : State) (locs10 : List Loc) (h10 : Heap), Stand p l e ({ frames := 0, cells := 0, slots := 0, locals := 0 } : Room) s m #[(.ref a0), (.double d1)] below meth c T10 locs10 0 0 → T10.heap = h10 → Fr n0 locs10 → n0 ≤ h10.size → Keep h0 h10 [a0] → Exa Z h10 a0 "com/example/deliberate_scaler/deliberatescaler/model/RateWindow" → Fld Z h10 a0 "com/example/deliberate_scaler/deliberatescaler/model/RateWindow" "times" "[D" (.ref as) → Fld Z h10 a0 "com/example/deliberate_scaler/deliberatescaler/model/RateWindow" "latest" "D" (.double lt) → Fld Z h10 a0 "com/example/deliberate_scaler/deliberatescaler/model/RateWindow" "window" "D" (.double wn) → Fld Z h10 a0 "com/example/deliberate_scaler/deliberatescaler/model/RateWindow" "first" "I" (.int (2 : Int32)) → Fld Z h10 a0 "com/example/deliberate_scaler/deliberatescaler/model/RateWindow" "end" "I" (.int (3 : Int32)) → Arv Z h10 as k_as .double (64 : Int32) [(.double y0), (.double y1), (.double y2), (.double (0 : UInt64)), (.double (0 : UInt64)), (.double (0 : UInt64)), (.double (0 : UInt64)), (.double (0 : UInt64)), (.double (0 : UInt64)), (.double (0 : UInt64)), (.double (0 : UInt64)), (.double (0 : UInt64)), (.double (0 : UInt64)), (.double (0 : UInt64)), (.double (0 : UInt64)), (.double (0 : UInt64)), (.double (0 : UInt64)), (.double (0 : UInt64)), (.double (0 : UInt64)), (.double (0 : UInt64)), (.double (0 : UInt64)), (.double (0 : UInt64)), (.double (0 : UInt64)), (.double (0 : UInt64)), (.double (0 : UInt64)), (.double (0 : UInt64)), (.double (0 : UInt64)), (.double (0 : UInt64)), (.double (0 : UInt64)), (.double (0 : UInt64)), (.double (0 : UInt64)), (.double (0 : UInt64)), (.double (0 : UInt64)), (.double (0 : UInt64)), (.double (0 : UInt64)), (.double (0 : UInt64)), (.double (0 : UInt64)), (.double (0 : UInt64)), (.double (0 : UInt64)), (.double (0 : UInt64)), (.double (0 : UInt64)), (.double (0 : UInt64)), (.double (0 : UInt64)), (.double (0 : UInt64)), (.double (0 : UInt64)), (.double (0 : UInt64)), (.double (0 : UInt64)), (.double (0 : UInt64)), (.double (0 : UInt64)), (.double (0 : UInt64)), (.double (0 : UInt64)), (.double (0 : UInt64)), (.double (0 : UInt64)), (.double (0 : UInt64)), (.double (0 : UInt64)), (.double (0 : UInt64)), (.double (0 : UInt64)), (.double (0 : UInt64)), (.double (0 : UInt64)), (.double (0 : UInt64)), (.double (0 : UInt64)), (.double (0 : UInt64)), (.double (0 : UInt64)), (.double (0 : UInt64))] (.double (0 : UInt64)) → t0.toInt ≤ nw.toInt - jw.toInt → t1.toInt ≤ nw.toInt - jw.toInt → Go p e below s K1 K2 QQ T10 (mkF m 7 #[Sr a0, Sd d1, .second, .val (.double (FP.dsub d1 wn)), .second, .unset] []) := by
    clear ZZ KP E_a0 F_times_a0 F_latest_a0 F_window_a0 F_first_a0 F_end_a0 V_as
    intro T10 locs10 h10 X10 e10 N10 ZZ KP E_a0 F_times_a0 F_latest_a0 F_window_a0 F_first_a0 F_end_a0 V_as dd0 dd1
    show Go _ _ _ _ _ _ _ _ (mkF m 7 #[Sr a0, Sd d1, .second, .val (.double (FP.dsub d1 wn)), .second, .unset] [])
    refine Go.on (fun _ k => XS.aloadN X10.here hx rfl (hb hby d4_7) rfl rfl k) ?_
    show Go _ _ _ _ _ _ _ _ (mkF m 8 #[Sr a0, Sd d1, .second, .val (.double (FP.dsub d1 wn)), .second, .unset] [(.ref a0)])
    obtain ⟨T11, X11, e11, st11⟩ := getF X10 hx hZ hown (host := "") (Or.inl (hw _ (List.mem_of_getElem? (i := 30) rfl))) Via.refl e10 F_first_a0 (g := (mkF m 8 #[Sr a0, Sd d1, .second, .val (.double (FP.dsub d1 wn)), .second, .unset] [(.ref a0)])) rfl rfl (hb hby d4_8)
    refine Go.on st11 ?_
    show Go _ _ _ _ _ _ _ _ (mkF m 11 #[Sr a0, Sd d1, .second, .val (.double (FP.dsub d1 wn)), .second, .unset] [(.int 2)])
    refine Go.on (fun _ k => XS.aloadN X11.here hx rfl (hb hby d4_11) rfl rfl k) ?_
    show Go _ _ _ _ _ _ _ _ (mkF m 12 #[Sr a0, Sd d1, .second, .val (.double (FP.dsub d1 wn)), .second, .unset] [(.ref a0), (.int 2)])
    obtain ⟨T12, X12, e12, st12⟩ := getF X11 hx hZ hown (host := "") (Or.inl (hw _ (List.mem_of_getElem? (i := 23) rfl))) Via.refl e11 F_end_a0 (g := (mkF m 12 #[Sr a0, Sd d1, .second, .val (.double (FP.dsub d1 wn)), .second, .unset] [(.ref a0), (.int 2)])) rfl rfl (hb hby d4_12)
    refine Go.on st12 ?_
    show Go _ _ _ _ _ _ _ _ (mkF m 15 #[Sr a0, Sd d1, .second, .val (.double (FP.dsub d1 wn)), .second, .unset] [(.int 3), (.int 2)])
    have hc13 : (2 : Int32) < (3 : Int32) := by decide
    refine Go.on (fun _ k => XS.icmpNo X12.here hx rfl (hb hby d4_15) rfl (tlt hc13).2.1 k) ?_
    refine Go.on (fun _ k => XS.aloadN X12.here hx rfl (hb hby d4_18) rfl rfl k) ?_
    show Go _ _ _ _ _ _ _ _ (mkF m 19 #[Sr a0, Sd d1, .second, .val (.double (FP.dsub d1 wn)), .second, .unset] [(.ref a0)])
    obtain ⟨T14, X14, e14, st14⟩ := getF X12 hx hZ hown (host := "") (Or.inl (hw _ (List.mem_of_getElem? (i := 10) rfl))) Via.refl e12 F_times_a0 (g := (mkF m 19 #[Sr a0, Sd d1, .second, .val (.double (FP.dsub d1 wn)), .second, .unset] [(.ref a0)])) rfl rfl (hb hby d4_19)
    refine Go.on st14 ?_
    show Go _ _ _ _ _ _ _ _ (mkF m 22 #[Sr a0, Sd d1, .second, .val (.double (FP.dsub d1 wn)), .second, .unset] [(.ref as)])
    refine Go.on (fun _ k => XS.aloadN X14.here hx rfl (hb hby d4_22) rfl rfl k) ?_
    show Go _ _ _ _ _ _ _ _ (mkF m 23 #[Sr a0, Sd d1, .second, .val (.double (FP.dsub d1 wn)), .second, .unset] [(.ref a0), (.ref as)])
    obtain ⟨T15, X15, e15, st15⟩ := getF X14 hx hZ hown (host := "") (Or.inl (hw _ (List.mem_of_getElem? (i := 30) rfl))) Via.refl e14 F_first_a0 (g := (mkF m 23 #[Sr a0, Sd d1, .second, .val (.double (FP.dsub d1 wn)), .second, .unset] [(.ref a0), (.ref as)])) rfl rfl (hb hby d4_23)
    refine Go.on st15 ?_
    show Go _ _ _ _ _ _ _ _ (mkF m 26 #[Sr a0, Sd d1, .second, .val (.double (FP.dsub d1 wn)), .second, .unset] [(.int 2), (.ref as)])
    obtain ⟨cl16, Ar16, -, S16, -, H16, -⟩ := id V_as
    have hin16 : ¬ ((2 : Int32) < 0 ∨ cl16.slots.size ≤ ((2 : Int32)).toNatClampNeg) := inb_of S16 ⟨by decide, by decide⟩
    refine Go.on (X15.daload hx (j := (2 : Int32)) (v := (.double y2)) (by rw [e15]; exact Ar16.1) (State.isArrayOf_alike hZ.alike Ar16.2.1) Ar16.2.2 hin16 (H16.at hin16 (rfl)) (g := (mkF m 26 #[Sr a0, Sd d1, .second, .val (.double (FP.dsub d1 wn)), .second, .unset] [(.int 2), (.ref as)])) rfl rfl (hb hby d4_26)) ?_
    show Go _ _ _ _ _ _ _ _ (mkF m 27 #[Sr a0, Sd d1, .second, .val (.double (FP.dsub d1 wn)), .second, .unset] [(.double y2)])
    refine Go.on (fun _ k => XS.dloadN X15.here hx rfl (hb hby d4_27) rfl k) ?_
    refine Go.on (fun _ k => XS.dcmpS X15.here hx rfl (hb hby d4_28) rfl rfl k) ?_
    show Go _ _ _ _ _ _ _ _ (mkF m 29 #[Sr a0, Sd d1, .second, .val (.double (FP.dsub d1 wn)), .second, .unset] [(.int (cmpValue (FP.dcmp y2 (FP.dsub d1 wn)) .g))])
    by_cases hc17 : (0 : Int32) < (cmpValue (FP.dcmp y2 (FP.dsub d1 wn)) .g)
    · -- pc 29 yes
      refine Go.on (fun _ k => XS.ifYes X15.here hx rfl (pc0 := 29) (pc' := 45) rfl (hb hby d4_29) rfl ((if0 _ _).trans (tlt hc17).2.2.1) (by decide) (by decide) k) ?_
      show Go _ _ _ _ _ _ _ _ (mkF m 45 #[Sr a0, Sd d1, .second, .val (.double (FP.dsub d1 wn)), .second, .unset] [])
      refine Go.on (fun _ k => XS.aloadN X15.here hx rfl (hb hby d4_45) rfl rfl k) ?_
      show Go _ _ _ _ _ _ _ _ (mkF m 46 #[Sr a0, Sd d1, .second, .val (.double (FP.dsub d1 wn)), .second, .unset] [(.ref a0)])
      obtain ⟨T18, X18, e18, st18⟩ := getF X15 hx hZ hown (host := "") (Or.inl (hw _ (List.mem_of_getElem? (i := 23) rfl))) Via.refl e15 F_end_a0 (g := (mkF m 46 #[Sr a0, Sd d1, .second, .val (.double (FP.dsub d1 wn)), .second, .unset] [(.ref a0)])) rfl rfl (hb hby d4_46)
      refine Go.on st18 ?_
      show Go _ _ _ _ _ _ _ _ (mkF m 49 #[Sr a0, Sd d1, .second, .val (.double (FP.dsub d1 wn)), .second, .unset] [(.int 3)])
      refine Go.on (fun _ k => XS.istore X18.here hx rfl (hb hby d4_49) rfl (l' := #[.val (.ref a0), .val (.double d1), .second, .val (.double (FP.dsub d1 wn)), .second, .val (.int (3 : Int32))]) rfl k) ?_
      show Go _ _ _ _ _ _ _ _ (mkF m 51 #[Sr a0, Sd d1, .second, .val (.double (FP.dsub d1 wn)), .second, Si 3] [])
      refine Go.on (fun _ k => XS.iload X18.here hx rfl (hb hby d4_51) rfl k) ?_
      refine Go.on (fun _ k => XS.aloadN X18.here hx rfl (hb hby d4_53) rfl rfl k) ?_
      show Go _ _ _ _ _ _ _ _ (mkF m 54 #[Sr a0, Sd d1, .second, .val (.double (FP.dsub d1 wn)), .second, Si 3] [(.ref a0), (.int 3)])
      obtain ⟨T19, X19, e19, st19⟩ := getF X18 hx hZ hown (host := "") (Or.inl (hw _ (List.mem_of_getElem? (i := 30) rfl))) Via.refl e18 F_first_a0 (g := (mkF m 54 #[Sr a0, Sd d1, .second, .val (.double (FP.dsub d1 wn)), .second, Si 3] [(.ref a0), (.int 3)])) rfl rfl (hb hby d4_54)
      refine Go.on st19 ?_
      show Go _ _ _ _ _ _ _ _ (mkF m 57 #[Sr a0, Sd d1, .second, .val (.double (FP.dsub d1 wn)), .second, Si 3] [(.int 2), (.int 3)])
      have hc20 : (2 : Int32) < (3 : Int32) := by decide
      refine Go.on (fun _ k => XS.icmpNo X19.here hx rfl (hb hby d4_57) rfl (tlt hc20).2.2.2 k) ?_
      refine Go.on (fun _ k => XS.aloadN X19.here hx rfl (hb hby d4_60) rfl rfl k) ?_
      show Go _ _ _ _ _ _ _ _ (mkF m 61 #[Sr a0, Sd d1, .second, .val (.double (FP.dsub d1 wn)), .second, Si 3] [(.ref a0)])
      obtain ⟨T21, X21, e21, st21⟩ := getF X19 hx hZ hown (host := "") (Or.inl (hw _ (List.mem_of_getElem? (i := 10) rfl))) Via.refl e19 F_times_a0 (g := (mkF m 61 #[Sr a0, Sd d1, .second, .val (.double (FP.dsub d1 wn)), .second, Si 3] [(.ref a0)])) rfl rfl (hb hby d4_61)
      refine Go.on st21 ?_
      show Go _ _ _ _ _ _ _ _ (mkF m 64 #[Sr a0, Sd d1, .second, .val (.double (FP.dsub d1 wn)), .second, Si 3] [(.ref as)])
      refine Go.on (fun _ k => XS.iload X21.here hx rfl (hb hby d4_64) rfl k) ?_
      refine Go.on (fun _ k => XS.iconst X21.here hx rfl (hb hby d4_66) k) ?_
      refine Go.on (fun _ k => XS.isub X21.here hx rfl (hb hby d4_67) rfl k) ?_
      show Go _ _ _ _ _ _ _ _ (mkF m 68 #[Sr a0, Sd d1, .second, .val (.double (FP.dsub d1 wn)), .second, Si 3] [(.int 2), (.ref as)])
      obtain ⟨cl22, Ar22, -, S22, -, H22, -⟩ := id V_as
      have hin22 : ¬ ((2 : Int32) < 0 ∨ cl22.slots.size ≤ ((2 : Int32)).toNatClampNeg) := inb_of S22 ⟨by decide, by decide⟩
      refine Go.on (X21.daload hx (j := (2 : Int32)) (v := (.double y2)) (by rw [e21]; exact Ar22.1) (State.isArrayOf_alike hZ.alike Ar22.2.1) Ar22.2.2 hin22 (H22.at hin22 (rfl)) (g := (mkF m 68 #[Sr a0, Sd d1, .second, .val (.double (FP.dsub d1 wn)), .second, Si 3] [(.int 2), (.ref as)])) rfl rfl (hb hby d4_68)) ?_
      show Go _ _ _ _ _ _ _ _ (mkF m 69 #[Sr a0, Sd d1, .second, .val (.double (FP.dsub d1 wn)), .second, Si 3] [(.double y2)])
      refine Go.on (fun _ k => XS.dloadN X21.here hx rfl (hb hby d4_69) rfl k) ?_
      refine Go.on (fun _ k => XS.dcmpS X21.here hx rfl (hb hby d4_70) rfl rfl k) ?_
      show Go _ _ _ _ _ _ _ _ (mkF m 71 #[Sr a0, Sd d1, .second, .val (.double (FP.dsub d1 wn)), .second, Si 3] [(.int (cmpValue (FP.dcmp y2 d1) .l))])
      by_cases hc23 : (0 : Int32) < (cmpValue (FP.dcmp y2 d1) .l)
      · -- pc 71 yes
        refine Go.on (fun _ k => XS.ifNo X21.here hx rfl (hb hby d4_71) rfl ((if0 _ _).trans (tlt hc23).2.2.2) k) ?_
        show Go _ _ _ _ _ _ _ _ (mkF m 74 #[Sr a0, Sd d1, .second, .val (.double (FP.dsub d1 wn)), .second, Si 3] [])
        refine Go.on (fun _ k => XS.iinc X21.here hx rfl (hb hby d4_74) rfl (l' := #[.val (.ref a0), .val (.double d1), .second, .val (.double (FP.dsub d1 wn)), .second, .val (.int (2 : Int32))]) rfl k) ?_
        show Go _ _ _ _ _ _ _ _ (mkF m 77 #[Sr a0, Sd d1, .second, .val (.double (FP.dsub d1 wn)), .second, Si 2] [])
        refine Go.on (fun _ k => XS.goto X21.here hx rfl (pc0 := 77) (pc' := 51) rfl (hb hby d4_77) (by decide) (by decide) k) ?_
        refine Go.on (fun _ k => XS.iload X21.here hx rfl (hb hby d4_51) rfl k) ?_
        refine Go.on (fun _ k => XS.aloadN X21.here hx rfl (hb hby d4_53) rfl rfl k) ?_
        show Go _ _ _ _ _ _ _ _ (mkF m 54 #[Sr a0, Sd d1, .second, .val (.double (FP.dsub d1 wn)), .second, Si 2] [(.ref a0), (.int 2)])
        obtain ⟨T24, X24, e24, st24⟩ := getF X21 hx hZ hown (host := "") (Or.inl (hw _ (List.mem_of_getElem? (i := 30) rfl))) Via.refl e21 F_first_a0 (g := (mkF m 54 #[Sr a0, Sd d1, .second, .val (.double (FP.dsub d1 wn)), .second, Si 2] [(.ref a0), (.int 2)])) rfl rfl (hb hby d4_54)
        refine Go.on st24 ?_
        show Go _ _ _ _ _ _ _ _ (mkF m 57 #[Sr a0, Sd d1, .second, .val (.double (FP.dsub d1 wn)), .second, Si 2] [(.int 2), (.int 2)])
        have hc25 : ¬ ((2 : Int32) < (2 : Int32)) := by decide
        refine Go.on (fun _ k => XS.icmpYes X24.here hx rfl (pc0 := 57) (pc' := 80) rfl (hb hby d4_57) rfl (flt hc25).2.2.2 (by decide) (by decide) k) ?_
        refine Go.on (fun _ k => XS.iload X24.here hx rfl (hb hby d4_80) rfl k) ?_
        refine Go.on (fun _ k => XS.aloadN X24.here hx rfl (hb hby d4_82) rfl rfl k) ?_
        show Go _ _ _ _ _ _ _ _ (mkF m 83 #[Sr a0, Sd d1, .second, .val (.double (FP.dsub d1 wn)), .second, Si 2] [(.ref a0), (.int 2)])
        obtain ⟨T26, X26, e26, st26⟩ := getF X24 hx hZ hown (host := "") (Or.inl (hw _ (List.mem_of_getElem? (i := 30) rfl))) Via.refl e24 F_first_a0 (g := (mkF m 83 #[Sr a0, Sd d1, .second, .val (.double (FP.dsub d1 wn)), .second, Si 2] [(.ref a0), (.int 2)])) rfl rfl (hb hby d4_83)
        refine Go.on st26 ?_
        show Go _ _ _ _ _ _ _ _ (mkF m 86 #[Sr a0, Sd d1, .second, .val (.double (FP.dsub d1 wn)), .second, Si 2] [(.int 2), (.int 2)])
        refine Go.on (fun _ k => XS.isub X26.here hx rfl (hb hby d4_86) rfl k) ?_
        refine Go.on (fun _ k => XS.i2dS X26.here hx rfl (hb hby d4_87) rfl rfl k) ?_
        refine Go.on (fun _ k => XS.aloadN X26.here hx rfl (hb hby d4_88) rfl rfl k) ?_
        show Go _ _ _ _ _ _ _ _ (mkF m 89 #[Sr a0, Sd d1, .second, .val (.double (FP.dsub d1 wn)), .second, Si 2] [(.ref a0), (.double (FP.i2d (0 : Int32)))])
        obtain ⟨T27, X27, e27, st27⟩ := getF X26 hx hZ hown (host := "") (Or.inl (hw _ (List.mem_of_getElem? (i := 16) rfl))) Via.refl e26 F_window_a0 (g := (mkF m 89 #[Sr a0, Sd d1, .second, .val (.double (FP.dsub d1 wn)), .second, Si 2] [(.ref a0), (.double (FP.i2d (0 : Int32)))])) rfl rfl (hb hby d4_89)
        refine Go.on st27 ?_
        show Go _ _ _ _ _ _ _ _ (mkF m 92 #[Sr a0, Sd d1, .second, .val (.double (FP.dsub d1 wn)), .second, Si 2] [(.double wn), (.double (FP.i2d (0 : Int32)))])
        refine Go.on (fun _ k => XS.ddivS X27.here hx rfl (hb hby d4_92) rfl ((own_rt _ hwn hw1 bw)) rfl k) ?_
        show Go _ _ _ _ _ _ _ _ (mkF m 93 #[Sr a0, Sd d1, .second, .val (.double (FP.dsub d1 wn)), .second, Si 2] [(.double (FP.ddiv (FP.i2d (0 : Int32)) wn))])
        refine Go.retV X27 hx Bd.returns rfl (Or.inr (Or.inr (Or.inl ⟨rfl, rfl, _, rfl⟩))) (hb hby d4_93) ?_ (by rw [hK1]; decide) (by rw [hK2]; decide)
        rw [e27, ← hQQ]
        have q_hc17 : nw.toInt - jw.toInt < t2.toInt := (own_cg zt2 zl).mp hc17
        have q_hc23 : nw.toInt < t2.toInt := (own_cl zt2 zn).mp hc23
        have i0_ : inV t0 nw jw = 0 := own_in0 bn bw (Or.inl (by omega))
        have i1_ : inV t1 nw jw = 0 := own_in0 bn bw (Or.inl (by omega))
        have i2_ : inV t2 nw jw = 0 := own_in0 bn bw (Or.inr (by omega))
        have hC : (((inV t0 nw jw) + (inV t1 nw jw)) + (inV t2 nw jw)) = (0 : Int32) := by rw [i0_, i1_, i2_] <;> decide
        unfold Q_rw_rate_3
        rw [hC]
        exact ⟨_, rfl, N10, KP, E_a0, F_times_a0, F_latest_a0, F_window_a0, F_first_a0, F_end_a0, (Or.inr (Or.inr (Or.inl rfl))), (fun _ => by omega), (fun _ => by omega), (fun q => absurd q (by decide))⟩
      · -- pc 71 no
        refine Go.on (fun _ k => XS.ifYes X21.here hx rfl (pc0 := 71) (pc' := 80) rfl (hb hby d4_71) rfl ((if0 _ _).trans (flt hc23).2.2.2) (by decide) (by decide) k) ?_
        show Go _ _ _ _ _ _ _ _ (mkF m 80 #[Sr a0, Sd d1, .second, .val (.double (FP.dsub d1 wn)), .second, Si 3] [])
        refine Go.on (fun _ k => XS.iload X21.here hx rfl (hb hby d4_80) rfl k) ?_
        refine Go.on (fun _ k => XS.aloadN X21.here hx rfl (hb hby d4_82) rfl rfl k) ?_
        show Go _ _ _ _ _ _ _ _ (mkF m 83 #[Sr a0, Sd d1, .second, .val (.double (FP.dsub d1 wn)), .second, Si 3] [(.ref a0), (.int 3)])
        obtain ⟨T28, X28, e28, st28⟩ := getF X21 hx hZ hown (host := "") (Or.inl (hw _ (List.mem_of_getElem? (i := 30) rfl))) Via.refl e21 F_first_a0 (g := (mkF m 83 #[Sr a0, Sd d1, .second, .val (.double (FP.dsub d1 wn)), .second, Si 3] [(.ref a0), (.int 3)])) rfl rfl (hb hby d4_83)
        refine Go.on st28 ?_
        show Go _ _ _ _ _ _ _ _ (mkF m 86 #[Sr a0, Sd d1, .second, .val (.double (FP.dsub d1 wn)), .second, Si 3] [(.int 2), (.int 3)])
        refine Go.on (fun _ k => XS.isub X28.here hx rfl (hb hby d4_86) rfl k) ?_
        refine Go.on (fun _ k => XS.i2dS X28.here hx rfl (hb hby d4_87) rfl rfl k) ?_
        refine Go.on (fun _ k => XS.aloadN X28.here hx rfl (hb hby d4_88) rfl rfl k) ?_
        show Go _ _ _ _ _ _ _ _ (mkF m 89 #[Sr a0, Sd d1, .second, .val (.double (FP.dsub d1 wn)), .second, Si 3] [(.ref a0), (.double (FP.i2d (1 : Int32)))])
        obtain ⟨T29, X29, e29, st29⟩ := getF X28 hx hZ hown (host := "") (Or.inl (hw _ (List.mem_of_getElem? (i := 16) rfl))) Via.refl e28 F_window_a0 (g := (mkF m 89 #[Sr a0, Sd d1, .second, .val (.double (FP.dsub d1 wn)), .second, Si 3] [(.ref a0), (.double (FP.i2d (1 : Int32)))])) rfl rfl (hb hby d4_89)
        refine Go.on st29 ?_
        show Go _ _ _ _ _ _ _ _ (mkF m 92 #[Sr a0, Sd d1, .second, .val (.double (FP.dsub d1 wn)), .second, Si 3] [(.double wn), (.double (FP.i2d (1 : Int32)))])
        refine Go.on (fun _ k => XS.ddivS X29.here hx rfl (hb hby d4_92) rfl ((own_rt _ hwn hw1 bw)) rfl k) ?_
        show Go _ _ _ _ _ _ _ _ (mkF m 93 #[Sr a0, Sd d1, .second, .val (.double (FP.dsub d1 wn)), .second, Si 3] [(.double (FP.ddiv (FP.i2d (1 : Int32)) wn))])
        refine Go.retV X29 hx Bd.returns rfl (Or.inr (Or.inr (Or.inl ⟨rfl, rfl, _, rfl⟩))) (hb hby d4_93) ?_ (by rw [hK1]; decide) (by rw [hK2]; decide)
        rw [e29, ← hQQ]
        have q_hc17 : nw.toInt - jw.toInt < t2.toInt := (own_cg zt2 zl).mp hc17
        have q_hc23 : ¬ (nw.toInt < t2.toInt) := fun q => hc23 ((own_cl zt2 zn).mpr q)
        have i0_ : inV t0 nw jw = 0 := own_in0 bn bw (Or.inl (by omega))
        have i1_ : inV t1 nw jw = 0 := own_in0 bn bw (Or.inl (by omega))
        have i2_ : inV t2 nw jw = 1 := own_in1 bn bw (by omega) (by omega)
        have hC : (((inV t0 nw jw) + (inV t1 nw jw)) + (inV t2 nw jw)) = (1 : Int32) := by rw [i0_, i1_, i2_] <;> decide
        unfold Q_rw_rate_3
        rw [hC]
        exact ⟨_, rfl, N10, KP, E_a0, F_times_a0, F_latest_a0, F_window_a0, F_first_a0, F_end_a0, (Or.inr (Or.inr (Or.inl rfl))), (fun _ => by omega), (fun _ => by omega), (fun q => absurd q (by decide))⟩
    · -- pc 29 no
      refine Go.on (fun _ k => XS.ifNo X15.here hx rfl (hb hby d4_29) rfl ((if0 _ _).trans (flt hc17).2.2.1) k) ?_
      show Go _ _ _ _ _ _ _ _ (mkF m 32 #[Sr a0, Sd d1, .second, .val (.double (FP.dsub d1 wn)), .second, .unset] [])
      refine Go.on (fun _ k => XS.aloadN X15.here hx rfl (hb hby d4_32) rfl rfl k) ?_
      refine Go.on (fun _ k => XS.dup X15.here hx rfl (hb hby d4_33) rfl rfl k) ?_
      show Go _ _ _ _ _ _ _ _ (mkF m 34 #[Sr a0, Sd d1, .second, .val (.double (FP.dsub d1 wn)), .second, .unset] [(.ref a0), (.ref a0)])
      obtain ⟨T30, X30, e30, st30⟩ := getF X15 hx hZ hown (host := "") (Or.inl (hw _ (List.mem_of_getElem? (i := 30) rfl))) Via.refl e15 F_first_a0 (g := (mkF m 34 #[Sr a0, Sd d1, .second, .val (.double (FP.dsub d1 wn)), .second, .unset] [(.ref a0), (.ref a0)])) rfl rfl (hb hby d4_34)
      refine Go.on st30 ?_
      show Go _ _ _ _ _ _ _ _ (mkF m 37 #[Sr a0, Sd d1, .second, .val (.double (FP.dsub d1 wn)), .second, .unset] [(.int 2), (.ref a0)])
      refine Go.on (fun _ k => XS.iconst X30.here hx rfl (hb hby d4_37) k) ?_
      refine Go.on (fun _ k => XS.iadd X30.here hx rfl (hb hby d4_38) rfl k) ?_
      show Go _ _ _ _ _ _ _ _ (mkF m 39 #[Sr a0, Sd d1, .second, .val (.double (FP.dsub d1 wn)), .second, .unset] [(.int 3), (.ref a0)])
      obtain ⟨T31, h31, X31, e31, W31, st31⟩ := putF X30 hx hZ hown (host := "") (Or.inl (hw _ (List.mem_of_getElem? (i := 30) rfl))) Via.refl e30 F_first_a0 E_a0 (Or.inl (hw _ (List.mem_of_getElem? (i := 31) rfl))) (hw _ (List.mem_of_getElem? (i := 1) rfl)) (ty := .int) (by decide) rfl rfl (g := (mkF m 39 #[Sr a0, Sd d1, .second, .val (.double (FP.dsub d1 wn)), .second, .unset] [(.int 3), (.ref a0)])) rfl rfl (hb hby d4_39)
      refine Go.on st31 ?_
      replace F_first_a0 := F_first_a0.same W31
      replace E_a0 := E_a0.wr W31
      replace F_times_a0 := F_times_a0.other W31 (Or.inr (slot_ne (Or.inl (hw _ (List.mem_of_getElem? (i := 11) rfl))) (Or.inl (hw _ (List.mem_of_getElem? (i := 31) rfl))) (by decide) (t := (.array .double)) (t' := .int) (by decide) (by decide)))
      replace F_latest_a0 := F_latest_a0.other W31 (Or.inr (slot_ne (Or.inl (hw _ (List.mem_of_getElem? (i := 14) rfl))) (Or.inl (hw _ (List.mem_of_getElem? (i := 31) rfl))) (by decide) (t := .double) (t' := .int) (by decide) (by decide)))
      replace F_window_a0 := F_window_a0.other W31 (Or.inr (slot_ne (Or.inr (hw _ (List.mem_of_getElem? (i := 17) rfl))) (Or.inl (hw _ (List.mem_of_getElem? (i := 31) rfl))) (by decide) (t := .double) (t' := .int) (by decide) (by decide)))
      replace F_end_a0 := F_end_a0.other W31 (Or.inr (slot_ne (Or.inl (hw _ (List.mem_of_getElem? (i := 24) rfl))) (Or.inl (hw _ (List.mem_of_getElem? (i := 31) rfl))) (by decide) (t := .int) (t' := .int) (by decide) (by decide)))
      replace V_as := V_as.other W31 (Ne.symm ne_a0_as)
      have N31 := Fr.snoc X31 N10 g_a0
      replace ZZ := Nat.le_trans ZZ (Keep.of_wr W31).1
      replace KP := KP.wr W31 (Or.inl (List.mem_of_getElem? (i := 0) rfl))
      show Go _ _ _ _ _ _ _ _ (mkF m 42 #[Sr a0, Sd d1, .second, .val (.double (FP.dsub d1 wn)), .second, .unset] [])
      refine Go.on (fun _ k => XS.goto X31.here hx rfl (pc0 := 42) (pc' := 7) rfl (hb hby d4_42) (by decide) (by decide) k) ?_
      show Go _ _ _ _ _ _ _ _ (mkF m 7 #[Sr a0, Sd d1, .second, .val (.double (FP.dsub d1 wn)), .second, .unset] [])
      have q_ : ¬ (nw.toInt - jw.toInt < t2.toInt) := fun q => hc17 ((own_cg zt2 zl).mpr q)
      exact hL3 _ _ _ X31 e31 N31 ZZ KP E_a0 F_times_a0 F_latest_a0 F_window_a0 F_first_a0 F_end_a0 V_as dd0 dd1 (by omega)
  have hL1 : ∀ (T32 : State) (locs32 : List Loc) (h32 : Heap), Stand p l e ({ frames := 0, cells := 0, slots := 0, locals := 0 } : Room) s m #[(.ref a0), (.double d1)] below meth c T32 locs32 0 0 → T32.heap = h32 → Fr n0 locs32 → n0 ≤ h32.size → Keep h0 h32 [a0] → Exa Z h32 a0 "com/example/deliberate_scaler/deliberatescaler/model/RateWindow" → Fld Z h32 a0 "com/example/deliberate_scaler/deliberatescaler/model/RateWindow" "times" "[D" (.ref as) → Fld Z h32 a0 "com/example/deliberate_scaler/deliberatescaler/model/RateWindow" "latest" "D" (.double lt) → Fld Z h32 a0 "com/example/deliberate_scaler/deliberatescaler/model/RateWindow" "window" "D" (.double wn) → Fld Z h32 a0 "com/example/deliberate_scaler/deliberatescaler/model/RateWindow" "first" "I" (.int (1 : Int32)) → Fld Z h32 a0 "com/example/deliberate_scaler/deliberatescaler/model/RateWindow" "end" "I" (.int (3 : Int32)) → Arv Z h32 as k_as .double (64 : Int32) [(.double y0), (.double y1), (.double y2), (.double (0 : UInt64)), (.double (0 : UInt64)), (.double (0 : UInt64)), (.double (0 : UInt64)), (.double (0 : UInt64)), (.double (0 : UInt64)), (.double (0 : UInt64)), (.double (0 : UInt64)), (.double (0 : UInt64)), (.double (0 : UInt64)), (.double (0 : UInt64)), (.double (0 : UInt64)), (.double (0 : UInt64)), (.double (0 : UInt64)), (.double (0 : UInt64)), (.double (0 : UInt64)), (.double (0 : UInt64)), (.double (0 : UInt64)), (.double (0 : UInt64)), (.double (0 : UInt64)), (.double (0 : UInt64)), (.double (0 : UInt64)), (.double (0 : UInt64)), (.double (0 : UInt64)), (.double (0 : UInt64)), (.double (0 : UInt64)), (.double (0 : UInt64)), (.double (0 : UInt64)), (.double (0 : UInt64)), (.double (0 : UInt64)), (.double (0 : UInt64)), (.double (0 : UInt64)), (.double (0 : UInt64)), (.double (0 : UInt64)), (.double (0 : UInt64)), (.double (0 : UInt64)), (.double (0 : UInt64)), (.double (0 : UInt64)), (.double (0 : UInt64)), (.double (0 : UInt64)), (.double (0 : UInt64)), (.double (0 : UInt64)), (.double (0 : UInt64)), (.double (0 : UInt64)), (.double (0 : UInt64)), (.double (0 : UInt64)), (.double (0 : UInt64)), (.double (0 : UInt64)), (.double (0 : UInt64)), (.double (0 : UInt64)), (.double (0 : UInt64)), (.double (0 : UInt64)), (.double (0 : UInt64)), (.double (0 : UInt64)), (.double (0 : UInt64)), (.double (0 : UInt64)), (.double (0 : UInt64)), (.double (0 : UInt64)), (.double (0 : UInt64)), (.double (0 : UInt64)), (.double (0 : UInt64))] (.double (0 : UInt64)) → t0.toInt ≤ nw.toInt - jw.toInt → Go p e below s K1 K2 QQ T32 (mkF m 7 #[Sr a0, Sd d1, .second, .val (.double (FP.dsub d1 wn)), .second, .unset] []) := by
    clear ZZ KP E_a0 F_times_a0 F_latest_a0 F_window_a0 F_first_a0 F_end_a0 V_as
    intro T32 locs32 h32 X32 e32 N32 ZZ KP E_a0 F_times_a0 F_latest_a0 F_window_a0 F_first_a0 F_end_a0 V_as dd0
    show Go _ _ _ _ _ _ _ _ (mkF m 7 #[Sr a0, Sd d1, .second, .val (.double (FP.dsub d1 wn)), .second, .unset] [])
    refine Go.on (fun _ k => XS.aloadN X32.here hx rfl (hb hby d4_7) rfl rfl k) ?_
    show Go _ _ _ _ _ _ _ _ (mkF m 8 #[Sr a0, Sd d1, .second, .val (.double (FP.dsub d1 wn)), .second, .unset] [(.ref a0)])
    obtain ⟨T33, X33, e33, st33⟩ := getF X32 hx hZ hown (host := "") (Or.inl (hw _ (List.mem_of_getElem? (i := 30) rfl))) Via.refl e32 F_first_a0 (g := (mkF m 8 #[Sr a0, Sd d1, .second, .val (.double (FP.dsub d1 wn)), .second, .unset] [(.ref a0)])) rfl rfl (hb hby d4_8)
    refine Go.on st33 ?_
    show Go _ _ _ _ _ _ _ _ (mkF m 11 #[Sr a0, Sd d1, .second, .val (.double (FP.dsub d1 wn)), .second, .unset] [(.int 1)])
    refine Go.on (fun _ k => XS.aloadN X33.here hx rfl (hb hby d4_11) rfl rfl k) ?_
    show Go _ _ _ _ _ _ _ _ (mkF m 12 #[Sr a0, Sd d1, .second, .val (.double (FP.dsub d1 wn)), .second, .unset] [(.ref a0), (.int 1)])
    obtain ⟨T34, X34, e34, st34⟩ := getF X33 hx hZ hown (host := "") (Or.inl (hw _ (List.mem_of_getElem? (i := 23) rfl))) Via.refl e33 F_end_a0 (g := (mkF m 12 #[Sr a0, Sd d1, .second, .val (.double (FP.dsub d1 wn)), .second, .unset] [(.ref a0), (.int 1)])) rfl rfl (hb hby d4_12)
    refine Go.on st34 ?_
    show Go _ _ _ _ _ _ _ _ (mkF m 15 #[Sr a0, Sd d1, .second, .val (.double (FP.dsub d1 wn)), .second, .unset] [(.int 3), (.int 1)])
    have hc35 : (1 : Int32) < (3 : Int32) := by decide
    refine Go.on (fun _ k => XS.icmpNo X34.here hx rfl (hb hby d4_15) rfl (tlt hc35).2.1 k) ?_
    refine Go.on (fun _ k => XS.aloadN X34.here hx rfl (hb hby d4_18) rfl rfl k) ?_
    show Go _ _ _ _ _ _ _ _ (mkF m 19 #[Sr a0, Sd d1, .second, .val (.double (FP.dsub d1 wn)), .second, .unset] [(.ref a0)])
    obtain ⟨T36, X36, e36, st36⟩ := getF X34 hx hZ hown (host := "") (Or.inl (hw _ (List.mem_of_getElem? (i := 10) rfl))) Via.refl e34 F_times_a0 (g := (mkF m 19 #[Sr a0, Sd d1, .second, .val (.double (FP.dsub d1 wn)), .second, .unset] [(.ref a0)])) rfl rfl (hb hby d4_19)
    refine Go.on st36 ?_
    show Go _ _ _ _ _ _ _ _ (mkF m 22 #[Sr a0, Sd d1, .second, .val (.double (FP.dsub d1 wn)), .second, .unset] [(.ref as)])
    refine Go.on (fun _ k => XS.aloadN X36.here hx rfl (hb hby d4_22) rfl rfl k) ?_
    show Go _ _ _ _ _ _ _ _ (mkF m 23 #[Sr a0, Sd d1, .second, .val (.double (FP.dsub d1 wn)), .second, .unset] [(.ref a0), (.ref as)])
    obtain ⟨T37, X37, e37, st37⟩ := getF X36 hx hZ hown (host := "") (Or.inl (hw _ (List.mem_of_getElem? (i := 30) rfl))) Via.refl e36 F_first_a0 (g := (mkF m 23 #[Sr a0, Sd d1, .second, .val (.double (FP.dsub d1 wn)), .second, .unset] [(.ref a0), (.ref as)])) rfl rfl (hb hby d4_23)
    refine Go.on st37 ?_
    show Go _ _ _ _ _ _ _ _ (mkF m 26 #[Sr a0, Sd d1, .second, .val (.double (FP.dsub d1 wn)), .second, .unset] [(.int 1), (.ref as)])
    obtain ⟨cl38, Ar38, -, S38, -, H38, -⟩ := id V_as
    have hin38 : ¬ ((1 : Int32) < 0 ∨ cl38.slots.size ≤ ((1 : Int32)).toNatClampNeg) := inb_of S38 ⟨by decide, by decide⟩
    refine Go.on (X37.daload hx (j := (1 : Int32)) (v := (.double y1)) (by rw [e37]; exact Ar38.1) (State.isArrayOf_alike hZ.alike Ar38.2.1) Ar38.2.2 hin38 (H38.at hin38 (rfl)) (g := (mkF m 26 #[Sr a0, Sd d1, .second, .val (.double (FP.dsub d1 wn)), .second, .unset] [(.int 1), (.ref as)])) rfl rfl (hb hby d4_26)) ?_
    show Go _ _ _ _ _ _ _ _ (mkF m 27 #[Sr a0, Sd d1, .second, .val (.double (FP.dsub d1 wn)), .second, .unset] [(.double y1)])
    refine Go.on (fun _ k => XS.dloadN X37.here hx rfl (hb hby d4_27) rfl k) ?_
    refine Go.on (fun _ k => XS.dcmpS X37.here hx rfl (hb hby d4_28) rfl rfl k) ?_
    show Go _ _ _ _ _ _ _ _ (mkF m 29 #[Sr a0, Sd d1, .second, .val (.double (FP.dsub d1 wn)), .second, .unset] [(.int (cmpValue (FP.dcmp y1 (FP.dsub d1 wn)) .g))])
    by_cases hc39 : (0 : Int32) < (cmpValue (FP.dcmp y1 (FP.dsub d1 wn)) .g)
    · -- pc 29 yes
      refine Go.on (fun _ k => XS.ifYes X37.here hx rfl (pc0 := 29) (pc' := 45) rfl (hb hby d4_29) rfl ((if0 _ _).trans (tlt hc39).2.2.1) (by decide) (by decide) k) ?_
      show Go _ _ _ _ _ _ _ _ (mkF m 45 #[Sr a0, Sd d1, .second, .val (.double (FP.dsub d1 wn)), .second, .unset] [])
      refine Go.on (fun _ k => XS.aloadN X37.here hx rfl (hb hby d4_45) rfl rfl k) ?_
      show Go _ _ _ _ _ _ _ _ (mkF m 46 #[Sr a0, Sd d1, .second, .val (.double (FP.dsub d1 wn)), .second, .unset] [(.ref a0)])
      obtain ⟨T40, X40, e40, st40⟩ := getF X37 hx hZ hown (host := "") (Or.inl (hw _ (List.mem_of_getElem? (i := 23) rfl))) Via.refl e37 F_end_a0 (g := (mkF m 46 #[Sr a0, Sd d1, .second, .val (.double (FP.dsub d1 wn)), .second, .unset] [(.ref a0)])) rfl rfl (hb hby d4_46)
      refine Go.on st40 ?_
      show Go _ _ _ _ _ _ _ _ (mkF m 49 #[Sr a0, Sd d1, .second, .val (.double (FP.dsub d1 wn)), .second, .unset] [(.int 3)])
      refine Go.on (fun _ k => XS.istore X40.here hx rfl (hb hby d4_49) rfl (l' := #[.val (.ref a0), .val (.double d1), .second, .val (.double (FP.dsub d1 wn)), .second, .val (.int (3 : Int32))]) rfl k) ?_
      show Go _ _ _ _ _ _ _ _ (mkF m 51 #[Sr a0, Sd d1, .second, .val (.double (FP.dsub d1 wn)), .second, Si 3] [])
      refine Go.on (fun _ k => XS.iload X40.here hx rfl (hb hby d4_51) rfl k) ?_
      refine Go.on (fun _ k => XS.aloadN X40.here hx rfl (hb hby d4_53) rfl rfl k) ?_
      show Go _ _ _ _ _ _ _ _ (mkF m 54 #[Sr a0, Sd d1, .second, .val (.double (FP.dsub d1 wn)), .second, Si 3] [(.ref a0), (.int 3)])
      obtain ⟨T41, X41, e41, st41⟩ := getF X40 hx hZ hown (host := "") (Or.inl (hw _ (List.mem_of_getElem? (i := 30) rfl))) Via.refl e40 F_first_a0 (g := (mkF m 54 #[Sr a0, Sd d1, .second, .val (.double (FP.dsub d1 wn)), .second, Si 3] [(.ref a0), (.int 3)])) rfl rfl (hb hby d4_54)
      refine Go.on st41 ?_
      show Go _ _ _ _ _ _ _ _ (mkF m 57 #[Sr a0, Sd d1, .second, .val (.double (FP.dsub d1 wn)), .second, Si 3] [(.int 1), (.int 3)])
      have hc42 : (1 : Int32) < (3 : Int32) := by decide
      refine Go.on (fun _ k => XS.icmpNo X41.here hx rfl (hb hby d4_57) rfl (tlt hc42).2.2.2 k) ?_
      refine Go.on (fun _ k => XS.aloadN X41.here hx rfl (hb hby d4_60) rfl rfl k) ?_
      show Go _ _ _ _ _ _ _ _ (mkF m 61 #[Sr a0, Sd d1, .second, .val (.double (FP.dsub d1 wn)), .second, Si 3] [(.ref a0)])
      obtain ⟨T43, X43, e43, st43⟩ := getF X41 hx hZ hown (host := "") (Or.inl (hw _ (List.mem_of_getElem? (i := 10) rfl))) Via.refl e41 F_times_a0 (g := (mkF m 61 #[Sr a0, Sd d1, .second, .val (.double (FP.dsub d1 wn)), .second, Si 3] [(.ref a0)])) rfl rfl (hb hby d4_61)
      refine Go.on st43 ?_
      show Go _ _ _ _ _ _ _ _ (mkF m 64 #[Sr a0, Sd d1, .second, .val (.double (FP.dsub d1 wn)), .second, Si 3] [(.ref as)])
      refine Go.on (fun _ k => XS.iload X43.here hx rfl (hb hby d4_64) rfl k) ?_
      refine Go.on (fun _ k => XS.iconst X43.here hx rfl (hb hby d4_66) k) ?_
      refine Go.on (fun _ k => XS.isub X43.here hx rfl (hb hby d4_67) rfl k) ?_
      show Go _ _ _ _ _ _ _ _ (mkF m 68 #[Sr a0, Sd d1, .second, .val (.double (FP.dsub d1 wn)), .second, Si 3] [(.int 2), (.ref as)])
      obtain ⟨cl44, Ar44, -, S44, -, H44, -⟩ := id V_as
      have hin44 : ¬ ((2 : Int32) < 0 ∨ cl44.slots.size ≤ ((2 : Int32)).toNatClampNeg) := inb_of S44 ⟨by decide, by decide⟩
      refine Go.on (X43.daload hx (j := (2 : Int32)) (v := (.double y2)) (by rw [e43]; exact Ar44.1) (State.isArrayOf_alike hZ.alike Ar44.2.1) Ar44.2.2 hin44 (H44.at hin44 (rfl)) (g := (mkF m 68 #[Sr a0, Sd d1, .second, .val (.double (FP.dsub d1 wn)), .second, Si 3] [(.int 2), (.ref as)])) rfl rfl (hb hby d4_68)) ?_
      show Go _ _ _ _ _ _ _ _ (mkF m 69 #[Sr a0, Sd d1, .second, .val (.double (FP.dsub d1 wn)), .second, Si 3] [(.double y2)])
      refine Go.on (fun _ k => XS.dloadN X43.here hx rfl (hb hby d4_69) rfl k) ?_
      refine Go.on (fun _ k => XS.dcmpS X43.here hx rfl (hb hby d4_70) rfl rfl k) ?_
      show Go _ _ _ _ _ _ _ _ (mkF m 71 #[Sr a0, Sd d1, .second, .val (.double (FP.dsub d1 wn)), .second, Si 3] [(.int (cmpValue (FP.dcmp y2 d1) .l))])
      by_cases hc45 : (0 : Int32) < (cmpValue (FP.dcmp y2 d1) .l)
      · -- pc 71 yes
        refine Go.on (fun _ k => XS.ifNo X43.here hx rfl (hb hby d4_71) rfl ((if0 _ _).trans (tlt hc45).2.2.2) k) ?_
        show Go _ _ _ _ _ _ _ _ (mkF m 74 #[Sr a0, Sd d1, .second, .val (.double (FP.dsub d1 wn)), .second, Si 3] [])
        refine Go.on (fun _ k => XS.iinc X43.here hx rfl (hb hby d4_74) rfl (l' := #[.val (.ref a0), .val (.double d1), .second, .val (.double (FP.dsub d1 wn)), .second, .val (.int (2 : Int32))]) rfl k) ?_
        show Go _ _ _ _ _ _ _ _ (mkF m 77 #[Sr a0, Sd d1, .second, .val (.double (FP.dsub d1 wn)), .second, Si 2] [])
        refine Go.on (fun _ k => XS.goto X43.here hx rfl (pc0 := 77) (pc' := 51) rfl (hb hby d4_77) (by decide) (by decide) k) ?_
        refine Go.on (fun _ k => XS.iload X43.here hx rfl (hb hby d4_51) rfl k) ?_
        refine Go.on (fun _ k => XS.aloadN X43.here hx rfl (hb hby d4_53) rfl rfl k) ?_
        show Go _ _ _ _ _ _ _ _ (mkF m 54 #[Sr a0, Sd d1, .second, .val (.double (FP.dsub d1 wn)), .second, Si 2] [(.ref a0), (.int 2)])
        obtain ⟨T46, X46, e46, st46⟩ := getF X43 hx hZ hown (host := "") (Or.inl (hw _ (List.mem_of_getElem? (i := 30) rfl))) Via.refl e43 F_first_a0 (g := (mkF m 54 #[Sr a0, Sd d1, .second, .val (.double (FP.dsub d1 wn)), .second, Si 2] [(.ref a0), (.int 2)])) rfl rfl (hb hby d4_54)
        refine Go.on st46 ?_
        show Go _ _ _ _ _ _ _ _ (mkF m 57 #[Sr a0, Sd d1, .second, .val (.double (FP.dsub d1 wn)), .second, Si 2] [(.int 1), (.int 2)])
        have hc47 : (1 : Int32) < (2 : Int32) := by decide
        refine Go.on (fun _ k => XS.icmpNo X46.here hx rfl (hb hby d4_57) rfl (tlt hc47).2.2.2 k) ?_
        refine Go.on (fun _ k => XS.aloadN X46.here hx rfl (hb hby d4_60) rfl rfl k) ?_
        show Go _ _ _ _ _ _ _ _ (mkF m 61 #[Sr a0, Sd d1, .second, .val (.double (FP.dsub d1 wn)), .second, Si 2] [(.ref a0)])
        obtain ⟨T48, X48, e48, st48⟩ := getF X46 hx hZ hown (host := "") (Or.inl (hw _ (List.mem_of_getElem? (i := 10) rfl))) Via.refl e46 F_times_a0 (g := (mkF m 61 #[Sr a0, Sd d1, .second, .val (.double (FP.dsub d1 wn)), .second, Si 2] [(.ref a0)])) rfl rfl (hb hby d4_61)
        refine Go.on st48 ?_
        show Go _ _ _ _ _ _ _ _ (mkF m 64 #[Sr a0, Sd d1, .second, .val (.double (FP.dsub d1 wn)), .second, Si 2] [(.ref as)])
        refine Go.on (fun _ k => XS.iload X48.here hx rfl (hb hby d4_64) rfl k) ?_
        refine Go.on (fun _ k => XS.iconst X48.here hx rfl (hb hby d4_66) k) ?_
        refine Go.on (fun _ k => XS.isub X48.here hx rfl (hb hby d4_67) rfl k) ?_
        show Go _ _ _ _ _ _ _ _ (mkF m 68 #[Sr a0, Sd d1, .second, .val (.double (FP.dsub d1 wn)), .second, Si 2] [(.int 1), (.ref as)])
        obtain ⟨cl49, Ar49, -, S49, -, H49, -⟩ := id V_as
        have hin49 : ¬ ((1 : Int32) < 0 ∨ cl49.slots.size ≤ ((1 : Int32)).toNatClampNeg) := inb_of S49 ⟨by decide, by decide⟩
        refine Go.on (X48.daload hx (j := (1 : Int32)) (v := (.double y1)) (by rw [e48]; exact Ar49.1) (State.isArrayOf_alike hZ.alike Ar49.2.1) Ar49.2.2 hin49 (H49.at hin49 (rfl)) (g := (mkF m 68 #[Sr a0, Sd d1, .second, .val (.double (FP.dsub d1 wn)), .second, Si 2] [(.int 1), (.ref as)])) rfl rfl (hb hby d4_68)) ?_
        show Go _ _ _ _ _ _ _ _ (mkF m 69 #[Sr a0, Sd d1, .second, .val (.double (FP.dsub d1 wn)), .second, Si 2] [(.double y1)])
        refine Go.on (fun _ k => XS.dloadN X48.here hx rfl (hb hby d4_69) rfl k) ?_
        refine Go.on (fun _ k => XS.dcmpS X48.here hx rfl (hb hby d4_70) rfl rfl k) ?_
        show Go _ _ _ _ _ _ _ _ (mkF m 71 #[Sr a0, Sd d1, .second, .val (.double (FP.dsub d1 wn)), .second, Si 2] [(.int (cmpValue (FP.dcmp y1 d1) .l))])
        by_cases hc50 : (0 : Int32) < (cmpValue (FP.dcmp y1 d1) .l)
        · -- pc 71 yes
          refine Go.on (fun _ k => XS.ifNo X48.here hx rfl (hb hby d4_71) rfl ((if0 _ _).trans (tlt hc50).2.2.2) k) ?_
          show Go _ _ _ _ _ _ _ _ (mkF m 74 #[Sr a0, Sd d1, .second, .val (.double (FP.dsub d1 wn)), .second, Si 2] [])
          refine Go.on (fun _ k => XS.iinc X48.here hx rfl (hb hby d4_74) rfl (l' := #[.val (.ref a0), .val (.double d1), .second, .val (.double (FP.dsub d1 wn)), .second, .val (.int (1 : Int32))]) rfl k) ?_
          show Go _ _ _ _ _ _ _ _ (mkF m 77 #[Sr a0, Sd d1, .second, .val (.double (FP.dsub d1 wn)), .second, Si 1] [])
          refine Go.on (fun _ k => XS.goto X48.here hx rfl (pc0 := 77) (pc' := 51) rfl (hb hby d4_77) (by decide) (by decide) k) ?_
          refine Go.on (fun _ k => XS.iload X48.here hx rfl (hb hby d4_51) rfl k) ?_
          refine Go.on (fun _ k => XS.aloadN X48.here hx rfl (hb hby d4_53) rfl rfl k) ?_
          show Go _ _ _ _ _ _ _ _ (mkF m 54 #[Sr a0, Sd d1, .second, .val (.double (FP.dsub d1 wn)), .second, Si 1] [(.ref a0), (.int 1)])
          obtain ⟨T51, X51, e51, st51⟩ := getF X48 hx hZ hown (host := "") (Or.inl (hw _ (List.mem_of_getElem? (i := 30) rfl))) Via.refl e48 F_first_a0 (g := (mkF m 54 #[Sr a0, Sd d1, .second, .val (.double (FP.dsub d1 wn)), .second, Si 1] [(.ref a0), (.int 1)])) rfl rfl (hb hby d4_54)
          refine Go.on st51 ?_
          show Go _ _ _ _ _ _ _ _ (mkF m 57 #[Sr a0, Sd d1, .second, .val (.double (FP.dsub d1 wn)), .second, Si 1] [(.int 1), (.int 1)])
          have hc52 : ¬ ((1 : Int32) < (1 : Int32)) := by decide
          refine Go.on (fun _ k => XS.icmpYes X51.here hx rfl (pc0 := 57) (pc' := 80) rfl (hb hby d4_57) rfl (flt hc52).2.2.2 (by decide) (by decide) k) ?_
          refine Go.on (fun _ k => XS.iload X51.here hx rfl (hb hby d4_80) rfl k) ?_
          refine Go.on (fun _ k => XS.aloadN X51.here hx rfl (hb hby d4_82) rfl rfl k) ?_
          show Go _ _ _ _ _ _ _ _ (mkF m 83 #[Sr a0, Sd d1, .second, .val (.double (FP.dsub d1 wn)), .second, Si 1] [(.ref a0), (.int 1)])
          obtain ⟨T53, X53, e53, st53⟩ := getF X51 hx hZ hown (host := "") (Or.inl (hw _ (List.mem_of_getElem? (i := 30) rfl))) Via.refl e51 F_first_a0 (g := (mkF m 83 #[Sr a0, Sd d1, .second, .val (.double (FP.dsub d1 wn)), .second, Si 1] [(.ref a0), (.int 1)])) rfl rfl (hb hby d4_83)
          refine Go.on st53 ?_
          show Go _ _ _ _ _ _ _ _ (mkF m 86 #[Sr a0, Sd d1, .second, .val (.double (FP.dsub d1 wn)), .second, Si 1] [(.int 1), (.int 1)])
          refine Go.on (fun _ k => XS.isub X53.here hx rfl (hb hby d4_86) rfl k) ?_
          refine Go.on (fun _ k => XS.i2dS X53.here hx rfl (hb hby d4_87) rfl rfl k) ?_
          refine Go.on (fun _ k => XS.aloadN X53.here hx rfl (hb hby d4_88) rfl rfl k) ?_
          show Go _ _ _ _ _ _ _ _ (mkF m 89 #[Sr a0, Sd d1, .second, .val (.double (FP.dsub d1 wn)), .second, Si 1] [(.ref a0), (.double (FP.i2d (0 : Int32)))])
          obtain ⟨T54, X54, e54, st54⟩ := getF X53 hx hZ hown (host := "") (Or.inl (hw _ (List.mem_of_getElem? (i := 16) rfl))) Via.refl e53 F_window_a0 (g := (mkF m 89 #[Sr a0, Sd d1, .second, .val (.double (FP.dsub d1 wn)), .second, Si 1] [(.ref a0), (.double (FP.i2d (0 : Int32)))])) rfl rfl (hb hby d4_89)
          refine Go.on st54 ?_
          show Go _ _ _ _ _ _ _ _ (mkF m 92 #[Sr a0, Sd d1, .second, .val (.double (FP.dsub d1 wn)), .second, Si 1] [(.double wn), (.double (FP.i2d (0 : Int32)))])
          refine Go.on (fun _ k => XS.ddivS X54.here hx rfl (hb hby d4_92) rfl ((own_rt _ hwn hw1 bw)) rfl k) ?_
          show Go _ _ _ _ _ _ _ _ (mkF m 93 #[Sr a0, Sd d1, .second, .val (.double (FP.dsub d1 wn)), .second, Si 1] [(.double (FP.ddiv (FP.i2d (0 : Int32)) wn))])
          refine Go.retV X54 hx Bd.returns rfl (Or.inr (Or.inr (Or.inl ⟨rfl, rfl, _, rfl⟩))) (hb hby d4_93) ?_ (by rw [hK1]; decide) (by rw [hK2]; decide)
          rw [e54, ← hQQ]
          have q_hc39 : nw.toInt - jw.toInt < t1.toInt := (own_cg zt1 zl).mp hc39
          have q_hc45 : nw.toInt < t2.toInt := (own_cl zt2 zn).mp hc45
          have q_hc50 : nw.toInt < t1.toInt := (own_cl zt1 zn).mp hc50
          have i0_ : inV t0 nw jw = 0 := own_in0 bn bw (Or.inl (by omega))
          have i1_ : inV t1 nw jw = 0 := own_in0 bn bw (Or.inr (by omega))
          have i2_ : inV t2 nw jw = 0 := own_in0 bn bw (Or.inr (by omega))
          have hC : (((inV t0 nw jw) + (inV t1 nw jw)) + (inV t2 nw jw)) = (0 : Int32) := by rw [i0_, i1_, i2_] <;> decide
          unfold Q_rw_rate_3
          rw [hC]
          exact ⟨_, rfl, N32, KP, E_a0, F_times_a0, F_latest_a0, F_window_a0, F_first_a0, F_end_a0, (Or.inr (Or.inl rfl)), (fun _ => by omega), (fun q => absurd q (by decide)), (fun q => absurd q (by decide))⟩
        · -- pc 71 no
          refine Go.on (fun _ k => XS.ifYes X48.here hx rfl (pc0 := 71) (pc' := 80) rfl (hb hby d4_71) rfl ((if0 _ _).trans (flt hc50).2.2.2) (by decide) (by decide) k) ?_
          show Go _ _ _ _ _ _ _ _ (mkF m 80 #[Sr a0, Sd d1, .second, .val (.double (FP.dsub d1 wn)), .second, Si 2] [])
          refine Go.on (fun _ k => XS.iload X48.here hx rfl (hb hby d4_80) rfl k) ?_
          refine Go.on (fun _ k => XS.aloadN X48.here hx rfl (hb hby d4_82) rfl rfl k) ?_
          show Go _ _ _ _ _ _ _ _ (mkF m 83 #[Sr a0, Sd d1, .second, .val (.double (FP.dsub d1 wn)), .second, Si 2] [(.ref a0), (.int 2)])
          obtain ⟨T55, X55, e55, st55⟩ := getF X48 hx hZ hown (host := "") (Or.inl (hw _ (List.mem_of_getElem? (i := 30) rfl))) Via.refl e48 F_first_a0 (g := (mkF m 83 #[Sr a0, Sd d1, .second, .val (.double (FP.dsub d1 wn)), .second, Si 2] [(.ref a0), (.int 2)])) rfl rfl (hb hby d4_83)
          refine Go.on st55 ?_
          show Go _ _ _ _ _ _ _ _ (mkF m 86 #[Sr a0, Sd d1, .second, .val (.double (FP.dsub d1 wn)), .second, Si 2] [(.int 1), (.int 2)])
          refine Go.on (fun _ k => XS.isub X55.here hx rfl (hb hby d4_86) rfl k) ?_
          refine Go.on (fun _ k => XS.i2dS X55.here hx rfl (hb hby d4_87) rfl rfl k) ?_
          refine Go.on (fun _ k => XS.aloadN X55.here hx rfl (hb hby d4_88) rfl rfl k) ?_
          show Go _ _ _ _ _ _ _ _ (mkF m 89 #[Sr a0, Sd d1, .second, .val (.double (FP.dsub d1 wn)), .second, Si 2] [(.ref a0), (.double (FP.i2d (1 : Int32)))])
          obtain ⟨T56, X56, e56, st56⟩ := getF X55 hx hZ hown (host := "") (Or.inl (hw _ (List.mem_of_getElem? (i := 16) rfl))) Via.refl e55 F_window_a0 (g := (mkF m 89 #[Sr a0, Sd d1, .second, .val (.double (FP.dsub d1 wn)), .second, Si 2] [(.ref a0), (.double (FP.i2d (1 : Int32)))])) rfl rfl (hb hby d4_89)
          refine Go.on st56 ?_
          show Go _ _ _ _ _ _ _ _ (mkF m 92 #[Sr a0, Sd d1, .second, .val (.double (FP.dsub d1 wn)), .second, Si 2] [(.double wn), (.double (FP.i2d (1 : Int32)))])
          refine Go.on (fun _ k => XS.ddivS X56.here hx rfl (hb hby d4_92) rfl ((own_rt _ hwn hw1 bw)) rfl k) ?_
          show Go _ _ _ _ _ _ _ _ (mkF m 93 #[Sr a0, Sd d1, .second, .val (.double (FP.dsub d1 wn)), .second, Si 2] [(.double (FP.ddiv (FP.i2d (1 : Int32)) wn))])
          refine Go.retV X56 hx Bd.returns rfl (Or.inr (Or.inr (Or.inl ⟨rfl, rfl, _, rfl⟩))) (hb hby d4_93) ?_ (by rw [hK1]; decide) (by rw [hK2]; decide)
          rw [e56, ← hQQ]
          have q_hc39 : nw.toInt - jw.toInt < t1.toInt := (own_cg zt1 zl).mp hc39
          have q_hc45 : nw.toInt < t2.toInt := (own_cl zt2 zn).mp hc45
          have q_hc50 : ¬ (nw.toInt < t1.toInt) := fun q => hc50 ((own_cl zt1 zn).mpr q)
          have i0_ : inV t0 nw jw = 0 := own_in0 bn bw (Or.inl (by omega))
          have i1_ : inV t1 nw jw = 1 := own_in1 bn bw (by omega) (by omega)
          have i2_ : inV t2 nw jw = 0 := own_in0 bn bw (Or.inr (by omega))
          have hC : (((inV t0 nw jw) + (inV t1 nw jw)) + (inV t2 nw jw)) = (1 : Int32) := by rw [i0_, i1_, i2_] <;> decide
          unfold Q_rw_rate_3
          rw [hC]
          exact ⟨_, rfl, N32, KP, E_a0, F_times_a0, F_latest_a0, F_window_a0, F_first_a0, F_end_a0, (Or.inr (Or.inl rfl)), (fun _ => by omega), (fun q => absurd q (by decide)), (fun q => absurd q (by decide))⟩
      · -- pc 71 no
        refine Go.on (fun _ k => XS.ifYes X43.here hx rfl (pc0 := 71) (pc' := 80) rfl (hb hby d4_71) rfl ((if0 _ _).trans (flt hc45).2.2.2) (by decide) (by decide) k) ?_
        show Go _ _ _ _ _ _ _ _ (mkF m 80 #[Sr a0, Sd d1, .second, .val (.double (FP.dsub d1 wn)), .second, Si 3] [])
        refine Go.on (fun _ k => XS.iload X43.here hx rfl (hb hby d4_80) rfl k) ?_
        refine Go.on (fun _ k => XS.aloadN X43.here hx rfl (hb hby d4_82) rfl rfl k) ?_
        show Go _ _ _ _ _ _ _ _ (mkF m 83 #[Sr a0, Sd d1, .second, .val (.double (FP.dsub d1 wn)), .second, Si 3] [(.ref a0), (.int 3)])
        obtain ⟨T57, X57, e57, st57⟩ := getF X43 hx hZ hown (host := "") (Or.inl (hw _ (List.mem_of_getElem? (i := 30) rfl))) Via.refl e43 F_first_a0 (g := (mkF m 83 #[Sr a0, Sd d1, .second, .val (.double (FP.dsub d1 wn)), .second, Si 3] [(.ref a0), (.int 3)])) rfl rfl (hb hby d4_83)
        refine Go.on st57 ?_
        show Go _ _ _ _ _ _ _ _ (mkF m 86 #[Sr a0, Sd d1, .second, .val (.double (FP.dsub d1 wn)), .second, Si 3] [(.int 1), (.int 3)])
        refine Go.on (fun _ k => XS.isub X57.here hx rfl (hb hby d4_86) rfl k) ?_
        refine Go.on (fun _ k => XS.i2dS X57.here hx rfl (hb hby d4_87) rfl rfl k) ?_
        refine Go.on (fun _ k => XS.aloadN X57.here hx rfl (hb hby d4_88) rfl rfl k) ?_
        show Go _ _ _ _ _ _ _ _ (mkF m 89 #[Sr a0, Sd d1, .second, .val (.double (FP.dsub d1 wn)), .second, Si 3] [(.ref a0), (.double (FP.i2d (2 : Int32)))])
        obtain ⟨T58, X58, e58, st58⟩ := getF X57 hx hZ hown (host := "") (Or.inl (hw _ (List.mem_of_getElem? (i := 16) rfl))) Via.refl e57 F_window_a0 (g := (mkF m 89 #[Sr a0, Sd d1, .second, .val (.double (FP.dsub d1 wn)), .second, Si 3] [(.ref a0), (.double (FP.i2d (2 : Int32)))])) rfl rfl (hb hby d4_89)
        refine Go.on st58 ?_
        show Go _ _ _ _ _ _ _ _ (mkF m 92 #[Sr a0, Sd d1, .second, .val (.double (FP.dsub d1 wn)), .second, Si 3] [(.double wn), (.double (FP.i2d (2 : Int32)))])
        refine Go.on (fun _ k => XS.ddivS X58.here hx rfl (hb hby d4_92) rfl ((own_rt _ hwn hw1 bw)) rfl k) ?_
        show Go _ _ _ _ _ _ _ _ (mkF m 93 #[Sr a0, Sd d1, .second, .val (.double (FP.dsub d1 wn)), .second, Si 3] [(.double (FP.ddiv (FP.i2d (2 : Int32)) wn))])
        refine Go.retV X58 hx Bd.returns rfl (Or.inr (Or.inr (Or.inl ⟨rfl, rfl, _, rfl⟩))) (hb hby d4_93) ?_ (by rw [hK1]; decide) (by rw [hK2]; decide)
        rw [e58, ← hQQ]
        have q_hc39 : nw.toInt - jw.toInt < t1.toInt := (own_cg zt1 zl).mp hc39
        have q_hc45 : ¬ (nw.toInt < t2.toInt) := fun q => hc45 ((own_cl zt2 zn).mpr q)
        have i0_ : inV t0 nw jw = 0 := own_in0 bn bw (Or.inl (by omega))
        have i1_ : inV t1 nw jw = 1 := own_in1 bn bw (by omega) (by omega)
        have i2_ : inV t2 nw jw = 1 := own_in1 bn bw (by omega) (by omega)
        have hC : (((inV t0 nw jw) + (inV t1 nw jw)) + (inV t2 nw jw)) = (2 : Int32) := by rw [i0_, i1_, i2_] <;> decide
        unfold Q_rw_rate_3
        rw [hC]
        exact ⟨_, rfl, N32, KP, E_a0, F_times_a0, F_latest_a0, F_window_a0, F_first_a0, F_end_a0, (Or.inr (Or.inl rfl)), (fun _ => by omega), (fun q => absurd q (by decide)), (fun q => absurd q (by decide))⟩
    · -- pc 29 no
      refine Go.on (fun _ k => XS.ifNo X37.here hx rfl (hb hby d4_29) rfl ((if0 _ _).trans (flt hc39).2.2.1) k) ?_
      show Go _ _ _ _ _ _ _ _ (mkF m 32 #[Sr a0, Sd d1, .second, .val (.double (FP.dsub d1 wn)), .second, .unset] [])
      refine Go.on (fun _ k => XS.aloadN X37.here hx rfl (hb hby d4_32) rfl rfl k) ?_
      refine Go.on (fun _ k => XS.dup X37.here hx rfl (hb hby d4_33) rfl rfl k) ?_
      show Go _ _ _ _ _ _ _ _ (mkF m 34 #[Sr a0, Sd d1, .second, .val (.double (FP.dsub d1 wn)), .second, .unset] [(.ref a0), (.ref a0)])
      obtain ⟨T59, X59, e59, st59⟩ := getF X37 hx hZ hown (host := "") (Or.inl (hw _ (List.mem_of_getElem? (i := 30) rfl))) Via.refl e37 F_first_a0 (g := (mkF m 34 #[Sr a0, Sd d1, .second, .val (.double (FP.dsub d1 wn)), .second, .unset] [(.ref a0), (.ref a0)])) rfl rfl (hb hby d4_34)
      refine Go.on st59 ?_
      show Go _ _ _ _ _ _ _ _ (mkF m 37 #[Sr a0, Sd d1, .second, .val (.double (FP.dsub d1 wn)), .second, .unset] [(.int 1), (.ref a0)])
      refine Go.on (fun _ k => XS.iconst X59.here hx rfl (hb hby d4_37) k) ?_
      refine Go.on (fun _ k => XS.iadd X59.here hx rfl (hb hby d4_38) rfl k) ?_
      show Go _ _ _ _ _ _ _ _ (mkF m 39 #[Sr a0, Sd d1, .second, .val (.double (FP.dsub d1 wn)), .second, .unset] [(.int 2), (.ref a0)])
      obtain ⟨T60, h60, X60, e60, W60, st60⟩ := putF X59 hx hZ hown (host := "") (Or.inl (hw _ (List.mem_of_getElem? (i := 30) rfl))) Via.refl e59 F_first_a0 E_a0 (Or.inl (hw _ (List.mem_of_getElem? (i := 31) rfl))) (hw _ (List.mem_of_getElem? (i := 1) rfl)) (ty := .int) (by decide) rfl rfl (g := (mkF m 39 #[Sr a0, Sd d1, .second, .val (.double (FP.dsub d1 wn)), .second, .unset] [(.int 2), (.ref a0)])) rfl rfl (hb hby d4_39)
      refine Go.on st60 ?_
      replace F_first_a0 := F_first_a0.same W60
      replace E_a0 := E_a0.wr W60
      replace F_times_a0 := F_times_a0.other W60 (Or.inr (slot_ne (Or.inl (hw _ (List.mem_of_getElem? (i := 11) rfl))) (Or.inl (hw _ (List.mem_of_getElem? (i := 31) rfl))) (by decide) (t := (.array .double)) (t' := .int) (by decide) (by decide)))
      replace F_latest_a0 := F_latest_a0.other W60 (Or.inr (slot_ne (Or.inl (hw _ (List.mem_of_getElem? (i := 14) rfl))) (Or.inl (hw _ (List.mem_of_getElem? (i := 31) rfl))) (by decide) (t := .double) (t' := .int) (by decide) (by decide)))
      replace F_window_a0 := F_window_a0.other W60 (Or.inr (slot_ne (Or.inr (hw _ (List.mem_of_getElem? (i := 17) rfl))) (Or.inl (hw _ (List.mem_of_getElem? (i := 31) rfl))) (by decide) (t := .double) (t' := .int) (by decide) (by decide)))
      replace F_end_a0 := F_end_a0.other W60 (Or.inr (slot_ne (Or.inl (hw _ (List.mem_of_getElem? (i := 24) rfl))) (Or.inl (hw _ (List.mem_of_getElem? (i := 31) rfl))) (by decide) (t := .int) (t' := .int) (by decide) (by decide)))
      replace V_as := V_as.other W60 (Ne.symm ne_a0_as)
      have N60 := Fr.snoc X60 N32 g_a0
      replace ZZ := Nat.le_trans ZZ (Keep.of_wr W60).1
      replace KP := KP.wr W60 (Or.inl (List.mem_of_getElem? (i := 0) rfl))
      show Go _ _ _ _ _ _ _ _ (mkF m 42 #[Sr a0, Sd d1, .second, .val (.double (FP.dsub d1 wn)), .second, .unset] [])
      refine Go.on (fun _ k => XS.goto X60.here hx rfl (pc0 := 42) (pc' := 7) rfl (hb hby d4_42) (by decide) (by decide) k) ?_
      show Go _ _ _ _ _ _ _ _ (mkF m 7 #[Sr a0, Sd d1, .second, .val (.double (FP.dsub d1 wn)), .second, .unset] [])
      have q_ : ¬ (nw.toInt - jw.toInt < t1.toInt) := fun q => hc39 ((own_cg zt1 zl).mpr q)
      exact hL2 _ _ _ X60 e60 N60 ZZ KP E_a0 F_times_a0 F_latest_a0 F_window_a0 F_first_a0 F_end_a0 V_as dd0 (by omega)
  have hL0 : ∀ (T61 : State) (locs61 : List Loc) (h61 : Heap), Stand p l e ({ frames := 0, cells := 0, slots := 0, locals := 0 } : Room) s m #[(.ref a0), (.double d1)] below meth c T61 locs61 0 0 → T61.heap = h61 → Fr n0 locs61 → n0 ≤ h61.size → Keep h0 h61 [a0] → Exa Z h61 a0 "com/example/deliberate_scaler/deliberatescaler/model/RateWindow" → Fld Z h61 a0 "com/example/deliberate_scaler/deliberatescaler/model/RateWindow" "times" "[D" (.ref as) → Fld Z h61 a0 "com/example/deliberate_scaler/deliberatescaler/model/RateWindow" "latest" "D" (.double lt) → Fld Z h61 a0 "com/example/deliberate_scaler/deliberatescaler/model/RateWindow" "window" "D" (.double wn) → Fld Z h61 a0 "com/example/deliberate_scaler/deliberatescaler/model/RateWindow" "first" "I" (.int (0 : Int32)) → Fld Z h61 a0 "com/example/deliberate_scaler/deliberatescaler/model/RateWindow" "end" "I" (.int (3 : Int32)) → Arv Z h61 as k_as .double (64 : Int32) [(.double y0), (.double y1), (.double y2), (.double (0 : UInt64)), (.double (0 : UInt64)), (.double (0 : UInt64)), (.double (0 : UInt64)), (.double (0 : UInt64)), (.double (0 : UInt64)), (.double (0 : UInt64)), (.double (0 : UInt64)), (.double (0 : UInt64)), (.double (0 : UInt64)), (.double (0 : UInt64)), (.double (0 : UInt64)), (.double (0 : UInt64)), (.double (0 : UInt64)), (.double (0 : UInt64)), (.double (0 : UInt64)), (.double (0 : UInt64)), (.double (0 : UInt64)), (.double (0 : UInt64)), (.double (0 : UInt64)), (.double (0 : UInt64)), (.double (0 : UInt64)), (.double (0 : UInt64)), (.double (0 : UInt64)), (.double (0 : UInt64)), (.double (0 : UInt64)), (.double (0 : UInt64)), (.double (0 : UInt64)), (.double (0 : UInt64)), (.double (0 : UInt64)), (.double (0 : UInt64)), (.double (0 : UInt64)), (.double (0 : UInt64)), (.double (0 : UInt64)), (.double (0 : UInt64)), (.double (0 : UInt64)), (.double (0 : UInt64)), (.double (0 : UInt64)), (.double (0 : UInt64)), (.double (0 : UInt64)), (.double (0 : UInt64)), (.double (0 : UInt64)), (.double (0 : UInt64)), (.double (0 : UInt64)), (.double (0 : UInt64)), (.double (0 : UInt64)), (.double (0 : UInt64)), (.double (0 : UInt64)), (.double (0 : UInt64)), (.double (0 : UInt64)), (.double (0 : UInt64)), (.double (0 : UInt64)), (.double (0 : UInt64)), (.double (0 : UInt64)), (.double (0 : UInt64)), (.double (0 : UInt64)), (.double (0 : UInt64)), (.double (0 : UInt64)), (.double (0 : UInt64)), (.double (0 : UInt64)), (.double (0 : UInt64))] (.double (0 : UInt64)) → Go p e below s K1 K2 QQ T61 (mkF m 7 #[Sr a0, Sd d1, .second, .val (.double (FP.dsub d1 wn)), .second, .unset] []) := by
    clear ZZ KP E_a0 F_times_a0 F_latest_a0 F_window_a0 F_first_a0 F_end_a0 V_as
    intro T61 locs61 h61 X61 e61 N61 ZZ KP E_a0 F_times_a0 F_latest_a0 F_window_a0 F_first_a0 F_end_a0 V_as 
    show Go _ _ _ _ _ _ _ _ (mkF m 7 #[Sr a0, Sd d1, .second, .val (.double (FP.dsub d1 wn)), .second, .unset] [])
    refine Go.on (fun _ k => XS.aloadN X61.here hx rfl (hb hby d4_7) rfl rfl k) ?_
    show Go _ _ _ _ _ _ _ _ (mkF m 8 #[Sr a0, Sd d1, .second, .val (.double (FP.dsub d1 wn)), .second, .unset] [(.ref a0)])
    obtain ⟨T62, X62, e62, st62⟩ := getF X61 hx hZ hown (host := "") (Or.inl (hw _ (List.mem_of_getElem? (i := 30) rfl))) Via.refl e61 F_first_a0 (g := (mkF m 8 #[Sr a0, Sd d1, .second, .val (.double (FP.dsub d1 wn)), .second, .unset] [(.ref a0)])) rfl rfl (hb hby d4_8)
    refine Go.on st62 ?_
    show Go _ _ _ _ _ _ _ _ (mkF m 11 #[Sr a0, Sd d1, .second, .val (.double (FP.dsub d1 wn)), .second, .unset] [(.int 0)])
    refine Go.on (fun _ k => XS.aloadN X62.here hx rfl (hb hby d4_11) rfl rfl k) ?_
    show Go _ _ _ _ _ _ _ _ (mkF m 12 #[Sr a0, Sd d1, .second, .val (.double (FP.dsub d1 wn)), .second, .unset] [(.ref a0), (.int 0)])
    obtain ⟨T63, X63, e63, st63⟩ := getF X62 hx hZ hown (host := "") (Or.inl (hw _ (List.mem_of_getElem? (i := 23) rfl))) Via.refl e62 F_end_a0 (g := (mkF m 12 #[Sr a0, Sd d1, .second, .val (.double (FP.dsub d1 wn)), .second, .unset] [(.ref a0), (.int 0)])) rfl rfl (hb hby d4_12)
    refine Go.on st63 ?_
    show Go _ _ _ _ _ _ _ _ (mkF m 15 #[Sr a0, Sd d1, .second, .val (.double (FP.dsub d1 wn)), .second, .unset] [(.int 3), (.int 0)])
    have hc64 : (0 : Int32) < (3 : Int32) := by decide
    refine Go.on (fun _ k => XS.icmpNo X63.here hx rfl (hb hby d4_15) rfl (tlt hc64).2.1 k) ?_
    refine Go.on (fun _ k => XS.aloadN X63.here hx rfl (hb hby d4_18) rfl rfl k) ?_
    show Go _ _ _ _ _ _ _ _ (mkF m 19 #[Sr a0, Sd d1, .second, .val (.double (FP.dsub d1 wn)), .second, .unset] [(.ref a0)])
    obtain ⟨T65, X65, e65, st65⟩ := getF X63 hx hZ hown (host := "") (Or.inl (hw _ (List.mem_of_getElem? (i := 10) rfl))) Via.refl e63 F_times_a0 (g := (mkF m 19 #[Sr a0, Sd d1, .second, .val (.double (FP.dsub d1 wn)), .second, .unset] [(.ref a0)])) rfl rfl (hb hby d4_19)
    refine Go.on st65 ?_
    show Go _ _ _ _ _ _ _ _ (mkF m 22 #[Sr a0, Sd d1, .second, .val (.double (FP.dsub d1 wn)), .second, .unset] [(.ref as)])
    refine Go.on (fun _ k => XS.aloadN X65.here hx rfl (hb hby d4_22) rfl rfl k) ?_
    show Go _ _ _ _ _ _ _ _ (mkF m 23 #[Sr a0, Sd d1, .second, .val (.double (FP.dsub d1 wn)), .second, .unset] [(.ref a0), (.ref as)])
    obtain ⟨T66, X66, e66, st66⟩ := getF X65 hx hZ hown (host := "") (Or.inl (hw _ (List.mem_of_getElem? (i := 30) rfl))) Via.refl e65 F_first_a0 (g := (mkF m 23 #[Sr a0, Sd d1, .second, .val (.double (FP.dsub d1 wn)), .second, .unset] [(.ref a0), (.ref as)])) rfl rfl (hb hby d4_23)
    refine Go.on st66 ?_
    show Go _ _ _ _ _ _ _ _ (mkF m 26 #[Sr a0, Sd d1, .second, .val (.double (FP.dsub d1 wn)), .second, .unset] [(.int 0), (.ref as)])
    obtain ⟨cl67, Ar67, -, S67, -, H67, -⟩ := id V_as
    have hin67 : ¬ ((0 : Int32) < 0 ∨ cl67.slots.size ≤ ((0 : Int32)).toNatClampNeg) := inb_of S67 ⟨by decide, by decide⟩
    refine Go.on (X66.daload hx (j := (0 : Int32)) (v := (.double y0)) (by rw [e66]; exact Ar67.1) (State.isArrayOf_alike hZ.alike Ar67.2.1) Ar67.2.2 hin67 (H67.at hin67 (rfl)) (g := (mkF m 26 #[Sr a0, Sd d1, .second, .val (.double (FP.dsub d1 wn)), .second, .unset] [(.int 0), (.ref as)])) rfl rfl (hb hby d4_26)) ?_
    show Go _ _ _ _ _ _ _ _ (mkF m 27 #[Sr a0, Sd d1, .second, .val (.double (FP.dsub d1 wn)), .second, .unset] [(.double y0)])
    refine Go.on (fun _ k => XS.dloadN X66.here hx rfl (hb hby d4_27) rfl k) ?_
    refine Go.on (fun _ k => XS.dcmpS X66.here hx rfl (hb hby d4_28) rfl rfl k) ?_
    show Go _ _ _ _ _ _ _ _ (mkF m 29 #[Sr a0, Sd d1, .second, .val (.double (FP.dsub d1 wn)), .second, .unset] [(.int (cmpValue (FP.dcmp y0 (FP.dsub d1 wn)) .g))])
    by_cases hc68 : (0 : Int32) < (cmpValue (FP.dcmp y0 (FP.dsub d1 wn)) .g)
    · -- pc 29 yes
      refine Go.on (fun _ k => XS.ifYes X66.here hx rfl (pc0 := 29) (pc' := 45) rfl (hb hby d4_29) rfl ((if0 _ _).trans (tlt hc68).2.2.1) (by decide) (by decide) k) ?_
      show Go _ _ _ _ _ _ _ _ (mkF m 45 #[Sr a0, Sd d1, .second, .val (.double (FP.dsub d1 wn)), .second, .unset] [])
      refine Go.on (fun _ k => XS.aloadN X66.here hx rfl (hb hby d4_45) rfl rfl k) ?_
      show Go _ _ _ _ _ _ _ _ (mkF m 46 #[Sr a0, Sd d1, .second, .val (.double (FP.dsub d1 wn)), .second, .unset] [(.ref a0)])
      obtain ⟨T69, X69, e69, st69⟩ := getF X66 hx hZ hown (host := "") (Or.inl (hw _ (List.mem_of_getElem? (i := 23) rfl))) Via.refl e66 F_end_a0 (g := (mkF m 46 #[Sr a0, Sd d1, .second, .val (.double (FP.dsub d1 wn)), .second, .unset] [(.ref a0)])) rfl rfl (hb hby d4_46)
      refine Go.on st69 ?_
      show Go _ _ _ _ _ _ _ _ (mkF m 49 #[Sr a0, Sd d1, .second, .val (.double (FP.dsub d1 wn)), .second, .unset] [(.int 3)])
      refine Go.on (fun _ k => XS.istore X69.here hx rfl (hb hby d4_49) rfl (l' := #[.val (.ref a0), .val (.double d1), .second, .val (.double (FP.dsub d1 wn)), .second, .val (.int (3 : Int32))]) rfl k) ?_
      show Go _ _ _ _ _ _ _ _ (mkF m 51 #[Sr a0, Sd d1, .second, .val (.double (FP.dsub d1 wn)), .second, Si 3] [])
      refine Go.on (fun _ k => XS.iload X69.here hx rfl (hb hby d4_51) rfl k) ?_
      refine Go.on (fun _ k => XS.aloadN X69.here hx rfl (hb hby d4_53) rfl rfl k) ?_
      show Go _ _ _ _ _ _ _ _ (mkF m 54 #[Sr a0, Sd d1, .second, .val (.double (FP.dsub d1 wn)), .second, Si 3] [(.ref a0), (.int 3)])
      obtain ⟨T70, X70, e70, st70⟩ := getF X69 hx hZ hown (host := "") (Or.inl (hw _ (List.mem_of_getElem? (i := 30) rfl))) Via.refl e69 F_first_a0 (g := (mkF m 54 #[Sr a0, Sd d1, .second, .val (.double (FP.dsub d1 wn)), .second, Si 3] [(.ref a0), (.int 3)])) rfl rfl (hb hby d4_54)
      refine Go.on st70 ?_
      show Go _ _ _ _ _ _ _ _ (mkF m 57 #[Sr a0, Sd d1, .second, .val (.double (FP.dsub d1 wn)), .second, Si 3] [(.int 0), (.int 3)])
      have hc71 : (0 : Int32) < (3 : Int32) := by decide
      refine Go.on (fun _ k => XS.icmpNo X70.here hx rfl (hb hby d4_57) rfl (tlt hc71).2.2.2 k) ?_
      refine Go.on (fun _ k => XS.aloadN X70.here hx rfl (hb hby d4_60) rfl rfl k) ?_
      show Go _ _ _ _ _ _ _ _ (mkF m 61 #[Sr a0, Sd d1, .second, .val (.double (FP.dsub d1 wn)), .second, Si 3] [(.ref a0)])
      obtain ⟨T72, X72, e72, st72⟩ := getF X70 hx hZ hown (host := "") (Or.inl (hw _ (List.mem_of_getElem? (i := 10) rfl))) Via.refl e70 F_times_a0 (g := (mkF m 61 #[Sr a0, Sd d1, .second, .val (.double (FP.dsub d1 wn)), .second, Si 3] [(.ref a0)])) rfl rfl (hb hby d4_61)
      refine Go.on st72 ?_
      show Go _ _ _ _ _ _ _ _ (mkF m 64 #[Sr a0, Sd d1, .second, .val (.double (FP.dsub d1 wn)), .second, Si 3] [(.ref as)])
      refine Go.on (fun _ k => XS.iload X72.here hx rfl (hb hby d4_64) rfl k) ?_
      refine Go.on (fun _ k => XS.iconst X72.here hx rfl (hb hby d4_66) k) ?_
      refine Go.on (fun _ k => XS.isub X72.here hx rfl (hb hby d4_67) rfl k) ?_
      show Go _ _ _ _ _ _ _ _ (mkF m 68 #[Sr a0, Sd d1, .second, .val (.double (FP.dsub d1 wn)), .second, Si 3] [(.int 2), (.ref as)])
      obtain ⟨cl73, Ar73, -, S73, -, H73, -⟩ := id V_as
      have hin73 : ¬ ((2 : Int32) < 0 ∨ cl73.slots.size ≤ ((2 : Int32)).toNatClampNeg) := inb_of S73 ⟨by decide, by decide⟩
      refine Go.on (X72.daload hx (j := (2 : Int32)) (v := (.double y2)) (by rw [e72]; exact Ar73.1) (State.isArrayOf_alike hZ.alike Ar73.2.1) Ar73.2.2 hin73 (H73.at hin73 (rfl)) (g := (mkF m 68 #[Sr a0, Sd d1, .second, .val (.double (FP.dsub d1 wn)), .second, Si 3] [(.int 2), (.ref as)])) rfl rfl (hb hby d4_68)) ?_
      show Go _ _ _ _ _ _ _ _ (mkF m 69 #[Sr a0, Sd d1, .second, .val (.double (FP.dsub d1 wn)), .second, Si 3] [(.double y2)])
      refine Go.on (fun _ k => XS.dloadN X72.here hx rfl (hb hby d4_69) rfl k) ?_
      refine Go.on (fun _ k => XS.dcmpS X72.here hx rfl (hb hby d4_70) rfl rfl k) ?_
      show Go _ _ _ _ _ _ _ _ (mkF m 71 #[Sr a0, Sd d1, .second, .val (.double (FP.dsub d1 wn)), .second, Si 3] [(.int (cmpValue (FP.dcmp y2 d1) .l))])
      by_cases hc74 : (0 : Int32) < (cmpValue (FP.dcmp y2 d1) .l)
      · -- pc 71 yes
        refine Go.on (fun _ k => XS.ifNo X72.here hx rfl (hb hby d4_71) rfl ((if0 _ _).trans (tlt hc74).2.2.2) k) ?_
        show Go _ _ _ _ _ _ _ _ (mkF m 74 #[Sr a0, Sd d1, .second, .val (.double (FP.dsub d1 wn)), .second, Si 3] [])
        refine Go.on (fun _ k => XS.iinc X72.here hx rfl (hb hby d4_74) rfl (l' := #[.val (.ref a0), .val (.double d1), .second, .val (.double (FP.dsub d1 wn)), .second, .val (.int (2 : Int32))]) rfl k) ?_
        show Go _ _ _ _ _ _ _ _ (mkF m 77 #[Sr a0, Sd d1, .second, .val (.double (FP.dsub d1 wn)), .second, Si 2] [])
        refine Go.on (fun _ k => XS.goto X72.here hx rfl (pc0 := 77) (pc' := 51) rfl (hb hby d4_77) (by decide) (by decide) k) ?_
        refine Go.on (fun _ k => XS.iload X72.here hx rfl (hb hby d4_51) rfl k) ?_
        refine Go.on (fun _ k => XS.aloadN X72.here hx rfl (hb hby d4_53) rfl rfl k) ?_
        show Go _ _ _ _ _ _ _ _ (mkF m 54 #[Sr a0, Sd d1, .second, .val (.double (FP.dsub d1 wn)), .second, Si 2] [(.ref a0), (.int 2)])
        obtain ⟨T75, X75, e75, st75⟩ := getF X72 hx hZ hown (host := "") (Or.inl (hw _ (List.mem_of_getElem? (i := 30) rfl))) Via.refl e72 F_first_a0 (g := (mkF m 54 #[Sr a0, Sd d1, .second, .val (.double (FP.dsub d1 wn)), .second, Si 2] [(.ref a0), (.int 2)])) rfl rfl (hb hby d4_54)
        refine Go.on st75 ?_
        show Go _ _ _ _ _ _ _ _ (mkF m 57 #[Sr a0, Sd d1, .second, .val (.double (FP.dsub d1 wn)), .second, Si 2] [(.int 0), (.int 2)])
        have hc76 : (0 : Int32) < (2 : Int32) := by decide
        refine Go.on (fun _ k => XS.icmpNo X75.here hx rfl (hb hby d4_57) rfl (tlt hc76).2.2.2 k) ?_
        refine Go.on (fun _ k => XS.aloadN X75.here hx rfl (hb hby d4_60) rfl rfl k) ?_
        show Go _ _ _ _ _ _ _ _ (mkF m 61 #[Sr a0, Sd d1, .second, .val (.double (FP.dsub d1 wn)), .second, Si 2] [(.ref a0)])
        obtain ⟨T77, X77, e77, st77⟩ := getF X75 hx hZ hown (host := "") (Or.inl (hw _ (List.mem_of_getElem? (i := 10) rfl))) Via.refl e75 F_times_a0 (g := (mkF m 61 #[Sr a0, Sd d1, .second, .val (.double (FP.dsub d1 wn)), .second, Si 2] [(.ref a0)])) rfl rfl (hb hby d4_61)
        refine Go.on st77 ?_
        show Go _ _ _ _ _ _ _ _ (mkF m 64 #[Sr a0, Sd d1, .second, .val (.double (FP.dsub d1 wn)), .second, Si 2] [(.ref as)])
        refine Go.on (fun _ k => XS.iload X77.here hx rfl (hb hby d4_64) rfl k) ?_
        refine Go.on (fun _ k => XS.iconst X77.here hx rfl (hb hby d4_66) k) ?_
        refine Go.on (fun _ k => XS.isub X77.here hx rfl (hb hby d4_67) rfl k) ?_
        show Go _ _ _ _ _ _ _ _ (mkF m 68 #[Sr a0, Sd d1, .second, .val (.double (FP.dsub d1 wn)), .second, Si 2] [(.int 1), (.ref as)])
        obtain ⟨cl78, Ar78, -, S78, -, H78, -⟩ := id V_as
        have hin78 : ¬ ((1 : Int32) < 0 ∨ cl78.slots.size ≤ ((1 : Int32)).toNatClampNeg) := inb_of S78 ⟨by decide, by decide⟩
        refine Go.on (X77.daload hx (j := (1 : Int32)) (v := (.double y1)) (by rw [e77]; exact Ar78.1) (State.isArrayOf_alike hZ.alike Ar78.2.1) Ar78.2.2 hin78 (H78.at hin78 (rfl)) (g := (mkF m 68 #[Sr a0, Sd d1, .second, .val (.double (FP.dsub d1 wn)), .second, Si 2] [(.int 1), (.ref as)])) rfl rfl (hb hby d4_68)) ?_
        show Go _ _ _ _ _ _ _ _ (mkF m 69 #[Sr a0, Sd d1, .second, .val (.double (FP.dsub d1 wn)), .second, Si 2] [(.double y1)])
        refine Go.on (fun _ k => XS.dloadN X77.here hx rfl (hb hby d4_69) rfl k) ?_
        refine Go.on (fun _ k => XS.dcmpS X77.here hx rfl (hb hby d4_70) rfl rfl k) ?_
        show Go _ _ _ _ _ _ _ _ (mkF m 71 #[Sr a0, Sd d1, .second, .val (.double (FP.dsub d1 wn)), .second, Si 2] [(.int (cmpValue (FP.dcmp y1 d1) .l))])
        by_cases hc79 : (0 : Int32) < (cmpValue (FP.dcmp y1 d1) .l)
        · -- pc 71 yes
          refine Go.on (fun _ k => XS.ifNo X77.here hx rfl (hb hby d4_71) rfl ((if0 _ _).trans (tlt hc79).2.2.2) k) ?_
          show Go _ _ _ _ _ _ _ _ (mkF m 74 #[Sr a0, Sd d1, .second, .val (.double (FP.dsub d1 wn)), .second, Si 2] [])
          refine Go.on (fun _ k => XS.iinc X77.here hx rfl (hb hby d4_74) rfl (l' := #[.val (.ref a0), .val (.double d1), .second, .val (.double (FP.dsub d1 wn)), .second, .val (.int (1 : Int32))]) rfl k) ?_
          show Go _ _ _ _ _ _ _ _ (mkF m 77 #[Sr a0, Sd d1, .second, .val (.double (FP.dsub d1 wn)), .second, Si 1] [])
          refine Go.on (fun _ k => XS.goto X77.here hx rfl (pc0 := 77) (pc' := 51) rfl (hb hby d4_77) (by decide) (by decide) k) ?_
          refine Go.on (fun _ k => XS.iload X77.here hx rfl (hb hby d4_51) rfl k) ?_
          refine Go.on (fun _ k => XS.aloadN X77.here hx rfl (hb hby d4_53) rfl rfl k) ?_
          show Go _ _ _ _ _ _ _ _ (mkF m 54 #[Sr a0, Sd d1, .second, .val (.double (FP.dsub d1 wn)), .second, Si 1] [(.ref a0), (.int 1)])
          obtain ⟨T80, X80, e80, st80⟩ := getF X77 hx hZ hown (host := "") (Or.inl (hw _ (List.mem_of_getElem? (i := 30) rfl))) Via.refl e77 F_first_a0 (g := (mkF m 54 #[Sr a0, Sd d1, .second, .val (.double (FP.dsub d1 wn)), .second, Si 1] [(.ref a0), (.int 1)])) rfl rfl (hb hby d4_54)
          refine Go.on st80 ?_
          show Go _ _ _ _ _ _ _ _ (mkF m 57 #[Sr a0, Sd d1, .second, .val (.double (FP.dsub d1 wn)), .second, Si 1] [(.int 0), (.int 1)])
          have hc81 : (0 : Int32) < (1 : Int32) := by decide
          refine Go.on (fun _ k => XS.icmpNo X80.here hx rfl (hb hby d4_57) rfl (tlt hc81).2.2.2 k) ?_
          refine Go.on (fun _ k => XS.aloadN X80.here hx rfl (hb hby d4_60) rfl rfl k) ?_
          show Go _ _ _ _ _ _ _ _ (mkF m 61 #[Sr a0, Sd d1, .second, .val (.double (FP.dsub d1 wn)), .second, Si 1] [(.ref a0)])
          obtain ⟨T82, X82, e82, st82⟩ := getF X80 hx hZ hown (host := "") (Or.inl (hw _ (List.mem_of_getElem? (i := 10) rfl))) Via.refl e80 F_times_a0 (g := (mkF m 61 #[Sr a0, Sd d1, .second, .val (.double (FP.dsub d1 wn)), .second, Si 1] [(.ref a0)])) rfl rfl (hb hby d4_61)
          refine Go.on st82 ?_
          show Go _ _ _ _ _ _ _ _ (mkF m 64 #[Sr a0, Sd d1, .second, .val (.double (FP.dsub d1 wn)), .second, Si 1] [(.ref as)])
          refine Go.on (fun _ k => XS.iload X82.here hx rfl (hb hby d4_64) rfl k) ?_
          refine Go.on (fun _ k => XS.iconst X82.here hx rfl (hb hby d4_66) k) ?_
          refine Go.on (fun _ k => XS.isub X82.here hx rfl (hb hby d4_67) rfl k) ?_
          show Go _ _ _ _ _ _ _ _ (mkF m 68 #[Sr a0, Sd d1, .second, .val (.double (FP.dsub d1 wn)), .second, Si 1] [(.int 0), (.ref as)])
          obtain ⟨cl83, Ar83, -, S83, -, H83, -⟩ := id V_as
          have hin83 : ¬ ((0 : Int32) < 0 ∨ cl83.slots.size ≤ ((0 : Int32)).toNatClampNeg) := inb_of S83 ⟨by decide, by decide⟩
          refine Go.on (X82.daload hx (j := (0 : Int32)) (v := (.double y0)) (by rw [e82]; exact Ar83.1) (State.isArrayOf_alike hZ.alike Ar83.2.1) Ar83.2.2 hin83 (H83.at hin83 (rfl)) (g := (mkF m 68 #[Sr a0, Sd d1, .second, .val (.double (FP.dsub d1 wn)), .second, Si 1] [(.int 0), (.ref as)])) rfl rfl (hb hby d4_68)) ?_
          show Go _ _ _ _ _ _ _ _ (mkF m 69 #[Sr a0, Sd d1, .second, .val (.double (FP.dsub d1 wn)), .second, Si 1] [(.double y0)])
          refine Go.on (fun _ k => XS.dloadN X82.here hx rfl (hb hby d4_69) rfl k) ?_
          refine Go.on (fun _ k => XS.dcmpS X82.here hx rfl (hb hby d4_70) rfl rfl k) ?_
          show Go _ _ _ _ _ _ _ _ (mkF m 71 #[Sr a0, Sd d1, .second, .val (.double (FP.dsub d1 wn)), .second, Si 1] [(.int (cmpValue (FP.dcmp y0 d1) .l))])
          by_cases hc84 : (0 : Int32) < (cmpValue (FP.dcmp y0 d1) .l)
          · -- pc 71 yes
            refine Go.on (fun _ k => XS.ifNo X82.here hx rfl (hb hby d4_71) rfl ((if0 _ _).trans (tlt hc84).2.2.2) k) ?_
            show Go _ _ _ _ _ _ _ _ (mkF m 74 #[Sr a0, Sd d1, .second, .val (.double (FP.dsub d1 wn)), .second, Si 1] [])
            refine Go.on (fun _ k => XS.iinc X82.here hx rfl (hb hby d4_74) rfl (l' := #[.val (.ref a0), .val (.double d1), .second, .val (.double (FP.dsub d1 wn)), .second, .val (.int (0 : Int32))]) rfl k) ?_
            show Go _ _ _ _ _ _ _ _ (mkF m 77 #[Sr a0, Sd d1, .second, .val (.double (FP.dsub d1 wn)), .second, Si 0] [])
            refine Go.on (fun _ k => XS.goto X82.here hx rfl (pc0 := 77) (pc' := 51) rfl (hb hby d4_77) (by decide) (by decide) k) ?_
            refine Go.on (fun _ k => XS.iload X82.here hx rfl (hb hby d4_51) rfl k) ?_
            refine Go.on (fun _ k => XS.aloadN X82.here hx rfl (hb hby d4_53) rfl rfl k) ?_
            show Go _ _ _ _ _ _ _ _ (mkF m 54 #[Sr a0, Sd d1, .second, .val (.double (FP.dsub d1 wn)), .second, Si 0] [(.ref a0), (.int 0)])
            obtain ⟨T85, X85, e85, st85⟩ := getF X82 hx hZ hown (host := "") (Or.inl (hw _ (List.mem_of_getElem? (i := 30) rfl))) Via.refl e82 F_first_a0 (g := (mkF m 54 #[Sr a0, Sd d1, .second, .val (.double (FP.dsub d1 wn)), .second, Si 0] [(.ref a0), (.int 0)])) rfl rfl (hb hby d4_54)
            refine Go.on st85 ?_
            show Go _ _ _ _ _ _ _ _ (mkF m 57 #[Sr a0, Sd d1, .second, .val (.double (FP.dsub d1 wn)), .second, Si 0] [(.int 0), (.int 0)])
            have hc86 : ¬ ((0 : Int32) < (0 : Int32)) := by decide
            refine Go.on (fun _ k => XS.icmpYes X85.here hx rfl (pc0 := 57) (pc' := 80) rfl (hb hby d4_57) rfl (flt hc86).2.2.2 (by decide) (by decide) k) ?_
            refine Go.on (fun _ k => XS.iload X85.here hx rfl (hb hby d4_80) rfl k) ?_
            refine Go.on (fun _ k => XS.aloadN X85.here hx rfl (hb hby d4_82) rfl rfl k) ?_
            show Go _ _ _ _ _ _ _ _ (mkF m 83 #[Sr a0, Sd d1, .second, .val (.double (FP.dsub d1 wn)), .second, Si 0] [(.ref a0), (.int 0)])
            obtain ⟨T87, X87, e87, st87⟩ := getF X85 hx hZ hown (host := "") (Or.inl (hw _ (List.mem_of_getElem? (i := 30) rfl))) Via.refl e85 F_first_a0 (g := (mkF m 83 #[Sr a0, Sd d1, .second, .val (.double (FP.dsub d1 wn)), .second, Si 0] [(.ref a0), (.int 0)])) rfl rfl (hb hby d4_83)
            refine Go.on st87 ?_
            show Go _ _ _ _ _ _ _ _ (mkF m 86 #[Sr a0, Sd d1, .second, .val (.double (FP.dsub d1 wn)), .second, Si 0] [(.int 0), (.int 0)])
            refine Go.on (fun _ k => XS.isub X87.here hx rfl (hb hby d4_86) rfl k) ?_
            refine Go.on (fun _ k => XS.i2dS X87.here hx rfl (hb hby d4_87) rfl rfl k) ?_
            refine Go.on (fun _ k => XS.aloadN X87.here hx rfl (hb hby d4_88) rfl rfl k) ?_
            show Go _ _ _ _ _ _ _ _ (mkF m 89 #[Sr a0, Sd d1, .second, .val (.double (FP.dsub d1 wn)), .second, Si 0] [(.ref a0), (.double (FP.i2d (0 : Int32)))])
            obtain ⟨T88, X88, e88, st88⟩ := getF X87 hx hZ hown (host := "") (Or.inl (hw _ (List.mem_of_getElem? (i := 16) rfl))) Via.refl e87 F_window_a0 (g := (mkF m 89 #[Sr a0, Sd d1, .second, .val (.double (FP.dsub d1 wn)), .second, Si 0] [(.ref a0), (.double (FP.i2d (0 : Int32)))])) rfl rfl (hb hby d4_89)
            refine Go.on st88 ?_
            show Go _ _ _ _ _ _ _ _ (mkF m 92 #[Sr a0, Sd d1, .second, .val (.double (FP.dsub d1 wn)), .second, Si 0] [(.double wn), (.double (FP.i2d (0 : Int32)))])
            refine Go.on (fun _ k => XS.ddivS X88.here hx rfl (hb hby d4_92) rfl ((own_rt _ hwn hw1 bw)) rfl k) ?_
            show Go _ _ _ _ _ _ _ _ (mkF m 93 #[Sr a0, Sd d1, .second, .val (.double (FP.dsub d1 wn)), .second, Si 0] [(.double (FP.ddiv (FP.i2d (0 : Int32)) wn))])
            refine Go.retV X88 hx Bd.returns rfl (Or.inr (Or.inr (Or.inl ⟨rfl, rfl, _, rfl⟩))) (hb hby d4_93) ?_ (by rw [hK1]; decide) (by rw [hK2]; decide)
            rw [e88, ← hQQ]
            have q_hc68 : nw.toInt - jw.toInt < t0.toInt := (own_cg zt0 zl).mp hc68
            have q_hc74 : nw.toInt < t2.toInt := (own_cl zt2 zn).mp hc74
            have q_hc79 : nw.toInt < t1.toInt := (own_cl zt1 zn).mp hc79
            have q_hc84 : nw.toInt < t0.toInt := (own_cl zt0 zn).mp hc84
            have i0_ : inV t0 nw jw = 0 := own_in0 bn bw (Or.inr (by omega))
            have i1_ : inV t1 nw jw = 0 := own_in0 bn bw (Or.inr (by omega))
            have i2_ : inV t2 nw jw = 0 := own_in0 bn bw (Or.inr (by omega))
            have hC : (((inV t0 nw jw) + (inV t1 nw jw)) + (inV t2 nw jw)) = (0 : Int32) := by rw [i0_, i1_, i2_] <;> decide
            unfold Q_rw_rate_3
            rw [hC]
            exact ⟨_, rfl, N61, KP, E_a0, F_times_a0, F_latest_a0, F_window_a0, F_first_a0, F_end_a0, (Or.inl rfl), (fun q => absurd q (by decide)), (fun q => absurd q (by decide)), (fun q => absurd q (by decide))⟩
          · -- pc 71 no
            refine Go.on (fun _ k => XS.ifYes X82.here hx rfl (pc0 := 71) (pc' := 80) rfl (hb hby d4_71) rfl ((if0 _ _).trans (flt hc84).2.2.2) (by decide) (by decide) k) ?_
            show Go _ _ _ _ _ _ _ _ (mkF m 80 #[Sr a0, Sd d1, .second, .val (.double (FP.dsub d1 wn)), .second, Si 1] [])
            refine Go.on (fun _ k => XS.iload X82.here hx rfl (hb hby d4_80) rfl k) ?_
            refine Go.on (fun _ k => XS.aloadN X82.here hx rfl (hb hby d4_82) rfl rfl k) ?_
            show Go _ _ _ _ _ _ _ _ (mkF m 83 #[Sr a0, Sd d1, .second, .val (.double (FP.dsub d1 wn)), .second, Si 1] [(.ref a0), (.int 1)])
            obtain ⟨T89, X89, e89, st89⟩ := getF X82 hx hZ hown (host := "") (Or.inl (hw _ (List.mem_of_getElem? (i := 30) rfl))) Via.refl e82 F_first_a0 (g := (mkF m 83 #[Sr a0, Sd d1, .second, .val (.double (FP.dsub d1 wn)), .second, Si 1] [(.ref a0), (.int 1)])) rfl rfl (hb hby d4_83)
            refine Go.on st89 ?_
            show Go _ _ _ _ _ _ _ _ (mkF m 86 #[Sr a0, Sd d1, .second, .val (.double (FP.dsub d1 wn)), .second, Si 1] [(.int 0), (.int 1)])
            refine Go.on (fun _ k => XS.isub X89.here hx rfl (hb hby d4_86) rfl k) ?_
            refine Go.on (fun _ k => XS.i2dS X89.here hx rfl (hb hby d4_87) rfl rfl k) ?_
            refine Go.on (fun _ k => XS.aloadN X89.here hx rfl (hb hby d4_88) rfl rfl k) ?_
            show Go _ _ _ _ _ _ _ _ (mkF m 89 #[Sr a0, Sd d1, .second, .val (.double (FP.dsub d1 wn)), .second, Si 1] [(.ref a0), (.double (FP.i2d (1 : Int32)))])
            obtain ⟨T90, X90, e90, st90⟩ := getF X89 hx hZ hown (host := "") (Or.inl (hw _ (List.mem_of_getElem? (i := 16) rfl))) Via.refl e89 F_window_a0 (g := (mkF m 89 #[Sr a0, Sd d1, .second, .val (.double (FP.dsub d1 wn)), .second, Si 1] [(.ref a0), (.double (FP.i2d (1 : Int32)))])) rfl rfl (hb hby d4_89)
            refine Go.on st90 ?_
            show Go _ _ _ _ _ _ _ _ (mkF m 92 #[Sr a0, Sd d1, .second, .val (.double (FP.dsub d1 wn)), .second, Si 1] [(.double wn), (.double (FP.i2d (1 : Int32)))])
            refine Go.on (fun _ k => XS.ddivS X90.here hx rfl (hb hby d4_92) rfl ((own_rt _ hwn hw1 bw)) rfl k) ?_
            show Go _ _ _ _ _ _ _ _ (mkF m 93 #[Sr a0, Sd d1, .second, .val (.double (FP.dsub d1 wn)), .second, Si 1] [(.double (FP.ddiv (FP.i2d (1 : Int32)) wn))])
            refine Go.retV X90 hx Bd.returns rfl (Or.inr (Or.inr (Or.inl ⟨rfl, rfl, _, rfl⟩))) (hb hby d4_93) ?_ (by rw [hK1]; decide) (by rw [hK2]; decide)
            rw [e90, ← hQQ]
            have q_hc68 : nw.toInt - jw.toInt < t0.toInt := (own_cg zt0 zl).mp hc68
            have q_hc74 : nw.toInt < t2.toInt := (own_cl zt2 zn).mp hc74
            have q_hc79 : nw.toInt < t1.toInt := (own_cl zt1 zn).mp hc79
            have q_hc84 : ¬ (nw.toInt < t0.toInt) := fun q => hc84 ((own_cl zt0 zn).mpr q)
            have i0_ : inV t0 nw jw = 1 := own_in1 bn bw (by omega) (by omega)
            have i1_ : inV t1 nw jw = 0 := own_in0 bn bw (Or.inr (by omega))
            have i2_ : inV t2 nw jw = 0 := own_in0 bn bw (Or.inr (by omega))
            have hC : (((inV t0 nw jw) + (inV t1 nw jw)) + (inV t2 nw jw)) = (1 : Int32) := by rw [i0_, i1_, i2_] <;> decide
            unfold Q_rw_rate_3
            rw [hC]
            exact ⟨_, rfl, N61, KP, E_a0, F_times_a0, F_latest_a0, F_window_a0, F_first_a0, F_end_a0, (Or.inl rfl), (fun q => absurd q (by decide)), (fun q => absurd q (by decide)), (fun q => absurd q (by decide))⟩
        · -- pc 71 no
          refine Go.on (fun _ k => XS.ifYes X77.here hx rfl (pc0 := 71) (pc' := 80) rfl (hb hby d4_71) rfl ((if0 _ _).trans (flt hc79).2.2.2) (by decide) (by decide) k) ?_
          show Go _ _ _ _ _ _ _ _ (mkF m 80 #[Sr a0, Sd d1, .second, .val (.double (FP.dsub d1 wn)), .second, Si 2] [])
          refine Go.on (fun _ k => XS.iload X77.here hx rfl (hb hby d4_80) rfl k) ?_
          refine Go.on (fun _ k => XS.aloadN X77.here hx rfl (hb hby d4_82) rfl rfl k) ?_
          show Go _ _ _ _ _ _ _ _ (mkF m 83 #[Sr a0, Sd d1, .second, .val (.double (FP.dsub d1 wn)), .second, Si 2] [(.ref a0), (.int 2)])
          obtain ⟨T91, X91, e91, st91⟩ := getF X77 hx hZ hown (host := "") (Or.inl (hw _ (List.mem_of_getElem? (i := 30) rfl))) Via.refl e77 F_first_a0 (g := (mkF m 83 #[Sr a0, Sd d1, .second, .val (.double (FP.dsub d1 wn)), .second, Si 2] [(.ref a0), (.int 2)])) rfl rfl (hb hby d4_83)
          refine Go.on st91 ?_
          show Go _ _ _ _ _ _ _ _ (mkF m 86 #[Sr a0, Sd d1, .second, .val (.double (FP.dsub d1 wn)), .second, Si 2] [(.int 0), (.int 2)])
          refine Go.on (fun _ k => XS.isub X91.here hx rfl (hb hby d4_86) rfl k) ?_
          refine Go.on (fun _ k => XS.i2dS X91.here hx rfl (hb hby d4_87) rfl rfl k) ?_
          refine Go.on (fun _ k => XS.aloadN X91.here hx rfl (hb hby d4_88) rfl rfl k) ?_
          show Go _ _ _ _ _ _ _ _ (mkF m 89 #[Sr a0, Sd d1, .second, .val (.double (FP.dsub d1 wn)), .second, Si 2] [(.ref a0), (.double (FP.i2d (2 : Int32)))])
          obtain ⟨T92, X92, e92, st92⟩ := getF X91 hx hZ hown (host := "") (Or.inl (hw _ (List.mem_of_getElem? (i := 16) rfl))) Via.refl e91 F_window_a0 (g := (mkF m 89 #[Sr a0, Sd d1, .second, .val (.double (FP.dsub d1 wn)), .second, Si 2] [(.ref a0), (.double (FP.i2d (2 : Int32)))])) rfl rfl (hb hby d4_89)
          refine Go.on st92 ?_
          show Go _ _ _ _ _ _ _ _ (mkF m 92 #[Sr a0, Sd d1, .second, .val (.double (FP.dsub d1 wn)), .second, Si 2] [(.double wn), (.double (FP.i2d (2 : Int32)))])
          refine Go.on (fun _ k => XS.ddivS X92.here hx rfl (hb hby d4_92) rfl ((own_rt _ hwn hw1 bw)) rfl k) ?_
          show Go _ _ _ _ _ _ _ _ (mkF m 93 #[Sr a0, Sd d1, .second, .val (.double (FP.dsub d1 wn)), .second, Si 2] [(.double (FP.ddiv (FP.i2d (2 : Int32)) wn))])
          refine Go.retV X92 hx Bd.returns rfl (Or.inr (Or.inr (Or.inl ⟨rfl, rfl, _, rfl⟩))) (hb hby d4_93) ?_ (by rw [hK1]; decide) (by rw [hK2]; decide)
          rw [e92, ← hQQ]
          have q_hc68 : nw.toInt - jw.toInt < t0.toInt := (own_cg zt0 zl).mp hc68
          have q_hc74 : nw.toInt < t2.toInt := (own_cl zt2 zn).mp hc74
          have q_hc79 : ¬ (nw.toInt < t1.toInt) := fun q => hc79 ((own_cl zt1 zn).mpr q)
          have i0_ : inV t0 nw jw = 1 := own_in1 bn bw (by omega) (by omega)
          have i1_ : inV t1 nw jw = 1 := own_in1 bn bw (by omega) (by omega)
          have i2_ : inV t2 nw jw = 0 := own_in0 bn bw (Or.inr (by omega))
          have hC : (((inV t0 nw jw) + (inV t1 nw jw)) + (inV t2 nw jw)) = (2 : Int32) := by rw [i0_, i1_, i2_] <;> decide
          unfold Q_rw_rate_3
          rw [hC]
          exact ⟨_, rfl, N61, KP, E_a0, F_times_a0, F_latest_a0, F_window_a0, F_first_a0, F_end_a0, (Or.inl rfl), (fun q => absurd q (by decide)), (fun q => absurd q (by decide)), (fun q => absurd q (by decide))⟩
      · -- pc 71 no
        refine Go.on (fun _ k => XS.ifYes X72.here hx rfl (pc0 := 71) (pc' := 80) rfl (hb hby d4_71) rfl ((if0 _ _).trans (flt hc74).2.2.2) (by decide) (by decide) k) ?_
        show Go _ _ _ _ _ _ _ _ (mkF m 80 #[Sr a0, Sd d1, .second, .val (.double (FP.dsub d1 wn)), .second, Si 3] [])
        refine Go.on (fun _ k => XS.iload X72.here hx rfl (hb hby d4_80) rfl k) ?_
        refine Go.on (fun _ k => XS.aloadN X72.here hx rfl (hb hby d4_82) rfl rfl k) ?_
        show Go _ _ _ _ _ _ _ _ (mkF m 83 #[Sr a0, Sd d1, .second, .val (.double (FP.dsub d1 wn)), .second, Si 3] [(.ref a0), (.int 3)])
        obtain ⟨T93, X93, e93, st93⟩ := getF X72 hx hZ hown (host := "") (Or.inl (hw _ (List.mem_of_getElem? (i := 30) rfl))) Via.refl e72 F_first_a0 (g := (mkF m 83 #[Sr a0, Sd d1, .second, .val (.double (FP.dsub d1 wn)), .second, Si 3] [(.ref a0), (.int 3)])) rfl rfl (hb hby d4_83)
        refine Go.on st93 ?_
        show Go _ _ _ _ _ _ _ _ (mkF m 86 #[Sr a0, Sd d1, .second, .val (.double (FP.dsub d1 wn)), .second, Si 3] [(.int 0), (.int 3)])
        refine Go.on (fun _ k => XS.isub X93.here hx rfl (hb hby d4_86) rfl k) ?_
        refine Go.on (fun _ k => XS.i2dS X93.here hx rfl (hb hby d4_87) rfl rfl k) ?_
        refine Go.on (fun _ k => XS.aloadN X93.here hx rfl (hb hby d4_88) rfl rfl k) ?_
        show Go _ _ _ _ _ _ _ _ (mkF m 89 #[Sr a0, Sd d1, .second, .val (.double (FP.dsub d1 wn)), .second, Si 3] [(.ref a0), (.double (FP.i2d (3 : Int32)))])
        obtain ⟨T94, X94, e94, st94⟩ := getF X93 hx hZ hown (host := "") (Or.inl (hw _ (List.mem_of_getElem? (i := 16) rfl))) Via.refl e93 F_window_a0 (g := (mkF m 89 #[Sr a0, Sd d1, .second, .val (.double (FP.dsub d1 wn)), .second, Si 3] [(.ref a0), (.double (FP.i2d (3 : Int32)))])) rfl rfl (hb hby d4_89)
        refine Go.on st94 ?_
        show Go _ _ _ _ _ _ _ _ (mkF m 92 #[Sr a0, Sd d1, .second, .val (.double (FP.dsub d1 wn)), .second, Si 3] [(.double wn), (.double (FP.i2d (3 : Int32)))])
        refine Go.on (fun _ k => XS.ddivS X94.here hx rfl (hb hby d4_92) rfl ((own_rt _ hwn hw1 bw)) rfl k) ?_
        show Go _ _ _ _ _ _ _ _ (mkF m 93 #[Sr a0, Sd d1, .second, .val (.double (FP.dsub d1 wn)), .second, Si 3] [(.double (FP.ddiv (FP.i2d (3 : Int32)) wn))])
        refine Go.retV X94 hx Bd.returns rfl (Or.inr (Or.inr (Or.inl ⟨rfl, rfl, _, rfl⟩))) (hb hby d4_93) ?_ (by rw [hK1]; decide) (by rw [hK2]; decide)
        rw [e94, ← hQQ]
        have q_hc68 : nw.toInt - jw.toInt < t0.toInt := (own_cg zt0 zl).mp hc68
        have q_hc74 : ¬ (nw.toInt < t2.toInt) := fun q => hc74 ((own_cl zt2 zn).mpr q)
        have i0_ : inV t0 nw jw = 1 := own_in1 bn bw (by omega) (by omega)
        have i1_ : inV t1 nw jw = 1 := own_in1 bn bw (by omega) (by omega)
        have i2_ : inV t2 nw jw = 1 := own_in1 bn bw (by omega) (by omega)
        have hC : (((inV t0 nw jw) + (inV t1 nw jw)) + (inV t2 nw jw)) = (3 : Int32) := by rw [i0_, i1_, i2_] <;> decide
        unfold Q_rw_rate_3
        rw [hC]
        exact ⟨_, rfl, N61, KP, E_a0, F_times_a0, F_latest_a0, F_window_a0, F_first_a0, F_end_a0, (Or.inl rfl), (fun q => absurd q (by decide)), (fun q => absurd q (by decide)), (fun q => absurd q (by decide))⟩
    · -- pc 29 no
      refine Go.on (fun _ k => XS.ifNo X66.here hx rfl (hb hby d4_29) rfl ((if0 _ _).trans (flt hc68).2.2.1) k) ?_
      show Go _ _ _ _ _ _ _ _ (mkF m 32 #[Sr a0, Sd d1, .second, .val (.double (FP.dsub d1 wn)), .second, .unset] [])
      refine Go.on (fun _ k => XS.aloadN X66.here hx rfl (hb hby d4_32) rfl rfl k) ?_
      refine Go.on (fun _ k => XS.dup X66.here hx rfl (hb hby d4_33) rfl rfl k) ?_
      show Go _ _ _ _ _ _ _ _ (mkF m 34 #[Sr a0, Sd d1, .second, .val (.double (FP.dsub d1 wn)), .second, .unset] [(.ref a0), (.ref a0)])
      obtain ⟨T95, X95, e95, st95⟩ := getF X66 hx hZ hown (host := "") (Or.inl (hw _ (List.mem_of_getElem? (i := 30) rfl))) Via.refl e66 F_first_a0 (g := (mkF m 34 #[Sr a0, Sd d1, .second, .val (.double (FP.dsub d1 wn)), .second, .unset] [(.ref a0), (.ref a0)])) rfl rfl (hb hby d4_34)
      refine Go.on st95 ?_
      show Go _ _ _ _ _ _ _ _ (mkF m 37 #[Sr a0, Sd d1, .second, .val (.double (FP.dsub d1 wn)), .second, .unset] [(.int 0), (.ref a0)])
      refine Go.on (fun _ k => XS.iconst X95.here hx rfl (hb hby d4_37) k) ?_
      refine Go.on (fun _ k => XS.iadd X95.here hx rfl (hb hby d4_38) rfl k) ?_
      show Go _ _ _ _ _ _ _ _ (mkF m 39 #[Sr a0, Sd d1, .second, .val (.double (FP.dsub d1 wn)), .second, .unset] [(.int 1), (.ref a0)])
      obtain ⟨T96, h96, X96, e96, W96, st96⟩ := putF X95 hx hZ hown (host := "") (Or.inl (hw _ (List.mem_of_getElem? (i := 30) rfl))) Via.refl e95 F_first_a0 E_a0 (Or.inl (hw _ (List.mem_of_getElem? (i := 31) rfl))) (hw _ (List.mem_of_getElem? (i := 1) rfl)) (ty := .int) (by decide) rfl rfl (g := (mkF m 39 #[Sr a0, Sd d1, .second, .val (.double (FP.dsub d1 wn)), .second, .unset] [(.int 1), (.ref a0)])) rfl rfl (hb hby d4_39)
      refine Go.on st96 ?_
      replace F_first_a0 := F_first_a0.same W96
      replace E_a0 := E_a0.wr W96
      replace F_times_a0 := F_times_a0.other W96 (Or.inr (slot_ne (Or.inl (hw _ (List.mem_of_getElem? (i := 11) rfl))) (Or.inl (hw _ (List.mem_of_getElem? (i := 31) rfl))) (by decide) (t := (.array .double)) (t' := .int) (by decide) (by decide)))
      replace F_latest_a0 := F_latest_a0.other W96 (Or.inr (slot_ne (Or.inl (hw _ (List.mem_of_getElem? (i := 14) rfl))) (Or.inl (hw _ (List.mem_of_getElem? (i := 31) rfl))) (by decide) (t := .double) (t' := .int) (by decide) (by decide)))
      replace F_window_a0 := F_window_a0.other W96 (Or.inr (slot_ne (Or.inr (hw _ (List.mem_of_getElem? (i := 17) rfl))) (Or.inl (hw _ (List.mem_of_getElem? (i := 31) rfl))) (by decide) (t := .double) (t' := .int) (by decide) (by decide)))
      replace F_end_a0 := F_end_a0.other W96 (Or.inr (slot_ne (Or.inl (hw _ (List.mem_of_getElem? (i := 24) rfl))) (Or.inl (hw _ (List.mem_of_getElem? (i := 31) rfl))) (by decide) (t := .int) (t' := .int) (by decide) (by decide)))
      replace V_as := V_as.other W96 (Ne.symm ne_a0_as)
      have N96 := Fr.snoc X96 N61 g_a0
      replace ZZ := Nat.le_trans ZZ (Keep.of_wr W96).1
      replace KP := KP.wr W96 (Or.inl (List.mem_of_getElem? (i := 0) rfl))
      show Go _ _ _ _ _ _ _ _ (mkF m 42 #[Sr a0, Sd d1, .second, .val (.double (FP.dsub d1 wn)), .second, .unset] [])
      refine Go.on (fun _ k => XS.goto X96.here hx rfl (pc0 := 42) (pc' := 7) rfl (hb hby d4_42) (by decide) (by decide) k) ?_
      show Go _ _ _ _ _ _ _ _ (mkF m 7 #[Sr a0, Sd d1, .second, .val (.double (FP.dsub d1 wn)), .second, .unset] [])
      have q_ : ¬ (nw.toInt - jw.toInt < t0.toInt) := fun q => hc68 ((own_cg zt0 zl).mpr q)
      exact hL1 _ _ _ X96 e96 N96 ZZ KP E_a0 F_times_a0 F_latest_a0 F_window_a0 F_first_a0 F_end_a0 V_as (by omega)
  refine Go.on (fun _ k => XS.dloadN X0.here hx rfl (hb hby d4_0) rfl k) ?_
  refine Go.on (fun _ k => XS.aloadN X0.here hx rfl (hb hby d4_1) rfl rfl k) ?_
  show Go _ _ _ _ _ _ _ _ (mkF m 2 #[Sr a0, Sd d1, .second, .unset, .unset, .unset] [(.ref a0), (.double d1)])
  obtain ⟨T97, X97, e97, st97⟩ := getF X0 hx hZ hown (host := "") (Or.inl (hw _ (List.mem_of_getElem? (i := 16) rfl))) Via.refl e0 F_window_a0 (g := (mkF m 2 #[Sr a0, Sd d1, .second, .unset, .unset, .unset] [(.ref a0), (.double d1)])) rfl rfl (hb hby d4_2)
  refine Go.on st97 ?_
  show Go _ _ _ _ _ _ _ _ (mkF m 5 #[Sr a0, Sd d1, .second, .unset, .unset, .unset] [(.double wn), (.double d1)])
  refine Go.on (fun _ k => XS.dsubS X97.here hx rfl (hb hby d4_5) rfl (zl.nn) rfl k) ?_
  show Go _ _ _ _ _ _ _ _ (mkF m 6 #[Sr a0, Sd d1, .second, .unset, .unset, .unset] [(.double (FP.dsub d1 wn))])
  refine Go.on (fun _ k => XS.dstoreN X97.here hx rfl (hb hby d4_6) rfl (l' := #[.val (.ref a0), .val (.double d1), .second, .val (.double (FP.dsub d1 wn)), .second, .unset]) rfl k) ?_
  show Go _ _ _ _ _ _ _ _ (mkF m 7 #[Sr a0, Sd d1, .second, .val (.double (FP.dsub d1 wn)), .second, .unset] [])
  rcases hf with hf | hf | hf | hf
  · subst hf; exact hL0 _ _ _ X97 e97 N0 ZZ KP E_a0 F_times_a0 F_latest_a0 F_window_a0 F_first_a0 F_end_a0 V_as 
  · subst hf; exact hL1 _ _ _ X97 e97 N0 ZZ KP E_a0 F_times_a0 F_latest_a0 F_window_a0 F_first_a0 F_end_a0 V_as (hd0 (by decide))
  · subst hf; exact hL2 _ _ _ X97 e97 N0 ZZ KP E_a0 F_times_a0 F_latest_a0 F_window_a0 F_first_a0 F_end_a0 V_as (hd0 (by decide)) (hd1 (by decide))
  · subst hf; exact hL3 _ _ _ X97 e97 N0 ZZ KP E_a0 F_times_a0 F_latest_a0 F_window_a0 F_first_a0 F_end_a0 V_as (hd0 (by decide)) (hd1 (by decide)) (hd2 (by decide))
theorem ef_rw_rate_4 (m : MethodId) (a0 : Addr) (d1 : UInt64) : entryFrame m #[(.ref a0), (.double d1)] 6 = mkF m 0 #[.val (.ref a0), .val (.double d1), .second, .unset, .unset, .unset] [] := by first | (simp [entryFrame, mkF, argsToLocals, Value.category]; done) | rfl
def Q_rw_rate_4 (Z : State) (a0 : Addr) (d1 : UInt64) (t0 : Int64) (t1 : Int64) (t2 : Int64) (t3 : Int64) (nw : Int64) (jw : Int64) (as : Addr) (lt : UInt64) (wn : UInt64) (f0 : Int32) (k_as : ClassId) (y0 : UInt64) (y1 : UInt64) (y2 : UInt64) (y3 : UInt64) (h0 : Heap) (n0 : Nat) (v : Option Value) (h : Heap) (L : List Loc) : Prop := ∃ f1 : Int32, v = some (.double (FP.ddiv (FP.i2d ((((inV t0 nw jw) + (inV t1 nw jw)) + (inV t2 nw jw)) + (inV t3 nw jw))) wn)) ∧ Fr n0 L ∧ Keep h0 h [a0] ∧ Exa Z h a0 "com/example/deliberate_scaler/deliberatescaler/model/RateWindow" ∧ Fld Z h a0 "com/example/deliberate_scaler/deliberatescaler/model/RateWindow" "times" "[D" (.ref as) ∧ Fld Z h a0 "com/example/deliberate_scaler/deliberatescaler/model/RateWindow" "latest" "D" (.double lt) ∧ Fld Z h a0 "com/example/deliberate_scaler/deliberatescaler/model/RateWindow" "window" "D" (.double wn) ∧ Fld Z h a0 "com/example/deliberate_scaler/deliberatescaler/model/RateWindow" "first" "I" (.int f1) ∧ Fld Z h a0 "com/example/deliberate_scaler/deliberatescaler/model/RateWindow" "end" "I" (.int (4 : Int32)) ∧ (f1 = (0 : Int32) ∨ f1 = (1 : Int32) ∨ f1 = (2 : Int32) ∨ f1 = (3 : Int32) ∨ f1 = (4 : Int32)) ∧ ((0 : Int) < (f1).toInt → t0.toInt ≤ nw.toInt - jw.toInt) ∧ ((1 : Int) < (f1).toInt → t1.toInt ≤ nw.toInt - jw.toInt) ∧ ((2 : Int) < (f1).toInt → t2.toInt ≤ nw.toInt - jw.toInt) ∧ ((3 : Int) < (f1).toInt → t3.toInt ≤ nw.toInt - jw.toInt)
set_option maxRecDepth 65536 in
set_option maxHeartbeats 40000000 in
theorem rw_rate_4 (l : Launch) (Z : State) (aw : Array Value) (hw : ∀ d ∈ tables_1, d.before aw Z = true) (ws : List Jvm.Cond) (a0 : Addr) (d1 : UInt64) (t0 : Int64) (t1 : Int64) (t2 : Int64) (t3 : Int64) (nw : Int64) (jw : Int64) (as : Addr) (lt : UInt64) (wn : UInt64) (f0 : Int32) (k_as : ClassId) (y0 : UInt64) (y1 : UInt64) (y2 : UInt64) (y3 : UInt64) (h0 : Heap) (n0 : Nat) (Z0 : n0 ≤ h0.size) (E_a0 : Exa Z h0 a0 "com/example/deliberate_scaler/deliberatescaler/model/RateWindow") (F_times_a0 : Fld Z h0 a0 "com/example/deliberate_scaler/deliberatescaler/model/RateWindow" "times" "[D" (.ref as)) (F_latest_a0 : Fld Z h0 a0 "com/example/deliberate_scaler/deliberatescaler/model/RateWindow" "latest" "D" (.double lt)) (F_window_a0 : Fld Z h0 a0 "com/example/deliberate_scaler/deliberatescaler/model/RateWindow" "window" "D" (.double wn)) (F_first_a0 : Fld Z h0 a0 "com/example/deliberate_scaler/deliberatescaler/model/RateWindow" "first" "I" (.int f0)) (F_end_a0 : Fld Z h0 a0 "com/example/deliberate_scaler/deliberatescaler/model/RateWindow" "end" "I" (.int (4 : Int32))) (V_as : Arv Z h0 as k_as .double (64 : Int32) [(.double y0), (.double y1), (.double y2), (.double y3), (.double (0 : UInt64)), (.double (0 : UInt64)), (.double (0 : UInt64)), (.double (0 : UInt64)), (.double (0 : UInt64)), (.double (0 : UInt64)), (.double (0 : UInt64)), (.double (0 : UInt64)), (.double (0 : UInt64)), (.double (0 : UInt64)), (.double (0 : UInt64)), (.double (0 : UInt64)), (.double (0 : UInt64)), (.double (0 : UInt64)), (.double (0 : UInt64)), (.double (0 : UInt64)), (.double (0 : UInt64)), (.double (0 : UInt64)), (.double (0 : UInt64)), (.double (0 : UInt64)), (.double (0 : UInt64)), (.double (0 : UInt64)), (.double (0 : UInt64)), (.double (0 : UInt64)), (.double (0 : UInt64)), (.double (0 : UInt64)), (.double (0 : UInt64)), (.double (0 : UInt64)), (.double (0 : UInt64)), (.double (0 : UInt64)), (.double (0 : UInt64)), (.double (0 : UInt64)), (.double (0 : UInt64)), (.double (0 : UInt64)), (.double (0 : UInt64)), (.double (0 : UInt64)), (.double (0 : UInt64)), (.double (0 : UInt64)), (.double (0 : UInt64)), (.double (0 : UInt64)), (.double (0 : UInt64)), (.double (0 : UInt64)), (.double (0 : UInt64)), (.double (0 : UInt64)), (.double (0 : UInt64)), (.double (0 : UInt64)), (.double (0 : UInt64)), (.double (0 : UInt64)), (.double (0 : UInt64)), (.double (0 : UInt64)), (.double (0 : UInt64)), (.double (0 : UInt64)), (.double (0 : UInt64)), (.double (0 : UInt64)), (.double (0 : UInt64)), (.double (0 : UInt64)), (.double (0 : UInt64)), (.double (0 : UInt64)), (.double (0 : UInt64)), (.double (0 : UInt64))] (.double (0 : UInt64))) (g_a0 : n0 ≤ a0) (ne_a0_as : a0 ≠ as) (hnw : d1 = FP.l2d nw) (hwn : wn = FP.l2d jw) (bn : Tb nw) (bw : Tb jw) (hw1 : 1 ≤ jw.toInt) (hx0 : y0 = FP.l2d t0) (hx1 : y1 = FP.l2d t1) (hx2 : y2 = FP.l2d t2) (hx3 : y3 = FP.l2d t3) (b0 : Tb t0) (b1 : Tb t1) (b2 : Tb t2) (b3 : Tb t3) (s0 : t0.toInt ≤ t1.toInt) (s1 : t1.toInt ≤ t2.toInt) (s2 : t2.toInt ≤ t3.toInt) (hf : f0 = (0 : Int32) ∨ f0 = (1 : Int32) ∨ f0 = (2 : Int32) ∨ f0 = (3 : Int32) ∨ f0 = (4 : Int32)) (hd0 : ((0 : Int) < (f0).toInt → t0.toInt ≤ nw.toInt - jw.toInt)) (hd1 : ((1 : Int) < (f0).toInt → t1.toInt ≤ nw.toInt - jw.toInt)) (hd2 : ((2 : Int) < (f0).toInt → t2.toInt ≤ nw.toInt - jw.toInt)) (hd3 : ((3 : Int) < (f0).toInt → t3.toInt ≤ nw.toInt - jw.toInt)) :
    MetFree l (⟨"com/example/deliberate_scaler/deliberatescaler/model/RateWindow", "rate", "(D)D"⟩ : MethodName) (head1 (Jvm.Cond.code (⟨"com/example/deliberate_scaler/deliberatescaler/model/RateWindow", "rate", "(D)D"⟩ : MethodName) prog_30_method_3_code 6 (some .double) :: ws) ({ frames := 0, cells := 0, slots := 0, locals := 0 } : Room)) (fun a U => a = #[(.ref a0), (.double d1)] ∧ Z.Warmed39 U.vm ∧ U.heap = h0) (fun _ _ _ _ _ => True) (fun _ U o U' => ∃ v L, o = .returned v ∧ Q_rw_rate_4 Z a0 d1 t0 t1 t2 t3 nw jw as lt wn f0 k_as y0 y1 y2 y3 h0 n0 v U'.heap L ∧ FrameEnd U o U' L ({ frames := 0, cells := 0, slots := 0, locals := 0 } : Room).cells ({ frames := 0, cells := 0, slots := 0, locals := 0 } : Room).slots) := by
  refine MetFree.of_bodySF (plainFor_of_name pn_0) hisR ?_
  intro p e s m args below meth c s₁ Bd hml0 hP hK
  obtain ⟨rfl, hZ, hh⟩ := hP
  have hx := Bd.exec
  have hby := Bd.bytes
  have hml : c.maxLocals = 6 := hml0
  have hown : s.vm.findClass "com/example/deliberate_scaler/deliberatescaler/model/RateWindow" = some m.cls := findClass_of_methodNamed Bd.named
  have hnm := (name_of_methodNamed Bd.named Bd.method).1
  have hlk : meth.locks = false := BodyLoose.notSynchronized Bd
  have X0 : Stand p l e ({ frames := 0, cells := 0, slots := 0, locals := 0 } : Room) s m #[(.ref a0), (.double d1)] below meth c s₁ [] 0 0 := Stand.of_body Bd
  have e0 : s₁.heap = h0 := by rw [← hh, Bd.state]; rfl
  have N0 := Fr.nil n0
  have ZZ := Z0
  show Go p e below s ({ frames := 0, cells := 0, slots := 0, locals := 0 } : Room).cells ({ frames := 0, cells := 0, slots := 0, locals := 0 } : Room).slots (fun v h L => Q_rw_rate_4 Z a0 d1 t0 t1 t2 t3 nw jw as lt wn f0 k_as y0 y1 y2 y3 h0 n0 v h L) s₁ (entryFrame m #[(.ref a0), (.double d1)] 6)
  refine Go.cast (ef_rw_rate_4 m a0 d1) ?_
  refine Go.gen ?_
  intro K1 K2 QQ hK1 hK2 hQQ
  have KP : Keep h0 h0 [a0] := Keep.refl _ _
  have zl := own_lo bn bw hnw hwn
  have zn := own_bl bn hnw
  have zt0 := own_bl b0 hx0
  have zt1 := own_bl b1 hx1
  have zt2 := own_bl b2 hx2
  have zt3 := own_bl b3 hx3
  have hL4 : ∀ (T1 : State) (locs1 : List Loc) (h1 : Heap), Stand p l e ({ frames := 0, cells := 0, slots := 0, locals := 0 } : Room) s m #[(.ref a0), (.double d1)] below meth c T1 locs1 0 0 → T1.heap = h1 → Fr n0 locs1 → n0 ≤ h1.size → Keep h0 h1 [a0] → Exa Z h1 a0 "com/example/deliberate_scaler/deliberatescaler/model/RateWindow" → Fld Z h1 a0 "com/example/deliberate_scaler/deliberatescaler/model/RateWindow" "times" "[D" (.ref as) → Fld Z h1 a0 "com/example/deliberate_scaler/deliberatescaler/model/RateWindow" "latest" "D" (.double lt) → Fld Z h1 a0 "com/example/deliberate_scaler/deliberatescaler/model/RateWindow" "window" "D" (.double wn) → Fld Z h1 a0 "com/example/deliberate_scaler/deliberatescaler/model/RateWindow" "first" "I" (.int (4 : Int32)) → Fld Z h1 a0 "com/example/deliberate_scaler/deliberatescaler/model/RateWindow" "end" "I" (.int (4 : Int32)) → Arv Z h1 as k_as .double (64 : Int32) [(.double y0), (.double y1), (.double y2), (.double y3), (.double (0 : UInt64)), (.double (0 : UInt64)), (.double (0 : UInt64)), (.double (0 : UInt64)), (.double (0 : UInt64)), (.double (0 : UInt64)), (.double (0 : UInt64)), (.double (0 : UInt64)), (.double (0 : UInt64)), (.double (0 : UInt64)), (.double (0 : UInt64)), (.double (0 : UInt64)), (.double (0 : UInt64)), (.double (0 : UInt64)), (.double (0 : UInt64)), (.double (0 : UInt64)), (.double (0 : UInt64)), (.double (0 : UInt64)), (.double (0 : UInt64)), (.double (0 : UInt64)), (.double (0 : UInt64)), (.double (0 : UInt64)), (.double (0 : UInt64)), (.double (0 : UInt64)), (.double (0 : UInt64)), (.double (0 : UInt64)), (.double (0 : UInt64)), (.double (0 : UInt64)), (.double (0 : UInt64)), (.double (0 : UInt64)), (.double (0 : UInt64)), (.double (0 : UInt64)), (.double (0 : UInt64)), (.double (0 : UInt64)), (.double (0 : UInt64)), (.double (0 : UInt64)), (.double (0 : UInt64)), (.double (0 : UInt64)), (.double (0 : UInt64)), (.double (0 : UInt64)), (.double (0 : UInt64)), (.double (0 : UInt64)), (.double (0 : UInt64)), (.double (0 : UInt64)), (.double (0 : UInt64)), (.double (0 : UInt64)), (.double (0 : UInt64)), (.double (0 : UInt64)), (.double (0 : UInt64)), (.double (0 : UInt64)), (.double (0 : UInt64)), (.double (0 : UInt64)), (.double (0 : UInt64)), (.double (0 : UInt64)), (.double (0 : UInt64)), (.double (0 : UInt64)), (.double (0 : UInt64)), (.double (0 : UInt64)), (.double (0 : UInt64)), (.double (0 : UInt64))] (.double (0 : UInt64)) → t0.toInt ≤ nw.toInt - jw.toInt → t1.toInt ≤ nw.toInt - jw.toInt → t2.toInt ≤ nw.toInt - jw.toInt → t3.toInt ≤ nw.toInt - jw.toInt → Go p e below s K1 K2 QQ T1 (mkF m 7 #[Sr a0, Sd d1, .second, .val (.double (FP.dsub d1 wn)), .second, .unset] []) := by
    clear ZZ KP E_a0 F_times_a0 F_latest_a0 F_window_a0 F_first_a0 F_end_a0 V_as
    intro T1 locs1 h1 X1 e1 N1 ZZ KP E_a0 F_times_a0 F_latest_a0 F_window_a0 F_first_a0 F_end_a0 V_as dd0 dd1 dd2 dd3
    show Go _ _ _ _ _ _ _ _ (mkF m 7 #[Sr a0, Sd d1, .second, .val (.double (FP.dsub d1 wn)), .second, .unset] [])
    refine Go.on (fun _ k => XS.aloadN X1.here hx rfl (hb hby d4_7) rfl rfl k) ?_
    show Go _ _ _ _ _ _ _ _ (mkF m 8 #[Sr a0, Sd d1, .second, .val (.double (FP.dsub d1 wn)), .second, .unset] [(.ref a0)])
    obtain ⟨T2, X2, e2, st2⟩ := getF X1 hx hZ hown (host := "") (Or.inl (hw _ (List.mem_of_getElem? (i := 30) rfl))) Via.refl e1 F_first_a0 (g := (mkF m 8 #[Sr a0, Sd d1, .second, .val (.double (FP.dsub d1 wn)), .second, .unset] [(.ref a0)])) rfl rfl (hb hby d4_8)
    refine Go.on st2 ?_
    show Go _ _ _ _ _ _ _ _ (mkF m 11 #[Sr a0, Sd d1, .second, .val (.double (FP.dsub d1 wn)), .second, .unset] [(.int 4)])
    refine Go.on (fun _ k => XS.aloadN X2.here hx rfl (hb hby d4_11) rfl rfl k) ?_
    show Go _ _ _ _ _ _ _ _ (mkF m 12 #[Sr a0, Sd d1, .second, .val (.double (FP.dsub d1 wn)), .second, .unset] [(.ref a0), (.int 4)])
    obtain ⟨T3, X3, e3, st3⟩ := getF X2 hx hZ hown (host := "") (Or.inl (hw _ (List.mem_of_getElem? (i := 23) rfl))) Via.refl e2 F_end_a0 (g := (mkF m 12 #[Sr a0, Sd d1, .second, .val (.double (FP.dsub d1 wn)), .second, .unset] [(.ref a0), (.int 4)])) rfl rfl (hb hby d4_12)
    refine Go.on st3 ?_
    show Go _ _ _ _ _ _ _ _ (mkF m 15 #[Sr a0, Sd d1, .second, .val (.double (FP.dsub d1 wn)), .second, .unset] [(.int 4), (.int 4)])
    have hc4 : ¬ ((4 : Int32) < (4 : Int32)) := by decide
    refine Go.on (fun _ k => XS.icmpYes X3.here hx rfl (pc0 := 15) (pc' := 45) rfl (hb hby d4_15) rfl (flt hc4).2.1 (by decide) (by decide) k) ?_
    refine Go.on (fun _ k => XS.aloadN X3.here hx rfl (hb hby d4_45) rfl rfl k) ?_
    show Go _ _ _ _ _ _ _ _ (mkF m 46 #[Sr a0, Sd d1, .second, .val (.double (FP.dsub d1 wn)), .second, .unset] [(.ref a0)])
    obtain ⟨T5, X5, e5, st5⟩ := getF X3 hx hZ hown (host := "") (Or.inl (hw _ (List.mem_of_getElem? (i := 23) rfl))) Via.refl e3 F_end_a0 (g := (mkF m 46 #[Sr a0, Sd d1, .second, .val (.double (FP.dsub d1 wn)), .second, .unset] [(.ref a0)])) rfl rfl (hb hby d4_46)
    refine Go.on st5 ?_
    show Go _ _ _ _ _ _ _ _ (mkF m 49 #[Sr a0, Sd d1, .second, .val (.double (FP.dsub d1 wn)), .second, .unset] [(.int 4)])
    refine Go.on (fun _ k => XS.istore X5.here hx rfl (hb hby d4_49) rfl (l' := #[.val (.ref a0), .val (.double d1), .second, .val (.double (FP.dsub d1 wn)), .second, .val (.int (4 : Int32))]) rfl k) ?_
    show Go _ _ _ _ _ _ _ _ (mkF m 51 #[Sr a0, Sd d1, .second, .val (.double (FP.dsub d1 wn)), .second, Si 4] [])
    refine Go.on (fun _ k => XS.iload X5.here hx rfl (hb hby d4_51) rfl k) ?_
    refine Go.on (fun _ k => XS.aloadN X5.here hx rfl (hb hby d4_53) rfl rfl k) ?_
    show Go _ _ _ _ _ _ _ _ (mkF m 54 #[Sr a0, Sd d1, .second, .val (.double (FP.dsub d1 wn)), .second, Si 4] [(.ref a0), (.int 4)])
    obtain ⟨T6, X6, e6, st6⟩ := getF X5 hx hZ hown (host := "") (Or.inl (hw _ (List.mem_of_getElem? (i := 30) rfl))) Via.refl e5 F_first_a0 (g := (mkF m 54 #[Sr a0, Sd d1, .second, .val (.double (FP.dsub d1 wn)), .second, Si 4] [(.ref a0), (.int 4)])) rfl rfl (hb hby d4_54)
    refine Go.on st6 ?_
    show Go _ _ _ _ _ _ _ _ (mkF m 57 #[Sr a0, Sd d1, .second, .val (.double (FP.dsub d1 wn)), .second, Si 4] [(.int 4), (.int 4)])
    have hc7 : ¬ ((4 : Int32) < (4 : Int32)) := by decide
    refine Go.on (fun _ k => XS.icmpYes X6.here hx rfl (pc0 := 57) (pc' := 80) rfl (hb hby d4_57) rfl (flt hc7).2.2.2 (by decide) (by decide) k) ?_
    refine Go.on (fun _ k => XS.iload X6.here hx rfl (hb hby d4_80) rfl k) ?_
    refine Go.on (fun _ k => XS.aloadN X6.here hx rfl (hb hby d4_82) rfl rfl k) ?_
    show Go _ _ _ _ _ _ _ _ (mkF m 83 #[Sr a0, Sd d1, .second, .val (.double (FP.dsub d1 wn)), .second, Si 4] [(.ref a0), (.int 4)])
    obtain ⟨T8, X8, e8, st8⟩ := getF X6 hx hZ hown (host := "") (Or.inl (hw _ (List.mem_of_getElem? (i := 30) rfl))) Via.refl e6 F_first_a0 (g := (mkF m 83 #[Sr a0, Sd d1, .second, .val (.double (FP.dsub d1 wn)), .second, Si 4] [(.ref a0), (.int 4)])) rfl rfl (hb hby d4_83)
    refine Go.on st8 ?_
    show Go _ _ _ _ _ _ _ _ (mkF m 86 #[Sr a0, Sd d1, .second, .val (.double (FP.dsub d1 wn)), .second, Si 4] [(.int 4), (.int 4)])
    refine Go.on (fun _ k => XS.isub X8.here hx rfl (hb hby d4_86) rfl k) ?_
    refine Go.on (fun _ k => XS.i2dS X8.here hx rfl (hb hby d4_87) rfl rfl k) ?_
    refine Go.on (fun _ k => XS.aloadN X8.here hx rfl (hb hby d4_88) rfl rfl k) ?_
    show Go _ _ _ _ _ _ _ _ (mkF m 89 #[Sr a0, Sd d1, .second, .val (.double (FP.dsub d1 wn)), .second, Si 4] [(.ref a0), (.double (FP.i2d (0 : Int32)))])
    obtain ⟨T9, X9, e9, st9⟩ := getF X8 hx hZ hown (host := "") (Or.inl (hw _ (List.mem_of_getElem? (i := 16) rfl))) Via.refl e8 F_window_a0 (g := (mkF m 89 #[Sr a0, Sd d1, .second, .val (.double (FP.dsub d1 wn)), .second, Si 4] [(.ref a0), (.double (FP.i2d (0 : Int32)))])) rfl rfl (hb hby d4_89)
    refine Go.on st9 ?_
    show Go _ _ _ _ _ _ _ _ (mkF m 92 #[Sr a0, Sd d1, .second, .val (.double (FP.dsub d1 wn)), .second, Si 4] [(.double wn), (.double (FP.i2d (0 : Int32)))])
    refine Go.on (fun _ k => XS.ddivS X9.here hx rfl (hb hby d4_92) rfl ((own_rt _ hwn hw1 bw)) rfl k) ?_
    show Go _ _ _ _ _ _ _ _ (mkF m 93 #[Sr a0, Sd d1, .second, .val (.double (FP.dsub d1 wn)), .second, Si 4] [(.double (FP.ddiv (FP.i2d (0 : Int32)) wn))])
    refine Go.retV X9 hx Bd.returns rfl (Or.inr (Or.inr (Or.inl ⟨rfl, rfl, _, rfl⟩))) (hb hby d4_93) ?_ (by rw [hK1]; decide) (by rw [hK2]; decide)
    rw [e9, ← hQQ]
    have i0_ : inV t0 nw jw = 0 := own_in0 bn bw (Or.inl (by omega))
    have i1_ : inV t1 nw jw = 0 := own_in0 bn bw (Or.inl (by omega))
    have i2_ : inV t2 nw jw = 0 := own_in0 bn bw (Or.inl (by omega))
    have i3_ : inV t3 nw jw = 0 := own_in0 bn bw (Or.inl (by omega))
    have hC : ((((inV t0 nw jw) + (inV t1 nw jw)) + (inV t2 nw jw)) + (inV t3 nw jw)) = (0 : Int32) := by rw [i0_, i1_, i2_, i3_] <;> decide
    unfold Q_rw_rate_4
    rw [hC]
    exact ⟨_, rfl, N1, KP, E_a0, F_times_a0, F_latest_a0, F_window_a0, F_first_a0, F_end_a0, (Or.inr (Or.inr (Or.inr (Or.inr rfl)))), (fun _ => by omega), (fun _ => by omega), (fun _ => by omega), (fun _ => by omega)⟩
  have hL3 : ∀ (T10 : State) (locs10 : List Loc) (h10 : Heap), Stand p l e ({ frames := 0, cells := 0, slots := 0, locals := 0 } : Room) s m #[(.ref a0), (.double d1)] below meth c T10 locs10 0 0 → T10.heap = h10 → Fr n0 locs10 → n0 ≤ h10.size → Keep h0 h10 [a0] → Exa Z h10 a0 "com/example/deliberate_scaler/deliberatescaler/model/RateWindow" → Fld Z h10 a0 "com/example/deliberate_scaler/deliberatescaler/model/RateWindow" "times" "[D" (.ref as) → Fld Z h10 a0 "com/example/deliberate_scaler/deliberatescaler/model/RateWindow" "latest" "D" (.double lt) → Fld Z h10 a0 "com/example/deliberate_scaler/deliberatescaler/model/RateWindow" "window" "D" (.double wn) → Fld Z h10 a0 "com/example/deliberate_scaler/deliberatescaler/model/RateWindow" "first" "I" (.int (3 : Int32)) → Fld Z h10 a0 "com/example/deliberate_scaler/deliberatescaler/model/RateWindow" "end" "I" (.int (4 : Int32)) → Arv Z h10 as k_as .double (64 : Int32) [(.double y0), (.double y1), (.double y2), (.double y3), (.double (0 : UInt64)), (.double (0 : UInt64)), (.double (0 : UInt64)), (.double (0 : UInt64)), (.double (0 : UInt64)), (.double (0 : UInt64)), (.double (0 : UInt64)), (.double (0 : UInt64)), (.double (0 : UInt64)), (.double (0 : UInt64)), (.double (0 : UInt64)), (.double (0 : UInt64)), (.double (0 : UInt64)), (.double (0 : UInt64)), (.double (0 : UInt64)), (.double (0 : UInt64)), (.double (0 : UInt64)), (.double (0 : UInt64)), (.double (0 : UInt64)), (.double (0 : UInt64)), (.double (0 : UInt64)), (.double (0 : UInt64)), (.double (0 : UInt64)), (.double (0 : UInt64)), (.double (0 : UInt64)), (.double (0 : UInt64)), (.double (0 : UInt64)), (.double (0 : UInt64)), (.double (0 : UInt64)), (.double (0 : UInt64)), (.double (0 : UInt64)), (.double (0 : UInt64)), (.double (0 : UInt64)), (.double (0 : UInt64)), (.double (0 : UInt64)), (.double (0 : UInt64)), (.double (0 : UInt64)), (.double (0 : UInt64)), (.double (0 : UInt64)), (.double (0 : UInt64)), (.double (0 : UInt64)), (.double (0 : UInt64)), (.double (0 : UInt64)), (.double (0 : UInt64)), (.double (0 : UInt64)), (.double (0 : UInt64)), (.double (0 : UInt64)), (.double (0 : UInt64)), (.double (0 : UInt64)), (.double (0 : UInt64)), (.double (0 : UInt64)), (.double (0 : UInt64)), (.double (0 : UInt64)), (.double (0 : UInt64)), (.double (0 : UInt64)), (.double (0 : UInt64)), (.double (0 : UInt64)), (.double (0 : UInt64)), (.double (0 : UInt64)), (.double (0 : UInt64))] (.double (0 : UInt64)) → t0.toInt ≤ nw.toInt - jw.toInt → t1.toInt ≤ nw.toInt - jw.toInt → t2.toInt ≤ nw.toInt - jw.toInt → Go p e below s K1 K2 QQ T10 (mkF m 7 #[Sr a0, Sd d1, .second, .val (.double (FP.dsub d1 wn)), .second, .unset] []) := by
    clear ZZ KP E_a0 F_times_a0 F_latest_a0 F_window_a0 F_first_a0 F_end_a0 V_as
    intro T10 locs10 h10 X10 e10 N10 ZZ KP E_a0 F_times_a0 F_latest_a0 F_window_a0 F_first_a0 F_end_a0 V_as dd0 dd1 dd2
    show Go _ _ _ _ _ _ _ _ (mkF m 7 #[Sr a0, Sd d1, .second, .val (.double (FP.dsub d1 wn)), .second, .unset] [])
    refine Go.on (fun _ k => XS.aloadN X10.here hx rfl (hb hby d4_7) rfl rfl k) ?_
    show Go _ _ _ _ _ _ _ _ (mkF m 8 #[Sr a0, Sd d1, .second, .val (.double (FP.dsub d1 wn)), .second, .unset] [(.ref a0)])
    obtain ⟨T11, X11, e11, st11⟩ := getF X10 hx hZ hown (host := "") (Or.inl (hw _ (List.mem_of_getElem? (i := 30) rfl))) Via.refl e10 F_first_a0 (g := (mkF m 8 #[Sr a0, Sd d1, .second, .val (.double (FP.dsub d1 wn)), .second, .unset] [(.ref a0)])) rfl rfl (hb hby d4_8)
    refine Go.on st11 ?_
    show Go _ _ _ _ _ _ _ _ (mkF m 11 #[Sr a0, Sd d1, .second, .val (.double (FP.dsub d1 wn)), .second, .unset] [(.int 3)])
    refine Go.on (fun _ k => XS.aloadN X11.here hx rfl (hb hby d4_11) rfl rfl k) ?_
    show Go _ _ _ _ _ _ _ _ (mkF m 12 #[Sr a0, Sd d1, .second, .val (.double (FP.dsub d1 wn)), .second, .unset] [(.ref a0), (.int 3)])
    obtain ⟨T12, X12, e12, st12⟩ := getF X11 hx hZ hown (host := "") (Or.inl (hw _ (List.mem_of_getElem? (i := 23) rfl))) Via.refl e11 F_end_a0 (g := (mkF m 12 #[Sr a0, Sd d1, .second, .val (.double (FP.dsub d1 wn)), .second, .unset] [(.ref a0), (.int 3)])) rfl rfl (hb hby d4_12)
    refine Go.on st12 ?_
    show Go _ _ _ _ _ _ _ _ (mkF m 15 #[Sr a0, Sd d1, .second, .val (.double (FP.dsub d1 wn)), .second, .unset] [(.int 4), (.int 3)])
    have hc13 : (3 : Int32) < (4 : Int32) := by decide
    refine Go.on (fun _ k => XS.icmpNo X12.here hx rfl (hb hby d4_15) rfl (tlt hc13).2.1 k) ?_
    refine Go.on (fun _ k => XS.aloadN X12.here hx rfl (hb hby d4_18) rfl rfl k) ?_
    show Go _ _ _ _ _ _ _ _ (mkF m 19 #[Sr a0, Sd d1, .second, .val (.double (FP.dsub d1 wn)), .second, .unset] [(.ref a0)])
    obtain ⟨T14, X14, e14, st14⟩ := getF X12 hx hZ hown (host := "") (Or.inl (hw _ (List.mem_of_getElem? (i := 10) rfl))) Via.refl e12 F_times_a0 (g := (mkF m 19 #[Sr a0, Sd d1, .second, .val (.double (FP.dsub d1 wn)), .second, .unset] [(.ref a0)])) rfl rfl (hb hby d4_19)
    refine Go.on st14 ?_
    show Go _ _ _ _ _ _ _ _ (mkF m 22 #[Sr a0, Sd d1, .second, .val (.double (FP.dsub d1 wn)), .second, .unset] [(.ref as)])
    refine Go.on (fun _ k => XS.aloadN X14.here hx rfl (hb hby d4_22) rfl rfl k) ?_
    show Go _ _ _ _ _ _ _ _ (mkF m 23 #[Sr a0, Sd d1, .second, .val (.double (FP.dsub d1 wn)), .second, .unset] [(.ref a0), (.ref as)])
    obtain ⟨T15, X15, e15, st15⟩ := getF X14 hx hZ hown (host := "") (Or.inl (hw _ (List.mem_of_getElem? (i := 30) rfl))) Via.refl e14 F_first_a0 (g := (mkF m 23 #[Sr a0, Sd d1, .second, .val (.double (FP.dsub d1 wn)), .second, .unset] [(.ref a0), (.ref as)])) rfl rfl (hb hby d4_23)
    refine Go.on st15 ?_
    show Go _ _ _ _ _ _ _ _ (mkF m 26 #[Sr a0, Sd d1, .second, .val (.double (FP.dsub d1 wn)), .second, .unset] [(.int 3), (.ref as)])
    obtain ⟨cl16, Ar16, -, S16, -, H16, -⟩ := id V_as
    have hin16 : ¬ ((3 : Int32) < 0 ∨ cl16.slots.size ≤ ((3 : Int32)).toNatClampNeg) := inb_of S16 ⟨by decide, by decide⟩
    refine Go.on (X15.daload hx (j := (3 : Int32)) (v := (.double y3)) (by rw [e15]; exact Ar16.1) (State.isArrayOf_alike hZ.alike Ar16.2.1) Ar16.2.2 hin16 (H16.at hin16 (rfl)) (g := (mkF m 26 #[Sr a0, Sd d1, .second, .val (.double (FP.dsub d1 wn)), .second, .unset] [(.int 3), (.ref as)])) rfl rfl (hb hby d4_26)) ?_
    show Go _ _ _ _ _ _ _ _ (mkF m 27 #[Sr a0, Sd d1, .second, .val (.double (FP.dsub d1 wn)), .second, .unset] [(.double y3)])
    refine Go.on (fun _ k => XS.dloadN X15.here hx rfl (hb hby d4_27) rfl k) ?_
    refine Go.on (fun _ k => XS.dcmpS X15.here hx rfl (hb hby d4_28) rfl rfl k) ?_
    show Go _ _ _ _ _ _ _ _ (mkF m 29 #[Sr a0, Sd d1, .second, .val (.double (FP.dsub d1 wn)), .second, .unset] [(.int (cmpValue (FP.dcmp y3 (FP.dsub d1 wn)) .g))])
    by_cases hc17 : (0 : Int32) < (cmpValue (FP.dcmp y3 (FP.dsub d1 wn)) .g)
    · -- pc 29 yes
      refine Go.on (fun _ k => XS.ifYes X15.here hx rfl (pc0 := 29) (pc' := 45) rfl (hb hby d4_29) rfl ((if0 _ _).trans (tlt hc17).2.2.1) (by decide) (by decide) k) ?_
      show Go _ _ _ _ _ _ _ _ (mkF m 45 #[Sr a0, Sd d1, .second, .val (.double (FP.dsub d1 wn)), .second, .unset] [])
      refine Go.on (fun _ k => XS.aloadN X15.here hx rfl (hb hby d4_45) rfl rfl k) ?_
      show Go _ _ _ _ _ _ _ _ (mkF m 46 #[Sr a0, Sd d1, .second, .val (.double (FP.dsub d1 wn)), .second, .unset] [(.ref a0)])
      obtain ⟨T18, X18, e18, st18⟩ := getF X15 hx hZ hown (host := "") (Or.inl (hw _ (List.mem_of_getElem? (i := 23) rfl))) Via.refl e15 F_end_a0 (g := (mkF m 46 #[Sr a0, Sd d1, .second, .val (.double (FP.dsub d1 wn)), .second, .unset] [(.ref a0)])) rfl rfl (hb hby d4_46)
      refine Go.on st18 ?_
      show Go _ _ _ _ _ _ _ _ (mkF m 49 #[Sr a0, Sd d1, .second, .val (.double (FP.dsub d1 wn)), .second, .unset] [(.int 4)])
      refine Go.on (fun _ k => XS.istore X18.here hx rfl (hb hby d4_49) rfl (l' := #[.val (.ref a0), .val (.double d1), .second, .val (.double (FP.dsub d1 wn)), .second, .val (.int (4 : Int32))]) rfl k) ?_
      show Go _ _ _ _ _ _ _ _ (mkF m 51 #[Sr a0, Sd d1, .second, .val (.double (FP.dsub d1 wn)), .second, Si 4] [])
      refine Go.on (fun _ k => XS.iload X18.here hx rfl (hb hby d4_51) rfl k) ?_
      refine Go.on (fun _ k => XS.aloadN X18.here hx rfl (hb hby d4_53) rfl rfl k) ?_
      show Go _ _ _ _ _ _ _ _ (mkF m 54 #[Sr a0, Sd d1, .second, .val (.double (FP.dsub d1 wn)), .second, Si 4] [(.ref a0), (.int 4)])
      obtain ⟨T19, X19, e19, st19⟩ := getF X18 hx hZ hown (host := "") (Or.inl (hw _ (List.mem_of_getElem? (i := 30) rfl))) Via.refl e18 F_first_a0 (g := (mkF m 54 #[Sr a0, Sd d1, .second, .val (.double (FP.dsub d1 wn)), .second, Si 4] [(.ref a0), (.int 4)])) rfl rfl (hb hby d4_54)
      refine Go.on st19 ?_
      show Go _ _ _ _ _ _ _ _ (mkF m 57 #[Sr a0, Sd d1, .second, .val (.double (FP.dsub d1 wn)), .second, Si 4] [(.int 3), (.int 4)])
      have hc20 : (3 : Int32) < (4 : Int32) := by decide
      refine Go.on (fun _ k => XS.icmpNo X19.here hx rfl (hb hby d4_57) rfl (tlt hc20).2.2.2 k) ?_
      refine Go.on (fun _ k => XS.aloadN X19.here hx rfl (hb hby d4_60) rfl rfl k) ?_
      show Go _ _ _ _ _ _ _ _ (mkF m 61 #[Sr a0, Sd d1, .second, .val (.double (FP.dsub d1 wn)), .second, Si 4] [(.ref a0)])
      obtain ⟨T21, X21, e21, st21⟩ := getF X19 hx hZ hown (host := "") (Or.inl (hw _ (List.mem_of_getElem? (i := 10) rfl))) Via.refl e19 F_times_a0 (g := (mkF m 61 #[Sr a0, Sd d1, .second, .val (.double (FP.dsub d1 wn)), .second, Si 4] [(.ref a0)])) rfl rfl (hb hby d4_61)
      refine Go.on st21 ?_
      show Go _ _ _ _ _ _ _ _ (mkF m 64 #[Sr a0, Sd d1, .second, .val (.double (FP.dsub d1 wn)), .second, Si 4] [(.ref as)])
      refine Go.on (fun _ k => XS.iload X21.here hx rfl (hb hby d4_64) rfl k) ?_
      refine Go.on (fun _ k => XS.iconst X21.here hx rfl (hb hby d4_66) k) ?_
      refine Go.on (fun _ k => XS.isub X21.here hx rfl (hb hby d4_67) rfl k) ?_
      show Go _ _ _ _ _ _ _ _ (mkF m 68 #[Sr a0, Sd d1, .second, .val (.double (FP.dsub d1 wn)), .second, Si 4] [(.int 3), (.ref as)])
      obtain ⟨cl22, Ar22, -, S22, -, H22, -⟩ := id V_as
      have hin22 : ¬ ((3 : Int32) < 0 ∨ cl22.slots.size ≤ ((3 : Int32)).toNatClampNeg) := inb_of S22 ⟨by decide, by decide⟩
      refine Go.on (X21.daload hx (j := (3 : Int32)) (v := (.double y3)) (by rw [e21]; exact Ar22.1) (State.isArrayOf_alike hZ.alike Ar22.2.1) Ar22.2.2 hin22 (H22.at hin22 (rfl)) (g := (mkF m 68 #[Sr a0, Sd d1, .second, .val (.double (FP.dsub d1 wn)), .second, Si 4] [(.int 3), (.ref as)])) rfl rfl (hb hby d4_68)) ?_
      show Go _ _ _ _ _ _ _ _ (mkF m 69 #[Sr a0, Sd d1, .second, .val (.double (FP.dsub d1 wn)), .second, Si 4] [(.double y3)])
      refine Go.on (fun _ k => XS.dloadN X21.here hx rfl (hb hby d4_69) rfl k) ?_
      refine Go.on (fun _ k => XS.dcmpS X21.here hx rfl (hb hby d4_70) rfl rfl k) ?_
      show Go _ _ _ _ _ _ _ _ (mkF m 71 #[Sr a0, Sd d1, .second, .val (.double (FP.dsub d1 wn)), .second, Si 4] [(.int (cmpValue (FP.dcmp y3 d1) .l))])
      by_cases hc23 : (0 : Int32) < (cmpValue (FP.dcmp y3 d1) .l)
      · -- pc 71 yes
        refine Go.on (fun _ k => XS.ifNo X21.here hx rfl (hb hby d4_71) rfl ((if0 _ _).trans (tlt hc23).2.2.2) k) ?_
        show Go _ _ _ _ _ _ _ _ (mkF m 74 #[Sr a0, Sd d1, .second, .val (.double (FP.dsub d1 wn)), .second, Si 4] [])
        refine Go.on (fun _ k => XS.iinc X21.here hx rfl (hb hby d4_74) rfl (l' := #[.val (.ref a0), .val (.double d1), .second, .val (.double (FP.dsub d1 wn)), .second, .val (.int (3 : Int32))]) rfl k) ?_
        show Go _ _ _ _ _ _ _ _ (mkF m 77 #[Sr a0, Sd d1, .second, .val (.double (FP.dsub d1 wn)), .second, Si 3] [])
        refine Go.on (fun _ k => XS.goto X21.here hx rfl (pc0 := 77) (pc' := 51) rfl (hb hby d4_77) (by decide) (by decide) k) ?_
        refine Go.on (fun _ k => XS.iload X21.here hx rfl (hb hby d4_51) rfl k) ?_
        refine Go.on (fun _ k => XS.aloadN X21.here hx rfl (hb hby d4_53) rfl rfl k) ?_
        show Go _ _ _ _ _ _ _ _ (mkF m 54 #[Sr a0, Sd d1, .second, .val (.double (FP.dsub d1 wn)), .second, Si 3] [(.ref a0), (.int 3)])
        obtain ⟨T24, X24, e24, st24⟩ := getF X21 hx hZ hown (host := "") (Or.inl (hw _ (List.mem_of_getElem? (i := 30) rfl))) Via.refl e21 F_first_a0 (g := (mkF m 54 #[Sr a0, Sd d1, .second, .val (.double (FP.dsub d1 wn)), .second, Si 3] [(.ref a0), (.int 3)])) rfl rfl (hb hby d4_54)
        refine Go.on st24 ?_
        show Go _ _ _ _ _ _ _ _ (mkF m 57 #[Sr a0, Sd d1, .second, .val (.double (FP.dsub d1 wn)), .second, Si 3] [(.int 3), (.int 3)])
        have hc25 : ¬ ((3 : Int32) < (3 : Int32)) := by decide
        refine Go.on (fun _ k => XS.icmpYes X24.here hx rfl (pc0 := 57) (pc' := 80) rfl (hb hby d4_57) rfl (flt hc25).2.2.2 (by decide) (by decide) k) ?_
        refine Go.on (fun _ k => XS.iload X24.here hx rfl (hb hby d4_80) rfl k) ?_
        refine Go.on (fun _ k => XS.aloadN X24.here hx rfl (hb hby d4_82) rfl rfl k) ?_
        show Go _ _ _ _ _ _ _ _ (mkF m 83 #[Sr a0, Sd d1, .second, .val (.double (FP.dsub d1 wn)), .second, Si 3] [(.ref a0), (.int 3)])
        obtain ⟨T26, X26, e26, st26⟩ := getF X24 hx hZ hown (host := "") (Or.inl (hw _ (List.mem_of_getElem? (i := 30) rfl))) Via.refl e24 F_first_a0 (g := (mkF m 83 #[Sr a0, Sd d1, .second, .val (.double (FP.dsub d1 wn)), .second, Si 3] [(.ref a0), (.int 3)])) rfl rfl (hb hby d4_83)
        refine Go.on st26 ?_
        show Go _ _ _ _ _ _ _ _ (mkF m 86 #[Sr a0, Sd d1, .second, .val (.double (FP.dsub d1 wn)), .second, Si 3] [(.int 3), (.int 3)])
        refine Go.on (fun _ k => XS.isub X26.here hx rfl (hb hby d4_86) rfl k) ?_
        refine Go.on (fun _ k => XS.i2dS X26.here hx rfl (hb hby d4_87) rfl rfl k) ?_
        refine Go.on (fun _ k => XS.aloadN X26.here hx rfl (hb hby d4_88) rfl rfl k) ?_
        show Go _ _ _ _ _ _ _ _ (mkF m 89 #[Sr a0, Sd d1, .second, .val (.double (FP.dsub d1 wn)), .second, Si 3] [(.ref a0), (.double (FP.i2d (0 : Int32)))])
        obtain ⟨T27, X27, e27, st27⟩ := getF X26 hx hZ hown (host := "") (Or.inl (hw _ (List.mem_of_getElem? (i := 16) rfl))) Via.refl e26 F_window_a0 (g := (mkF m 89 #[Sr a0, Sd d1, .second, .val (.double (FP.dsub d1 wn)), .second, Si 3] [(.ref a0), (.double (FP.i2d (0 : Int32)))])) rfl rfl (hb hby d4_89)
        refine Go.on st27 ?_
        show Go _ _ _ _ _ _ _ _ (mkF m 92 #[Sr a0, Sd d1, .second, .val (.double (FP.dsub d1 wn)), .second, Si 3] [(.double wn), (.double (FP.i2d (0 : Int32)))])
        refine Go.on (fun _ k => XS.ddivS X27.here hx rfl (hb hby d4_92) rfl ((own_rt _ hwn hw1 bw)) rfl k) ?_
        show Go _ _ _ _ _ _ _ _ (mkF m 93 #[Sr a0, Sd d1, .second, .val (.double (FP.dsub d1 wn)), .second, Si 3] [(.double (FP.ddiv (FP.i2d (0 : Int32)) wn))])
        refine Go.retV X27 hx Bd.returns rfl (Or.inr (Or.inr (Or.inl ⟨rfl, rfl, _, rfl⟩))) (hb hby d4_93) ?_ (by rw [hK1]; decide) (by rw [hK2]; decide)
        rw [e27, ← hQQ]
        have q_hc17 : nw.toInt - jw.toInt < t3.toInt := (own_cg zt3 zl).mp hc17
        have q_hc23 : nw.toInt < t3.toInt := (own_cl zt3 zn).mp hc23
        have i0_ : inV t0 nw jw = 0 := own_in0 bn bw (Or.inl (by omega))
        have i1_ : inV t1 nw jw = 0 := own_in0 bn bw (Or.inl (by omega))
        have i2_ : inV t2 nw jw = 0 := own_in0 bn bw (Or.inl (by omega))
        have i3_ : inV t3 nw jw = 0 := own_in0 bn bw (Or.inr (by omega))
        have hC : ((((inV t0 nw jw) + (inV t1 nw jw)) + (inV t2 nw jw)) + (inV t3 nw jw)) = (0 : Int32) := by rw [i0_, i1_, i2_, i3_] <;> decide
        unfold Q_rw_rate_4
        rw [hC]
        exact ⟨_, rfl, N10, KP, E_a0, F_times_a0, F_latest_a0, F_window_a0, F_first_a0, F_end_a0, (Or.inr (Or.inr (Or.inr (Or.inl rfl)))), (fun _ => by omega), (fun _ => by omega), (fun _ => by omega), (fun q => absurd q (by decide))⟩
      · -- pc 71 no
        refine Go.on (fun _ k => XS.ifYes X21.here hx rfl (pc0 := 71) (pc' := 80) rfl (hb hby d4_71) rfl ((if0 _ _).trans (flt hc23).2.2.2) (by decide) (by decide) k) ?_
        show Go _ _ _ _ _ _ _ _ (mkF m 80 #[Sr a0, Sd d1, .second, .val (.double (FP.dsub d1 wn)), .second, Si 4] [])
        refine Go.on (fun _ k => XS.iload X21.here hx rfl (hb hby d4_80) rfl k) ?_
        refine Go.on (fun _ k => XS.aloadN X21.here hx rfl (hb hby d4_82) rfl rfl k) ?_
        show Go _ _ _ _ _ _ _ _ (mkF m 83 #[Sr a0, Sd d1, .second, .val (.double (FP.dsub d1 wn)), .second, Si 4] [(.ref a0), (.int 4)])
        obtain ⟨T28, X28, e28, st28⟩ := getF X21 hx hZ hown (host := "") (Or.inl (hw _ (List.mem_of_getElem? (i := 30) rfl))) Via.refl e21 F_first_a0 (g := (mkF m 83 #[Sr a0, Sd d1, .second, .val (.double (FP.dsub d1 wn)), .second, Si 4] [(.ref a0), (.int 4)])) rfl rfl (hb hby d4_83)
        refine Go.on st28 ?_
        show Go _ _ _ _ _ _ _ _ (mkF m 86 #[Sr a0, Sd d1, .second, .val (.double (FP.dsub d1 wn)), .second, Si 4] [(.int 3), (.int 4)])
        refine Go.on (fun _ k => XS.isub X28.here hx rfl (hb hby d4_86) rfl k) ?_
        refine Go.on (fun _ k => XS.i2dS X28.here hx rfl (hb hby d4_87) rfl rfl k) ?_
        refine Go.on (fun _ k => XS.aloadN X28.here hx rfl (hb hby d4_88) rfl rfl k) ?_
        show Go _ _ _ _ _ _ _ _ (mkF m 89 #[Sr a0, Sd d1, .second, .val (.double (FP.dsub d1 wn)), .second, Si 4] [(.ref a0), (.double (FP.i2d (1 : Int32)))])
        obtain ⟨T29, X29, e29, st29⟩ := getF X28 hx hZ hown (host := "") (Or.inl (hw _ (List.mem_of_getElem? (i := 16) rfl))) Via.refl e28 F_window_a0 (g := (mkF m 89 #[Sr a0, Sd d1, .second, .val (.double (FP.dsub d1 wn)), .second, Si 4] [(.ref a0), (.double (FP.i2d (1 : Int32)))])) rfl rfl (hb hby d4_89)
        refine Go.on st29 ?_
        show Go _ _ _ _ _ _ _ _ (mkF m 92 #[Sr a0, Sd d1, .second, .val (.double (FP.dsub d1 wn)), .second, Si 4] [(.double wn), (.double (FP.i2d (1 : Int32)))])
        refine Go.on (fun _ k => XS.ddivS X29.here hx rfl (hb hby d4_92) rfl ((own_rt _ hwn hw1 bw)) rfl k) ?_
        show Go _ _ _ _ _ _ _ _ (mkF m 93 #[Sr a0, Sd d1, .second, .val (.double (FP.dsub d1 wn)), .second, Si 4] [(.double (FP.ddiv (FP.i2d (1 : Int32)) wn))])
        refine Go.retV X29 hx Bd.returns rfl (Or.inr (Or.inr (Or.inl ⟨rfl, rfl, _, rfl⟩))) (hb hby d4_93) ?_ (by rw [hK1]; decide) (by rw [hK2]; decide)
        rw [e29, ← hQQ]
        have q_hc17 : nw.toInt - jw.toInt < t3.toInt := (own_cg zt3 zl).mp hc17
        have q_hc23 : ¬ (nw.toInt < t3.toInt) := fun q => hc23 ((own_cl zt3 zn).mpr q)
        have i0_ : inV t0 nw jw = 0 := own_in0 bn bw (Or.inl (by omega))
        have i1_ : inV t1 nw jw = 0 := own_in0 bn bw (Or.inl (by omega))
        have i2_ : inV t2 nw jw = 0 := own_in0 bn bw (Or.inl (by omega))
        have i3_ : inV t3 nw jw = 1 := own_in1 bn bw (by omega) (by omega)
        have hC : ((((inV t0 nw jw) + (inV t1 nw jw)) + (inV t2 nw jw)) + (inV t3 nw jw)) = (1 : Int32) := by rw [i0_, i1_, i2_, i3_] <;> decide
        unfold Q_rw_rate_4
        rw [hC]
        exact ⟨_, rfl, N10, KP, E_a0, F_times_a0, F_latest_a0, F_window_a0, F_first_a0, F_end_a0, (Or.inr (Or.inr (Or.inr (Or.inl rfl)))), (fun _ => by omega), (fun _ => by omega), (fun _ => by omega), (fun q => absurd q (by decide))⟩
    · -- pc 29 no
      refine Go.on (fun _ k => XS.ifNo X15.here hx rfl (hb hby d4_29) rfl ((if0 _ _).trans (flt hc17).2.2.1) k) ?_
      show Go _ _ _ _ _ _ _ _ (mkF m 32 #[Sr a0, Sd d1, .second, .val (.double (FP.dsub d1 wn)), .second, .unset] [])
      refine Go.on (fun _ k => XS.aloadN X15.here hx rfl (hb hby d4_32) rfl rfl k) ?_
      refine Go.on (fun _ k => XS.dup X15.here hx rfl (hb hby d4_33) rfl rfl k) ?_
      show Go _ _ _ _ _ _ _ _ (mkF m 34 #[Sr a0, Sd d1, .second, .val (.double (FP.dsub d1 wn)), .second, .unset] [(.ref a0), (.ref a0)])
      obtain ⟨T30, X30, e30, st30⟩ := getF X15 hx hZ hown (host := "") (Or.inl (hw _ (List.mem_of_getElem? (i := 30) rfl))) Via.refl e15 F_first_a0 (g := (mkF m 34 #[Sr a0, Sd d1, .second, .val (.double (FP.dsub d1 wn)), .second, .unset] [(.ref a0), (.ref a0)])) rfl rfl (hb hby d4_34)
      refine Go.on st30 ?_
      show Go _ _ _ _ _ _ _ _ (mkF m 37 #[Sr a0, Sd d1, .second, .val (.double (FP.dsub d1 wn)), .second, .unset] [(.int 3), (.ref a0)])
      refine Go.on (fun _ k => XS.iconst X30.here hx rfl (hb hby d4_37) k) ?_
      refine Go.on (fun _ k => XS.iadd X30.here hx rfl (hb hby d4_38) rfl k) ?_
      show Go _ _ _ _ _ _ _ _ (mkF m 39 #[Sr a0, Sd d1, .second, .val (.double (FP.dsub d1 wn)), .second, .unset] [(.int 4), (.ref a0)])
      obtain ⟨T31, h31, X31, e31, W31, st31⟩ := putF X30 hx hZ hown (host := "") (Or.inl (hw _ (List.mem_of_getElem? (i := 30) rfl))) Via.refl e30 F_first_a0 E_a0 (Or.inl (hw _ (List.mem_of_getElem? (i := 31) rfl))) (hw _ (List.mem_of_getElem? (i := 1) rfl)) (ty := .int) (by decide) rfl rfl (g := (mkF m 39 #[Sr a0, Sd d1, .second, .val (.double (FP.dsub d1 wn)), .second, .unset] [(.int 4), (.ref a0)])) rfl rfl (hb hby d4_39)
      refine Go.on st31 ?_
      replace F_first_a0 := F_first_a0.same W31
      replace E_a0 := E_a0.wr W31
      replace F_times_a0 := F_times_a0.other W31 (Or.inr (slot_ne (Or.inl (hw _ (List.mem_of_getElem? (i := 11) rfl))) (Or.inl (hw _ (List.mem_of_getElem? (i := 31) rfl))) (by decide) (t := (.array .double)) (t' := .int) (by decide) (by decide)))
      replace F_latest_a0 := F_latest_a0.other W31 (Or.inr (slot_ne (Or.inl (hw _ (List.mem_of_getElem? (i := 14) rfl))) (Or.inl (hw _ (List.mem_of_getElem? (i := 31) rfl))) (by decide) (t := .double) (t' := .int) (by decide) (by decide)))
      replace F_window_a0 := F_window_a0.other W31 (Or.inr (slot_ne (Or.inr (hw _ (List.mem_of_getElem? (i := 17) rfl))) (Or.inl (hw _ (List.mem_of_getElem? (i := 31) rfl))) (by decide) (t := .double) (t' := .int) (by decide) (by decide)))
      replace F_end_a0 := F_end_a0.other W31 (Or.inr (slot_ne (Or.inl (hw _ (List.mem_of_getElem? (i := 24) rfl))) (Or.inl (hw _ (List.mem_of_getElem? (i := 31) rfl))) (by decide) (t := .int) (t' := .int) (by decide) (by decide)))
      replace V_as := V_as.other W31 (Ne.symm ne_a0_as)
      have N31 := Fr.snoc X31 N10 g_a0
      replace ZZ := Nat.le_trans ZZ (Keep.of_wr W31).1
      replace KP := KP.wr W31 (Or.inl (List.mem_of_getElem? (i := 0) rfl))
      show Go _ _ _ _ _ _ _ _ (mkF m 42 #[Sr a0, Sd d1, .second, .val (.double (FP.dsub d1 wn)), .second, .unset] [])
      refine Go.on (fun _ k => XS.goto X31.here hx rfl (pc0 := 42) (pc' := 7) rfl (hb hby d4_42) (by decide) (by decide) k) ?_
      show Go _ _ _ _ _ _ _ _ (mkF m 7 #[Sr a0, Sd d1, .second, .val (.double (FP.dsub d1 wn)), .second, .unset] [])
      have q_ : ¬ (nw.toInt - jw.toInt < t3.toInt) := fun q => hc17 ((own_cg zt3 zl).mpr q)
      exact hL4 _ _ _ X31 e31 N31 ZZ KP E_a0 F_times_a0 F_latest_a0 F_window_a0 F_first_a0 F_end_a0 V_as dd0 dd1 dd2 (by omega)
  have hL2 : ∀ (T32 : State) (locs32 : List Loc) (h32 : Heap), Stand p l e ({ frames := 0, cells := 0, slots := 0, locals := 0 } : Room) s m #[(.ref a0), (.double d1)] below meth c T32 locs32 0 0 → T32.heap = h32 → Fr n0 locs32 → n0 ≤ h32.size → Keep h0 h32 [a0] → Exa Z h32 a0 "com/example/deliberate_scaler/deliberatescaler/model/RateWindow" → Fld Z h32 a0 "com/example/deliberate_scaler/deliberatescaler/model/RateWindow" "times" "[D" (.ref as) → Fld Z h32 a0 "com/example/deliberate_scaler/deliberatescaler/model/RateWindow" "latest" "D" (.double lt) → Fld Z h32 a0 "com/example/deliberate_scaler/deliberatescaler/model/RateWindow" "window" "D" (.double wn) → Fld Z h32 a0 "com/example/deliberate_scaler/deliberatescaler/model/RateWindow" "first" "I" (.int (2 : Int32)) → Fld Z h32 a0 "com/example/deliberate_scaler/deliberatescaler/model/RateWindow" "end" "I" (.int (4 : Int32)) → Arv Z h32 as k_as .double (64 : Int32) [(.double y0), (.double y1), (.double y2), (.double y3), (.double (0 : UInt64)), (.double (0 : UInt64)), (.double (0 : UInt64)), (.double (0 : UInt64)), (.double (0 : UInt64)), (.double (0 : UInt64)), (.double (0 : UInt64)), (.double (0 : UInt64)), (.double (0 : UInt64)), (.double (0 : UInt64)), (.double (0 : UInt64)), (.double (0 : UInt64)), (.double (0 : UInt64)), (.double (0 : UInt64)), (.double (0 : UInt64)), (.double (0 : UInt64)), (.double (0 : UInt64)), (.double (0 : UInt64)), (.double (0 : UInt64)), (.double (0 : UInt64)), (.double (0 : UInt64)), (.double (0 : UInt64)), (.double (0 : UInt64)), (.double (0 : UInt64)), (.double (0 : UInt64)), (.double (0 : UInt64)), (.double (0 : UInt64)), (.double (0 : UInt64)), (.double (0 : UInt64)), (.double (0 : UInt64)), (.double (0 : UInt64)), (.double (0 : UInt64)), (.double (0 : UInt64)), (.double (0 : UInt64)), (.double (0 : UInt64)), (.double (0 : UInt64)), (.double (0 : UInt64)), (.double (0 : UInt64)), (.double (0 : UInt64)), (.double (0 : UInt64)), (.double (0 : UInt64)), (.double (0 : UInt64)), (.double (0 : UInt64)), (.double (0 : UInt64)), (.double (0 : UInt64)), (.double (0 : UInt64)), (.double (0 : UInt64)), (.double (0 : UInt64)), (.double (0 : UInt64)), (.double (0 : UInt64)), (.double (0 : UInt64)), (.double (0 : UInt64)), (.double (0 : UInt64)), (.double (0 : UInt64)), (.double (0 : UInt64)), (.double (0 : UInt64)), (.double (0 : UInt64)), (.double (0 : UInt64)), (.double (0 : UInt64)), (.double (0 : UInt64))] (.double (0 : UInt64)) → t0.toInt ≤ nw.toInt - jw.toInt → t1.toInt ≤ nw.toInt - jw.toInt → Go p e below s K1 K2 QQ T32 (mkF m 7 #[Sr a0, Sd d1, .second, .val (.double (FP.dsub d1 wn)), .second, .unset] []) := by
    clear ZZ KP E_a0 F_times_a0 F_latest_a0 F_window_a0 F_first_a0 F_end_a0 V_as
    intro T32 locs32 h32 X32 e32 N32 ZZ KP E_a0 F_times_a0 F_latest_a0 F_window_a0 F_first_a0 F_end_a0 V_as dd0 dd1
    show Go _ _ _ _ _ _ _ _ (mkF m 7 #[Sr a0, Sd d1, .second, .val (.double (FP.dsub d1 wn)), .second, .unset] [])
    refine Go.on (fun _ k => XS.aloadN X32.here hx rfl (hb hby d4_7) rfl rfl k) ?_
    show Go _ _ _ _ _ _ _ _ (mkF m 8 #[Sr a0, Sd d1, .second, .val (.double (FP.dsub d1 wn)), .second, .unset] [(.ref a0)])
    obtain ⟨T33, X33, e33, st33⟩ := getF X32 hx hZ hown (host := "") (Or.inl (hw _ (List.mem_of_getElem? (i := 30) rfl))) Via.refl e32 F_first_a0 (g := (mkF m 8 #[Sr a0, Sd d1, .second, .val (.double (FP.dsub d1 wn)), .second, .unset] [(.ref a0)])) rfl rfl (hb hby d4_8)
    refine Go.on st33 ?_
    show Go _ _ _ _ _ _ _ _ (mkF m 11 #[Sr a0, Sd d1, .second, .val (.double (FP.dsub d1 wn)), .second, .unset] [(.int 2)])
    refine Go.on (fun _ k => XS.aloadN X33.here hx rfl (hb hby d4_11) rfl rfl k) ?_
    show Go _ _ _ _ _ _ _ _ (mkF m 12 #[Sr a0, Sd d1, .second, .val (.double (FP.dsub d1 wn)), .second, .unset] [(.ref a0), (.int 2)])
    obtain ⟨T34, X34, e34, st34⟩ := getF X33 hx hZ hown (host := "") (Or.inl (hw _ (List.mem_of_getElem? (i := 23) rfl))) Via.refl e33 F_end_a0 (g := (mkF m 12 #[Sr a0, Sd d1, .second, .val (.double (FP.dsub d1 wn)), .second, .unset] [(.ref a0), (.int 2)])) rfl rfl (hb hby d4_12)
    refine Go.on st34 ?_
    show Go _ _ _ _ _ _ _ _ (mkF m 15 #[Sr a0, Sd d1, .second, .val (.double (FP.dsub d1 wn)), .second, .unset] [(.int 4), (.int 2)])
    have hc35 : (2 : Int32) < (4 : Int32) := by decide
    refine Go.on (fun _ k => XS.icmpNo X34.here hx rfl (hb hby d4_15) rfl (tlt hc35).2.1 k) ?_
    refine Go.on (fun _ k => XS.aloadN X34.here hx rfl (hb hby d4_18) rfl rfl k) ?_
    show Go _ _ _ _ _ _ _ _ (mkF m 19 #[Sr a0, Sd d1, .second, .val (.double (FP.dsub d1 wn)), .second, .unset] [(.ref a0)])
    obtain ⟨T36, X36, e36, st36⟩ := getF X34 hx hZ hown (host := "") (Or.inl (hw _ (List.mem_of_getElem? (i := 10) rfl))) Via.refl e34 F_times_a0 (g := (mkF m 19 #[Sr a0, Sd d1, .second, .val (.double (FP.dsub d1 wn)), .second, .unset] [(.ref a0)])) rfl rfl (hb hby d4_19)
    refine Go.on st36 ?_
    show Go _ _ _ _ _ _ _ _ (mkF m 22 #[Sr a0, Sd d1, .second, .val (.double (FP.dsub d1 wn)), .second, .unset] [(.ref as)])
    refine Go.on (fun _ k => XS.aloadN X36.here hx rfl (hb hby d4_22) rfl rfl k) ?_
    show Go _ _ _ _ _ _ _ _ (mkF m 23 #[Sr a0, Sd d1, .second, .val (.double (FP.dsub d1 wn)), .second, .unset] [(.ref a0), (.ref as)])
    obtain ⟨T37, X37, e37, st37⟩ := getF X36 hx hZ hown (host := "") (Or.inl (hw _ (List.mem_of_getElem? (i := 30) rfl))) Via.refl e36 F_first_a0 (g := (mkF m 23 #[Sr a0, Sd d1, .second, .val (.double (FP.dsub d1 wn)), .second, .unset] [(.ref a0), (.ref as)])) rfl rfl (hb hby d4_23)
    refine Go.on st37 ?_
    show Go _ _ _ _ _ _ _ _ (mkF m 26 #[Sr a0, Sd d1, .second, .val (.double (FP.dsub d1 wn)), .second, .unset] [(.int 2), (.ref as)])
    obtain ⟨cl38, Ar38, -, S38, -, H38, -⟩ := id V_as
    have hin38 : ¬ ((2 : Int32) < 0 ∨ cl38.slots.size ≤ ((2 : Int32)).toNatClampNeg) := inb_of S38 ⟨by decide, by decide⟩
    refine Go.on (X37.daload hx (j := (2 : Int32)) (v := (.double y2)) (by rw [e37]; exact Ar38.1) (State.isArrayOf_alike hZ.alike Ar38.2.1) Ar38.2.2 hin38 (H38.at hin38 (rfl)) (g := (mkF m 26 #[Sr a0, Sd d1, .second, .val (.double (FP.dsub d1 wn)), .second, .unset] [(.int 2), (.ref as)])) rfl rfl (hb hby d4_26)) ?_
    show Go _ _ _ _ _ _ _ _ (mkF m 27 #[Sr a0, Sd d1, .second, .val (.double (FP.dsub d1 wn)), .second, .unset] [(.double y2)])
    refine Go.on (fun _ k => XS.dloadN X37.here hx rfl (hb hby d4_27) rfl k) ?_
    refine Go.on (fun _ k => XS.dcmpS X37.here hx rfl (hb hby d4_28) rfl rfl k) ?_
    show Go _ _ _ _ _ _ _ _ (mkF m 29 #[Sr a0, Sd d1, .second, .val (.double (FP.dsub d1 wn)), .second, .unset] [(.int (cmpValue (FP.dcmp y2 (FP.dsub d1 wn)) .g))])
    by_cases hc39 : (0 : Int32) < (cmpValue (FP.dcmp y2 (FP.dsub d1 wn)) .g)
    · -- pc 29 yes
      refine Go.on (fun _ k => XS.ifYes X37.here hx rfl (pc0 := 29) (pc' := 45) rfl (hb hby d4_29) rfl ((if0 _ _).trans (tlt hc39).2.2.1) (by decide) (by decide) k) ?_
      show Go _ _ _ _ _ _ _ _ (mkF m 45 #[Sr a0, Sd d1, .second, .val (.double (FP.dsub d1 wn)), .second, .unset] [])
      refine Go.on (fun _ k => XS.aloadN X37.here hx rfl (hb hby d4_45) rfl rfl k) ?_
      show Go _ _ _ _ _ _ _ _ (mkF m 46 #[Sr a0, Sd d1, .second, .val (.double (FP.dsub d1 wn)), .second, .unset] [(.ref a0)])
      obtain ⟨T40, X40, e40, st40⟩ := getF X37 hx hZ hown (host := "") (Or.inl (hw _ (List.mem_of_getElem? (i := 23) rfl))) Via.refl e37 F_end_a0 (g := (mkF m 46 #[Sr a0, Sd d1, .second, .val (.double (FP.dsub d1 wn)), .second, .unset] [(.ref a0)])) rfl rfl (hb hby d4_46)
      refine Go.on st40 ?_
      show Go _ _ _ _ _ _ _ _ (mkF m 49 #[Sr a0, Sd d1, .second, .val (.double (FP.dsub d1 wn)), .second, .unset] [(.int 4)])
      refine Go.on (fun _ k => XS.istore X40.here hx rfl (hb hby d4_49) rfl (l' := #[.val (.ref a0), .val (.double d1), .second, .val (.double (FP.dsub d1 wn)), .second, .val (.int (4 : Int32))]) rfl k) ?_
      show Go _ _ _ _ _ _ _ _ (mkF m 51 #[Sr a0, Sd d1, .second, .val (.double (FP.dsub d1 wn)), .second, Si 4] [])
      refine Go.on (fun _ k => XS.iload X40.here hx rfl (hb hby d4_51) rfl k) ?_
      refine Go.on (fun _ k => XS.aloadN X40.here hx rfl (hb hby d4_53) rfl rfl k) ?_
      show Go _ _ _ _ _ _ _ _ (mkF m 54 #[Sr a0, Sd d1, .second, .val (.double (FP.dsub d1 wn)), .second, Si 4] [(.ref a0), (.int 4)])
      obtain ⟨T41, X41, e41, st41⟩ := getF X40 hx hZ hown (host := "") (Or.inl (hw _ (List.mem_of_getElem? (i := 30) rfl))) Via.refl e40 F_first_a0 (g := (mkF m 54 #[Sr a0, Sd d1, .second, .val (.double (FP.dsub d1 wn)), .second, Si 4] [(.ref a0), (.int 4)])) rfl rfl (hb hby d4_54)
      refine Go.on st41 ?_
      show Go _ _ _ _ _ _ _ _ (mkF m 57 #[Sr a0, Sd d1, .second, .val (.double (FP.dsub d1 wn)), .second, Si 4] [(.int 2), (.int 4)])
      have hc42 : (2 : Int32) < (4 : Int32) := by decide
      refine Go.on (fun _ k => XS.icmpNo X41.here hx rfl (hb hby d4_57) rfl (tlt hc42).2.2.2 k) ?_
      refine Go.on (fun _ k => XS.aloadN X41.here hx rfl (hb hby d4_60) rfl rfl k) ?_
      show Go _ _ _ _ _ _ _ _ (mkF m 61 #[Sr a0, Sd d1, .second, .val (.double (FP.dsub d1 wn)), .second, Si 4] [(.ref a0)])
      obtain ⟨T43, X43, e43, st43⟩ := getF X41 hx hZ hown (host := "") (Or.inl (hw _ (List.mem_of_getElem? (i := 10) rfl))) Via.refl e41 F_times_a0 (g := (mkF m 61 #[Sr a0, Sd d1, .second, .val (.double (FP.dsub d1 wn)), .second, Si 4] [(.ref a0)])) rfl rfl (hb hby d4_61)
      refine Go.on st43 ?_
      show Go _ _ _ _ _ _ _ _ (mkF m 64 #[Sr a0, Sd d1, .second, .val (.double (FP.dsub d1 wn)), .second, Si 4] [(.ref as)])
      refine Go.on (fun _ k => XS.iload X43.here hx rfl (hb hby d4_64) rfl k) ?_
      refine Go.on (fun _ k => XS.iconst X43.here hx rfl (hb hby d4_66) k) ?_
      refine Go.on (fun _ k => XS.isub X43.here hx rfl (hb hby d4_67) rfl k) ?_
      show Go _ _ _ _ _ _ _ _ (mkF m 68 #[Sr a0, Sd d1, .second, .val (.double (FP.dsub d1 wn)), .second, Si 4] [(.int 3), (.ref as)])
      obtain ⟨cl44, Ar44, -, S44, -, H44, -⟩ := id V_as
      have hin44 : ¬ ((3 : Int32) < 0 ∨ cl44.slots.size ≤ ((3 : Int32)).toNatClampNeg) := inb_of S44 ⟨by decide, by decide⟩
      refine Go.on (X43.daload hx (j := (3 : Int32)) (v := (.double y3)) (by rw [e43]; exact Ar44.1) (State.isArrayOf_alike hZ.alike Ar44.2.1) Ar44.2.2 hin44 (H44.at hin44 (rfl)) (g := (mkF m 68 #[Sr a0, Sd d1, .second, .val (.double (FP.dsub d1 wn)), .second, Si 4] [(.int 3), (.ref as)])) rfl rfl (hb hby d4_68)) ?_
      show Go _ _ _ _ _ _ _ _ (mkF m 69 #[Sr a0, Sd d1, .second, .val (.double (FP.dsub d1 wn)), .second, Si 4] [(.double y3)])
      refine Go.on (fun _ k => XS.dloadN X43.here hx rfl (hb hby d4_69) rfl k) ?_
      refine Go.on (fun _ k => XS.dcmpS X43.here hx rfl (hb hby d4_70) rfl rfl k) ?_
      show Go _ _ _ _ _ _ _ _ (mkF m 71 #[Sr a0, Sd d1, .second, .val (.double (FP.dsub d1 wn)), .second, Si 4] [(.int (cmpValue (FP.dcmp y3 d1) .l))])
      by_cases hc45 : (0 : Int32) < (cmpValue (FP.dcmp y3 d1) .l)
      · -- pc 71 yes
        refine Go.on (fun _ k => XS.ifNo X43.here hx rfl (hb hby d4_71) rfl ((if0 _ _).trans (tlt hc45).2.2.2) k) ?_
        show Go _ _ _ _ _ _ _ _ (mkF m 74 #[Sr a0, Sd d1, .second, .val (.double (FP.dsub d1 wn)), .second, Si 4] [])
        refine Go.on (fun _ k => XS.iinc X43.here hx rfl (hb hby d4_74) rfl (l' := #[.val (.ref a0), .val (.double d1), .second, .val (.double (FP.dsub d1 wn)), .second, .val (.int (3 : Int32))]) rfl k) ?_
        show Go _ _ _ _ _ _ _ _ (mkF m 77 #[Sr a0, Sd d1, .second, .val (.double (FP.dsub d1 wn)), .second, Si 3] [])
        refine Go.on (fun _ k => XS.goto X43.here hx rfl (pc0 := 77) (pc' := 51) rfl (hb hby d4_77) (by decide) (by decide) k) ?_
        refine Go.on (fun _ k => XS.iload X43.here hx rfl (hb hby d4_51) rfl k) ?_
        refine Go.on (fun _ k => XS.aloadN X43.here hx rfl (hb hby d4_53) rfl rfl k) ?_
        show Go _ _ _ _ _ _ _ _ (mkF m 54 #[Sr a0, Sd d1, .second, .val (.double (FP.dsub d1 wn)), .second, Si 3] [(.ref a0), (.int 3)])
        obtain ⟨T46, X46, e46, st46⟩ := getF X43 hx hZ hown (host := "") (Or.inl (hw _ (List.mem_of_getElem? (i := 30) rfl))) Via.refl e43 F_first_a0 (g := (mkF m 54 #[Sr a0, Sd d1, .second, .val (.double (FP.dsub d1 wn)), .second, Si 3] [(.ref a0), (.int 3)])) rfl rfl (hb hby d4_54)
        refine Go.on st46 ?_
        show Go _ _ _ _ _ _ _ _ (mkF m 57 #[Sr a0, Sd d1, .second, .val (.double (FP.dsub d1 wn)), .second, Si 3] [(.int 2), (.int 3)])
        have hc47 : (2 : Int32) < (3 : Int32) := by decide
        refine Go.on (fun _ k => XS.icmpNo X46.here hx rfl (hb hby d4_57) rfl (tlt hc47).2.2.2 k) ?_
        refine Go.on (fun _ k => XS.aloadN X46.here hx rfl (hb hby d4_60) rfl rfl k) ?_
        show Go _ _ _ _ _ _ _ _ (mkF m 61 #[Sr a0, Sd d1, .second, .val (.double (FP.dsub d1 wn)), .second, Si 3] [(.ref a0)])
        obtain ⟨T48, X48, e48, st48⟩ := getF X46 hx hZ hown (host := "") (Or.inl (hw _ (List.mem_of_getElem? (i := 10) rfl))) Via.refl e46 F_times_a0 (g := (mkF m 61 #[Sr a0, Sd d1, .second, .val (.double (FP.dsub d1 wn)), .second, Si 3] [(.ref a0)])) rfl rfl (hb hby d4_61)
        refine Go.on st48 ?_
        show Go _ _ _ _ _ _ _ _ (mkF m 64 #[Sr a0, Sd d1, .second, .val (.double (FP.dsub d1 wn)), .second, Si 3] [(.ref as)])
        refine Go.on (fun _ k => XS.iload X48.here hx rfl (hb hby d4_64) rfl k) ?_
        refine Go.on (fun _ k => XS.iconst X48.here hx rfl (hb hby d4_66) k) ?_
        refine Go.on (fun _ k => XS.isub X48.here hx rfl (hb hby d4_67) rfl k) ?_
        show Go _ _ _ _ _ _ _ _ (mkF m 68 #[Sr a0, Sd d1, .second, .val (.double (FP.dsub d1 wn)), .second, Si 3] [(.int 2), (.ref as)])
        obtain ⟨cl49, Ar49, -, S49, -, H49, -⟩ := id V_as
        have hin49 : ¬ ((2 : Int32) < 0 ∨ cl49.slots.size ≤ ((2 : Int32)).toNatClampNeg) := inb_of S49 ⟨by decide, by decide⟩
        refine Go.on (X48.daload hx (j := (2 : Int32)) (v := (.double y2)) (by rw [e48]; exact Ar49.1) (State.isArrayOf_alike hZ.alike Ar49.2.1) Ar49.2.2 hin49 (H49.at hin49 (rfl)) (g := (mkF m 68 #[Sr a0, Sd d1, .second, .val (.double (FP.dsub d1 wn)), .second, Si 3] [(.int 2), (.ref as)])) rfl rfl (hb hby d4_68)) ?_
        show Go _ _ _ _ _ _ _ _ (mkF m 69 #[Sr a0, Sd d1, .second, .val (.double (FP.dsub d1 wn)), .second, Si 3] [(.double y2)])
        refine Go.on (fun _ k => XS.dloadN X48.here hx rfl (hb hby d4_69) rfl k) ?_
        refine Go.on (fun _ k => XS.dcmpS X48.here hx rfl (hb hby d4_70) rfl rfl k) ?_
        show Go _ _ _ _ _ _ _ _ (mkF m 71 #[Sr a0, Sd d1, .second, .val (.double (FP.dsub d1 wn)), .second, Si 3] [(.int (cmpValue (FP.dcmp y2 d1) .l))])
        by_cases hc50 : (0 : Int32) < (cmpValue (FP.dcmp y2 d1) .l)
        · -- pc 71 yes
          refine Go.on (fun _ k => XS.ifNo X48.here hx rfl (hb hby d4_71) rfl ((if0 _ _).trans (tlt hc50).2.2.2) k) ?_
          show Go _ _ _ _ _ _ _ _ (mkF m 74 #[Sr a0, Sd d1, .second, .val (.double (FP.dsub d1 wn)), .second, Si 3] [])
          refine Go.on (fun _ k => XS.iinc X48.here hx rfl (hb hby d4_74) rfl (l' := #[.val (.ref a0), .val (.double d1), .second, .val (.double (FP.dsub d1 wn)), .second, .val (.int (2 : Int32))]) rfl k) ?_
          show Go _ _ _ _ _ _ _ _ (mkF m 77 #[Sr a0, Sd d1, .second, .val (.double (FP.dsub d1 wn)), .second, Si 2] [])
          refine Go.on (fun _ k => XS.goto X48.here hx rfl (pc0 := 77) (pc' := 51) rfl (hb hby d4_77) (by decide) (by decide) k) ?_
          refine Go.on (fun _ k => XS.iload X48.here hx rfl (hb hby d4_51) rfl k) ?_
          refine Go.on (fun _ k => XS.aloadN X48.here hx rfl (hb hby d4_53) rfl rfl k) ?_
          show Go _ _ _ _ _ _ _ _ (mkF m 54 #[Sr a0, Sd d1, .second, .val (.double (FP.dsub d1 wn)), .second, Si 2] [(.ref a0), (.int 2)])
          obtain ⟨T51, X51, e51, st51⟩ := getF X48 hx hZ hown (host := "") (Or.inl (hw _ (List.mem_of_getElem? (i := 30) rfl))) Via.refl e48 F_first_a0 (g := (mkF m 54 #[Sr a0, Sd d1, .second, .val (.double (FP.dsub d1 wn)), .second, Si 2] [(.ref a0), (.int 2)])) rfl rfl (hb hby d4_54)
          refine Go.on st51 ?_
          show Go _ _ _ _ _ _ _ _ (mkF m 57 #[Sr a0, Sd d1, .second, .val (.double (FP.dsub d1 wn)), .second, Si 2] [(.int 2), (.int 2)])
          have hc52 : ¬ ((2 : Int32) < (2 : Int32)) := by decide
          refine Go.on (fun _ k => XS.icmpYes X51.here hx rfl (pc0 := 57) (pc' := 80) rfl (hb hby d4_57) rfl (flt hc52).2.2.2 (by decide) (by decide) k) ?_
          refine Go.on (fun _ k => XS.iload X51.here hx rfl (hb hby d4_80) rfl k) ?_
          refine Go.on (fun _ k => XS.aloadN X51.here hx rfl (hb hby d4_82) rfl rfl k) ?_
          show Go _ _ _ _ _ _ _ _ (mkF m 83 #[Sr a0, Sd d1, .second, .val (.double (FP.dsub d1 wn)), .second, Si 2] [(.ref a0), (.int 2)])
          obtain ⟨T53, X53, e53, st53⟩ := getF X51 hx hZ hown (host := "") (Or.inl (hw _ (List.mem_of_getElem? (i := 30) rfl))) Via.refl e51 F_first_a0 (g := (mkF m 83 #[Sr a0, Sd d1, .second, .val (.double (FP.dsub d1 wn)), .second, Si 2] [(.ref a0), (.int 2)])) rfl rfl (hb hby d4_83)
          refine Go.on st53 ?_
          show Go _ _ _ _ _ _ _ _ (mkF m 86 #[Sr a0, Sd d1, .second, .val (.double (FP.dsub d1 wn)), .second, Si 2] [(.int 2), (.int 2)])
          refine Go.on (fun _ k => XS.isub X53.here hx rfl (hb hby d4_86) rfl k) ?_
          refine Go.on (fun _ k => XS.i2dS X53.here hx rfl (hb hby d4_87) rfl rfl k) ?_
          refine Go.on (fun _ k => XS.aloadN X53.here hx rfl (hb hby d4_88) rfl rfl k) ?_
          show Go _ _ _ _ _ _ _ _ (mkF m 89 #[Sr a0, Sd d1, .second, .val (.double (FP.dsub d1 wn)), .second, Si 2] [(.ref a0), (.double (FP.i2d (0 : Int32)))])
          obtain ⟨T54, X54, e54, st54⟩ := getF X53 hx hZ hown (host := "") (Or.inl (hw _ (List.mem_of_getElem? (i := 16) rfl))) Via.refl e53 F_window_a0 (g := (mkF m 89 #[Sr a0, Sd d1, .second, .val (.double (FP.dsub d1 wn)), .second, Si 2] [(.ref a0), (.double (FP.i2d (0 : Int32)))])) rfl rfl (hb hby d4_89)
          refine Go.on st54 ?_
          show Go _ _ _ _ _ _ _ _ (mkF m 92 #[Sr a0, Sd d1, .second, .val (.double (FP.dsub d1 wn)), .second, Si 2] [(.double wn), (.double (FP.i2d (0 : Int32)))])
          refine Go.on (fun _ k => XS.ddivS X54.here hx rfl (hb hby d4_92) rfl ((own_rt _ hwn hw1 bw)) rfl k) ?_
          show Go _ _ _ _ _ _ _ _ (mkF m 93 #[Sr a0, Sd d1, .second, .val (.double (FP.dsub d1 wn)), .second, Si 2] [(.double (FP.ddiv (FP.i2d (0 : Int32)) wn))])
          refine Go.retV X54 hx Bd.returns rfl (Or.inr (Or.inr (Or.inl ⟨rfl, rfl, _, rfl⟩))) (hb hby d4_93) ?_ (by rw [hK1]; decide) (by rw [hK2]; decide)
          rw [e54, ← hQQ]
          have q_hc39 : nw.toInt - jw.toInt < t2.toInt := (own_cg zt2 zl).mp hc39
          have q_hc45 : nw.toInt < t3.toInt := (own_cl zt3 zn).mp hc45
          have q_hc50 : nw.toInt < t2.toInt := (own_cl zt2 zn).mp hc50
          have i0_ : inV t0 nw jw = 0 := own_in0 bn bw (Or.inl (by omega))
          have i1_ : inV t1 nw jw = 0 := own_in0 bn bw (Or.inl (by omega))
          have i2_ : inV t2 nw jw = 0 := own_in0 bn bw (Or.inr (by omega))
          have i3_ : inV t3 nw jw = 0 := own_in0 bn bw (Or.inr (by omega))
          have hC : ((((inV t0 nw jw) + (inV t1 nw jw)) + (inV t2 nw jw)) + (inV t3 nw jw)) = (0 : Int32) := by rw [i0_, i1_, i2_, i3_] <;> decide
          unfold Q_rw_rate_4
          rw [hC]
          exact ⟨_, rfl, N32, KP, E_a0, F_times_a0, F_latest_a0, F_window_a0, F_first_a0, F_end_a0, (Or.inr (Or.inr (Or.inl rfl))), (fun _ => by omega), (fun _ => by omega), (fun q => absurd q (by decide)), (fun q => absurd q (by decide))⟩
        · -- pc 71 no
          refine Go.on (fun _ k => XS.ifYes X48.here hx rfl (pc0 := 71) (pc' := 80) rfl (hb hby d4_71) rfl ((if0 _ _).trans (flt hc50).2.2.2) (by decide) (by decide) k) ?_
          show Go _ _ _ _ _ _ _ _ (mkF m 80 #[Sr a0, Sd d1, .second, .val (.double (FP.dsub d1 wn)), .second, Si 3] [])
          refine Go.on (fun _ k => XS.iload X48.here hx rfl (hb hby d4_80) rfl k) ?_
          refine Go.on (fun _ k => XS.aloadN X48.here hx rfl (hb hby d4_82) rfl rfl k) ?_
          show Go _ _ _ _ _ _ _ _ (mkF m 83 #[Sr a0, Sd d1, .second, .val (.double (FP.dsub d1 wn)), .second, Si 3] [(.ref a0), (.int 3)])
          obtain ⟨T55, X55, e55, st55⟩ := getF X48 hx hZ hown (host := "") (Or.inl (hw _ (List.mem_of_getElem? (i := 30) rfl))) Via.refl e48 F_first_a0 (g := (mkF m 83 #[Sr a0, Sd d1, .second, .val (.double (FP.dsub d1 wn)), .second, Si 3] [(.ref a0), (.int 3)])) rfl rfl (hb hby d4_83)
          refine Go.on st55 ?_
          show Go _ _ _ _ _ _ _ _ (mkF m 86 #[Sr a0, Sd d1, .second, .val (.double (FP.dsub d1 wn)), .second, Si 3] [(.int 2), (.int 3)])
          refine Go.on (fun _ k => XS.isub X55.here hx rfl (hb hby d4_86) rfl k) ?_
          refine Go.on (fun _ k => XS.i2dS X55.here hx rfl (hb hby d4_87) rfl rfl k) ?_
          refine Go.on (fun _ k => XS.aloadN X55.here hx rfl (hb hby d4_88) rfl rfl k) ?_
          show Go _ _ _ _ _ _ _ _ (mkF m 89 #[Sr a0, Sd d1, .second, .val (.double (FP.dsub d1 wn)), .second, Si 3] [(.ref a0), (.double (FP.i2d (1 : Int32)))])
          obtain ⟨T56, X56, e56, st56⟩ := getF X55 hx hZ hown (host := "") (Or.inl (hw _ (List.mem_of_getElem? (i := 16) rfl))) Via.refl e55 F_window_a0 (g := (mkF m 89 #[Sr a0, Sd d1, .second, .val (.double (FP.dsub d1 wn)), .second, Si 3] [(.ref a0), (.double (FP.i2d (1 : Int32)))])) rfl rfl (hb hby d4_89)
          refine Go.on st56 ?_
          show Go _ _ _ _ _ _ _ _ (mkF m 92 #[Sr a0, Sd d1, .second, .val (.double (FP.dsub d1 wn)), .second, Si 3] [(.double wn), (.double (FP.i2d (1 : Int32)))])
          refine Go.on (fun _ k => XS.ddivS X56.here hx rfl (hb hby d4_92) rfl ((own_rt _ hwn hw1 bw)) rfl k) ?_
          show Go _ _ _ _ _ _ _ _ (mkF m 93 #[Sr a0, Sd d1, .second, .val (.double (FP.dsub d1 wn)), .second, Si 3] [(.double (FP.ddiv (FP.i2d (1 : Int32)) wn))])
          refine Go.retV X56 hx Bd.returns rfl (Or.inr (Or.inr (Or.inl ⟨rfl, rfl, _, rfl⟩))) (hb hby d4_93) ?_ (by rw [hK1]; decide) (by rw [hK2]; decide)
          rw [e56, ← hQQ]
          have q_hc39 : nw.toInt - jw.toInt < t2.toInt := (own_cg zt2 zl).mp hc39
          have q_hc45 : nw.toInt < t3.toInt := (own_cl zt3 zn).mp hc45
          have q_hc50 : ¬ (nw.toInt < t2.toInt) := fun q => hc50 ((own_cl zt2 zn).mpr q)
          have i0_ : inV t0 nw jw = 0 := own_in0 bn bw (Or.inl (by omega))
          have i1_ : inV t1 nw jw = 0 := own_in0 bn bw (Or.inl (by omega))
          have i2_ : inV t2 nw jw = 1 := own_in1 bn bw (by omega) (by omega)
          have i3_ : inV t3 nw jw = 0 := own_in0 bn bw (Or.inr (by omega))
          have hC : ((((inV t0 nw jw) + (inV t1 nw jw)) + (inV t2 nw jw)) + (inV t3 nw jw)) = (1 : Int32) := by rw [i0_, i1_, i2_, i3_] <;> decide
          unfold Q_rw_rate_4
          rw [hC]
          exact ⟨_, rfl, N32, KP, E_a0, F_times_a0, F_latest_a0, F_window_a0, F_first_a0, F_end_a0, (Or.inr (Or.inr (Or.inl rfl))), (fun _ => by omega), (fun _ => by omega), (fun q => absurd q (by decide)), (fun q => absurd q (by decide))⟩
      · -- pc 71 no
        refine Go.on (fun _ k => XS.ifYes X43.here hx rfl (pc0 := 71) (pc' := 80) rfl (hb hby d4_71) rfl ((if0 _ _).trans (flt hc45).2.2.2) (by decide) (by decide) k) ?_
        show Go _ _ _ _ _ _ _ _ (mkF m 80 #[Sr a0, Sd d1, .second, .val (.double (FP.dsub d1 wn)), .second, Si 4] [])
        refine Go.on (fun _ k => XS.iload X43.here hx rfl (hb hby d4_80) rfl k) ?_
        refine Go.on (fun _ k => XS.aloadN X43.here hx rfl (hb hby d4_82) rfl rfl k) ?_
        show Go _ _ _ _ _ _ _ _ (mkF m 83 #[Sr a0, Sd d1, .second, .val (.double (FP.dsub d1 wn)), .second, Si 4] [(.ref a0), (.int 4)])
        obtain ⟨T57, X57, e57, st57⟩ := getF X43 hx hZ hown (host := "") (Or.inl (hw _ (List.mem_of_getElem? (i := 30) rfl))) Via.refl e43 F_first_a0 (g := (mkF m 83 #[Sr a0, Sd d1, .second, .val (.double (FP.dsub d1 wn)), .second, Si 4] [(.ref a0), (.int 4)])) rfl rfl (hb hby d4_83)
        refine Go.on st57 ?_
        show Go _ _ _ _ _ _ _ _ (mkF m 86 #[Sr a0, Sd d1, .second, .val (.double (FP.dsub d1 wn)), .second, Si 4] [(.int 2), (.int 4)])
        refine Go.on (fun _ k => XS.isub X57.here hx rfl (hb hby d4_86) rfl k) ?_
        refine Go.on (fun _ k => XS.i2dS X57.here hx rfl (hb hby d4_87) rfl rfl k) ?_
        refine Go.on (fun _ k => XS.aloadN X57.here hx rfl (hb hby d4_88) rfl rfl k) ?_
        show Go _ _ _ _ _ _ _ _ (mkF m 89 #[Sr a0, Sd d1, .second, .val (.double (FP.dsub d1 wn)), .second, Si 4] [(.ref a0), (.double (FP.i2d (2 : Int32)))])
        obtain ⟨T58, X58, e58, st58⟩ := getF X57 hx hZ hown (host := "") (Or.inl (hw _ (List.mem_of_getElem? (i := 16) rfl))) Via.refl e57 F_window_a0 (g := (mkF m 89 #[Sr a0, Sd d1, .second, .val (.double (FP.dsub d1 wn)), .second, Si 4] [(.ref a0), (.double (FP.i2d (2 : Int32)))])) rfl rfl (hb hby d4_89)
        refine Go.on st58 ?_
        show Go _ _ _ _ _ _ _ _ (mkF m 92 #[Sr a0, Sd d1, .second, .val (.double (FP.dsub d1 wn)), .second, Si 4] [(.double wn), (.double (FP.i2d (2 : Int32)))])
        refine Go.on (fun _ k => XS.ddivS X58.here hx rfl (hb hby d4_92) rfl ((own_rt _ hwn hw1 bw)) rfl k) ?_
        show Go _ _ _ _ _ _ _ _ (mkF m 93 #[Sr a0, Sd d1, .second, .val (.double (FP.dsub d1 wn)), .second, Si 4] [(.double (FP.ddiv (FP.i2d (2 : Int32)) wn))])
        refine Go.retV X58 hx Bd.returns rfl (Or.inr (Or.inr (Or.inl ⟨rfl, rfl, _, rfl⟩))) (hb hby d4_93) ?_ (by rw [hK1]; decide) (by rw [hK2]; decide)
        rw [e58, ← hQQ]
        have q_hc39 : nw.toInt - jw.toInt < t2.toInt := (own_cg zt2 zl).mp hc39
        have q_hc45 : ¬ (nw.toInt < t3.toInt) := fun q => hc45 ((own_cl zt3 zn).mpr q)
        have i0_ : inV t0 nw jw = 0 := own_in0 bn bw (Or.inl (by omega))
        have i1_ : inV t1 nw jw = 0 := own_in0 bn bw (Or.inl (by omega))
        have i2_ : inV t2 nw jw = 1 := own_in1 bn bw (by omega) (by omega)
        have i3_ : inV t3 nw jw = 1 := own_in1 bn bw (by omega) (by omega)
        have hC : ((((inV t0 nw jw) + (inV t1 nw jw)) + (inV t2 nw jw)) + (inV t3 nw jw)) = (2 : Int32) := by rw [i0_, i1_, i2_, i3_] <;> decide
        unfold Q_rw_rate_4
        rw [hC]
        exact ⟨_, rfl, N32, KP, E_a0, F_times_a0, F_latest_a0, F_window_a0, F_first_a0, F_end_a0, (Or.inr (Or.inr (Or.inl rfl))), (fun _ => by omega), (fun _ => by omega), (fun q => absurd q (by decide)), (fun q => absurd q (by decide))⟩
    · -- pc 29 no
      refine Go.on (fun _ k => XS.ifNo X37.here hx rfl (hb hby d4_29) rfl ((if0 _ _).trans (flt hc39).2.2.1) k) ?_
      show Go _ _ _ _ _ _ _ _ (mkF m 32 #[Sr a0, Sd d1, .second, .val (.double (FP.dsub d1 wn)), .second, .unset] [])
      refine Go.on (fun _ k => XS.aloadN X37.here hx rfl (hb hby d4_32) rfl rfl k) ?_
      refine Go.on (fun _ k => XS.dup X37.here hx rfl (hb hby d4_33) rfl rfl k) ?_
      show Go _ _ _ _ _ _ _ _ (mkF m 34 #[Sr a0, Sd d1, .second, .val (.double (FP.dsub d1 wn)), .second, .unset] [(.ref a0), (.ref a0)])
      obtain ⟨T59, X59, e59, st59⟩ := getF X37 hx hZ hown (host := "") (Or.inl (hw _ (List.mem_of_getElem? (i := 30) rfl))) Via.refl e37 F_first_a0 (g := (mkF m 34 #[Sr a0, Sd d1, .second, .val (.double (FP.dsub d1 wn)), .second, .unset] [(.ref a0), (.ref a0)])) rfl rfl (hb hby d4_34)
      refine Go.on st59 ?_
      show Go _ _ _ _ _ _ _ _ (mkF m 37 #[Sr a0, Sd d1, .second, .val (.double (FP.dsub d1 wn)), .second, .unset] [(.int 2), (.ref a0)])
      refine Go.on (fun _ k => XS.iconst X59.here hx rfl (hb hby d4_37) k) ?_
      refine Go.on (fun _ k => XS.iadd X59.here hx rfl (hb hby d4_38) rfl k) ?_
      show Go _ _ _ _ _ _ _ _ (mkF m 39 #[Sr a0, Sd d1, .second, .val (.double (FP.dsub d1 wn)), .second, .unset] [(.int 3), (.ref a0)])
      obtain ⟨T60, h60, X60, e60, W60, st60⟩ := putF X59 hx hZ hown (host := "") (Or.inl (hw _ (List.mem_of_getElem? (i := 30) rfl))) Via.refl e59 F_first_a0 E_a0 (Or.inl (hw _ (List.mem_of_getElem? (i := 31) rfl))) (hw _ (List.mem_of_getElem? (i := 1) rfl)) (ty := .int) (by decide) rfl rfl (g := (mkF m 39 #[Sr a0, Sd d1, .second, .val (.double (FP.dsub d1 wn)), .second, .unset] [(.int 3), (.ref a0)])) rfl rfl (hb hby d4_39)
      refine Go.on st60 ?_
      replace F_first_a0 := F_first_a0.same W60
      replace E_a0 := E_a0.wr W60
      replace F_times_a0 := F_times_a0.other W60 (Or.inr (slot_ne (Or.inl (hw _ (List.mem_of_getElem? (i := 11) rfl))) (Or.inl (hw _ (List.mem_of_getElem? (i := 31) rfl))) (by decide) (t := (.array .double)) (t' := .int) (by decide) (by decide)))
      replace F_latest_a0 := F_latest_a0.other W60 (Or.inr (slot_ne (Or.inl (hw _ (List.mem_of_getElem? (i := 14) rfl))) (Or.inl (hw _ (List.mem_of_getElem? (i := 31) rfl))) (by decide) (t := .double) (t' := .int) (by decide) (by decide)))
      replace F_window_a0 := F_window_a0.other W60 (Or.inr (slot_ne (Or.inr (hw _ (List.mem_of_getElem? (i := 17) rfl))) (Or.inl (hw _ (List.mem_of_getElem? (i := 31) rfl))) (by decide) (t := .double) (t' := .int) (by decide) (by decide)))
      replace F_end_a0 := F_end_a0.other W60 (Or.inr (slot_ne (Or.inl (hw _ (List.mem_of_getElem? (i := 24) rfl))) (Or.inl (hw _ (List.mem_of_getElem? (i := 31) rfl))) (by decide) (t := .int) (t' := .int) (by decide) (by decide)))
      replace V_as := V_as.other W60 (Ne.symm ne_a0_as)
      have N60 := Fr.snoc X60 N32 g_a0
      replace ZZ := Nat.le_trans ZZ (Keep.of_wr W60).1
      replace KP := KP.wr W60 (Or.inl (List.mem_of_getElem? (i := 0) rfl))
      show Go _ _ _ _ _ _ _ _ (mkF m 42 #[Sr a0, Sd d1, .second, .val (.double (FP.dsub d1 wn)), .second, .unset] [])
      refine Go.on (fun _ k => XS.goto X60.here hx rfl (pc0 := 42) (pc' := 7) rfl (hb hby d4_42) (by decide) (by decide) k) ?_
      show Go _ _ _ _ _ _ _ _ (mkF m 7 #[Sr a0, Sd d1, .second, .val (.double (FP.dsub d1 wn)), .second, .unset] [])
      have q_ : ¬ (nw.toInt - jw.toInt < t2.toInt) := fun q => hc39 ((own_cg zt2 zl).mpr q)
      exact hL3 _ _ _ X60 e60 N60 ZZ KP E_a0 F_times_a0 F_latest_a0 F_window_a0 F_first_a0 F_end_a0 V_as dd0 dd1 (by omega)
  have hL1 : ∀ (T61 : State) (locs61 : List Loc) (h61 : Heap), Stand p l e ({ frames := 0, cells := 0, slots := 0, locals := 0 } : Room) s m #[(.ref a0), (.double d1)] below meth c T61 locs61 0 0 → T61.heap = h61 → Fr n0 locs61 → n0 ≤ h61.size → Keep h0 h61 [a0] → Exa Z h61 a0 "com/example/deliberate_scaler/deliberatescaler/model/RateWindow" → Fld Z h61 a0 "com/example/deliberate_scaler/deliberatescaler/model/RateWindow" "times" "[D" (.ref as) → Fld Z h61 a0 "com/example/deliberate_scaler/deliberatescaler/model/RateWindow" "latest" "D" (.double lt) → Fld Z h61 a0 "com/example/deliberate_scaler/deliberatescaler/model/RateWindow" "window" "D" (.double wn) → Fld Z h61 a0 "com/example/deliberate_scaler/deliberatescaler/model/RateWindow" "first" "I" (.int (1 : Int32)) → Fld Z h61 a0 "com/example/deliberate_scaler/deliberatescaler/model/RateWindow" "end" "I" (.int (4 : Int32)) → Arv Z h61 as k_as .double (64 : Int32) [(.double y0), (.double y1), (.double y2), (.double y3), (.double (0 : UInt64)), (.double (0 : UInt64)), (.double (0 : UInt64)), (.double (0 : UInt64)), (.double (0 : UInt64)), (.double (0 : UInt64)), (.double (0 : UInt64)), (.double (0 : UInt64)), (.double (0 : UInt64)), (.double (0 : UInt64)), (.double (0 : UInt64)), (.double (0 : UInt64)), (.double (0 : UInt64)), (.double (0 : UInt64)), (.double (0 : UInt64)), (.double (0 : UInt64)), (.double (0 : UInt64)), (.double (0 : UInt64)), (.double (0 : UInt64)), (.double (0 : UInt64)), (.double (0 : UInt64)), (.double (0 : UInt64)), (.double (0 : UInt64)), (.double (0 : UInt64)), (.double (0 : UInt64)), (.double (0 : UInt64)), (.double (0 : UInt64)), (.double (0 : UInt64)), (.double (0 : UInt64)), (.double (0 : UInt64)), (.double (0 : UInt64)), (.double (0 : UInt64)), (.double (0 : UInt64)), (.double (0 : UInt64)), (.double (0 : UInt64)), (.double (0 : UInt64)), (.double (0 : UInt64)), (.double (0 : UInt64)), (.double (0 : UInt64)), (.double (0 : UInt64)), (.double (0 : UInt64)), (.double (0 : UInt64)), (.double (0 : UInt64)), (.double (0 : UInt64)), (.double (0 : UInt64)), (.double (0 : UInt64)), (.double (0 : UInt64)), (.double (0 : UInt64)), (.double (0 : UInt64)), (.double (0 : UInt64)), (.double (0 : UInt64)), (.double (0 : UInt64)), (.double (0 : UInt64)), (.double (0 : UInt64)), (.double (0 : UInt64)), (.double (0 : UInt64)), (.double (0 : UInt64)), (.double (0 : UInt64)), (.double (0 : UInt64)), (.double (0 : UInt64))] (.double (0 : UInt64)) → t0.toInt ≤ nw.toInt - jw.toInt → Go p e below s K1 K2 QQ T61 (mkF m 7 #[Sr a0, Sd d1, .second, .val (.double (FP.dsub d1 wn)), .second, .unset] []) := by
    clear ZZ KP E_a0 F_times_a0 F_latest_a0 F_window_a0 F_first_a0 F_end_a0 V_as
    intro T61 locs61 h61 X61 e61 N61 ZZ KP E_a0 F_times_a0 F_latest_a0 F_window_a0 F_first_a0 F_end_a0 V_as dd0
    show Go _ _ _ _ _ _ _ _ (mkF m 7 #[Sr a0, Sd d1, .second, .val (.double (FP.dsub d1 wn)), .second, .unset] [])
    refine Go.on (fun _ k => XS.aloadN X61.here hx rfl (hb hby d4_7) rfl rfl k) ?_
    show Go _ _ _ _ _ _ _ _ (mkF m 8 #[Sr a0, Sd d1, .second, .val (.double (FP.dsub d1 wn)), .second, .unset] [(.ref a0)])
    obtain ⟨T62, X62, e62, st62⟩ := getF X61 hx hZ hown (host := "") (Or.inl (hw _ (List.mem_of_getElem? (i := 30) rfl))) Via.refl e61 F_first_a0 (g := (mkF m 8 #[Sr a0, Sd d1, .second, .val (.double (FP.dsub d1 wn)), .second, .unset] [(.ref a0)])) rfl rfl (hb hby d4_8)
    refine Go.on st62 ?_
    show Go _ _ _ _ _ _ _ _ (mkF m 11 #[Sr a0, Sd d1, .second, .val (.double (FP.dsub d1 wn)), .second, .unset] [(.int 1)])
    refine Go.on (fun _ k => XS.aloadN X62.here hx rfl (hb hby d4_11) rfl rfl k) ?_
    show Go _ _ _ _ _ _ _ _ (mkF m 12 #[Sr a0, Sd d1, .second, .val (.double (FP.dsub d1 wn)), .second, .unset] [(.ref a0), (.int 1)])
    obtain ⟨T63, X63, e63, st63⟩ := getF X62 hx hZ hown (host := "") (Or.inl (hw _ (List.mem_of_getElem? (i := 23) rfl))) Via.refl e62 F_end_a0 (g := (mkF m 12 #[Sr a0, Sd d1, .second, .val (.double (FP.dsub d1 wn)), .second, .unset] [(.ref a0), (.int 1)])) rfl rfl (hb hby d4_12)
    refine Go.on st63 ?_
    show Go _ _ _ _ _ _ _ _ (mkF m 15 #[Sr a0, Sd d1, .second, .val (.double (FP.dsub d1 wn)), .second, .unset] [(.int 4), (.int 1)])
    have hc64 : (1 : Int32) < (4 : Int32) := by decide
    refine Go.on (fun _ k => XS.icmpNo X63.here hx rfl (hb hby d4_15) rfl (tlt hc64).2.1 k) ?_
    refine Go.on (fun _ k => XS.aloadN X63.here hx rfl (hb hby d4_18) rfl rfl k) ?_
    show Go _ _ _ _ _ _ _ _ (mkF m 19 #[Sr a0, Sd d1, .second, .val (.double (FP.dsub d1 wn)), .second, .unset] [(.ref a0)])
    obtain ⟨T65, X65, e65, st65⟩ := getF X63 hx hZ hown (host := "") (Or.inl (hw _ (List.mem_of_getElem? (i := 10) rfl))) Via.refl e63 F_times_a0 (g := (mkF m 19 #[Sr a0, Sd d1, .second, .val (.double (FP.dsub d1 wn)), .second, .unset] [(.ref a0)])) rfl rfl (hb hby d4_19)
    refine Go.on st65 ?_
    show Go _ _ _ _ _ _ _ _ (mkF m 22 #[Sr a0, Sd d1, .second, .val (.double (FP.dsub d1 wn)), .second, .unset] [(.ref as)])
    refine Go.on (fun _ k => XS.aloadN X65.here hx rfl (hb hby d4_22) rfl rfl k) ?_
    show Go _ _ _ _ _ _ _ _ (mkF m 23 #[Sr a0, Sd d1, .second, .val (.double (FP.dsub d1 wn)), .second, .unset] [(.ref a0), (.ref as)])
    obtain ⟨T66, X66, e66, st66⟩ := getF X65 hx hZ hown (host := "") (Or.inl (hw _ (List.mem_of_getElem? (i := 30) rfl))) Via.refl e65 F_first_a0 (g := (mkF m 23 #[Sr a0, Sd d1, .second, .val (.double (FP.dsub d1 wn)), .second, .unset] [(.ref a0), (.ref as)])) rfl rfl (hb hby d4_23)
    refine Go.on st66 ?_
    show Go _ _ _ _ _ _ _ _ (mkF m 26 #[Sr a0, Sd d1, .second, .val (.double (FP.dsub d1 wn)), .second, .unset] [(.int 1), (.ref as)])
    obtain ⟨cl67, Ar67, -, S67, -, H67, -⟩ := id V_as
    have hin67 : ¬ ((1 : Int32) < 0 ∨ cl67.slots.size ≤ ((1 : Int32)).toNatClampNeg) := inb_of S67 ⟨by decide, by decide⟩
    refine Go.on (X66.daload hx (j := (1 : Int32)) (v := (.double y1)) (by rw [e66]; exact Ar67.1) (State.isArrayOf_alike hZ.alike Ar67.2.1) Ar67.2.2 hin67 (H67.at hin67 (rfl)) (g := (mkF m 26 #[Sr a0, Sd d1, .second, .val (.double (FP.dsub d1 wn)), .second, .unset] [(.int 1), (.ref as)])) rfl rfl (hb hby d4_26)) ?_
    show Go _ _ _ _ _ _ _ _ (mkF m 27 #[Sr a0, Sd d1, .second, .val (.double (FP.dsub d1 wn)), .second, .unset] [(.double y1)])
    refine Go.on (fun _ k => XS.dloadN X66.here hx rfl (hb hby d4_27) rfl k) ?_
    refine Go.on (fun _ k => XS.dcmpS X66.here hx rfl (hb hby d4_28) rfl rfl k) ?_
    show Go _ _ _ _ _ _ _ _ (mkF m 29 #[Sr a0, Sd d1, .second, .val (.double (FP.dsub d1 wn)), .second, .unset] [(.int (cmpValue (FP.dcmp y1 (FP.dsub d1 wn)) .g))])
    by_cases hc68 : (0 : Int32) < (cmpValue (FP.dcmp y1 (FP.dsub d1 wn)) .g)
    · -- pc 29 yes
      refine Go.on (fun _ k => XS.ifYes X66.here hx rfl (pc0 := 29) (pc' := 45) rfl (hb hby d4_29) rfl ((if0 _ _).trans (tlt hc68).2.2.1) (by decide) (by decide) k) ?_
      show Go _ _ _ _ _ _ _ _ (mkF m 45 #[Sr a0, Sd d1, .second, .val (.double (FP.dsub d1 wn)), .second, .unset] [])
      refine Go.on (fun _ k => XS.aloadN X66.here hx rfl (hb hby d4_45) rfl rfl k) ?_
      show Go _ _ _ _ _ _ _ _ (mkF m 46 #[Sr a0, Sd d1, .second, .val (.double (FP.dsub d1 wn)), .second, .unset] [(.ref a0)])
      obtain ⟨T69, X69, e69, st69⟩ := getF X66 hx hZ hown (host := "") (Or.inl (hw _ (List.mem_of_getElem? (i := 23) rfl))) Via.refl e66 F_end_a0 (g := (mkF m 46 #[Sr a0, Sd d1, .second, .val (.double (FP.dsub d1 wn)), .second, .unset] [(.ref a0)])) rfl rfl (hb hby d4_46)
      refine Go.on st69 ?_
      show Go _ _ _ _ _ _ _ _ (mkF m 49 #[Sr a0, Sd d1, .second, .val (.double (FP.dsub d1 wn)), .second, .unset] [(.int 4)])
      refine Go.on (fun _ k => XS.istore X69.here hx rfl (hb hby d4_49) rfl (l' := #[.val (.ref a0), .val (.double d1), .second, .val (.double (FP.dsub d1 wn)), .second, .val (.int (4 : Int32))]) rfl k) ?_
      show Go _ _ _ _ _ _ _ _ (mkF m 51 #[Sr a0, Sd d1, .second, .val (.double (FP.dsub d1 wn)), .second, Si 4] [])
      refine Go.on (fun _ k => XS.iload X69.here hx rfl (hb hby d4_51) rfl k) ?_
      refine Go.on (fun _ k => XS.aloadN X69.here hx rfl (hb hby d4_53) rfl rfl k) ?_
      show Go _ _ _ _ _ _ _ _ (mkF m 54 #[Sr a0, Sd d1, .second, .val (.double (FP.dsub d1 wn)), .second, Si 4] [(.ref a0), (.int 4)])
      obtain ⟨T70, X70, e70, st70⟩ := getF X69 hx hZ hown (host := "") (Or.inl (hw _ (List.mem_of_getElem? (i := 30) rfl))) Via.refl e69 F_first_a0 (g := (mkF m 54 #[Sr a0, Sd d1, .second, .val (.double (FP.dsub d1 wn)), .second, Si 4] [(.ref a0), (.int 4)])) rfl rfl (hb hby d4_54)
      refine Go.on st70 ?_
      show Go _ _ _ _ _ _ _ _ (mkF m 57 #[Sr a0, Sd d1, .second, .val (.double (FP.dsub d1 wn)), .second, Si 4] [(.int 1), (.int 4)])
      have hc71 : (1 : Int32) < (4 : Int32) := by decide
      refine Go.on (fun _ k => XS.icmpNo X70.here hx rfl (hb hby d4_57) rfl (tlt hc71).2.2.2 k) ?_
      refine Go.on (fun _ k => XS.aloadN X70.here hx rfl (hb hby d4_60) rfl rfl k) ?_
      show Go _ _ _ _ _ _ _ _ (mkF m 61 #[Sr a0, Sd d1, .second, .val (.double (FP.dsub d1 wn)), .second, Si 4] [(.ref a0)])
      obtain ⟨T72, X72, e72, st72⟩ := getF X70 hx hZ hown (host := "") (Or.inl (hw _ (List.mem_of_getElem? (i := 10) rfl))) Via.refl e70 F_times_a0 (g := (mkF m 61 #[Sr a0, Sd d1, .second, .val (.double (FP.dsub d1 wn)), .second, Si 4] [(.ref a0)])) rfl rfl (hb hby d4_61)
      refine Go.on st72 ?_
      show Go _ _ _ _ _ _ _ _ (mkF m 64 #[Sr a0, Sd d1, .second, .val (.double (FP.dsub d1 wn)), .second, Si 4] [(.ref as)])
      refine Go.on (fun _ k => XS.iload X72.here hx rfl (hb hby d4_64) rfl k) ?_
      refine Go.on (fun _ k => XS.iconst X72.here hx rfl (hb hby d4_66) k) ?_
      refine Go.on (fun _ k => XS.isub X72.here hx rfl (hb hby d4_67) rfl k) ?_
      show Go _ _ _ _ _ _ _ _ (mkF m 68 #[Sr a0, Sd d1, .second, .val (.double (FP.dsub d1 wn)), .second, Si 4] [(.int 3), (.ref as)])
      obtain ⟨cl73, Ar73, -, S73, -, H73, -⟩ := id V_as
      have hin73 : ¬ ((3 : Int32) < 0 ∨ cl73.slots.size ≤ ((3 : Int32)).toNatClampNeg) := inb_of S73 ⟨by decide, by decide⟩
      refine Go.on (X72.daload hx (j := (3 : Int32)) (v := (.double y3)) (by rw [e72]; exact Ar73.1) (State.isArrayOf_alike hZ.alike Ar73.2.1) Ar73.2.2 hin73 (H73.at hin73 (rfl)) (g := (mkF m 68 #[Sr a0, Sd d1, .second, .val (.double (FP.dsub d1 wn)), .second, Si 4] [(.int 3), (.ref as)])) rfl rfl (hb hby d4_68)) ?_
      show Go _ _ _ _ _ _ _ _ (mkF m 69 #[Sr a0, Sd d1, .second, .val (.double (FP.dsub d1 wn)), .second, Si 4] [(.double y3)])
      refine Go.on (fun _ k => XS.dloadN X72.here hx rfl (hb hby d4_69) rfl k) ?_
      refine Go.on (fun _ k => XS.dcmpS X72.here hx rfl (hb hby d4_70) rfl rfl k) ?_
      show Go _ _ _ _ _ _ _ _ (mkF m 71 #[Sr a0, Sd d1, .second, .val (.double (FP.dsub d1 wn)), .second, Si 4] [(.int (cmpValue (FP.dcmp y3 d1) .l))])
      by_cases hc74 : (0 : Int32) < (cmpValue (FP.dcmp y3 d1) .l)
      · -- pc 71 yes
        refine Go.on (fun _ k => XS.ifNo X72.here hx rfl (hb hby d4_71) rfl ((if0 _ _).trans (tlt hc74).2.2.2) k) ?_
        show Go _ _ _ _ _ _ _ _ (mkF m 74 #[Sr a0, Sd d1, .second, .val (.double (FP.dsub d1 wn)), .second, Si 4] [])
        refine Go.on (fun _ k => XS.iinc X72.here hx rfl (hb hby d4_74) rfl (l' := #[.val (.ref a0), .val (.double d1), .second, .val (.double (FP.dsub d1 wn)), .second, .val (.int (3 : Int32))]) rfl k) ?_
        show Go _ _ _ _ _ _ _ _ (mkF m 77 #[Sr a0, Sd d1, .second, .val (.double (FP.dsub d1 wn)), .second, Si 3] [])
        refine Go.on (fun _ k => XS.goto X72.here hx rfl (pc0 := 77) (pc' := 51) rfl (hb hby d4_77) (by decide) (by decide) k) ?_
        refine Go.on (fun _ k => XS.iload X72.here hx rfl (hb hby d4_51) rfl k) ?_
        refine Go.on (fun _ k => XS.aloadN X72.here hx rfl (hb hby d4_53) rfl rfl k) ?_
        show Go _ _ _ _ _ _ _ _ (mkF m 54 #[Sr a0, Sd d1, .second, .val (.double (FP.dsub d1 wn)), .second, Si 3] [(.ref a0), (.int 3)])
        obtain ⟨T75, X75, e75, st75⟩ := getF X72 hx hZ hown (host := "") (Or.inl (hw _ (List.mem_of_getElem? (i := 30) rfl))) Via.refl e72 F_first_a0 (g := (mkF m 54 #[Sr a0, Sd d1, .second, .val (.double (FP.dsub d1 wn)), .second, Si 3] [(.ref a0), (.int 3)])) rfl rfl (hb hby d4_54)
        refine Go.on st75 ?_
        show Go _ _ _ _ _ _ _ _ (mkF m 57 #[Sr a0, Sd d1, .second, .val (.double (FP.dsub d1 wn)), .second, Si 3] [(.int 1), (.int 3)])
        have hc76 : (1 : Int32) < (3 : Int32) := by decide
        refine Go.on (fun _ k => XS.icmpNo X75.here hx rfl (hb hby d4_57) rfl (tlt hc76).2.2.2 k) ?_
        refine Go.on (fun _ k => XS.aloadN X75.here hx rfl (hb hby d4_60) rfl rfl k) ?_
        show Go _ _ _ _ _ _ _ _ (mkF m 61 #[Sr a0, Sd d1, .second, .val (.double (FP.dsub d1 wn)), .second, Si 3] [(.ref a0)])
        obtain ⟨T77, X77, e77, st77⟩ := getF X75 hx hZ hown (host := "") (Or.inl (hw _ (List.mem_of_getElem? (i := 10) rfl))) Via.refl e75 F_times_a0 (g := (mkF m 61 #[Sr a0, Sd d1, .second, .val (.double (FP.dsub d1 wn)), .second, Si 3] [(.ref a0)])) rfl rfl (hb hby d4_61)
        refine Go.on st77 ?_
        show Go _ _ _ _ _ _ _ _ (mkF m 64 #[Sr a0, Sd d1, .second, .val (.double (FP.dsub d1 wn)), .second, Si 3] [(.ref as)])
        refine Go.on (fun _ k => XS.iload X77.here hx rfl (hb hby d4_64) rfl k) ?_
        refine Go.on (fun _ k => XS.iconst X77.here hx rfl (hb hby d4_66) k) ?_
        refine Go.on (fun _ k => XS.isub X77.here hx rfl (hb hby d4_67) rfl k) ?_
        show Go _ _ _ _ _ _ _ _ (mkF m 68 #[Sr a0, Sd d1, .second, .val (.double (FP.dsub d1 wn)), .second, Si 3] [(.int 2), (.ref as)])
        obtain ⟨cl78, Ar78, -, S78, -, H78, -⟩ := id V_as
        have hin78 : ¬ ((2 : Int32) < 0 ∨ cl78.slots.size ≤ ((2 : Int32)).toNatClampNeg) := inb_of S78 ⟨by decide, by decide⟩
        refine Go.on (X77.daload hx (j := (2 : Int32)) (v := (.double y2)) (by rw [e77]; exact Ar78.1) (State.isArrayOf_alike hZ.alike Ar78.2.1) Ar78.2.2 hin78 (H78.at hin78 (rfl)) (g := (mkF m 68 #[Sr a0, Sd d1, .second, .val (.double (FP.dsub d1 wn)), .second, Si 3] [(.int 2), (.ref as)])) rfl rfl (hb hby d4_68)) ?_
        show Go _ _ _ _ _ _ _ _ (mkF m 69 #[Sr a0, Sd d1, .second, .val (.double (FP.dsub d1 wn)), .second, Si 3] [(.double y2)])
        refine Go.on (fun _ k => XS.dloadN X77.here hx rfl (hb hby d4_69) rfl k) ?_
        refine Go.on (fun _ k => XS.dcmpS X77.here hx rfl (hb hby d4_70) rfl rfl k) ?_
        show Go _ _ _ _ _ _ _ _ (mkF m 71 #[Sr a0, Sd d1, .second, .val (.double (FP.dsub d1 wn)), .second, Si 3] [(.int (cmpValue (FP.dcmp y2 d1) .l))])
        by_cases hc79 : (0 : Int32) < (cmpValue (FP.dcmp y2 d1) .l)
        · -- pc 71 yes
          refine Go.on (fun _ k => XS.ifNo X77.here hx rfl (hb hby d4_71) rfl ((if0 _ _).trans (tlt hc79).2.2.2) k) ?_
          show Go _ _ _ _ _ _ _ _ (mkF m 74 #[Sr a0, Sd d1, .second, .val (.double (FP.dsub d1 wn)), .second, Si 3] [])
          refine Go.on (fun _ k => XS.iinc X77.here hx rfl (hb hby d4_74) rfl (l' := #[.val (.ref a0), .val (.double d1), .second, .val (.double (FP.dsub d1 wn)), .second, .val (.int (2 : Int32))]) rfl k) ?_
          show Go _ _ _ _ _ _ _ _ (mkF m 77 #[Sr a0, Sd d1, .second, .val (.double (FP.dsub d1 wn)), .second, Si 2] [])
          refine Go.on (fun _ k => XS.goto X77.here hx rfl (pc0 := 77) (pc' := 51) rfl (hb hby d4_77) (by decide) (by decide) k) ?_
          refine Go.on (fun _ k => XS.iload X77.here hx rfl (hb hby d4_51) rfl k) ?_
          refine Go.on (fun _ k => XS.aloadN X77.here hx rfl (hb hby d4_53) rfl rfl k) ?_
          show Go _ _ _ _ _ _ _ _ (mkF m 54 #[Sr a0, Sd d1, .second, .val (.double (FP.dsub d1 wn)), .second, Si 2] [(.ref a0), (.int 2)])
          obtain ⟨T80, X80, e80, st80⟩ := getF X77 hx hZ hown (host := "") (Or.inl (hw _ (List.mem_of_getElem? (i := 30) rfl))) Via.refl e77 F_first_a0 (g := (mkF m 54 #[Sr a0, Sd d1, .second, .val (.double (FP.dsub d1 wn)), .second, Si 2] [(.ref a0), (.int 2)])) rfl rfl (hb hby d4_54)
          refine Go.on st80 ?_
          show Go _ _ _ _ _ _ _ _ (mkF m 57 #[Sr a0, Sd d1, .second, .val (.double (FP.dsub d1 wn)), .second, Si 2] [(.int 1), (.int 2)])
          have hc81 : (1 : Int32) < (2 : Int32) := by decide
          refine Go.on (fun _ k => XS.icmpNo X80.here hx rfl (hb hby d4_57) rfl (tlt hc81).2.2.2 k) ?_
          refine Go.on (fun _ k => XS.aloadN X80.here hx rfl (hb hby d4_60) rfl rfl k) ?_
          show Go _ _ _ _ _ _ _ _ (mkF m 61 #[Sr a0, Sd d1, .second, .val (.double (FP.dsub d1 wn)), .second, Si 2] [(.ref a0)])
          obtain ⟨T82, X82, e82, st82⟩ := getF X80 hx hZ hown (host := "") (Or.inl (hw _ (List.mem_of_getElem? (i := 10) rfl))) Via.refl e80 F_times_a0 (g := (mkF m 61 #[Sr a0, Sd d1, .second, .val (.double (FP.dsub d1 wn)), .second, Si 2] [(.ref a0)])) rfl rfl (hb hby d4_61)
          refine Go.on st82 ?_
          show Go _ _ _ _ _ _ _ _ (mkF m 64 #[Sr a0, Sd d1, .second, .val (.double (FP.dsub d1 wn)), .second, Si 2] [(.ref as)])
          refine Go.on (fun _ k => XS.iload X82.here hx rfl (hb hby d4_64) rfl k) ?_
          refine Go.on (fun _ k => XS.iconst X82.here hx rfl (hb hby d4_66) k) ?_
          refine Go.on (fun _ k => XS.isub X82.here hx rfl (hb hby d4_67) rfl k) ?_
          show Go _ _ _ _ _ _ _ _ (mkF m 68 #[Sr a0, Sd d1, .second, .val (.double (FP.dsub d1 wn)), .second, Si 2] [(.int 1), (.ref as)])
          obtain ⟨cl83, Ar83, -, S83, -, H83, -⟩ := id V_as
          have hin83 : ¬ ((1 : Int32) < 0 ∨ cl83.slots.size ≤ ((1 : Int32)).toNatClampNeg) := inb_of S83 ⟨by decide, by decide⟩
          refine Go.on (X82.daload hx (j := (1 : Int32)) (v := (.double y1)) (by rw [e82]; exact Ar83.1) (State.isArrayOf_alike hZ.alike Ar83.2.1) Ar83.2.2 hin83 (H83.at hin83 (rfl)) (g := (mkF m 68 #[Sr a0, Sd d1, .second, .val (.double (FP.dsub d1 wn)), .second, Si 2] [(.int 1), (.ref as)])) rfl rfl (hb hby d4_68)) ?_
          show Go _ _ _ _ _ _ _ _ (mkF m 69 #[Sr a0, Sd d1, .second, .val (.double (FP.dsub d1 wn)), .second, Si 2] [(.double y1)])
          refine Go.on (fun _ k => XS.dloadN X82.here hx rfl (hb hby d4_69) rfl k) ?_
          refine Go.on (fun _ k => XS.dcmpS X82.here hx rfl (hb hby d4_70) rfl rfl k) ?_
          show Go _ _ _ _ _ _ _ _ (mkF m 71 #[Sr a0, Sd d1, .second, .val (.double (FP.dsub d1 wn)), .second, Si 2] [(.int (cmpValue (FP.dcmp y1 d1) .l))])
          by_cases hc84 : (0 : Int32) < (cmpValue (FP.dcmp y1 d1) .l)
          · -- pc 71 yes
            refine Go.on (fun _ k => XS.ifNo X82.here hx rfl (hb hby d4_71) rfl ((if0 _ _).trans (tlt hc84).2.2.2) k) ?_
            show Go _ _ _ _ _ _ _ _ (mkF m 74 #[Sr a0, Sd d1, .second, .val (.double (FP.dsub d1 wn)), .second, Si 2] [])
            refine Go.on (fun _ k => XS.iinc X82.here hx rfl (hb hby d4_74) rfl (l' := #[.val (.ref a0), .val (.double d1), .second, .val (.double (FP.dsub d1 wn)), .second, .val (.int (1 : Int32))]) rfl k) ?_
            show Go _ _ _ _ _ _ _ _ (mkF m 77 #[Sr a0, Sd d1, .second, .val (.double (FP.dsub d1 wn)), .second, Si 1] [])
            refine Go.on (fun _ k => XS.goto X82.here hx rfl (pc0 := 77) (pc' := 51) rfl (hb hby d4_77) (by decide) (by decide) k) ?_
            refine Go.on (fun _ k => XS.iload X82.here hx rfl (hb hby d4_51) rfl k) ?_
            refine Go.on (fun _ k => XS.aloadN X82.here hx rfl (hb hby d4_53) rfl rfl k) ?_
            show Go _ _ _ _ _ _ _ _ (mkF m 54 #[Sr a0, Sd d1, .second, .val (.double (FP.dsub d1 wn)), .second, Si 1] [(.ref a0), (.int 1)])
            obtain ⟨T85, X85, e85, st85⟩ := getF X82 hx hZ hown (host := "") (Or.inl (hw _ (List.mem_of_getElem? (i := 30) rfl))) Via.refl e82 F_first_a0 (g := (mkF m 54 #[Sr a0, Sd d1, .second, .val (.double (FP.dsub d1 wn)), .second, Si 1] [(.ref a0), (.int 1)])) rfl rfl (hb hby d4_54)
            refine Go.on st85 ?_
            show Go _ _ _ _ _ _ _ _ (mkF m 57 #[Sr a0, Sd d1, .second, .val (.double (FP.dsub d1 wn)), .second, Si 1] [(.int 1), (.int 1)])
            have hc86 : ¬ ((1 : Int32) < (1 : Int32)) := by decide
            refine Go.on (fun _ k => XS.icmpYes X85.here hx rfl (pc0 := 57) (pc' := 80) rfl (hb hby d4_57) rfl (flt hc86).2.2.2 (by decide) (by decide) k) ?_
            refine Go.on (fun _ k => XS.iload X85.here hx rfl (hb hby d4_80) rfl k) ?_
            refine Go.on (fun _ k => XS.aloadN X85.here hx rfl (hb hby d4_82) rfl rfl k) ?_
            show Go _ _ _ _ _ _ _ _ (mkF m 83 #[Sr a0, Sd d1, .second, .val (.double (FP.dsub d1 wn)), .second, Si 1] [(.ref a0), (.int 1)])
            obtain ⟨T87, X87, e87, st87⟩ := getF X85 hx hZ hown (host := "") (Or.inl (hw _ (List.mem_of_getElem? (i := 30) rfl))) Via.refl e85 F_first_a0 (g := (mkF m 83 #[Sr a0, Sd d1, .second, .val (.double (FP.dsub d1 wn)), .second, Si 1] [(.ref a0), (.int 1)])) rfl rfl (hb hby d4_83)
            refine Go.on st87 ?_
            show Go _ _ _ _ _ _ _ _ (mkF m 86 #[Sr a0, Sd d1, .second, .val (.double (FP.dsub d1 wn)), .second, Si 1] [(.int 1), (.int 1)])
            refine Go.on (fun _ k => XS.isub X87.here hx rfl (hb hby d4_86) rfl k) ?_
            refine Go.on (fun _ k => XS.i2dS X87.here hx rfl (hb hby d4_87) rfl rfl k) ?_
            refine Go.on (fun _ k => XS.aloadN X87.here hx rfl (hb hby d4_88) rfl rfl k) ?_
            show Go _ _ _ _ _ _ _ _ (mkF m 89 #[Sr a0, Sd d1, .second, .val (.double (FP.dsub d1 wn)), .second, Si 1] [(.ref a0), (.double (FP.i2d (0 : Int32)))])
            obtain ⟨T88, X88, e88, st88⟩ := getF X87 hx hZ hown (host := "") (Or.inl (hw _ (List.mem_of_getElem? (i := 16) rfl))) Via.refl e87 F_window_a0 (g := (mkF m 89 #[Sr a0, Sd d1, .second, .val (.double (FP.dsub d1 wn)), .second, Si 1] [(.ref a0), (.double (FP.i2d (0 : Int32)))])) rfl rfl (hb hby d4_89)
            refine Go.on st88 ?_
            show Go _ _ _ _ _ _ _ _ (mkF m 92 #[Sr a0, Sd d1, .second, .val (.double (FP.dsub d1 wn)), .second, Si 1] [(.double wn), (.double (FP.i2d (0 : Int32)))])
            refine Go.on (fun _ k => XS.ddivS X88.here hx rfl (hb hby d4_92) rfl ((own_rt _ hwn hw1 bw)) rfl k) ?_
            show Go _ _ _ _ _ _ _ _ (mkF m 93 #[Sr a0, Sd d1, .second, .val (.double (FP.dsub d1 wn)), .second, Si 1] [(.double (FP.ddiv (FP.i2d (0 : Int32)) wn))])
            refine Go.retV X88 hx Bd.returns rfl (Or.inr (Or.inr (Or.inl ⟨rfl, rfl, _, rfl⟩))) (hb hby d4_93) ?_ (by rw [hK1]; decide) (by rw [hK2]; decide)
            rw [e88, ← hQQ]
            have q_hc68 : nw.toInt - jw.toInt < t1.toInt := (own_cg zt1 zl).mp hc68
            have q_hc74 : nw.toInt < t3.toInt := (own_cl zt3 zn).mp hc74
            have q_hc79 : nw.toInt < t2.toInt := (own_cl zt2 zn).mp hc79
            have q_hc84 : nw.toInt < t1.toInt := (own_cl zt1 zn).mp hc84
            have i0_ : inV t0 nw jw = 0 := own_in0 bn bw (Or.inl (by omega))
            have i1_ : inV t1 nw jw = 0 := own_in0 bn bw (Or.inr (by omega))
            have i2_ : inV t2 nw jw = 0 := own_in0 bn bw (Or.inr (by omega))
            have i3_ : inV t3 nw jw = 0 := own_in0 bn bw (Or.inr (by omega))
            have hC : ((((inV t0 nw jw) + (inV t1 nw jw)) + (inV t2 nw jw)) + (inV t3 nw jw)) = (0 : Int32) := by rw [i0_, i1_, i2_, i3_] <;> decide
            unfold Q_rw_rate_4
            rw [hC]
            exact ⟨_, rfl, N61, KP, E_a0, F_times_a0, F_latest_a0, F_window_a0, F_first_a0, F_end_a0, (Or.inr (Or.inl rfl)), (fun _ => by omega), (fun q => absurd q (by decide)), (fun q => absurd q (by decide)), (fun q => absurd q (by decide))⟩
          · -- pc 71 no
            refine Go.on (fun _ k => XS.ifYes X82.here hx rfl (pc0 := 71) (pc' := 80) rfl (hb hby d4_71) rfl ((if0 _ _).trans (flt hc84).2.2.2) (by decide) (by decide) k) ?_
            show Go _ _ _ _ _ _ _ _ (mkF m 80 #[Sr a0, Sd d1, .second, .val (.double (FP.dsub d1 wn)), .second, Si 2] [])
            refine Go.on (fun _ k => XS.iload X82.here hx rfl (hb hby d4_80) rfl k) ?_
            refine Go.on (fun _ k => XS.aloadN X82.here hx rfl (hb hby d4_82) rfl rfl k) ?_
            show Go _ _ _ _ _ _ _ _ (mkF m 83 #[Sr a0, Sd d1, .second, .val (.double (FP.dsub d1 wn)), .second, Si 2] [(.ref a0), (.int 2)])
            obtain ⟨T89, X89, e89, st89⟩ := getF X82 hx hZ hown (host := "") (Or.inl (hw _ (List.mem_of_getElem? (i := 30) rfl))) Via.refl e82 F_first_a0 (g := (mkF m 83 #[Sr a0, Sd d1, .second, .val (.double (FP.dsub d1 wn)), .second, Si 2] [(.ref a0), (.int 2)])) rfl rfl (hb hby d4_83)
            refine Go.on st89 ?_
            show Go _ _ _ _ _ _ _ _ (mkF m 86 #[Sr a0, Sd d1, .second, .val (.double (FP.dsub d1 wn)), .second, Si 2] [(.int 1), (.int 2)])
            refine Go.on (fun _ k => XS.isub X89.here hx rfl (hb hby d4_86) rfl k) ?_
            refine Go.on (fun _ k => XS.i2dS X89.here hx rfl (hb hby d4_87) rfl rfl k) ?_
            refine Go.on (fun _ k => XS.aloadN X89.here hx rfl (hb hby d4_88) rfl rfl k) ?_
            show Go _ _ _ _ _ _ _ _ (mkF m 89 #[Sr a0, Sd d1, .second, .val (.double (FP.dsub d1 wn)), .second, Si 2] [(.ref a0), (.double (FP.i2d (1 : Int32)))])
            obtain ⟨T90, X90, e90, st90⟩ := getF X89 hx hZ hown (host := "") (Or.inl (hw _ (List.mem_of_getElem? (i := 16) rfl))) Via.refl e89 F_window_a0 (g := (mkF m 89 #[Sr a0, Sd d1, .second, .val (.double (FP.dsub d1 wn)), .second, Si 2] [(.ref a0), (.double (FP.i2d (1 : Int32)))])) rfl rfl (hb hby d4_89)
            refine Go.on st90 ?_
            show Go _ _ _ _ _ _ _ _ (mkF m 92 #[Sr a0, Sd d1, .second, .val (.double (FP.dsub d1 wn)), .second, Si 2] [(.double wn), (.double (FP.i2d (1 : Int32)))])
            refine Go.on (fun _ k => XS.ddivS X90.here hx rfl (hb hby d4_92) rfl ((own_rt _ hwn hw1 bw)) rfl k) ?_
            show Go _ _ _ _ _ _ _ _ (mkF m 93 #[Sr a0, Sd d1, .second, .val (.double (FP.dsub d1 wn)), .second, Si 2] [(.double (FP.ddiv (FP.i2d (1 : Int32)) wn))])
            refine Go.retV X90 hx Bd.returns rfl (Or.inr (Or.inr (Or.inl ⟨rfl, rfl, _, rfl⟩))) (hb hby d4_93) ?_ (by rw [hK1]; decide) (by rw [hK2]; decide)
            rw [e90, ← hQQ]
            have q_hc68 : nw.toInt - jw.toInt < t1.toInt := (own_cg zt1 zl).mp hc68
            have q_hc74 : nw.toInt < t3.toInt := (own_cl zt3 zn).mp hc74
            have q_hc79 : nw.toInt < t2.toInt := (own_cl zt2 zn).mp hc79
            have q_hc84 : ¬ (nw.toInt < t1.toInt) := fun q => hc84 ((own_cl zt1 zn).mpr q)
            have i0_ : inV t0 nw jw = 0 := own_in0 bn bw (Or.inl (by omega))
            have i1_ : inV t1 nw jw = 1 := own_in1 bn bw (by omega) (by omega)
            have i2_ : inV t2 nw jw = 0 := own_in0 bn bw (Or.inr (by omega))
            have i3_ : inV t3 nw jw = 0 := own_in0 bn bw (Or.inr (by omega))
            have hC : ((((inV t0 nw jw) + (inV t1 nw jw)) + (inV t2 nw jw)) + (inV t3 nw jw)) = (1 : Int32) := by rw [i0_, i1_, i2_, i3_] <;> decide
            unfold Q_rw_rate_4
            rw [hC]
            exact ⟨_, rfl, N61, KP, E_a0, F_times_a0, F_latest_a0, F_window_a0, F_first_a0, F_end_a0, (Or.inr (Or.inl rfl)), (fun _ => by omega), (fun q => absurd q (by decide)), (fun q => absurd q (by decide)), (fun q => absurd q (by decide))⟩
        · -- pc 71 no
          refine Go.on (fun _ k => XS.ifYes X77.here hx rfl (pc0 := 71) (pc' := 80) rfl (hb hby d4_71) rfl ((if0 _ _).trans (flt hc79).2.2.2) (by decide) (by decide) k) ?_
          show Go _ _ _ _ _ _ _ _ (mkF m 80 #[Sr a0, Sd d1, .second, .val (.double (FP.dsub d1 wn)), .second, Si 3] [])
          refine Go.on (fun _ k => XS.iload X77.here hx rfl (hb hby d4_80) rfl k) ?_
          refine Go.on (fun _ k => XS.aloadN X77.here hx rfl (hb hby d4_82) rfl rfl k) ?_
          show Go _ _ _ _ _ _ _ _ (mkF m 83 #[Sr a0, Sd d1, .second, .val (.double (FP.dsub d1 wn)), .second, Si 3] [(.ref a0), (.int 3)])
          obtain ⟨T91, X91, e91, st91⟩ := getF X77 hx hZ hown (host := "") (Or.inl (hw _ (List.mem_of_getElem? (i := 30) rfl))) Via.refl e77 F_first_a0 (g := (mkF m 83 #[Sr a0, Sd d1, .second, .val (.double (FP.dsub d1 wn)), .second, Si 3] [(.ref a0), (.int 3)])) rfl rfl (hb hby d4_83)
          refine Go.on st91 ?_
          show Go _ _ _ _ _ _ _ _ (mkF m 86 #[Sr a0, Sd d1, .second, .val (.double (FP.dsub d1 wn)), .second, Si 3] [(.int 1), (.int 3)])
          refine Go.on (fun _ k => XS.isub X91.here hx rfl (hb hby d4_86) rfl k) ?_
          refine Go.on (fun _ k => XS.i2dS X91.here hx rfl (hb hby d4_87) rfl rfl k) ?_
          refine Go.on (fun _ k => XS.aloadN X91.here hx rfl (hb hby d4_88) rfl rfl k) ?_
          show Go _ _ _ _ _ _ _ _ (mkF m 89 #[Sr a0, Sd d1, .second, .val (.double (FP.dsub d1 wn)), .second, Si 3] [(.ref a0), (.double (FP.i2d (2 : Int32)))])
          obtain ⟨T92, X92, e92, st92⟩ := getF X91 hx hZ hown (host := "") (Or.inl (hw _ (List.mem_of_getElem? (i := 16) rfl))) Via.refl e91 F_window_a0 (g := (mkF m 89 #[Sr a0, Sd d1, .second, .val (.double (FP.dsub d1 wn)), .second, Si 3] [(.ref a0), (.double (FP.i2d (2 : Int32)))])) rfl rfl (hb hby d4_89)
          refine Go.on st92 ?_
          show Go _ _ _ _ _ _ _ _ (mkF m 92 #[Sr a0, Sd d1, .second, .val (.double (FP.dsub d1 wn)), .second, Si 3] [(.double wn), (.double (FP.i2d (2 : Int32)))])
          refine Go.on (fun _ k => XS.ddivS X92.here hx rfl (hb hby d4_92) rfl ((own_rt _ hwn hw1 bw)) rfl k) ?_
          show Go _ _ _ _ _ _ _ _ (mkF m 93 #[Sr a0, Sd d1, .second, .val (.double (FP.dsub d1 wn)), .second, Si 3] [(.double (FP.ddiv (FP.i2d (2 : Int32)) wn))])
          refine Go.retV X92 hx Bd.returns rfl (Or.inr (Or.inr (Or.inl ⟨rfl, rfl, _, rfl⟩))) (hb hby d4_93) ?_ (by rw [hK1]; decide) (by rw [hK2]; decide)
          rw [e92, ← hQQ]
          have q_hc68 : nw.toInt - jw.toInt < t1.toInt := (own_cg zt1 zl).mp hc68
          have q_hc74 : nw.toInt < t3.toInt := (own_cl zt3 zn).mp hc74
          have q_hc79 : ¬ (nw.toInt < t2.toInt) := fun q => hc79 ((own_cl zt2 zn).mpr q)
          have i0_ : inV t0 nw jw = 0 := own_in0 bn bw (Or.inl (by omega))
          have i1_ : inV t1 nw jw = 1 := own_in1 bn bw (by omega) (by omega)
          have i2_ : inV t2 nw jw = 1 := own_in1 bn bw (by omega) (by omega)
          have i3_ : inV t3 nw jw = 0 := own_in0 bn bw (Or.inr (by omega))
          have hC : ((((inV t0 nw jw) + (inV t1 nw jw)) + (inV t2 nw jw)) + (inV t3 nw jw)) = (2 : Int32) := by rw [i0_, i1_, i2_, i3_] <;> decide
          unfold Q_rw_rate_4
          rw [hC]
          exact ⟨_, rfl, N61, KP, E_a0, F_times_a0, F_latest_a0, F_window_a0, F_first_a0, F_end_a0, (Or.inr (Or.inl rfl)), (fun _ => by omega), (fun q => absurd q (by decide)), (fun q => absurd q (by decide)), (fun q => absurd q (by decide))⟩
      · -- pc 71 no
        refine Go.on (fun _ k => XS.ifYes X72.here hx rfl (pc0 := 71) (pc' := 80) rfl (hb hby d4_71) rfl ((if0 _ _).trans (flt hc74).2.2.2) (by decide) (by decide) k) ?_
        show Go _ _ _ _ _ _ _ _ (mkF m 80 #[Sr a0, Sd d1, .second, .val (.double (FP.dsub d1 wn)), .second, Si 4] [])
        refine Go.on (fun _ k => XS.iload X72.here hx rfl (hb hby d4_80) rfl k) ?_
        refine Go.on (fun _ k => XS.aloadN X72.here hx rfl (hb hby d4_82) rfl rfl k) ?_
        show Go _ _ _ _ _ _ _ _ (mkF m 83 #[Sr a0, Sd d1, .second, .val (.double (FP.dsub d1 wn)), .second, Si 4] [(.ref a0), (.int 4)])
        obtain ⟨T93, X93, e93, st93⟩ := getF X72 hx hZ hown (host := "") (Or.inl (hw _ (List.mem_of_getElem? (i := 30) rfl))) Via.refl e72 F_first_a0 (g := (mkF m 83 #[Sr a0, Sd d1, .second, .val (.double (FP.dsub d1 wn)), .second, Si 4] [(.ref a0), (.int 4)])) rfl rfl (hb hby d4_83)
        refine Go.on st93 ?_
        show Go _ _ _ _ _ _ _ _ (mkF m 86 #[Sr a0, Sd d1, .second, .val (.double (FP.dsub d1 wn)), .second, Si 4] [(.int 1), (.int 4)])
        refine Go.on (fun _ k => XS.isub X93.here hx rfl (hb hby d4_86) rfl k) ?_
        refine Go.on (fun _ k => XS.i2dS X93.here hx rfl (hb hby d4_87) rfl rfl k) ?_
        refine Go.on (fun _ k => XS.aloadN X93.here hx rfl (hb hby d4_88) rfl rfl k) ?_
        show Go _ _ _ _ _ _ _ _ (mkF m 89 #[Sr a0, Sd d1, .second, .val (.double (FP.dsub d1 wn)), .second, Si 4] [(.ref a0), (.double (FP.i2d (3 : Int32)))])
        obtain ⟨T94, X94, e94, st94⟩ := getF X93 hx hZ hown (host := "") (Or.inl (hw _ (List.mem_of_getElem? (i := 16) rfl))) Via.refl e93 F_window_a0 (g := (mkF m 89 #[Sr a0, Sd d1, .second, .val (.double (FP.dsub d1 wn)), .second, Si 4] [(.ref a0), (.double (FP.i2d (3 : Int32)))])) rfl rfl (hb hby d4_89)
        refine Go.on st94 ?_
        show Go _ _ _ _ _ _ _ _ (mkF m 92 #[Sr a0, Sd d1, .second, .val (.double (FP.dsub d1 wn)), .second, Si 4] [(.double wn), (.double (FP.i2d (3 : Int32)))])
        refine Go.on (fun _ k => XS.ddivS X94.here hx rfl (hb hby d4_92) rfl ((own_rt _ hwn hw1 bw)) rfl k) ?_
        show Go _ _ _ _ _ _ _ _ (mkF m 93 #[Sr a0, Sd d1, .second, .val (.double (FP.dsub d1 wn)), .second, Si 4] [(.double (FP.ddiv (FP.i2d (3 : Int32)) wn))])
        refine Go.retV X94 hx Bd.returns rfl (Or.inr (Or.inr (Or.inl ⟨rfl, rfl, _, rfl⟩))) (hb hby d4_93) ?_ (by rw [hK1]; decide) (by rw [hK2]; decide)
        rw [e94, ← hQQ]
        have q_hc68 : nw.toInt - jw.toInt < t1.toInt := (own_cg zt1 zl).mp hc68
        have q_hc74 : ¬ (nw.toInt < t3.toInt) := fun q => hc74 ((own_cl zt3 zn).mpr q)
        have i0_ : inV t0 nw jw = 0 := own_in0 bn bw (Or.inl (by omega))
        have i1_ : inV t1 nw jw = 1 := own_in1 bn bw (by omega) (by omega)
        have i2_ : inV t2 nw jw = 1 := own_in1 bn bw (by omega) (by omega)
        have i3_ : inV t3 nw jw = 1 := own_in1 bn bw (by omega) (by omega)
        have hC : ((((inV t0 nw jw) + (inV t1 nw jw)) + (inV t2 nw jw)) + (inV t3 nw jw)) = (3 : Int32) := by rw [i0_, i1_, i2_, i3_] <;> decide
        unfold Q_rw_rate_4
        rw [hC]
        exact ⟨_, rfl, N61, KP, E_a0, F_times_a0, F_latest_a0, F_window_a0, F_first_a0, F_end_a0, (Or.inr (Or.inl rfl)), (fun _ => by omega), (fun q => absurd q (by decide)), (fun q => absurd q (by decide)), (fun q => absurd q (by decide))⟩
    · -- pc 29 no
      refine Go.on (fun _ k => XS.ifNo X66.here hx rfl (hb hby d4_29) rfl ((if0 _ _).trans (flt hc68).2.2.1) k) ?_
      show Go _ _ _ _ _ _ _ _ (mkF m 32 #[Sr a0, Sd d1, .second, .val (.double (FP.dsub d1 wn)), .second, .unset] [])
      refine Go.on (fun _ k => XS.aloadN X66.here hx rfl (hb hby d4_32) rfl rfl k) ?_
      refine Go.on (fun _ k => XS.dup X66.here hx rfl (hb hby d4_33) rfl rfl k) ?_
      show Go _ _ _ _ _ _ _ _ (mkF m 34 #[Sr a0, Sd d1, .second, .val (.double (FP.dsub d1 wn)), .second, .unset] [(.ref a0), (.ref a0)])
      obtain ⟨T95, X95, e95, st95⟩ := getF X66 hx hZ hown (host := "") (Or.inl (hw _ (List.mem_of_getElem? (i := 30) rfl))) Via.refl e66 F_first_a0 (g := (mkF m 34 #[Sr a0, Sd d1, .second, .val (.double (FP.dsub d1 wn)), .second, .unset] [(.ref a0), (.ref a0)])) rfl rfl (hb hby d4_34)
      refine Go.on st95 ?_
      show Go _ _ _ _ _ _ _ _ (mkF m 37 #[Sr a0, Sd d1, .second, .val (.double (FP.dsub d1 wn)), .second, .unset] [(.int 1), (.ref a0)])
      refine Go.on (fun _ k => XS.iconst X95.here hx rfl (hb hby d4_37) k) ?_
      refine Go.on (fun _ k => XS.iadd X95.here hx rfl (hb hby d4_38) rfl k) ?_
      show Go _ _ _ _ _ _ _ _ (mkF m 39 #[Sr a0, Sd d1, .second, .val (.double (FP.dsub d1 wn)), .second, .unset] [(.int 2), (.ref a0)])
      obtain ⟨T96, h96, X96, e96, W96, st96⟩ := putF X95 hx hZ hown (host := "") (Or.inl (hw _ (List.mem_of_getElem? (i := 30) rfl))) Via.refl e95 F_first_a0 E_a0 (Or.inl (hw _ (List.mem_of_getElem? (i := 31) rfl))) (hw _ (List.mem_of_getElem? (i := 1) rfl)) (ty := .int) (by decide) rfl rfl (g := (mkF m 39 #[Sr a0, Sd d1, .second, .val (.double (FP.dsub d1 wn)), .second, .unset] [(.int 2), (.ref a0)])) rfl rfl (hb hby d4_39)
      refine Go.on st96 ?_
      replace F_first_a0 := F_first_a0.same W96
      replace E_a0 := E_a0.wr W96
      replace F_times_a0 := F_times_a0.other W96 (Or.inr (slot_ne (Or.inl (hw _ (List.mem_of_getElem? (i := 11) rfl))) (Or.inl (hw _ (List.mem_of_getElem? (i := 31) rfl))) (by decide) (t := (.array .double)) (t' := .int) (by decide) (by decide)))
      replace F_latest_a0 := F_latest_a0.other W96 (Or.inr (slot_ne (Or.inl (hw _ (List.mem_of_getElem? (i := 14) rfl))) (Or.inl (hw _ (List.mem_of_getElem? (i := 31) rfl))) (by decide) (t := .double) (t' := .int) (by decide) (by decide)))
      replace F_window_a0 := F_window_a0.other W96 (Or.inr (slot_ne (Or.inr (hw _ (List.mem_of_getElem? (i := 17) rfl))) (Or.inl (hw _ (List.mem_of_getElem? (i := 31) rfl))) (by decide) (t := .double) (t' := .int) (by decide) (by decide)))
      replace F_end_a0 := F_end_a0.other W96 (Or.inr (slot_ne (Or.inl (hw _ (List.mem_of_getElem? (i := 24) rfl))) (Or.inl (hw _ (List.mem_of_getElem? (i := 31) rfl))) (by decide) (t := .int) (t' := .int) (by decide) (by decide)))
      replace V_as := V_as.other W96 (Ne.symm ne_a0_as)
      have N96 := Fr.snoc X96 N61 g_a0
      replace ZZ := Nat.le_trans ZZ (Keep.of_wr W96).1
      replace KP := KP.wr W96 (Or.inl (List.mem_of_getElem? (i := 0) rfl))
      show Go _ _ _ _ _ _ _ _ (mkF m 42 #[Sr a0, Sd d1, .second, .val (.double (FP.dsub d1 wn)), .second, .unset] [])
      refine Go.on (fun _ k => XS.goto X96.here hx rfl (pc0 := 42) (pc' := 7) rfl (hb hby d4_42) (by decide) (by decide) k) ?_
      show Go _ _ _ _ _ _ _ _ (mkF m 7 #[Sr a0, Sd d1, .second, .val (.double (FP.dsub d1 wn)), .second, .unset] [])
      have q_ : ¬ (nw.toInt - jw.toInt < t1.toInt) := fun q => hc68 ((own_cg zt1 zl).mpr q)
      exact hL2 _ _ _ X96 e96 N96 ZZ KP E_a0 F_times_a0 F_latest_a0 F_window_a0 F_first_a0 F_end_a0 V_as dd0 (by omega)
  have hL0 : ∀ (T97 : State) (locs97 : List Loc) (h97 : Heap), Stand p l e ({ frames := 0, cells := 0, slots := 0, locals := 0 } : Room) s m #[(.ref a0), (.double d1)] below meth c T97 locs97 0 0 → T97.heap = h97 → Fr n0 locs97 → n0 ≤ h97.size → Keep h0 h97 [a0] → Exa Z h97 a0 "com/example/deliberate_scaler/deliberatescaler/model/RateWindow" → Fld Z h97 a0 "com/example/deliberate_scaler/deliberatescaler/model/RateWindow" "times" "[D" (.ref as) → Fld Z h97 a0 "com/example/deliberate_scaler/deliberatescaler/model/RateWindow" "latest" "D" (.double lt) → Fld Z h97 a0 "com/example/deliberate_scaler/deliberatescaler/model/RateWindow" "window" "D" (.double wn) → Fld Z h97 a0 "com/example/deliberate_scaler/deliberatescaler/model/RateWindow" "first" "I" (.int (0 : Int32)) → Fld Z h97 a0 "com/example/deliberate_scaler/deliberatescaler/model/RateWindow" "end" "I" (.int (4 : Int32)) → Arv Z h97 as k_as .double (64 : Int32) [(.double y0), (.double y1), (.double y2), (.double y3), (.double (0 : UInt64)), (.double (0 : UInt64)), (.double (0 : UInt64)), (.double (0 : UInt64)), (.double (0 : UInt64)), (.double (0 : UInt64)), (.double (0 : UInt64)), (.double (0 : UInt64)), (.double (0 : UInt64)), (.double (0 : UInt64)), (.double (0 : UInt64)), (.double (0 : UInt64)), (.double (0 : UInt64)), (.double (0 : UInt64)), (.double (0 : UInt64)), (.double (0 : UInt64)), (.double (0 : UInt64)), (.double (0 : UInt64)), (.double (0 : UInt64)), (.double (0 : UInt64)), (.double (0 : UInt64)), (.double (0 : UInt64)), (.double (0 : UInt64)), (.double (0 : UInt64)), (.double (0 : UInt64)), (.double (0 : UInt64)), (.double (0 : UInt64)), (.double (0 : UInt64)), (.double (0 : UInt64)), (.double (0 : UInt64)), (.double (0 : UInt64)), (.double (0 : UInt64)), (.double (0 : UInt64)), (.double (0 : UInt64)), (.double (0 : UInt64)), (.double (0 : UInt64)), (.double (0 : UInt64)), (.double (0 : UInt64)), (.double (0 : UInt64)), (.double (0 : UInt64)), (.double (0 : UInt64)), (.double (0 : UInt64)), (.double (0 : UInt64)), (.double (0 : UInt64)), (.double (0 : UInt64)), (.double (0 : UInt64)), (.double (0 : UInt64)), (.double (0 : UInt64)), (.double (0 : UInt64)), (.double (0 : UInt64)), (.double (0 : UInt64)), (.double (0 : UInt64)), (.double (0 : UInt64)), (.double (0 : UInt64)), (.double (0 : UInt64)), (.double (0 : UInt64)), (.double (0 : UInt64)), (.double (0 : UInt64)), (.double (0 : UInt64)), (.double (0 : UInt64))] (.double (0 : UInt64)) → Go p e below s K1 K2 QQ T97 (mkF m 7 #[Sr a0, Sd d1, .second, .val (.double (FP.dsub d1 wn)), .second, .unset] []) := by
    clear ZZ KP E_a0 F_times_a0 F_latest_a0 F_window_a0 F_first_a0 F_end_a0 V_as
    intro T97 locs97 h97 X97 e97 N97 ZZ KP E_a0 F_times_a0 F_latest_a0 F_window_a0 F_first_a0 F_end_a0 V_as 
    show Go _ _ _ _ _ _ _ _ (mkF m 7 #[Sr a0, Sd d1, .second, .val (.double (FP.dsub d1 wn)), .second, .unset] [])
    refine Go.on (fun _ k => XS.aloadN X97.here hx rfl (hb hby d4_7) rfl rfl k) ?_
    show Go _ _ _ _ _ _ _ _ (mkF m 8 #[Sr a0, Sd d1, .second, .val (.double (FP.dsub d1 wn)), .second, .unset] [(.ref a0)])
    obtain ⟨T98, X98, e98, st98⟩ := getF X97 hx hZ hown (host := "") (Or.inl (hw _ (List.mem_of_getElem? (i := 30) rfl))) Via.refl e97 F_first_a0 (g := (mkF m 8 #[Sr a0, Sd d1, .second, .val (.double (FP.dsub d1 wn)), .second, .unset] [(.ref a0)])) rfl rfl (hb hby d4_8)
    refine Go.on st98 ?_
    show Go _ _ _ _ _ _ _ _ (mkF m 11 #[Sr a0, Sd d1, .second, .val (.double (FP.dsub d1 wn)), .second, .unset] [(.int 0)])
    refine Go.on (fun _ k => XS.aloadN X98.here hx rfl (hb hby d4_11) rfl rfl k) ?_
    show Go _ _ _ _ _ _ _ _ (mkF m 12 #[Sr a0, Sd d1, .second, .val (.double (FP.dsub d1 wn)), .second, .unset] [(.ref a0), (.int 0)])
    obtain ⟨T99, X99, e99, st99⟩ := getF X98 hx hZ hown (host := "") (Or.inl (hw _ (List.mem_of_getElem? (i := 23) rfl))) Via.refl e98 F_end_a0 (g := (mkF m 12 #[Sr a0, Sd d1, .second, .val (.double (FP.dsub d1 wn)), .second, .unset] [(.ref a0), (.int 0)])) rfl rfl (hb hby d4_12)
    refine Go.on st99 ?_
    show Go _ _ _ _ _ _ _ _ (mkF m 15 #[Sr a0, Sd d1, .second, .val (.double (FP.dsub d1 wn)), .second, .unset] [(.int 4), (.int 0)])
    have hc100 : (0 : Int32) < (4 : Int32) := by decide
    refine Go.on (fun _ k => XS.icmpNo X99.here hx rfl (hb hby d4_15) rfl (tlt hc100).2.1 k) ?_
    refine Go.on (fun _ k => XS.aloadN X99.here hx rfl (hb hby d4_18) rfl rfl k) ?_
    show Go _ _ _ _ _ _ _ _ (mkF m 19 #[Sr a0, Sd d1, .second, .val (.double (FP.dsub d1 wn)), .second, .unset] [(.ref a0)])
    obtain ⟨T101, X101, e101, st101⟩ := getF X99 hx hZ hown (host := "") (Or.inl (hw _ (List.mem_of_getElem? (i := 10) rfl))) Via.refl e99 F_times_a0 (g := (mkF m 19 #[Sr a0, Sd d1, .second, .val (.double (FP.dsub d1 wn)), .second, .unset] [(.ref a0)])) rfl rfl (hb hby d4_19)
    refine Go.on st101 ?_
    show Go _ _ _ _ _ _ _ _ (mkF m 22 #[Sr a0, Sd d1, .second, .val (.double (FP.dsub d1 wn)), .second, .unset] [(.ref as)])
    refine Go.on (fun _ k => XS.aloadN X101.here hx rfl (hb hby d4_22) rfl rfl k) ?_
    show Go _ _ _ _ _ _ _ _ (mkF m 23 #[Sr a0, Sd d1, .second, .val (.double (FP.dsub d1 wn)), .second, .unset] [(.ref a0), (.ref as)])
    obtain ⟨T102, X102, e102, st102⟩ := getF X101 hx hZ hown (host := "") (Or.inl (hw _ (List.mem_of_getElem? (i := 30) rfl))) Via.refl e101 F_first_a0 (g := (mkF m 23 #[Sr a0, Sd d1, .second, .val (.double (FP.dsub d1 wn)), .second, .unset] [(.ref a0), (.ref as)])) rfl rfl (hb hby d4_23)
    refine Go.on st102 ?_
    show Go _ _ _ _ _ _ _ _ (mkF m 26 #[Sr a0, Sd d1, .second, .val (.double (FP.dsub d1 wn)), .second, .unset] [(.int 0), (.ref as)])
    obtain ⟨cl103, Ar103, -, S103, -, H103, -⟩ := id V_as
    have hin103 : ¬ ((0 : Int32) < 0 ∨ cl103.slots.size ≤ ((0 : Int32)).toNatClampNeg) := inb_of S103 ⟨by decide, by decide⟩
    refine Go.on (X102.daload hx (j := (0 : Int32)) (v := (.double y0)) (by rw [e102]; exact Ar103.1) (State.isArrayOf_alike hZ.alike Ar103.2.1) Ar103.2.2 hin103 (H103.at hin103 (rfl)) (g := (mkF m 26 #[Sr a0, Sd d1, .second, .val (.double (FP.dsub d1 wn)), .second, .unset] [(.int 0), (.ref as)])) rfl rfl (hb hby d4_26)) ?_
    show Go _ _ _ _ _ _ _ _ (mkF m 27 #[Sr a0, Sd d1, .second, .val (.double (FP.dsub d1 wn)), .second, .unset] [(.double y0)])
    refine Go.on (fun _ k => XS.dloadN X102.here hx rfl (hb hby d4_27) rfl k) ?_
    refine Go.on (fun _ k => XS.dcmpS X102.here hx rfl (hb hby d4_28) rfl rfl k) ?_
    show Go _ _ _ _ _ _ _ _ (mkF m 29 #[Sr a0, Sd d1, .second, .val (.double (FP.dsub d1 wn)), .second, .unset] [(.int (cmpValue (FP.dcmp y0 (FP.dsub d1 wn)) .g))])
    by_cases hc104 : (0 : Int32) < (cmpValue (FP.dcmp y0 (FP.dsub d1 wn)) .g)
    · -- pc 29 yes
      refine Go.on (fun _ k => XS.ifYes X102.here hx rfl (pc0 := 29) (pc' := 45) rfl (hb hby d4_29) rfl ((if0 _ _).trans (tlt hc104).2.2.1) (by decide) (by decide) k) ?_
      show Go _ _ _ _ _ _ _ _ (mkF m 45 #[Sr a0, Sd d1, .second, .val (.double (FP.dsub d1 wn)), .second, .unset] [])
      refine Go.on (fun _ k => XS.aloadN X102.here hx rfl (hb hby d4_45) rfl rfl k) ?_
      show Go _ _ _ _ _ _ _ _ (mkF m 46 #[Sr a0, Sd d1, .second, .val (.double (FP.dsub d1 wn)), .second, .unset] [(.ref a0)])
      obtain ⟨T105, X105, e105, st105⟩ := getF X102 hx hZ hown (host := "") (Or.inl (hw _ (List.mem_of_getElem? (i := 23) rfl))) Via.refl e102 F_end_a0 (g := (mkF m 46 #[Sr a0, Sd d1, .second, .val (.double (FP.dsub d1 wn)), .second, .unset] [(.ref a0)])) rfl rfl (hb hby d4_46)
      refine Go.on st105 ?_
      show Go _ _ _ _ _ _ _ _ (mkF m 49 #[Sr a0, Sd d1, .second, .val (.double (FP.dsub d1 wn)), .second, .unset] [(.int 4)])
      refine Go.on (fun _ k => XS.istore X105.here hx rfl (hb hby d4_49) rfl (l' := #[.val (.ref a0), .val (.double d1), .second, .val (.double (FP.dsub d1 wn)), .second, .val (.int (4 : Int32))]) rfl k) ?_
      show Go _ _ _ _ _ _ _ _ (mkF m 51 #[Sr a0, Sd d1, .second, .val (.double (FP.dsub d1 wn)), .second, Si 4] [])
      refine Go.on (fun _ k => XS.iload X105.here hx rfl (hb hby d4_51) rfl k) ?_
      refine Go.on (fun _ k => XS.aloadN X105.here hx rfl (hb hby d4_53) rfl rfl k) ?_
      show Go _ _ _ _ _ _ _ _ (mkF m 54 #[Sr a0, Sd d1, .second, .val (.double (FP.dsub d1 wn)), .second, Si 4] [(.ref a0), (.int 4)])
      obtain ⟨T106, X106, e106, st106⟩ := getF X105 hx hZ hown (host := "") (Or.inl (hw _ (List.mem_of_getElem? (i := 30) rfl))) Via.refl e105 F_first_a0 (g := (mkF m 54 #[Sr a0, Sd d1, .second, .val (.double (FP.dsub d1 wn)), .second, Si 4] [(.ref a0), (.int 4)])) rfl rfl (hb hby d4_54)
      refine Go.on st106 ?_
      show Go _ _ _ _ _ _ _ _ (mkF m 57 #[Sr a0, Sd d1, .second, .val (.double (FP.dsub d1 wn)), .second, Si 4] [(.int 0), (.int 4)])
      have hc107 : (0 : Int32) < (4 : Int32) := by decide
      refine Go.on (fun _ k => XS.icmpNo X106.here hx rfl (hb hby d4_57) rfl (tlt hc107).2.2.2 k) ?_
      refine Go.on (fun _ k => XS.aloadN X106.here hx rfl (hb hby d4_60) rfl rfl k) ?_
      show Go _ _ _ _ _ _ _ _ (mkF m 61 #[Sr a0, Sd d1, .second, .val (.double (FP.dsub d1 wn)), .second, Si 4] [(.ref a0)])
      obtain ⟨T108, X108, e108, st108⟩ := getF X106 hx hZ hown (host := "") (Or.inl (hw _ (List.mem_of_getElem? (i := 10) rfl))) Via.refl e106 F_times_a0 (g := (mkF m 61 #[Sr a0, Sd d1, .second, .val (.double (FP.dsub d1 wn)), .second, Si 4] [(.ref a0)])) rfl rfl (hb hby d4_61)
      refine Go.on st108 ?_
      show Go _ _ _ _ _ _ _ _ (mkF m 64 #[Sr a0, Sd d1, .second, .val (.double (FP.dsub d1 wn)), .second, Si 4] [(.ref as)])
      refine Go.on (fun _ k => XS.iload X108.here hx rfl (hb hby d4_64) rfl k) ?_
      refine Go.on (fun _ k => XS.iconst X108.here hx rfl (hb hby d4_66) k) ?_
      refine Go.on (fun _ k => XS.isub X108.here hx rfl (hb hby d4_67) rfl k) ?_
      show Go _ _ _ _ _ _ _ _ (mkF m 68 #[Sr a0, Sd d1, .second, .val (.double (FP.dsub d1 wn)), .second, Si 4] [(.int 3), (.ref as)])
      obtain ⟨cl109, Ar109, -, S109, -, H109, -⟩ := id V_as
      have hin109 : ¬ ((3 : Int32) < 0 ∨ cl109.slots.size ≤ ((3 : Int32)).toNatClampNeg) := inb_of S109 ⟨by decide, by decide⟩
      refine Go.on (X108.daload hx (j := (3 : Int32)) (v := (.double y3)) (by rw [e108]; exact Ar109.1) (State.isArrayOf_alike hZ.alike Ar109.2.1) Ar109.2.2 hin109 (H109.at hin109 (rfl)) (g := (mkF m 68 #[Sr a0, Sd d1, .second, .val (.double (FP.dsub d1 wn)), .second, Si 4] [(.int 3), (.ref as)])) rfl rfl (hb hby d4_68)) ?_
      show Go _ _ _ _ _ _ _ _ (mkF m 69 #[Sr a0, Sd d1, .second, .val (.double (FP.dsub d1 wn)), .second, Si 4] [(.double y3)])
      refine Go.on (fun _ k => XS.dloadN X108.here hx rfl (hb hby d4_69) rfl k) ?_
      refine Go.on (fun _ k => XS.dcmpS X108.here hx rfl (hb hby d4_70) rfl rfl k) ?_
      show Go _ _ _ _ _ _ _ _ (mkF m 71 #[Sr a0, Sd d1, .second, .val (.double (FP.dsub d1 wn)), .second, Si 4] [(.int (cmpValue (FP.dcmp y3 d1) .l))])
      by_cases hc110 : (0 : Int32) < (cmpValue (FP.dcmp y3 d1) .l)
      · -- pc 71 yes
        refine Go.on (fun _ k => XS.ifNo X108.here hx rfl (hb hby d4_71) rfl ((if0 _ _).trans (tlt hc110).2.2.2) k) ?_
        show Go _ _ _ _ _ _ _ _ (mkF m 74 #[Sr a0, Sd d1, .second, .val (.double (FP.dsub d1 wn)), .second, Si 4] [])
        refine Go.on (fun _ k => XS.iinc X108.here hx rfl (hb hby d4_74) rfl (l' := #[.val (.ref a0), .val (.double d1), .second, .val (.double (FP.dsub d1 wn)), .second, .val (.int (3 : Int32))]) rfl k) ?_
        show Go _ _ _ _ _ _ _ _ (mkF m 77 #[Sr a0, Sd d1, .second, .val (.double (FP.dsub d1 wn)), .second, Si 3] [])
        refine Go.on (fun _ k => XS.goto X108.here hx rfl (pc0 := 77) (pc' := 51) rfl (hb hby d4_77) (by decide) (by decide) k) ?_
        refine Go.on (fun _ k => XS.iload X108.here hx rfl (hb hby d4_51) rfl k) ?_
        refine Go.on (fun _ k => XS.aloadN X108.here hx rfl (hb hby d4_53) rfl rfl k) ?_
        show Go _ _ _ _ _ _ _ _ (mkF m 54 #[Sr a0, Sd d1, .second, .val (.double (FP.dsub d1 wn)), .second, Si 3] [(.ref a0), (.int 3)])
        obtain ⟨T111, X111, e111, st111⟩ := getF X108 hx hZ hown (host := "") (Or.inl (hw _ (List.mem_of_getElem? (i := 30) rfl))) Via.refl e108 F_first_a0 (g := (mkF m 54 #[Sr a0, Sd d1, .second, .val (.double (FP.dsub d1 wn)), .second, Si 3] [(.ref a0), (.int 3)])) rfl rfl (hb hby d4_54)
        refine Go.on st111 ?_
        show Go _ _ _ _ _ _ _ _ (mkF m 57 #[Sr a0, Sd d1, .second, .val (.double (FP.dsub d1 wn)), .second, Si 3] [(.int 0), (.int 3)])
        have hc112 : (0 : Int32) < (3 : Int32) := by decide
        refine Go.on (fun _ k => XS.icmpNo X111.here hx rfl (hb hby d4_57) rfl (tlt hc112).2.2.2 k) ?_
        refine Go.on (fun _ k => XS.aloadN X111.here hx rfl (hb hby d4_60) rfl rfl k) ?_
        show Go _ _ _ _ _ _ _ _ (mkF m 61 #[Sr a0, Sd d1, .second, .val (.double (FP.dsub d1 wn)), .second, Si 3] [(.ref a0)])
        obtain ⟨T113, X113, e113, st113⟩ := getF X111 hx hZ hown (host := "") (Or.inl (hw _ (List.mem_of_getElem? (i := 10) rfl))) Via.refl e111 F_times_a0 (g := (mkF m 61 #[Sr a0, Sd d1, .second, .val (.double (FP.dsub d1 wn)), .second, Si 3] [(.ref a0)])) rfl rfl (hb hby d4_61)
        refine Go.on st113 ?_
        show Go _ _ _ _ _ _ _ _ (mkF m 64 #[Sr a0, Sd d1, .second, .val (.double (FP.dsub d1 wn)), .second, Si 3] [(.ref as)])
        refine Go.on (fun _ k => XS.iload X113.here hx rfl (hb hby d4_64) rfl k) ?_
        refine Go.on (fun _ k => XS.iconst X113.here hx rfl (hb hby d4_66) k) ?_
        refine Go.on (fun _ k => XS.isub X113.here hx rfl (hb hby d4_67) rfl k) ?_
        show Go _ _ _ _ _ _ _ _ (mkF m 68 #[Sr a0, Sd d1, .second, .val (.double (FP.dsub d1 wn)), .second, Si 3] [(.int 2), (.ref as)])
        obtain ⟨cl114, Ar114, -, S114, -, H114, -⟩ := id V_as
        have hin114 : ¬ ((2 : Int32) < 0 ∨ cl114.slots.size ≤ ((2 : Int32)).toNatClampNeg) := inb_of S114 ⟨by decide, by decide⟩
        refine Go.on (X113.daload hx (j := (2 : Int32)) (v := (.double y2)) (by rw [e113]; exact Ar114.1) (State.isArrayOf_alike hZ.alike Ar114.2.1) Ar114.2.2 hin114 (H114.at hin114 (rfl)) (g := (mkF m 68 #[Sr a0, Sd d1, .second, .val (.double (FP.dsub d1 wn)), .second, Si 3] [(.int 2), (.ref as)])) rfl rfl (hb hby d4_68)) ?_
        show Go _ _ _ _ _ _ _ _ (mkF m 69 #[Sr a0, Sd d1, .second, .val (.double (FP.dsub d1 wn)), .second, Si 3] [(.double y2)])
        refine Go.on (fun _ k => XS.dloadN X113.here hx rfl (hb hby d4_69) rfl k) ?_
        refine Go.on (fun _ k => XS.dcmpS X113.here hx rfl (hb hby d4_70) rfl rfl k) ?_
        show Go _ _ _ _ _ _ _ _ (mkF m 71 #[Sr a0, Sd d1, .second, .val (.double (FP.dsub d1 wn)), .second, Si 3] [(.int (cmpValue (FP.dcmp y2 d1) .l))])
        by_cases hc115 : (0 : Int32) < (cmpValue (FP.dcmp y2 d1) .l)
        · -- pc 71 yes
          refine Go.on (fun _ k => XS.ifNo X113.here hx rfl (hb hby d4_71) rfl ((if0 _ _).trans (tlt hc115).2.2.2) k) ?_
          show Go _ _ _ _ _ _ _ _ (mkF m 74 #[Sr a0, Sd d1, .second, .val (.double (FP.dsub d1 wn)), .second, Si 3] [])
          refine Go.on (fun _ k => XS.iinc X113.here hx rfl (hb hby d4_74) rfl (l' := #[.val (.ref a0), .val (.double d1), .second, .val (.double (FP.dsub d1 wn)), .second, .val (.int (2 : Int32))]) rfl k) ?_
          show Go _ _ _ _ _ _ _ _ (mkF m 77 #[Sr a0, Sd d1, .second, .val (.double (FP.dsub d1 wn)), .second, Si 2] [])
          refine Go.on (fun _ k => XS.goto X113.here hx rfl (pc0 := 77) (pc' := 51) rfl (hb hby d4_77) (by decide) (by decide) k) ?_
          refine Go.on (fun _ k => XS.iload X113.here hx rfl (hb hby d4_51) rfl k) ?_
          refine Go.on (fun _ k => XS.aloadN X113.here hx rfl (hb hby d4_53) rfl rfl k) ?_
          show Go _ _ _ _ _ _ _ _ (mkF m 54 #[Sr a0, Sd d1, .second, .val (.double (FP.dsub d1 wn)), .second, Si 2] [(.ref a0), (.int 2)])
          obtain ⟨T116, X116, e116, st116⟩ := getF X113 hx hZ hown (host := "") (Or.inl (hw _ (List.mem_of_getElem? (i := 30) rfl))) Via.refl e113 F_first_a0 (g := (mkF m 54 #[Sr a0, Sd d1, .second, .val (.double (FP.dsub d1 wn)), .second, Si 2] [(.ref a0), (.int 2)])) rfl rfl (hb hby d4_54)
          refine Go.on st116 ?_
          show Go _ _ _ _ _ _ _ _ (mkF m 57 #[Sr a0, Sd d1, .second, .val (.double (FP.dsub d1 wn)), .second, Si 2] [(.int 0), (.int 2)])
          have hc117 : (0 : Int32) < (2 : Int32) := by decide
          refine Go.on (fun _ k => XS.icmpNo X116.here hx rfl (hb hby d4_57) rfl (tlt hc117).2.2.2 k) ?_
          refine Go.on (fun _ k => XS.aloadN X116.here hx rfl (hb hby d4_60) rfl rfl k) ?_
          show Go _ _ _ _ _ _ _ _ (mkF m 61 #[Sr a0, Sd d1, .second, .val (.double (FP.dsub d1 wn)), .second, Si 2] [(.ref a0)])
          obtain ⟨T118, X118, e118, st118⟩ := getF X116 hx hZ hown (host := "") (Or.inl (hw _ (List.mem_of_getElem? (i := 10) rfl))) Via.refl e116 F_times_a0 (g := (mkF m 61 #[Sr a0, Sd d1, .second, .val (.double (FP.dsub d1 wn)), .second, Si 2] [(.ref a0)])) rfl rfl (hb hby d4_61)
          refine Go.on st118 ?_
          show Go _ _ _ _ _ _ _ _ (mkF m 64 #[Sr a0, Sd d1, .second, .val (.double (FP.dsub d1 wn)), .second, Si 2] [(.ref as)])
          refine Go.on (fun _ k => XS.iload X118.here hx rfl (hb hby d4_64) rfl k) ?_
          refine Go.on (fun _ k => XS.iconst X118.here hx rfl (hb hby d4_66) k) ?_
          refine Go.on (fun _ k => XS.isub X118.here hx rfl (hb hby d4_67) rfl k) ?_
          show Go _ _ _ _ _ _ _ _ (mkF m 68 #[Sr a0, Sd d1, .second, .val (.double (FP.dsub d1 wn)), .second, Si 2] [(.int 1), (.ref as)])
          obtain ⟨cl119, Ar119, -, S119, -, H119, -⟩ := id V_as
          have hin119 : ¬ ((1 : Int32) < 0 ∨ cl119.slots.size ≤ ((1 : Int32)).toNatClampNeg) := inb_of S119 ⟨by decide, by decide⟩
          refine Go.on (X118.daload hx (j := (1 : Int32)) (v := (.double y1)) (by rw [e118]; exact Ar119.1) (State.isArrayOf_alike hZ.alike Ar119.2.1) Ar119.2.2 hin119 (H119.at hin119 (rfl)) (g := (mkF m 68 #[Sr a0, Sd d1, .second, .val (.double (FP.dsub d1 wn)), .second, Si 2] [(.int 1), (.ref as)])) rfl rfl (hb hby d4_68)) ?_
          show Go _ _ _ _ _ _ _ _ (mkF m 69 #[Sr a0, Sd d1, .second, .val (.double (FP.dsub d1 wn)), .second, Si 2] [(.double y1)])
          refine Go.on (fun _ k => XS.dloadN X118.here hx rfl (hb hby d4_69) rfl k) ?_
          refine Go.on (fun _ k => XS.dcmpS X118.here hx rfl (hb hby d4_70) rfl rfl k) ?_
          show Go _ _ _ _ _ _ _ _ (mkF m 71 #[Sr a0, Sd d1, .second, .val (.double (FP.dsub d1 wn)), .second, Si 2] [(.int (cmpValue (FP.dcmp y1 d1) .l))])
          by_cases hc120 : (0 : Int32) < (cmpValue (FP.dcmp y1 d1) .l)
          · -- pc 71 yes
            refine Go.on (fun _ k => XS.ifNo X118.here hx rfl (hb hby d4_71) rfl ((if0 _ _).trans (tlt hc120).2.2.2) k) ?_
            show Go _ _ _ _ _ _ _ _ (mkF m 74 #[Sr a0, Sd d1, .second, .val (.double (FP.dsub d1 wn)), .second, Si 2] [])
            refine Go.on (fun _ k => XS.iinc X118.here hx rfl (hb hby d4_74) rfl (l' := #[.val (.ref a0), .val (.double d1), .second, .val (.double (FP.dsub d1 wn)), .second, .val (.int (1 : Int32))]) rfl k) ?_
            show Go _ _ _ _ _ _ _ _ (mkF m 77 #[Sr a0, Sd d1, .second, .val (.double (FP.dsub d1 wn)), .second, Si 1] [])
            refine Go.on (fun _ k => XS.goto X118.here hx rfl (pc0 := 77) (pc' := 51) rfl (hb hby d4_77) (by decide) (by decide) k) ?_
            refine Go.on (fun _ k => XS.iload X118.here hx rfl (hb hby d4_51) rfl k) ?_
            refine Go.on (fun _ k => XS.aloadN X118.here hx rfl (hb hby d4_53) rfl rfl k) ?_
            show Go _ _ _ _ _ _ _ _ (mkF m 54 #[Sr a0, Sd d1, .second, .val (.double (FP.dsub d1 wn)), .second, Si 1] [(.ref a0), (.int 1)])
            obtain ⟨T121, X121, e121, st121⟩ := getF X118 hx hZ hown (host := "") (Or.inl (hw _ (List.mem_of_getElem? (i := 30) rfl))) Via.refl e118 F_first_a0 (g := (mkF m 54 #[Sr a0, Sd d1, .second, .val (.double (FP.dsub d1 wn)), .second, Si 1] [(.ref a0), (.int 1)])) rfl rfl (hb hby d4_54)
            refine Go.on st121 ?_
            show Go _ _ _ _ _ _ _ _ (mkF m 57 #[Sr a0, Sd d1, .second, .val (.double (FP.dsub d1 wn)), .second, Si 1] [(.int 0), (.int 1)])
            have hc122 : (0 : Int32) < (1 : Int32) := by decide
            refine Go.on (fun _ k => XS.icmpNo X121.here hx rfl (hb hby d4_57) rfl (tlt hc122).2.2.2 k) ?_
            refine Go.on (fun _ k => XS.aloadN X121.here hx rfl (hb hby d4_60) rfl rfl k) ?_
            show Go _ _ _ _ _ _ _ _ (mkF m 61 #[Sr a0, Sd d1, .second, .val (.double (FP.dsub d1 wn)), .second, Si 1] [(.ref a0)])
            obtain ⟨T123, X123, e123, st123⟩ := getF X121 hx hZ hown (host := "") (Or.inl (hw _ (List.mem_of_getElem? (i := 10) rfl))) Via.refl e121 F_times_a0 (g := (mkF m 61 #[Sr a0, Sd d1, .second, .val (.double (FP.dsub d1 wn)), .second, Si 1] [(.ref a0)])) rfl rfl (hb hby d4_61)
            refine Go.on st123 ?_
            show Go _ _ _ _ _ _ _ _ (mkF m 64 #[Sr a0, Sd d1, .second, .val (.double (FP.dsub d1 wn)), .second, Si 1] [(.ref as)])
            refine Go.on (fun _ k => XS.iload X123.here hx rfl (hb hby d4_64) rfl k) ?_
            refine Go.on (fun _ k => XS.iconst X123.here hx rfl (hb hby d4_66) k) ?_
            refine Go.on (fun _ k => XS.isub X123.here hx rfl (hb hby d4_67) rfl k) ?_
            show Go _ _ _ _ _ _ _ _ (mkF m 68 #[Sr a0, Sd d1, .second, .val (.double (FP.dsub d1 wn)), .second, Si 1] [(.int 0), (.ref as)])
            obtain ⟨cl124, Ar124, -, S124, -, H124, -⟩ := id V_as
            have hin124 : ¬ ((0 : Int32) < 0 ∨ cl124.slots.size ≤ ((0 : Int32)).toNatClampNeg) := inb_of S124 ⟨by decide, by decide⟩
            refine Go.on (X123.daload hx (j := (0 : Int32)) (v := (.double y0)) (by rw [e123]; exact Ar124.1) (State.isArrayOf_alike hZ.alike Ar124.2.1) Ar124.2.2 hin124 (H124.at hin124 (rfl)) (g := (mkF m 68 #[Sr a0, Sd d1, .second, .val (.double (FP.dsub d1 wn)), .second, Si 1] [(.int 0), (.ref as)])) rfl rfl (hb hby d4_68)) ?_
            show Go _ _ _ _ _ _ _ _ (mkF m 69 #[Sr a0, Sd d1, .second, .val (.double (FP.dsub d1 wn)), .second, Si 1] [(.double y0)])
            refine Go.on (fun _ k => XS.dloadN X123.here hx rfl (hb hby d4_69) rfl k) ?_
            refine Go.on (fun _ k => XS.dcmpS X123.here hx rfl (hb hby d4_70) rfl rfl k) ?_
            show Go _ _ _ _ _ _ _ _ (mkF m 71 #[Sr a0, Sd d1, .second, .val (.double (FP.dsub d1 wn)), .second, Si 1] [(.int (cmpValue (FP.dcmp y0 d1) .l))])
            by_cases hc125 : (0 : Int32) < (cmpValue (FP.dcmp y0 d1) .l)
            · -- pc 71 yes
              refine Go.on (fun _ k => XS.ifNo X123.here hx rfl (hb hby d4_71) rfl ((if0 _ _).trans (tlt hc125).2.2.2) k) ?_
              show Go _ _ _ _ _ _ _ _ (mkF m 74 #[Sr a0, Sd d1, .second, .val (.double (FP.dsub d1 wn)), .second, Si 1] [])
              refine Go.on (fun _ k => XS.iinc X123.here hx rfl (hb hby d4_74) rfl (l' := #[.val (.ref a0), .val (.double d1), .second, .val (.double (FP.dsub d1 wn)), .second, .val (.int (0 : Int32))]) rfl k) ?_
              show Go _ _ _ _ _ _ _ _ (mkF m 77 #[Sr a0, Sd d1, .second, .val (.double (FP.dsub d1 wn)), .second, Si 0] [])
              refine Go.on (fun _ k => XS.goto X123.here hx rfl (pc0 := 77) (pc' := 51) rfl (hb hby d4_77) (by decide) (by decide) k) ?_
              refine Go.on (fun _ k => XS.iload X123.here hx rfl (hb hby d4_51) rfl k) ?_
              refine Go.on (fun _ k => XS.aloadN X123.here hx rfl (hb hby d4_53) rfl rfl k) ?_
              show Go _ _ _ _ _ _ _ _ (mkF m 54 #[Sr a0, Sd d1, .second, .val (.double (FP.dsub d1 wn)), .second, Si 0] [(.ref a0), (.int 0)])
              obtain ⟨T126, X126, e126, st126⟩ := getF X123 hx hZ hown (host := "") (Or.inl (hw _ (List.mem_of_getElem? (i := 30) rfl))) Via.refl e123 F_first_a0 (g := (mkF m 54 #[Sr a0, Sd d1, .second, .val (.double (FP.dsub d1 wn)), .second, Si 0] [(.ref a0), (.int 0)])) rfl rfl (hb hby d4_54)
              refine Go.on st126 ?_
              show Go _ _ _ _ _ _ _ _ (mkF m 57 #[Sr a0, Sd d1, .second, .val (.double (FP.dsub d1 wn)), .second, Si 0] [(.int 0), (.int 0)])
              have hc127 : ¬ ((0 : Int32) < (0 : Int32)) := by decide
              refine Go.on (fun _ k => XS.icmpYes X126.here hx rfl (pc0 := 57) (pc' := 80) rfl (hb hby d4_57) rfl (flt hc127).2.2.2 (by decide) (by decide) k) ?_
              refine Go.on (fun _ k => XS.iload X126.here hx rfl (hb hby d4_80) rfl k) ?_
              refine Go.on (fun _ k => XS.aloadN X126.here hx rfl (hb hby d4_82) rfl rfl k) ?_
              show Go _ _ _ _ _ _ _ _ (mkF m 83 #[Sr a0, Sd d1, .second, .val (.double (FP.dsub d1 wn)), .second, Si 0] [(.ref a0), (.int 0)])
              obtain ⟨T128, X128, e128, st128⟩ := getF X126 hx hZ hown (host := "") (Or.inl (hw _ (List.mem_of_getElem? (i := 30) rfl))) Via.refl e126 F_first_a0 (g := (mkF m 83 #[Sr a0, Sd d1, .second, .val (.double (FP.dsub d1 wn)), .second, Si 0] [(.ref a0), (.int 0)])) rfl rfl (hb hby d4_83)
              refine Go.on st128 ?_
              show Go _ _ _ _ _ _ _ _ (mkF m 86 #[Sr a0, Sd d1, .second, .val (.double (FP.dsub d1 wn)), .second, Si 0] [(.int 0), (.int 0)])
              refine Go.on (fun _ k => XS.isub X128.here hx rfl (hb hby d4_86) rfl k) ?_
              refine Go.on (fun _ k => XS.i2dS X128.here hx rfl (hb hby d4_87) rfl rfl k) ?_
              refine Go.on (fun _ k => XS.aloadN X128.here hx rfl (hb hby d4_88) rfl rfl k) ?_
              show Go _ _ _ _ _ _ _ _ (mkF m 89 #[Sr a0, Sd d1, .second, .val (.double (FP.dsub d1 wn)), .second, Si 0] [(.ref a0), (.double (FP.i2d (0 : Int32)))])
              obtain ⟨T129, X129, e129, st129⟩ := getF X128 hx hZ hown (host := "") (Or.inl (hw _ (List.mem_of_getElem? (i := 16) rfl))) Via.refl e128 F_window_a0 (g := (mkF m 89 #[Sr a0, Sd d1, .second, .val (.double (FP.dsub d1 wn)), .second, Si 0] [(.ref a0), (.double (FP.i2d (0 : Int32)))])) rfl rfl (hb hby d4_89)
              refine Go.on st129 ?_
              show Go _ _ _ _ _ _ _ _ (mkF m 92 #[Sr a0, Sd d1, .second, .val (.double (FP.dsub d1 wn)), .second, Si 0] [(.double wn), (.double (FP.i2d (0 : Int32)))])
              refine Go.on (fun _ k => XS.ddivS X129.here hx rfl (hb hby d4_92) rfl ((own_rt _ hwn hw1 bw)) rfl k) ?_
              show Go _ _ _ _ _ _ _ _ (mkF m 93 #[Sr a0, Sd d1, .second, .val (.double (FP.dsub d1 wn)), .second, Si 0] [(.double (FP.ddiv (FP.i2d (0 : Int32)) wn))])
              refine Go.retV X129 hx Bd.returns rfl (Or.inr (Or.inr (Or.inl ⟨rfl, rfl, _, rfl⟩))) (hb hby d4_93) ?_ (by rw [hK1]; decide) (by rw [hK2]; decide)
              rw [e129, ← hQQ]
              have q_hc104 : nw.toInt - jw.toInt < t0.toInt := (own_cg zt0 zl).mp hc104
              have q_hc110 : nw.toInt < t3.toInt := (own_cl zt3 zn).mp hc110
              have q_hc115 : nw.toInt < t2.toInt := (own_cl zt2 zn).mp hc115
              have q_hc120 : nw.toInt < t1.toInt := (own_cl zt1 zn).mp hc120
              have q_hc125 : nw.toInt < t0.toInt := (own_cl zt0 zn).mp hc125
              have i0_ : inV t0 nw jw = 0 := own_in0 bn bw (Or.inr (by omega))
              have i1_ : inV t1 nw jw = 0 := own_in0 bn bw (Or.inr (by omega))
              have i2_ : inV t2 nw jw = 0 := own_in0 bn bw (Or.inr (by omega))
              have i3_ : inV t3 nw jw = 0 := own_in0 bn bw (Or.inr (by omega))
              have hC : ((((inV t0 nw jw) + (inV t1 nw jw)) + (inV t2 nw jw)) + (inV t3 nw jw)) = (0 : Int32) := by rw [i0_, i1_, i2_, i3_] <;> decide
              unfold Q_rw_rate_4
              rw [hC]
              exact ⟨_, rfl, N97, KP, E_a0, F_times_a0, F_latest_a0, F_window_a0, F_first_a0, F_end_a0, (Or.inl rfl), (fun q => absurd q (by decide)), (fun q => absurd q (by decide)), (fun q => absurd q (by decide)), (fun q => absurd q (by decide))⟩
            · -- pc 71 no
              refine Go.on (fun _ k => XS.ifYes X123.here hx rfl (pc0 := 71) (pc' := 80) rfl (hb hby d4_71) rfl ((if0 _ _).trans (flt hc125).2.2.2) (by decide) (by decide) k) ?_
              show Go _ _ _ _ _ _ _ _ (mkF m 80 #[Sr a0, Sd d1, .second, .val (.double (FP.dsub d1 wn)), .second, Si 1] [])
              refine Go.on (fun _ k => XS.iload X123.here hx rfl (hb hby d4_80) rfl k) ?_
              refine Go.on (fun _ k => XS.aloadN X123.here hx rfl (hb hby d4_82) rfl rfl k) ?_
              show Go _ _ _ _ _ _ _ _ (mkF m 83 #[Sr a0, Sd d1, .second, .val (.double (FP.dsub d1 wn)), .second, Si 1] [(.ref a0), (.int 1)])
              obtain ⟨T130, X130, e130, st130⟩ := getF X123 hx hZ hown (host := "") (Or.inl (hw _ (List.mem_of_getElem? (i := 30) rfl))) Via.refl e123 F_first_a0 (g := (mkF m 83 #[Sr a0, Sd d1, .second, .val (.double (FP.dsub d1 wn)), .second, Si 1] [(.ref a0), (.int 1)])) rfl rfl (hb hby d4_83)
              refine Go.on st130 ?_
              show Go _ _ _ _ _ _ _ _ (mkF m 86 #[Sr a0, Sd d1, .second, .val (.double (FP.dsub d1 wn)), .second, Si 1] [(.int 0), (.int 1)])
              refine Go.on (fun _ k => XS.isub X130.here hx rfl (hb hby d4_86) rfl k) ?_
              refine Go.on (fun _ k => XS.i2dS X130.here hx rfl (hb hby d4_87) rfl rfl k) ?_
              refine Go.on (fun _ k => XS.aloadN X130.here hx rfl (hb hby d4_88) rfl rfl k) ?_
              show Go _ _ _ _ _ _ _ _ (mkF m 89 #[Sr a0, Sd d1, .second, .val (.double (FP.dsub d1 wn)), .second, Si 1] [(.ref a0), (.double (FP.i2d (1 : Int32)))])
              obtain ⟨T131, X131, e131, st131⟩ := getF X130 hx hZ hown (host := "") (Or.inl (hw _ (List.mem_of_getElem? (i := 16) rfl))) Via.refl e130 F_window_a0 (g := (mkF m 89 #[Sr a0, Sd d1, .second, .val (.double (FP.dsub d1 wn)), .second, Si 1] [(.ref a0), (.double (FP.i2d (1 : Int32)))])) rfl rfl (hb hby d4_89)
              refine Go.on st131 ?_
              show Go _ _ _ _ _ _ _ _ (mkF m 92 #[Sr a0, Sd d1, .second, .val (.double (FP.dsub d1 wn)), .second, Si 1] [(.double wn), (.double (FP.i2d (1 : Int32)))])
              refine Go.on (fun _ k => XS.ddivS X131.here hx rfl (hb hby d4_92) rfl ((own_rt _ hwn hw1 bw)) rfl k) ?_
              show Go _ _ _ _ _ _ _ _ (mkF m 93 #[Sr a0, Sd d1, .second, .val (.double (FP.dsub d1 wn)), .second, Si 1] [(.double (FP.ddiv (FP.i2d (1 : Int32)) wn))])
              refine Go.retV X131 hx Bd.returns rfl (Or.inr (Or.inr (Or.inl ⟨rfl, rfl, _, rfl⟩))) (hb hby d4_93) ?_ (by rw [hK1]; decide) (by rw [hK2]; decide)
              rw [e131, ← hQQ]
              have q_hc104 : nw.toInt - jw.toInt < t0.toInt := (own_cg zt0 zl).mp hc104
              have q_hc110 : nw.toInt < t3.toInt := (own_cl zt3 zn).mp hc110
              have q_hc115 : nw.toInt < t2.toInt := (own_cl zt2 zn).mp hc115
              have q_hc120 : nw.toInt < t1.toInt := (own_cl zt1 zn).mp hc120
              have q_hc125 : ¬ (nw.toInt < t0.toInt) := fun q => hc125 ((own_cl zt0 zn).mpr q)
              have i0_ : inV t0 nw jw = 1 := own_in1 bn bw (by omega) (by omega)
              have i1_ : inV t1 nw jw = 0 := own_in0 bn bw (Or.inr (by omega))
              have i2_ : inV t2 nw jw = 0 := own_in0 bn bw (Or.inr (by omega))
              have i3_ : inV t3 nw jw = 0 := own_in0 bn bw (Or.inr (by omega))
              have hC : ((((inV t0 nw jw) + (inV t1 nw jw)) + (inV t2 nw jw)) + (inV t3 nw jw)) = (1 : Int32) := by rw [i0_, i1_, i2_, i3_] <;> decide
              unfold Q_rw_rate_4
              rw [hC]
              exact ⟨_, rfl, N97, KP, E_a0, F_times_a0, F_latest_a0, F_window_a0, F_first_a0, F_end_a0, (Or.inl rfl), (fun q => absurd q (by decide)), (fun q => absurd q (by decide)), (fun q => absurd q (by decide)), (fun q => absurd q (by decide))⟩
          · -- pc 71 no
            refine Go.on (fun _ k => XS.ifYes X118.here hx rfl (pc0 := 71) (pc' := 80) rfl (hb hby d4_71) rfl ((if0 _ _).trans (flt hc120).2.2.2) (by decide) (by decide) k) ?_
            show Go _ _ _ _ _ _ _ _ (mkF m 80 #[Sr a0, Sd d1, .second, .val (.double (FP.dsub d1 wn)), .second, Si 2] [])
            refine Go.on (fun _ k => XS.iload X118.here hx rfl (hb hby d4_80) rfl k) ?_
            refine Go.on (fun _ k => XS.aloadN X118.here hx rfl (hb hby d4_82) rfl rfl k) ?_
            show Go _ _ _ _ _ _ _ _ (mkF m 83 #[Sr a0, Sd d1, .second, .val (.double (FP.dsub d1 wn)), .second, Si 2] [(.ref a0), (.int 2)])
            obtain ⟨T132, X132, e132, st132⟩ := getF X118 hx hZ hown (host := "") (Or.inl (hw _ (List.mem_of_getElem? (i := 30) rfl))) Via.refl e118 F_first_a0 (g := (mkF m 83 #[Sr a0, Sd d1, .second, .val (.double (FP.dsub d1 wn)), .second, Si 2] [(.ref a0), (.int 2)])) rfl rfl (hb hby d4_83)
            refine Go.on st132 ?_
            show Go _ _ _ _ _ _ _ _ (mkF m 86 #[Sr a0, Sd d1, .second, .val (.double (FP.dsub d1 wn)), .second, Si 2] [(.int 0), (.int 2)])
            refine Go.on (fun _ k => XS.isub X132.here hx rfl (hb hby d4_86) rfl k) ?_
            refine Go.on (fun _ k => XS.i2dS X132.here hx rfl (hb hby d4_87) rfl rfl k) ?_
            refine Go.on (fun _ k => XS.aloadN X132.here hx rfl (hb hby d4_88) rfl rfl k) ?_
            show Go _ _ _ _ _ _ _ _ (mkF m 89 #[Sr a0, Sd d1, .second, .val (.double (FP.dsub d1 wn)), .second, Si 2] [(.ref a0), (.double (FP.i2d (2 : Int32)))])
            obtain ⟨T133, X133, e133, st133⟩ := getF X132 hx hZ hown (host := "") (Or.inl (hw _ (List.mem_of_getElem? (i := 16) rfl))) Via.refl e132 F_window_a0 (g := (mkF m 89 #[Sr a0, Sd d1, .second, .val (.double (FP.dsub d1 wn)), .second, Si 2] [(.ref a0), (.double (FP.i2d (2 : Int32)))])) rfl rfl (hb hby d4_89)
            refine Go.on st133 ?_
            show Go _ _ _ _ _ _ _ _ (mkF m 92 #[Sr a0, Sd d1, .second, .val (.double (FP.dsub d1 wn)), .second, Si 2] [(.double wn), (.double (FP.i2d (2 : Int32)))])
            refine Go.on (fun _ k => XS.ddivS X133.here hx rfl (hb hby d4_92) rfl ((own_rt _ hwn hw1 bw)) rfl k) ?_
            show Go _ _ _ _ _ _ _ _ (mkF m 93 #[Sr a0, Sd d1, .second, .val (.double (FP.dsub d1 wn)), .second, Si 2] [(.double (FP.ddiv (FP.i2d (2 : Int32)) wn))])
            refine Go.retV X133 hx Bd.returns rfl (Or.inr (Or.inr (Or.inl ⟨rfl, rfl, _, rfl⟩))) (hb hby d4_93) ?_ (by rw [hK1]; decide) (by rw [hK2]; decide)
            rw [e133, ← hQQ]
            have q_hc104 : nw.toInt - jw.toInt < t0.toInt := (own_cg zt0 zl).mp hc104
            have q_hc110 : nw.toInt < t3.toInt := (own_cl zt3 zn).mp hc110
            have q_hc115 : nw.toInt < t2.toInt := (own_cl zt2 zn).mp hc115
            have q_hc120 : ¬ (nw.toInt < t1.toInt) := fun q => hc120 ((own_cl zt1 zn).mpr q)
            have i0_ : inV t0 nw jw = 1 := own_in1 bn bw (by omega) (by omega)
            have i1_ : inV t1 nw jw = 1 := own_in1 bn bw (by omega) (by omega)
            have i2_ : inV t2 nw jw = 0 := own_in0 bn bw (Or.inr (by omega))
            have i3_ : inV t3 nw jw = 0 := own_in0 bn bw (Or.inr (by omega))
            have hC : ((((inV t0 nw jw) + (inV t1 nw jw)) + (inV t2 nw jw)) + (inV t3 nw jw)) = (2 : Int32) := by rw [i0_, i1_, i2_, i3_] <;> decide
            unfold Q_rw_rate_4
            rw [hC]
            exact ⟨_, rfl, N97, KP, E_a0, F_times_a0, F_latest_a0, F_window_a0, F_first_a0, F_end_a0, (Or.inl rfl), (fun q => absurd q (by decide)), (fun q => absurd q (by decide)), (fun q => absurd q (by decide)), (fun q => absurd q (by decide))⟩
        · -- pc 71 no
          refine Go.on (fun _ k => XS.ifYes X113.here hx rfl (pc0 := 71) (pc' := 80) rfl (hb hby d4_71) rfl ((if0 _ _).trans (flt hc115).2.2.2) (by decide) (by decide) k) ?_
          show Go _ _ _ _ _ _ _ _ (mkF m 80 #[Sr a0, Sd d1, .second, .val (.double (FP.dsub d1 wn)), .second, Si 3] [])
          refine Go.on (fun _ k => XS.iload X113.here hx rfl (hb hby d4_80) rfl k) ?_
          refine Go.on (fun _ k => XS.aloadN X113.here hx rfl (hb hby d4_82) rfl rfl k) ?_
          show Go _ _ _ _ _ _ _ _ (mkF m 83 #[Sr a0, Sd d1, .second, .val (.double (FP.dsub d1 wn)), .second, Si 3] [(.ref a0), (.int 3)])
          obtain ⟨T134, X134, e134, st134⟩ := getF X113 hx hZ hown (host := "") (Or.inl (hw _ (List.mem_of_getElem? (i := 30) rfl))) Via.refl e113 F_first_a0 (g := (mkF m 83 #[Sr a0, Sd d1, .second, .val (.double (FP.dsub d1 wn)), .second, Si 3] [(.ref a0), (.int 3)])) rfl rfl (hb hby d4_83)
          refine Go.on st134 ?_
          show Go _ _ _ _ _ _ _ _ (mkF m 86 #[Sr a0, Sd d1, .second, .val (.double (FP.dsub d1 wn)), .second, Si 3] [(.int 0), (.int 3)])
          refine Go.on (fun _ k => XS.isub X134.here hx rfl (hb hby d4_86) rfl k) ?_
          refine Go.on (fun _ k => XS.i2dS X134.here hx rfl (hb hby d4_87) rfl rfl k) ?_
          refine Go.on (fun _ k => XS.aloadN X134.here hx rfl (hb hby d4_88) rfl rfl k) ?_
          show Go _ _ _ _ _ _ _ _ (mkF m 89 #[Sr a0, Sd d1, .second, .val (.double (FP.dsub d1 wn)), .second, Si 3] [(.ref a0), (.double (FP.i2d (3 : Int32)))])
          obtain ⟨T135, X135, e135, st135⟩ := getF X134 hx hZ hown (host := "") (Or.inl (hw _ (List.mem_of_getElem? (i := 16) rfl))) Via.refl e134 F_window_a0 (g := (mkF m 89 #[Sr a0, Sd d1, .second, .val (.double (FP.dsub d1 wn)), .second, Si 3] [(.ref a0), (.double (FP.i2d (3 : Int32)))])) rfl rfl (hb hby d4_89)
          refine Go.on st135 ?_
          show Go _ _ _ _ _ _ _ _ (mkF m 92 #[Sr a0, Sd d1, .second, .val (.double (FP.dsub d1 wn)), .second, Si 3] [(.double wn), (.double (FP.i2d (3 : Int32)))])
          refine Go.on (fun _ k => XS.ddivS X135.here hx rfl (hb hby d4_92) rfl ((own_rt _ hwn hw1 bw)) rfl k) ?_
          show Go _ _ _ _ _ _ _ _ (mkF m 93 #[Sr a0, Sd d1, .second, .val (.double (FP.dsub d1 wn)), .second, Si 3] [(.double (FP.ddiv (FP.i2d (3 : Int32)) wn))])
          refine Go.retV X135 hx Bd.returns rfl (Or.inr (Or.inr (Or.inl ⟨rfl, rfl, _, rfl⟩))) (hb hby d4_93) ?_ (by rw [hK1]; decide) (by rw [hK2]; decide)
          rw [e135, ← hQQ]
          have q_hc104 : nw.toInt - jw.toInt < t0.toInt := (own_cg zt0 zl).mp hc104
          have q_hc110 : nw.toInt < t3.toInt := (own_cl zt3 zn).mp hc110
          have q_hc115 : ¬ (nw.toInt < t2.toInt) := fun q => hc115 ((own_cl zt2 zn).mpr q)
          have i0_ : inV t0 nw jw = 1 := own_in1 bn bw (by omega) (by omega)
          have i1_ : inV t1 nw jw = 1 := own_in1 bn bw (by omega) (by omega)
          have i2_ : inV t2 nw jw = 1 := own_in1 bn bw (by omega) (by omega)
          have i3_ : inV t3 nw jw = 0 := own_in0 bn bw (Or.inr (by omega))
          have hC : ((((inV t0 nw jw) + (inV t1 nw jw)) + (inV t2 nw jw)) + (inV t3 nw jw)) = (3 : Int32) := by rw [i0_, i1_, i2_, i3_] <;> decide
          unfold Q_rw_rate_4
          rw [hC]
          exact ⟨_, rfl, N97, KP, E_a0, F_times_a0, F_latest_a0, F_window_a0, F_first_a0, F_end_a0, (Or.inl rfl), (fun q => absurd q (by decide)), (fun q => absurd q (by decide)), (fun q => absurd q (by decide)), (fun q => absurd q (by decide))⟩
      · -- pc 71 no
        refine Go.on (fun _ k => XS.ifYes X108.here hx rfl (pc0 := 71) (pc' := 80) rfl (hb hby d4_71) rfl ((if0 _ _).trans (flt hc110).2.2.2) (by decide) (by decide) k) ?_
        show Go _ _ _ _ _ _ _ _ (mkF m 80 #[Sr a0, Sd d1, .second, .val (.double (FP.dsub d1 wn)), .second, Si 4] [])
        refine Go.on (fun _ k => XS.iload X108.here hx rfl (hb hby d4_80) rfl k) ?_
        refine Go.on (fun _ k => XS.aloadN X108.here hx rfl (hb hby d4_82) rfl rfl k) ?_
        show Go _ _ _ _ _ _ _ _ (mkF m 83 #[Sr a0, Sd d1, .second, .val (.double (FP.dsub d1 wn)), .second, Si 4] [(.ref a0), (.int 4)])
        obtain ⟨T136, X136, e136, st136⟩ := getF X108 hx hZ hown (host := "") (Or.inl (hw _ (List.mem_of_getElem? (i := 30) rfl))) Via.refl e108 F_first_a0 (g := (mkF m 83 #[Sr a0, Sd d1, .second, .val (.double (FP.dsub d1 wn)), .second, Si 4] [(.ref a0), (.int 4)])) rfl rfl (hb hby d4_83)
        refine Go.on st136 ?_
        show Go _ _ _ _ _ _ _ _ (mkF m 86 #[Sr a0, Sd d1, .second, .val (.double (FP.dsub d1 wn)), .second, Si 4] [(.int 0), (.int 4)])
        refine Go.on (fun _ k => XS.isub X136.here hx rfl (hb hby d4_86) rfl k) ?_
        refine Go.on (fun _ k => XS.i2dS X136.here hx rfl (hb hby d4_87) rfl rfl k) ?_
        refine Go.on (fun _ k => XS.aloadN X136.here hx rfl (hb hby d4_88) rfl rfl k) ?_
        show Go _ _ _ _ _ _ _ _ (mkF m 89 #[Sr a0, Sd d1, .second, .val (.double (FP.dsub d1 wn)), .second, Si 4] [(.ref a0), (.double (FP.i2d (4 : Int32)))])
        obtain ⟨T137, X137, e137, st137⟩ := getF X136 hx hZ hown (host := "") (Or.inl (hw _ (List.mem_of_getElem? (i := 16) rfl))) Via.refl e136 F_window_a0 (g := (mkF m 89 #[Sr a0, Sd d1, .second, .val (.double (FP.dsub d1 wn)), .second, Si 4] [(.ref a0), (.double (FP.i2d (4 : Int32)))])) rfl rfl (hb hby d4_89)
        refine Go.on st137 ?_
        show Go _ _ _ _ _ _ _ _ (mkF m 92 #[Sr a0, Sd d1, .second, .val (.double (FP.dsub d1 wn)), .second, Si 4] [(.double wn), (.double (FP.i2d (4 : Int32)))])
        refine Go.on (fun _ k => XS.ddivS X137.here hx rfl (hb hby d4_92) rfl ((own_rt _ hwn hw1 bw)) rfl k) ?_
        show Go _ _ _ _ _ _ _ _ (mkF m 93 #[Sr a0, Sd d1, .second, .val (.double (FP.dsub d1 wn)), .second, Si 4] [(.double (FP.ddiv (FP.i2d (4 : Int32)) wn))])
        refine Go.retV X137 hx Bd.returns rfl (Or.inr (Or.inr (Or.inl ⟨rfl, rfl, _, rfl⟩))) (hb hby d4_93) ?_ (by rw [hK1]; decide) (by rw [hK2]; decide)
        rw [e137, ← hQQ]
        have q_hc104 : nw.toInt - jw.toInt < t0.toInt := (own_cg zt0 zl).mp hc104
        have q_hc110 : ¬ (nw.toInt < t3.toInt) := fun q => hc110 ((own_cl zt3 zn).mpr q)
        have i0_ : inV t0 nw jw = 1 := own_in1 bn bw (by omega) (by omega)
        have i1_ : inV t1 nw jw = 1 := own_in1 bn bw (by omega) (by omega)
        have i2_ : inV t2 nw jw = 1 := own_in1 bn bw (by omega) (by omega)
        have i3_ : inV t3 nw jw = 1 := own_in1 bn bw (by omega) (by omega)
        have hC : ((((inV t0 nw jw) + (inV t1 nw jw)) + (inV t2 nw jw)) + (inV t3 nw jw)) = (4 : Int32) := by rw [i0_, i1_, i2_, i3_] <;> decide
        unfold Q_rw_rate_4
        rw [hC]
        exact ⟨_, rfl, N97, KP, E_a0, F_times_a0, F_latest_a0, F_window_a0, F_first_a0, F_end_a0, (Or.inl rfl), (fun q => absurd q (by decide)), (fun q => absurd q (by decide)), (fun q => absurd q (by decide)), (fun q => absurd q (by decide))⟩
    · -- pc 29 no
      refine Go.on (fun _ k => XS.ifNo X102.here hx rfl (hb hby d4_29) rfl ((if0 _ _).trans (flt hc104).2.2.1) k) ?_
      show Go _ _ _ _ _ _ _ _ (mkF m 32 #[Sr a0, Sd d1, .second, .val (.double (FP.dsub d1 wn)), .second, .unset] [])
      refine Go.on (fun _ k => XS.aloadN X102.here hx rfl (hb hby d4_32) rfl rfl k) ?_
      refine Go.on (fun _ k => XS.dup X102.here hx rfl (hb hby d4_33) rfl rfl k) ?_
      show Go _ _ _ _ _ _ _ _ (mkF m 34 #[Sr a0, Sd d1, .second, .val (.double (FP.dsub d1 wn)), .second, .unset] [(.ref a0), (.ref a0)])
      obtain ⟨T138, X138, e138, st138⟩ := getF X102 hx hZ hown (host := "") (Or.inl (hw _ (List.mem_of_getElem? (i := 30) rfl))) Via.refl e102 F_first_a0 (g := (mkF m 34 #[Sr a0, Sd d1, .second, .val (.double (FP.dsub d1 wn)), .second, .unset] [(.ref a0), (.ref a0)])) rfl rfl (hb hby d4_34)
      refine Go.on st138 ?_
      show Go _ _ _ _ _ _ _ _ (mkF m 37 #[Sr a0, Sd d1, .second, .val (.double (FP.dsub d1 wn)), .second, .unset] [(.int 0), (.ref a0)])
      refine Go.on (fun _ k => XS.iconst X138.here hx rfl (hb hby d4_37) k) ?_
      refine Go.on (fun _ k => XS.iadd X138.here hx rfl (hb hby d4_38) rfl k) ?_
      show Go _ _ _ _ _ _ _ _ (mkF m 39 #[Sr a0, Sd d1, .second, .val (.double (FP.dsub d1 wn)), .second, .unset] [(.int 1), (.ref a0)])
      obtain ⟨T139, h139, X139, e139, W139, st139⟩ := putF X138 hx hZ hown (host := "") (Or.inl (hw _ (List.mem_of_getElem? (i := 30) rfl))) Via.refl e138 F_first_a0 E_a0 (Or.inl (hw _ (List.mem_of_getElem? (i := 31) rfl))) (hw _ (List.mem_of_getElem? (i := 1) rfl)) (ty := .int) (by decide) rfl rfl (g := (mkF m 39 #[Sr a0, Sd d1, .second, .val (.double (FP.dsub d1 wn)), .second, .unset] [(.int 1), (.ref a0)])) rfl rfl (hb hby d4_39)
      refine Go.on st139 ?_
      replace F_first_a0 := F_first_a0.same W139
      replace E_a0 := E_a0.wr W139
      replace F_times_a0 := F_times_a0.other W139 (Or.inr (slot_ne (Or.inl (hw _ (List.mem_of_getElem? (i := 11) rfl))) (Or.inl (hw _ (List.mem_of_getElem? (i := 31) rfl))) (by decide) (t := (.array .double)) (t' := .int) (by decide) (by decide)))
      replace F_latest_a0 := F_latest_a0.other W139 (Or.inr (slot_ne (Or.inl (hw _ (List.mem_of_getElem? (i := 14) rfl))) (Or.inl (hw _ (List.mem_of_getElem? (i := 31) rfl))) (by decide) (t := .double) (t' := .int) (by decide) (by decide)))
      replace F_window_a0 := F_window_a0.other W139 (Or.inr (slot_ne (Or.inr (hw _ (List.mem_of_getElem? (i := 17) rfl))) (Or.inl (hw _ (List.mem_of_getElem? (i := 31) rfl))) (by decide) (t := .double) (t' := .int) (by decide) (by decide)))
      replace F_end_a0 := F_end_a0.other W139 (Or.inr (slot_ne (Or.inl (hw _ (List.mem_of_getElem? (i := 24) rfl))) (Or.inl (hw _ (List.mem_of_getElem? (i := 31) rfl))) (by decide) (t := .int) (t' := .int) (by decide) (by decide)))
      replace V_as := V_as.other W139 (Ne.symm ne_a0_as)
      have N139 := Fr.snoc X139 N97 g_a0
      replace ZZ := Nat.le_trans ZZ (Keep.of_wr W139).1
      replace KP := KP.wr W139 (Or.inl (List.mem_of_getElem? (i := 0) rfl))
      show Go _ _ _ _ _ _ _ _ (mkF m 42 #[Sr a0, Sd d1, .second, .val (.double (FP.dsub d1 wn)), .second, .unset] [])
      refine Go.on (fun _ k => XS.goto X139.here hx rfl (pc0 := 42) (pc' := 7) rfl (hb hby d4_42) (by decide) (by decide) k) ?_
      show Go _ _ _ _ _ _ _ _ (mkF m 7 #[Sr a0, Sd d1, .second, .val (.double (FP.dsub d1 wn)), .second, .unset] [])
      have q_ : ¬ (nw.toInt - jw.toInt < t0.toInt) := fun q => hc104 ((own_cg zt0 zl).mpr q)
      exact hL1 _ _ _ X139 e139 N139 ZZ KP E_a0 F_times_a0 F_latest_a0 F_window_a0 F_first_a0 F_end_a0 V_as (by omega)
  refine Go.on (fun _ k => XS.dloadN X0.here hx rfl (hb hby d4_0) rfl k) ?_
  refine Go.on (fun _ k => XS.aloadN X0.here hx rfl (hb hby d4_1) rfl rfl k) ?_
  show Go _ _ _ _ _ _ _ _ (mkF m 2 #[Sr a0, Sd d1, .second, .unset, .unset, .unset] [(.ref a0), (.double d1)])
  obtain ⟨T140, X140, e140, st140⟩ := getF X0 hx hZ hown (host := "") (Or.inl (hw _ (List.mem_of_getElem? (i := 16) rfl))) Via.refl e0 F_window_a0 (g := (mkF m 2 #[Sr a0, Sd d1, .second, .unset, .unset, .unset] [(.ref a0), (.double d1)])) rfl rfl (hb hby d4_2)
  refine Go.on st140 ?_
  show Go _ _ _ _ _ _ _ _ (mkF m 5 #[Sr a0, Sd d1, .second, .unset, .unset, .unset] [(.double wn), (.double d1)])
  refine Go.on (fun _ k => XS.dsubS X140.here hx rfl (hb hby d4_5) rfl (zl.nn) rfl k) ?_
  show Go _ _ _ _ _ _ _ _ (mkF m 6 #[Sr a0, Sd d1, .second, .unset, .unset, .unset] [(.double (FP.dsub d1 wn))])
  refine Go.on (fun _ k => XS.dstoreN X140.here hx rfl (hb hby d4_6) rfl (l' := #[.val (.ref a0), .val (.double d1), .second, .val (.double (FP.dsub d1 wn)), .second, .unset]) rfl k) ?_
  show Go _ _ _ _ _ _ _ _ (mkF m 7 #[Sr a0, Sd d1, .second, .val (.double (FP.dsub d1 wn)), .second, .unset] [])
  rcases hf with hf | hf | hf | hf | hf
  · subst hf; exact hL0 _ _ _ X140 e140 N0 ZZ KP E_a0 F_times_a0 F_latest_a0 F_window_a0 F_first_a0 F_end_a0 V_as 
  · subst hf; exact hL1 _ _ _ X140 e140 N0 ZZ KP E_a0 F_times_a0 F_latest_a0 F_window_a0 F_first_a0 F_end_a0 V_as (hd0 (by decide))
  · subst hf; exact hL2 _ _ _ X140 e140 N0 ZZ KP E_a0 F_times_a0 F_latest_a0 F_window_a0 F_first_a0 F_end_a0 V_as (hd0 (by decide)) (hd1 (by decide))
  · subst hf; exact hL3 _ _ _ X140 e140 N0 ZZ KP E_a0 F_times_a0 F_latest_a0 F_window_a0 F_first_a0 F_end_a0 V_as (hd0 (by decide)) (hd1 (by decide)) (hd2 (by decide))
  · subst hf; exact hL4 _ _ _ X140 e140 N0 ZZ KP E_a0 F_times_a0 F_latest_a0 F_window_a0 F_first_a0 F_end_a0 V_as (hd0 (by decide)) (hd1 (by decide)) (hd2 (by decide)) (hd3 (by decide))
theorem d5_0 : decode method_2_code 0 = .ok (.lload_n 0, 1) := by decide +kernel
theorem d5_1 : decode method_2_code 1 = .ok (.lload_n 2, 1) := by decide +kernel
theorem d5_2 : decode method_2_code 2 = .ok (.lload 4, 2) := by decide +kernel
theorem d5_4 : decode method_2_code 4 = .ok (.lsub, 1) := by decide +kernel
theorem d5_5 : decode method_2_code 5 = .ok (.lcmp, 1) := by decide +kernel
theorem d5_6 : decode method_2_code 6 = .ok (.ifCond .le 13, 3) := by decide +kernel
theorem d5_9 : decode method_2_code 9 = .ok (.lload_n 0, 1) := by decide +kernel
theorem d5_10 : decode method_2_code 10 = .ok (.lload_n 2, 1) := by decide +kernel
theorem d5_11 : decode method_2_code 11 = .ok (.lcmp, 1) := by decide +kernel
theorem d5_12 : decode method_2_code 12 = .ok (.ifCond .gt 7, 3) := by decide +kernel
theorem d5_15 : decode method_2_code 15 = .ok (.iconst 1, 1) := by decide +kernel
theorem d5_16 : decode method_2_code 16 = .ok (.goto 4, 3) := by decide +kernel
theorem d5_19 : decode method_2_code 19 = .ok (.iconst 0, 1) := by decide +kernel
theorem d5_20 : decode method_2_code 20 = .ok (.ireturn, 1) := by decide +kernel
theorem pn_1 : plainName "com/example/deliberate_scaler/deliberatescaler/model/RateWindowRatePinLaw" = true := by first | (simp [plainName, overriddenIn]; done) | decide +kernel
theorem ef_rm5 (m : MethodId) (j0 : Int64) (j1 : Int64) (j2 : Int64) : entryFrame m #[(.long j0), (.long j1), (.long j2)] 6 = mkF m 0 #[.val (.long j0), .second, .val (.long j1), .second, .val (.long j2), .second] [] := by first | (simp [entryFrame, mkF, argsToLocals, Value.category]; done) | rfl
def Q_rm5 (Z : State) (j0 : Int64) (j1 : Int64) (j2 : Int64) (h0 : Heap) (n0 : Nat) (v : Option Value) (h : Heap) (L : List Loc) : Prop := v = some (.int (inV j0 j1 j2)) ∧ Fr n0 L ∧ h = h0
set_option maxRecDepth 65536 in
set_option maxHeartbeats 40000000 in
theorem rm5 (l : Launch) (Z : State) (aw : Array Value) (hw : ∀ d ∈ tables_1, d.before aw Z = true) (ws : List Jvm.Cond) (j0 : Int64) (j1 : Int64) (j2 : Int64) (h0 : Heap) (n0 : Nat) (Z0 : n0 ≤ h0.size) :
    MetFree l (⟨"com/example/deliberate_scaler/deliberatescaler/model/RateWindowRatePinLaw", "in", "(JJJ)I"⟩ : MethodName) (head1 (Jvm.Cond.code (⟨"com/example/deliberate_scaler/deliberatescaler/model/RateWindowRatePinLaw", "in", "(JJJ)I"⟩ : MethodName) method_2_code 6 (some .int) :: ws) ({ frames := 0, cells := 0, slots := 0, locals := 0 } : Room)) (fun a U => a = #[(.long j0), (.long j1), (.long j2)] ∧ Z.Warmed39 U.vm ∧ U.heap = h0) (fun _ _ _ _ _ => True) (fun _ U o U' => ∃ v L, o = .returned v ∧ Q_rm5 Z j0 j1 j2 h0 n0 v U'.heap L ∧ FrameEnd U o U' L ({ frames := 0, cells := 0, slots := 0, locals := 0 } : Room).cells ({ frames := 0, cells := 0, slots := 0, locals := 0 } : Room).slots) := by
  refine MetFree.of_bodySF (plainFor_of_name pn_1) hisR ?_
  intro p e s m args below meth c s₁ Bd hml0 hP hK
  obtain ⟨rfl, hZ, hh⟩ := hP
  have hx := Bd.exec
  have hby := Bd.bytes
  have hml : c.maxLocals = 6 := hml0
  have hown : s.vm.findClass "com/example/deliberate_scaler/deliberatescaler/model/RateWindowRatePinLaw" = some m.cls := findClass_of_methodNamed Bd.named
  have hnm := (name_of_methodNamed Bd.named Bd.method).1
  have hlk : meth.locks = false := BodyLoose.notSynchronized Bd
  have X0 : Stand p l e ({ frames := 0, cells := 0, slots := 0, locals := 0 } : Room) s m #[(.long j0), (.long j1), (.long j2)] below meth c s₁ [] 0 0 := Stand.of_body Bd
  have e0 : s₁.heap = h0 := by rw [← hh, Bd.state]; rfl
  have N0 := Fr.nil n0
  have ZZ := Z0
  show Go p e below s ({ frames := 0, cells := 0, slots := 0, locals := 0 } : Room).cells ({ frames := 0, cells := 0, slots := 0, locals := 0 } : Room).slots (fun v h L => Q_rm5 Z j0 j1 j2 h0 n0 v h L) s₁ (entryFrame m #[(.long j0), (.long j1), (.long j2)] 6)
  refine Go.cast (ef_rm5 m j0 j1 j2) ?_
  refine Go.gen ?_
  intro K1 K2 QQ hK1 hK2 hQQ
  refine Go.on (fun _ k => XS.lloadN X0.here hx rfl (hb hby d5_0) rfl k) ?_
  show Go _ _ _ _ _ _ _ _ (mkF m 1 #[.val (.long j0), .second, .val (.long j1), .second, .val (.long j2), .second] [(.long j0)])
  refine Go.on (fun _ k => XS.lloadN X0.here hx rfl (hb hby d5_1) rfl k) ?_
  show Go _ _ _ _ _ _ _ _ (mkF m 2 #[.val (.long j0), .second, .val (.long j1), .second, .val (.long j2), .second] [(.long j1), (.long j0)])
  refine Go.on (fun _ k => XS.lload X0.here hx rfl (hb hby d5_2) rfl k) ?_
  show Go _ _ _ _ _ _ _ _ (mkF m 4 #[.val (.long j0), .second, .val (.long j1), .second, .val (.long j2), .second] [(.long j2), (.long j1), (.long j0)])
  refine Go.on (fun _ k => XS.lsub X0.here hx rfl (hb hby d5_4) rfl k) ?_
  show Go _ _ _ _ _ _ _ _ (mkF m 5 #[.val (.long j0), .second, .val (.long j1), .second, .val (.long j2), .second] [(.long (j1 - j2)), (.long j0)])
  refine Go.on (fun _ k => XS.lcmp X0.here hx rfl (hb hby d5_5) rfl k) ?_
  show Go _ _ _ _ _ _ _ _ (mkF m 6 #[.val (.long j0), .second, .val (.long j1), .second, .val (.long j2), .second] [(.int (lcmpW j0 (j1 - j2)))])
  suffices hJ2 : ∀ (v1 : Int32), v1 = (if (j1 - j2) < j0 then (if j1 < j0 then (0 : Int32) else (1 : Int32)) else (0 : Int32)) → Go p e below s K1 K2 QQ s₁ (mkF m 20 #[.val (.long j0), .second, .val (.long j1), .second, .val (.long j2), .second] [(.int v1)]) by
    by_cases hc3 : (j1 - j2) < j0
    · -- pc 6 yes
      refine Go.on (fun _ k => XS.ifNo X0.here hx rfl (hb hby d5_6) rfl ((if0 _ _).trans (tlt (own_lc_gt.mpr hc3)).2.2.2) k) ?_
      show Go _ _ _ _ _ _ _ _ (mkF m 9 #[.val (.long j0), .second, .val (.long j1), .second, .val (.long j2), .second] [])
      refine Go.on (fun _ k => XS.lloadN X0.here hx rfl (hb hby d5_9) rfl k) ?_
      show Go _ _ _ _ _ _ _ _ (mkF m 10 #[.val (.long j0), .second, .val (.long j1), .second, .val (.long j2), .second] [(.long j0)])
      refine Go.on (fun _ k => XS.lloadN X0.here hx rfl (hb hby d5_10) rfl k) ?_
      show Go _ _ _ _ _ _ _ _ (mkF m 11 #[.val (.long j0), .second, .val (.long j1), .second, .val (.long j2), .second] [(.long j1), (.long j0)])
      refine Go.on (fun _ k => XS.lcmp X0.here hx rfl (hb hby d5_11) rfl k) ?_
      show Go _ _ _ _ _ _ _ _ (mkF m 12 #[.val (.long j0), .second, .val (.long j1), .second, .val (.long j2), .second] [(.int (lcmpW j0 j1))])
      by_cases hc4 : j1 < j0
      · -- pc 12 yes
        refine Go.on (fun _ k => XS.ifYes X0.here hx rfl (pc0 := 12) (pc' := 19) rfl (hb hby d5_12) rfl ((if0 _ _).trans (tlt (own_lc_gt.mpr hc4)).2.2.1) (by decide) (by decide) k) ?_
        show Go _ _ _ _ _ _ _ _ (mkF m 19 #[.val (.long j0), .second, .val (.long j1), .second, .val (.long j2), .second] [])
        refine Go.on (fun _ k => XS.iconst X0.here hx rfl (hb hby d5_19) k) ?_
        show Go _ _ _ _ _ _ _ _ (mkF m 20 #[.val (.long j0), .second, .val (.long j1), .second, .val (.long j2), .second] [(.int (0 : Int32))])
        exact hJ2 _ (by rw [if_pos hc3, if_pos hc4])
      · -- pc 12 no
        refine Go.on (fun _ k => XS.ifNo X0.here hx rfl (hb hby d5_12) rfl ((if0 _ _).trans (flt (fun q => hc4 (own_lc_gt.mp q))).2.2.1) k) ?_
        show Go _ _ _ _ _ _ _ _ (mkF m 15 #[.val (.long j0), .second, .val (.long j1), .second, .val (.long j2), .second] [])
        refine Go.on (fun _ k => XS.iconst X0.here hx rfl (hb hby d5_15) k) ?_
        show Go _ _ _ _ _ _ _ _ (mkF m 16 #[.val (.long j0), .second, .val (.long j1), .second, .val (.long j2), .second] [(.int (1 : Int32))])
        refine Go.on (fun _ k => XS.goto X0.here hx rfl (pc0 := 16) (pc' := 20) rfl (hb hby d5_16) (by decide) (by decide) k) ?_
        show Go _ _ _ _ _ _ _ _ (mkF m 20 #[.val (.long j0), .second, .val (.long j1), .second, .val (.long j2), .second] [(.int (1 : Int32))])
        exact hJ2 _ (by rw [if_pos hc3, if_neg hc4])
    · -- pc 6 no
      refine Go.on (fun _ k => XS.ifYes X0.here hx rfl (pc0 := 6) (pc' := 19) rfl (hb hby d5_6) rfl ((if0 _ _).trans (flt (fun q => hc3 (own_lc_gt.mp q))).2.2.2) (by decide) (by decide) k) ?_
      show Go _ _ _ _ _ _ _ _ (mkF m 19 #[.val (.long j0), .second, .val (.long j1), .second, .val (.long j2), .second] [])
      refine Go.on (fun _ k => XS.iconst X0.here hx rfl (hb hby d5_19) k) ?_
      show Go _ _ _ _ _ _ _ _ (mkF m 20 #[.val (.long j0), .second, .val (.long j1), .second, .val (.long j2), .second] [(.int (0 : Int32))])
      exact hJ2 _ (by rw [if_neg hc3])
  intro v1 hv1
  refine Go.retV X0 hx Bd.returns rfl (Or.inl ⟨rfl, Or.inl rfl, _, rfl⟩) (hb hby d5_20) ?_ (by rw [hK1]; decide) (by rw [hK2]; decide)
  rw [e0, ← hQQ]
  refine ⟨?_, N0, rfl⟩
  unfold inV; rw [hv1]
theorem pd_0 : parseMethodDescriptor "(D)V" = some ⟨[.double], none⟩ := by decide +kernel
theorem pd_1 : parseMethodDescriptor "(D)D" = some ⟨[.double], some .double⟩ := by decide +kernel
theorem pd_2 : parseMethodDescriptor "(JJJ)I" = some ⟨[.long, .long, .long], some .int⟩ := by decide +kernel
theorem ef_rm0 (m : MethodId) (i0 : Int32) (i1 : Int32) (i2 : Int32) (i3 : Int32) (i4 : Int32) : entryFrame m #[(.int i0), (.int i1), (.int i2), (.int i3), (.int i4)] maxLocals = mkF m 0 #[.val (.int i0), .val (.int i1), .val (.int i2), .val (.int i3), .val (.int i4), .unset, .unset, .unset, .unset, .unset, .unset, .unset, .unset, .unset, .unset, .unset, .unset, .unset, .unset, .unset, .unset, .unset, .unset, .unset, .unset, .unset, .unset, .unset, .unset, .unset] [] := by first | (simp [entryFrame, mkF, argsToLocals, Value.category, maxLocals]; done) | rfl
def Q_rm0 (Z : State) (i0 : Int32) (i1 : Int32) (i2 : Int32) (i3 : Int32) (i4 : Int32) (h0 : Heap) (n0 : Nat) (v : Option Value) (h : Heap) (L : List Loc) : Prop := v = some (.int 1) ∧ Fr n0 L
set_option maxRecDepth 65536 in
set_option maxHeartbeats 40000000 in
theorem rm0 (l : Launch) (Z : State) (aw : Array Value) (hw : ∀ d ∈ tables_1, d.before aw Z = true) (ws : List Jvm.Cond) (i0 : Int32) (i1 : Int32) (i2 : Int32) (i3 : Int32) (i4 : Int32) (h0 : Heap) (n0 : Nat) (Z0 : n0 ≤ h0.size) :
    MetFree l x (head1 (Jvm.Cond.code x code maxLocals ret :: ws) room_1) (fun a U => a = #[(.int i0), (.int i1), (.int i2), (.int i3), (.int i4)] ∧ Z.Warmed39 U.vm ∧ U.heap = h0) (fun _ _ _ _ _ => True) (fun _ U o U' => ∃ v L, o = .returned v ∧ Q_rm0 Z i0 i1 i2 i3 i4 h0 n0 v U'.heap L ∧ FrameEnd U o U' L 2 69) := by
  refine MetFree.of_bodySF (plainFor_of_name pn_1) hisR ?_
  intro p e s m args below meth c s₁ Bd hml0 hP hK
  obtain ⟨rfl, hZ, hh⟩ := hP
  have hx := Bd.exec
  have hby := Bd.bytes
  have hml : c.maxLocals = 30 := hml0
  have hown : s.vm.findClass "com/example/deliberate_scaler/deliberatescaler/model/RateWindowRatePinLaw" = some m.cls := findClass_of_methodNamed Bd.named
  have hnm := (name_of_methodNamed Bd.named Bd.method).1
  have hlk : meth.locks = false := BodyLoose.notSynchronized Bd
  have X0 : Stand p l e room_1 s m #[(.int i0), (.int i1), (.int i2), (.int i3), (.int i4)] below meth c s₁ [] 0 0 := Stand.of_body Bd
  have e0 : s₁.heap = h0 := by rw [← hh, Bd.state]; rfl
  have N0 := Fr.nil n0
  have ZZ := Z0
  show Go p e below s 2 69 (fun v h L => Q_rm0 Z i0 i1 i2 i3 i4 h0 n0 v h L) s₁ (entryFrame m #[(.int i0), (.int i1), (.int i2), (.int i3), (.int i4)] maxLocals)
  refine Go.cast (ef_rm0 m i0 i1 i2 i3 i4) ?_
  refine Go.gen ?_
  intro K1 K2 QQ hK1 hK2 hQQ
  refine Go.on (fun _ k => XS.iconst X0.here hx rfl (hb hby at_0) k) ?_
  refine Go.on (fun _ k => XS.iloadN X0.here hx rfl (hb hby at_1) rfl k) ?_
  refine Go.on (fun _ k => XS.bipush X0.here hx rfl (hb hby at_2) k) ?_
  refine Go.on (fun _ k => XS.iand X0.here hx rfl (hb hby at_4) rfl k) ?_
  refine Go.on (fun _ k => XS.iadd X0.here hx rfl (hb hby at_5) rfl k) ?_
  refine Go.on (fun _ k => XS.i2l X0.here hx rfl (hb hby at_6) rfl k) ?_
  show Go _ _ _ _ _ _ _ _ (mkF m 7 #[Si i0, Si i1, Si i2, Si i3, Si i4, .unset, .unset, .unset, .unset, .unset, .unset, .unset, .unset, .unset, .unset, .unset, .unset, .unset, .unset, .unset, .unset, .unset, .unset, .unset, .unset, .unset, .unset, .unset, .unset, .unset] [(.long (((1 : Int32) + (i0 &&& (15 : Int32))).toInt64))])
  refine Go.on (fun _ k => XS.lstore X0.here hx rfl (hb hby at_7) rfl (l' := #[.val (.int i0), .val (.int i1), .val (.int i2), .val (.int i3), .val (.int i4), .val (.long (((1 : Int32) + (i0 &&& (15 : Int32))).toInt64)), .second, .unset, .unset, .unset, .unset, .unset, .unset, .unset, .unset, .unset, .unset, .unset, .unset, .unset, .unset, .unset, .unset, .unset, .unset, .unset, .unset, .unset, .unset, .unset]) rfl k) ?_
  show Go _ _ _ _ _ _ _ _ (mkF m 9 #[Si i0, Si i1, Si i2, Si i3, Si i4, .val (.long (((1 : Int32) + (i0 &&& (15 : Int32))).toInt64)), .second, .unset, .unset, .unset, .unset, .unset, .unset, .unset, .unset, .unset, .unset, .unset, .unset, .unset, .unset, .unset, .unset, .unset, .unset, .unset, .unset, .unset, .unset, .unset] [])
  generalize hjw : (((1 : Int32) + (i0 &&& (15 : Int32))).toInt64) = jw
  show Go _ _ _ _ _ _ _ _ (mkF m 9 #[Si i0, Si i1, Si i2, Si i3, Si i4, Sj jw, .second, .unset, .unset, .unset, .unset, .unset, .unset, .unset, .unset, .unset, .unset, .unset, .unset, .unset, .unset, .unset, .unset, .unset, .unset, .unset, .unset, .unset, .unset, .unset] [])
  refine Go.on (fun _ k => XS.iloadN X0.here hx rfl (hb hby at_9) rfl k) ?_
  refine Go.on (fun _ k => XS.iconst X0.here hx rfl (hb hby at_10) k) ?_
  refine Go.on (fun _ k => XS.iand X0.here hx rfl (hb hby at_11) rfl k) ?_
  show Go _ _ _ _ _ _ _ _ (mkF m 12 #[Si i0, Si i1, Si i2, Si i3, Si i4, Sj jw, .second, .unset, .unset, .unset, .unset, .unset, .unset, .unset, .unset, .unset, .unset, .unset, .unset, .unset, .unset, .unset, .unset, .unset, .unset, .unset, .unset, .unset, .unset, .unset] [(.int (i3 &&& (3 : Int32)))])
  refine Go.on (fun _ k => XS.istore X0.here hx rfl (hb hby at_12) rfl (l' := #[.val (.int i0), .val (.int i1), .val (.int i2), .val (.int i3), .val (.int i4), .val (.long jw), .second, .val (.int (i3 &&& (3 : Int32))), .unset, .unset, .unset, .unset, .unset, .unset, .unset, .unset, .unset, .unset, .unset, .unset, .unset, .unset, .unset, .unset, .unset, .unset, .unset, .unset, .unset, .unset]) rfl k) ?_
  show Go _ _ _ _ _ _ _ _ (mkF m 14 #[Si i0, Si i1, Si i2, Si i3, Si i4, Sj jw, .second, .val (.int (i3 &&& (3 : Int32))), .unset, .unset, .unset, .unset, .unset, .unset, .unset, .unset, .unset, .unset, .unset, .unset, .unset, .unset, .unset, .unset, .unset, .unset, .unset, .unset, .unset, .unset] [])
  generalize hnn : (i3 &&& (3 : Int32)) = nn
  show Go _ _ _ _ _ _ _ _ (mkF m 14 #[Si i0, Si i1, Si i2, Si i3, Si i4, Sj jw, .second, Si nn, .unset, .unset, .unset, .unset, .unset, .unset, .unset, .unset, .unset, .unset, .unset, .unset, .unset, .unset, .unset, .unset, .unset, .unset, .unset, .unset, .unset, .unset] [])
  refine Go.on (fun _ k => XS.iloadN X0.here hx rfl (hb hby at_14) rfl k) ?_
  refine Go.on (fun _ k => XS.iconst X0.here hx rfl (hb hby at_15) k) ?_
  refine Go.on (fun _ k => XS.iushr X0.here hx rfl (hb hby at_16) rfl k) ?_
  refine Go.on (fun _ k => XS.iconst X0.here hx rfl (hb hby at_17) k) ?_
  refine Go.on (fun _ k => XS.iand X0.here hx rfl (hb hby at_18) rfl k) ?_
  show Go _ _ _ _ _ _ _ _ (mkF m 19 #[Si i0, Si i1, Si i2, Si i3, Si i4, Sj jw, .second, Si nn, .unset, .unset, .unset, .unset, .unset, .unset, .unset, .unset, .unset, .unset, .unset, .unset, .unset, .unset, .unset, .unset, .unset, .unset, .unset, .unset, .unset, .unset] [(.int (((i3.toUInt32 >>> ((2 : Int32) &&& 31).toUInt32).toInt32) &&& (1 : Int32)))])
  suffices hJ1 : ∀ (la : Int32), la = (if (((i3.toUInt32 >>> ((2 : Int32) &&& 31).toUInt32).toInt32) &&& (1 : Int32)) = (0 : Int32) then (0 : Int32) else (1 : Int32)) → Go p e below s K1 K2 QQ s₁ (mkF m 27 #[Si i0, Si i1, Si i2, Si i3, Si i4, Sj jw, .second, Si nn, .unset, .unset, .unset, .unset, .unset, .unset, .unset, .unset, .unset, .unset, .unset, .unset, .unset, .unset, .unset, .unset, .unset, .unset, .unset, .unset, .unset, .unset] [(.int la)]) by
    by_cases hc2 : (((i3.toUInt32 >>> ((2 : Int32) &&& 31).toUInt32).toInt32) &&& (1 : Int32)) = (0 : Int32)
    · -- pc 19 yes
      refine Go.on (fun _ k => XS.ifYes X0.here hx rfl (pc0 := 19) (pc' := 26) rfl (hb hby at_19) rfl ((if0 _ _).trans (teq hc2).1) (by decide) (by decide) k) ?_
      show Go _ _ _ _ _ _ _ _ (mkF m 26 #[Si i0, Si i1, Si i2, Si i3, Si i4, Sj jw, .second, Si nn, .unset, .unset, .unset, .unset, .unset, .unset, .unset, .unset, .unset, .unset, .unset, .unset, .unset, .unset, .unset, .unset, .unset, .unset, .unset, .unset, .unset, .unset] [])
      refine Go.on (fun _ k => XS.iconst X0.here hx rfl (hb hby at_26) k) ?_
      show Go _ _ _ _ _ _ _ _ (mkF m 27 #[Si i0, Si i1, Si i2, Si i3, Si i4, Sj jw, .second, Si nn, .unset, .unset, .unset, .unset, .unset, .unset, .unset, .unset, .unset, .unset, .unset, .unset, .unset, .unset, .unset, .unset, .unset, .unset, .unset, .unset, .unset, .unset] [(.int 0)])
      exact hJ1 _ (by rw [if_pos hc2])
    · -- pc 19 no
      refine Go.on (fun _ k => XS.ifNo X0.here hx rfl (hb hby at_19) rfl ((if0 _ _).trans (feq hc2).1) k) ?_
      show Go _ _ _ _ _ _ _ _ (mkF m 22 #[Si i0, Si i1, Si i2, Si i3, Si i4, Sj jw, .second, Si nn, .unset, .unset, .unset, .unset, .unset, .unset, .unset, .unset, .unset, .unset, .unset, .unset, .unset, .unset, .unset, .unset, .unset, .unset, .unset, .unset, .unset, .unset] [])
      refine Go.on (fun _ k => XS.iconst X0.here hx rfl (hb hby at_22) k) ?_
      show Go _ _ _ _ _ _ _ _ (mkF m 23 #[Si i0, Si i1, Si i2, Si i3, Si i4, Sj jw, .second, Si nn, .unset, .unset, .unset, .unset, .unset, .unset, .unset, .unset, .unset, .unset, .unset, .unset, .unset, .unset, .unset, .unset, .unset, .unset, .unset, .unset, .unset, .unset] [(.int 1)])
      refine Go.on (fun _ k => XS.goto X0.here hx rfl (pc0 := 23) (pc' := 27) rfl (hb hby at_23) (by decide) (by decide) k) ?_
      show Go _ _ _ _ _ _ _ _ (mkF m 27 #[Si i0, Si i1, Si i2, Si i3, Si i4, Sj jw, .second, Si nn, .unset, .unset, .unset, .unset, .unset, .unset, .unset, .unset, .unset, .unset, .unset, .unset, .unset, .unset, .unset, .unset, .unset, .unset, .unset, .unset, .unset, .unset] [(.int 1)])
      exact hJ1 _ (by rw [if_neg hc2])
  intro la hla
  refine Go.on (fun _ k => XS.istore X0.here hx rfl (hb hby at_27) rfl (l' := #[.val (.int i0), .val (.int i1), .val (.int i2), .val (.int i3), .val (.int i4), .val (.long jw), .second, .val (.int nn), .val (.int la), .unset, .unset, .unset, .unset, .unset, .unset, .unset, .unset, .unset, .unset, .unset, .unset, .unset, .unset, .unset, .unset, .unset, .unset, .unset, .unset, .unset]) rfl k) ?_
  show Go _ _ _ _ _ _ _ _ (mkF m 29 #[Si i0, Si i1, Si i2, Si i3, Si i4, Sj jw, .second, Si nn, Si la, .unset, .unset, .unset, .unset, .unset, .unset, .unset, .unset, .unset, .unset, .unset, .unset, .unset, .unset, .unset, .unset, .unset, .unset, .unset, .unset, .unset] [])
  refine Go.on (fun _ k => XS.iloadN X0.here hx rfl (hb hby at_29) rfl k) ?_
  refine Go.on (fun _ k => XS.i2l X0.here hx rfl (hb hby at_30) rfl k) ?_
  show Go _ _ _ _ _ _ _ _ (mkF m 31 #[Si i0, Si i1, Si i2, Si i3, Si i4, Sj jw, .second, Si nn, Si la, .unset, .unset, .unset, .unset, .unset, .unset, .unset, .unset, .unset, .unset, .unset, .unset, .unset, .unset, .unset, .unset, .unset, .unset, .unset, .unset, .unset] [(.long (i1.toInt64))])
  refine Go.on (fun _ k => XS.lstore X0.here hx rfl (hb hby at_31) rfl (l' := #[.val (.int i0), .val (.int i1), .val (.int i2), .val (.int i3), .val (.int i4), .val (.long jw), .second, .val (.int nn), .val (.int la), .val (.long (i1.toInt64)), .second, .unset, .unset, .unset, .unset, .unset, .unset, .unset, .unset, .unset, .unset, .unset, .unset, .unset, .unset, .unset, .unset, .unset, .unset, .unset]) rfl k) ?_
  show Go _ _ _ _ _ _ _ _ (mkF m 33 #[Si i0, Si i1, Si i2, Si i3, Si i4, Sj jw, .second, Si nn, Si la, .val (.long (i1.toInt64)), .second, .unset, .unset, .unset, .unset, .unset, .unset, .unset, .unset, .unset, .unset, .unset, .unset, .unset, .unset, .unset, .unset, .unset, .unset, .unset] [])
  generalize hja : (i1.toInt64) = ja
  show Go _ _ _ _ _ _ _ _ (mkF m 33 #[Si i0, Si i1, Si i2, Si i3, Si i4, Sj jw, .second, Si nn, Si la, Sj ja, .second, .unset, .unset, .unset, .unset, .unset, .unset, .unset, .unset, .unset, .unset, .unset, .unset, .unset, .unset, .unset, .unset, .unset, .unset, .unset] [])
  refine Go.on (fun _ k => XS.lload X0.here hx rfl (hb hby at_33) rfl k) ?_
  refine Go.on (fun _ k => XS.iloadN X0.here hx rfl (hb hby at_35) rfl k) ?_
  refine Go.on (fun _ k => XS.bipush X0.here hx rfl (hb hby at_36) k) ?_
  refine Go.on (fun _ k => XS.iand X0.here hx rfl (hb hby at_38) rfl k) ?_
  refine Go.on (fun _ k => XS.i2l X0.here hx rfl (hb hby at_39) rfl k) ?_
  refine Go.on (fun _ k => XS.ladd X0.here hx rfl (hb hby at_40) rfl k) ?_
  show Go _ _ _ _ _ _ _ _ (mkF m 41 #[Si i0, Si i1, Si i2, Si i3, Si i4, Sj jw, .second, Si nn, Si la, Sj ja, .second, .unset, .unset, .unset, .unset, .unset, .unset, .unset, .unset, .unset, .unset, .unset, .unset, .unset, .unset, .unset, .unset, .unset, .unset, .unset] [(.long (ja + ((i2 &&& (7 : Int32)).toInt64)))])
  refine Go.on (fun _ k => XS.lstore X0.here hx rfl (hb hby at_41) rfl (l' := #[.val (.int i0), .val (.int i1), .val (.int i2), .val (.int i3), .val (.int i4), .val (.long jw), .second, .val (.int nn), .val (.int la), .val (.long ja), .second, .val (.long (ja + ((i2 &&& (7 : Int32)).toInt64))), .second, .unset, .unset, .unset, .unset, .unset, .unset, .unset, .unset, .unset, .unset, .unset, .unset, .unset, .unset, .unset, .unset, .unset]) rfl k) ?_
  show Go _ _ _ _ _ _ _ _ (mkF m 43 #[Si i0, Si i1, Si i2, Si i3, Si i4, Sj jw, .second, Si nn, Si la, Sj ja, .second, .val (.long (ja + ((i2 &&& (7 : Int32)).toInt64))), .second, .unset, .unset, .unset, .unset, .unset, .unset, .unset, .unset, .unset, .unset, .unset, .unset, .unset, .unset, .unset, .unset, .unset] [])
  generalize hjb : (ja + ((i2 &&& (7 : Int32)).toInt64)) = jb
  show Go _ _ _ _ _ _ _ _ (mkF m 43 #[Si i0, Si i1, Si i2, Si i3, Si i4, Sj jw, .second, Si nn, Si la, Sj ja, .second, Sj jb, .second, .unset, .unset, .unset, .unset, .unset, .unset, .unset, .unset, .unset, .unset, .unset, .unset, .unset, .unset, .unset, .unset, .unset] [])
  refine Go.on (fun _ k => XS.lload X0.here hx rfl (hb hby at_43) rfl k) ?_
  refine Go.on (fun _ k => XS.iloadN X0.here hx rfl (hb hby at_45) rfl k) ?_
  refine Go.on (fun _ k => XS.iconst X0.here hx rfl (hb hby at_46) k) ?_
  refine Go.on (fun _ k => XS.iushr X0.here hx rfl (hb hby at_47) rfl k) ?_
  refine Go.on (fun _ k => XS.bipush X0.here hx rfl (hb hby at_48) k) ?_
  refine Go.on (fun _ k => XS.iand X0.here hx rfl (hb hby at_50) rfl k) ?_
  refine Go.on (fun _ k => XS.i2l X0.here hx rfl (hb hby at_51) rfl k) ?_
  show Go _ _ _ _ _ _ _ _ (mkF m 52 #[Si i0, Si i1, Si i2, Si i3, Si i4, Sj jw, .second, Si nn, Si la, Sj ja, .second, Sj jb, .second, .unset, .unset, .unset, .unset, .unset, .unset, .unset, .unset, .unset, .unset, .unset, .unset, .unset, .unset, .unset, .unset, .unset] [(.long ((((i2.toUInt32 >>> ((3 : Int32) &&& 31).toUInt32).toInt32) &&& (7 : Int32)).toInt64)), (.long jb)])
  refine Go.on (fun _ k => XS.ladd X0.here hx rfl (hb hby at_52) rfl k) ?_
  show Go _ _ _ _ _ _ _ _ (mkF m 53 #[Si i0, Si i1, Si i2, Si i3, Si i4, Sj jw, .second, Si nn, Si la, Sj ja, .second, Sj jb, .second, .unset, .unset, .unset, .unset, .unset, .unset, .unset, .unset, .unset, .unset, .unset, .unset, .unset, .unset, .unset, .unset, .unset] [(.long (jb + ((((i2.toUInt32 >>> ((3 : Int32) &&& 31).toUInt32).toInt32) &&& (7 : Int32)).toInt64)))])
  refine Go.on (fun _ k => XS.lstore X0.here hx rfl (hb hby at_53) rfl (l' := #[.val (.int i0), .val (.int i1), .val (.int i2), .val (.int i3), .val (.int i4), .val (.long jw), .second, .val (.int nn), .val (.int la), .val (.long ja), .second, .val (.long jb), .second, .val (.long (jb + ((((i2.toUInt32 >>> ((3 : Int32) &&& 31).toUInt32).toInt32) &&& (7 : Int32)).toInt64))), .second, .unset, .unset, .unset, .unset, .unset, .unset, .unset, .unset, .unset, .unset, .unset, .unset, .unset, .unset, .unset]) rfl k) ?_
  show Go _ _ _ _ _ _ _ _ (mkF m 55 #[Si i0, Si i1, Si i2, Si i3, Si i4, Sj jw, .second, Si nn, Si la, Sj ja, .second, Sj jb, .second, .val (.long (jb + ((((i2.toUInt32 >>> ((3 : Int32) &&& 31).toUInt32).toInt32) &&& (7 : Int32)).toInt64))), .second, .unset, .unset, .unset, .unset, .unset, .unset, .unset, .unset, .unset, .unset, .unset, .unset, .unset, .unset, .unset] [])
  generalize hjc : (jb + ((((i2.toUInt32 >>> ((3 : Int32) &&& 31).toUInt32).toInt32) &&& (7 : Int32)).toInt64)) = jc
  show Go _ _ _ _ _ _ _ _ (mkF m 55 #[Si i0, Si i1, Si i2, Si i3, Si i4, Sj jw, .second, Si nn, Si la, Sj ja, .second, Sj jb, .second, Sj jc, .second, .unset, .unset, .unset, .unset, .unset, .unset, .unset, .unset, .unset, .unset, .unset, .unset, .unset, .unset, .unset] [])
  refine Go.on (fun _ k => XS.lload X0.here hx rfl (hb hby at_55) rfl k) ?_
  refine Go.on (fun _ k => XS.iloadN X0.here hx rfl (hb hby at_57) rfl k) ?_
  refine Go.on (fun _ k => XS.bipush X0.here hx rfl (hb hby at_58) k) ?_
  refine Go.on (fun _ k => XS.iushr X0.here hx rfl (hb hby at_60) rfl k) ?_
  refine Go.on (fun _ k => XS.bipush X0.here hx rfl (hb hby at_61) k) ?_
  refine Go.on (fun _ k => XS.iand X0.here hx rfl (hb hby at_63) rfl k) ?_
  refine Go.on (fun _ k => XS.i2l X0.here hx rfl (hb hby at_64) rfl k) ?_
  show Go _ _ _ _ _ _ _ _ (mkF m 65 #[Si i0, Si i1, Si i2, Si i3, Si i4, Sj jw, .second, Si nn, Si la, Sj ja, .second, Sj jb, .second, Sj jc, .second, .unset, .unset, .unset, .unset, .unset, .unset, .unset, .unset, .unset, .unset, .unset, .unset, .unset, .unset, .unset] [(.long ((((i2.toUInt32 >>> ((6 : Int32) &&& 31).toUInt32).toInt32) &&& (7 : Int32)).toInt64)), (.long jc)])
  refine Go.on (fun _ k => XS.ladd X0.here hx rfl (hb hby at_65) rfl k) ?_
  show Go _ _ _ _ _ _ _ _ (mkF m 66 #[Si i0, Si i1, Si i2, Si i3, Si i4, Sj jw, .second, Si nn, Si la, Sj ja, .second, Sj jb, .second, Sj jc, .second, .unset, .unset, .unset, .unset, .unset, .unset, .unset, .unset, .unset, .unset, .unset, .unset, .unset, .unset, .unset] [(.long (jc + ((((i2.toUInt32 >>> ((6 : Int32) &&& 31).toUInt32).toInt32) &&& (7 : Int32)).toInt64)))])
  refine Go.on (fun _ k => XS.lstore X0.here hx rfl (hb hby at_66) rfl (l' := #[.val (.int i0), .val (.int i1), .val (.int i2), .val (.int i3), .val (.int i4), .val (.long jw), .second, .val (.int nn), .val (.int la), .val (.long ja), .second, .val (.long jb), .second, .val (.long jc), .second, .val (.long (jc + ((((i2.toUInt32 >>> ((6 : Int32) &&& 31).toUInt32).toInt32) &&& (7 : Int32)).toInt64))), .second, .unset, .unset, .unset, .unset, .unset, .unset, .unset, .unset, .unset, .unset, .unset, .unset, .unset]) rfl k) ?_
  show Go _ _ _ _ _ _ _ _ (mkF m 68 #[Si i0, Si i1, Si i2, Si i3, Si i4, Sj jw, .second, Si nn, Si la, Sj ja, .second, Sj jb, .second, Sj jc, .second, .val (.long (jc + ((((i2.toUInt32 >>> ((6 : Int32) &&& 31).toUInt32).toInt32) &&& (7 : Int32)).toInt64))), .second, .unset, .unset, .unset, .unset, .unset, .unset, .unset, .unset, .unset, .unset, .unset, .unset, .unset] [])
  generalize hjd : (jc + ((((i2.toUInt32 >>> ((6 : Int32) &&& 31).toUInt32).toInt32) &&& (7 : Int32)).toInt64)) = jd
  show Go _ _ _ _ _ _ _ _ (mkF m 68 #[Si i0, Si i1, Si i2, Si i3, Si i4, Sj jw, .second, Si nn, Si la, Sj ja, .second, Sj jb, .second, Sj jc, .second, Sj jd, .second, .unset, .unset, .unset, .unset, .unset, .unset, .unset, .unset, .unset, .unset, .unset, .unset, .unset] [])
  refine Go.on (fun _ k => XS.iloadN X0.here hx rfl (hb hby at_68) rfl k) ?_
  refine Go.on (fun _ k => XS.i2l X0.here hx rfl (hb hby at_69) rfl k) ?_
  refine Go.on (fun _ k => XS.iload X0.here hx rfl (hb hby at_70) rfl k) ?_
  refine Go.on (fun _ k => XS.bipush X0.here hx rfl (hb hby at_72) k) ?_
  refine Go.on (fun _ k => XS.iand X0.here hx rfl (hb hby at_74) rfl k) ?_
  refine Go.on (fun _ k => XS.bipush X0.here hx rfl (hb hby at_75) k) ?_
  refine Go.on (fun _ k => XS.isub X0.here hx rfl (hb hby at_77) rfl k) ?_
  show Go _ _ _ _ _ _ _ _ (mkF m 78 #[Si i0, Si i1, Si i2, Si i3, Si i4, Sj jw, .second, Si nn, Si la, Sj ja, .second, Sj jb, .second, Sj jc, .second, Sj jd, .second, .unset, .unset, .unset, .unset, .unset, .unset, .unset, .unset, .unset, .unset, .unset, .unset, .unset] [(.int ((i4 &&& (31 : Int32)) - (10 : Int32))), (.long (i1.toInt64))])
  refine Go.on (fun _ k => XS.i2l X0.here hx rfl (hb hby at_78) rfl k) ?_
  refine Go.on (fun _ k => XS.ladd X0.here hx rfl (hb hby at_79) rfl k) ?_
  show Go _ _ _ _ _ _ _ _ (mkF m 80 #[Si i0, Si i1, Si i2, Si i3, Si i4, Sj jw, .second, Si nn, Si la, Sj ja, .second, Sj jb, .second, Sj jc, .second, Sj jd, .second, .unset, .unset, .unset, .unset, .unset, .unset, .unset, .unset, .unset, .unset, .unset, .unset, .unset] [(.long ((i1.toInt64) + (((i4 &&& (31 : Int32)) - (10 : Int32)).toInt64)))])
  refine Go.on (fun _ k => XS.lstore X0.here hx rfl (hb hby at_80) rfl (l' := #[.val (.int i0), .val (.int i1), .val (.int i2), .val (.int i3), .val (.int i4), .val (.long jw), .second, .val (.int nn), .val (.int la), .val (.long ja), .second, .val (.long jb), .second, .val (.long jc), .second, .val (.long jd), .second, .val (.long ((i1.toInt64) + (((i4 &&& (31 : Int32)) - (10 : Int32)).toInt64))), .second, .unset, .unset, .unset, .unset, .unset, .unset, .unset, .unset, .unset, .unset, .unset]) rfl k) ?_
  show Go _ _ _ _ _ _ _ _ (mkF m 82 #[Si i0, Si i1, Si i2, Si i3, Si i4, Sj jw, .second, Si nn, Si la, Sj ja, .second, Sj jb, .second, Sj jc, .second, Sj jd, .second, .val (.long ((i1.toInt64) + (((i4 &&& (31 : Int32)) - (10 : Int32)).toInt64))), .second, .unset, .unset, .unset, .unset, .unset, .unset, .unset, .unset, .unset, .unset, .unset] [])
  generalize hjn : ((i1.toInt64) + (((i4 &&& (31 : Int32)) - (10 : Int32)).toInt64)) = jn
  show Go _ _ _ _ _ _ _ _ (mkF m 82 #[Si i0, Si i1, Si i2, Si i3, Si i4, Sj jw, .second, Si nn, Si la, Sj ja, .second, Sj jb, .second, Sj jc, .second, Sj jd, .second, Sj jn, .second, .unset, .unset, .unset, .unset, .unset, .unset, .unset, .unset, .unset, .unset, .unset] [])
  refine Go.on (fun _ k => XS.lload X0.here hx rfl (hb hby at_82) rfl k) ?_
  refine Go.on (fun _ k => XS.iload X0.here hx rfl (hb hby at_84) rfl k) ?_
  refine Go.on (fun _ k => XS.iconst X0.here hx rfl (hb hby at_86) k) ?_
  refine Go.on (fun _ k => XS.iushr X0.here hx rfl (hb hby at_87) rfl k) ?_
  refine Go.on (fun _ k => XS.bipush X0.here hx rfl (hb hby at_88) k) ?_
  refine Go.on (fun _ k => XS.iand X0.here hx rfl (hb hby at_90) rfl k) ?_
  refine Go.on (fun _ k => XS.i2l X0.here hx rfl (hb hby at_91) rfl k) ?_
  show Go _ _ _ _ _ _ _ _ (mkF m 92 #[Si i0, Si i1, Si i2, Si i3, Si i4, Sj jw, .second, Si nn, Si la, Sj ja, .second, Sj jb, .second, Sj jc, .second, Sj jd, .second, Sj jn, .second, .unset, .unset, .unset, .unset, .unset, .unset, .unset, .unset, .unset, .unset, .unset] [(.long ((((i4.toUInt32 >>> ((5 : Int32) &&& 31).toUInt32).toInt32) &&& (15 : Int32)).toInt64)), (.long jn)])
  refine Go.on (fun _ k => XS.ladd X0.here hx rfl (hb hby at_92) rfl k) ?_
  show Go _ _ _ _ _ _ _ _ (mkF m 93 #[Si i0, Si i1, Si i2, Si i3, Si i4, Sj jw, .second, Si nn, Si la, Sj ja, .second, Sj jb, .second, Sj jc, .second, Sj jd, .second, Sj jn, .second, .unset, .unset, .unset, .unset, .unset, .unset, .unset, .unset, .unset, .unset, .unset] [(.long (jn + ((((i4.toUInt32 >>> ((5 : Int32) &&& 31).toUInt32).toInt32) &&& (15 : Int32)).toInt64)))])
  refine Go.on (fun _ k => XS.lstore X0.here hx rfl (hb hby at_93) rfl (l' := #[.val (.int i0), .val (.int i1), .val (.int i2), .val (.int i3), .val (.int i4), .val (.long jw), .second, .val (.int nn), .val (.int la), .val (.long ja), .second, .val (.long jb), .second, .val (.long jc), .second, .val (.long jd), .second, .val (.long jn), .second, .val (.long (jn + ((((i4.toUInt32 >>> ((5 : Int32) &&& 31).toUInt32).toInt32) &&& (15 : Int32)).toInt64))), .second, .unset, .unset, .unset, .unset, .unset, .unset, .unset, .unset, .unset]) rfl k) ?_
  show Go _ _ _ _ _ _ _ _ (mkF m 95 #[Si i0, Si i1, Si i2, Si i3, Si i4, Sj jw, .second, Si nn, Si la, Sj ja, .second, Sj jb, .second, Sj jc, .second, Sj jd, .second, Sj jn, .second, .val (.long (jn + ((((i4.toUInt32 >>> ((5 : Int32) &&& 31).toUInt32).toInt32) &&& (15 : Int32)).toInt64))), .second, .unset, .unset, .unset, .unset, .unset, .unset, .unset, .unset, .unset] [])
  generalize hjm : (jn + ((((i4.toUInt32 >>> ((5 : Int32) &&& 31).toUInt32).toInt32) &&& (15 : Int32)).toInt64)) = jm
  show Go _ _ _ _ _ _ _ _ (mkF m 95 #[Si i0, Si i1, Si i2, Si i3, Si i4, Sj jw, .second, Si nn, Si la, Sj ja, .second, Sj jb, .second, Sj jc, .second, Sj jd, .second, Sj jn, .second, Sj jm, .second, .unset, .unset, .unset, .unset, .unset, .unset, .unset, .unset, .unset] [])
  refine Go.on (fun _ k => XS.lload X0.here hx rfl (hb hby at_95) rfl k) ?_
  refine Go.on (fun _ k => XS.l2dS X0.here hx rfl (hb hby at_97) rfl rfl k) ?_
  show Go _ _ _ _ _ _ _ _ (mkF m 98 #[Si i0, Si i1, Si i2, Si i3, Si i4, Sj jw, .second, Si nn, Si la, Sj ja, .second, Sj jb, .second, Sj jc, .second, Sj jd, .second, Sj jn, .second, Sj jm, .second, .unset, .unset, .unset, .unset, .unset, .unset, .unset, .unset, .unset] [(.double (FP.l2d jw))])
  refine Go.on (fun _ k => XS.dstore X0.here hx rfl (hb hby at_98) rfl (l' := #[.val (.int i0), .val (.int i1), .val (.int i2), .val (.int i3), .val (.int i4), .val (.long jw), .second, .val (.int nn), .val (.int la), .val (.long ja), .second, .val (.long jb), .second, .val (.long jc), .second, .val (.long jd), .second, .val (.long jn), .second, .val (.long jm), .second, .val (.double (FP.l2d jw)), .second, .unset, .unset, .unset, .unset, .unset, .unset, .unset]) rfl k) ?_
  show Go _ _ _ _ _ _ _ _ (mkF m 100 #[Si i0, Si i1, Si i2, Si i3, Si i4, Sj jw, .second, Si nn, Si la, Sj ja, .second, Sj jb, .second, Sj jc, .second, Sj jd, .second, Sj jn, .second, Sj jm, .second, .val (.double (FP.l2d jw)), .second, .unset, .unset, .unset, .unset, .unset, .unset, .unset] [])
  generalize hwd : (FP.l2d jw) = wd
  show Go _ _ _ _ _ _ _ _ (mkF m 100 #[Si i0, Si i1, Si i2, Si i3, Si i4, Sj jw, .second, Si nn, Si la, Sj ja, .second, Sj jb, .second, Sj jc, .second, Sj jd, .second, Sj jn, .second, Sj jm, .second, Sd wd, .second, .unset, .unset, .unset, .unset, .unset, .unset, .unset] [])
  rw [hja] at hjn
  have hwj := own_w hjw
  have b0 := own_b0 hja
  have a1 := own_ad hjb (by omega)
  have a2 := own_ad hjc (by omega)
  have a3 := own_ad hjd (by omega)
  have n1 := own_nw hjn (by omega)
  have n2 := own_ad15 hjm (by omega)
  have Bjw : Tb jw := by unfold Tb; omega
  have Bja : Tb ja := by unfold Tb; omega
  have Bjb : Tb jb := by unfold Tb; omega
  have Bjc : Tb jc := by unfold Tb; omega
  have Bjd : Tb jd := by unfold Tb; omega
  have Bjn : Tb jn := by unfold Tb; omega
  have Bjm : Tb jm := by unfold Tb; omega
  rcases own_k4 hnn with hk | hk | hk | hk
  · -- 0 times
    subst hk
    rcases own_lt hla with hk | hk
    · -- late 0
      subst hk
      show Go _ _ _ _ _ _ _ _ (mkF m 100 #[Si i0, Si i1, Si i2, Si i3, Si i4, Sj jw, .second, Si 0, Si 0, Sj ja, .second, Sj jb, .second, Sj jc, .second, Sj jd, .second, Sj jn, .second, Sj jm, .second, Sd wd, .second, .unset, .unset, .unset, .unset, .unset, .unset, .unset] [])
      obtain ⟨T3, h3, X3, e3, E3, A3, D3, -, st3⟩ := newO X0 hx hZ hown (hw _ (List.mem_of_getElem? (i := 0) rfl)) (hw _ (List.mem_of_getElem? (i := 1) rfl)) (hw _ (List.mem_of_getElem? (i := 2) rfl)) e0 (g := (mkF m 100 #[Si i0, Si i1, Si i2, Si i3, Si i4, Sj jw, .second, Si 0, Si 0, Sj ja, .second, Sj jb, .second, Sj jc, .second, Sj jd, .second, Sj jn, .second, Sj jm, .second, Sd wd, .second, .unset, .unset, .unset, .unset, .unset, .unset, .unset] [])) rfl (hb hby at_100) (by decide) (by decide)
      obtain ⟨q, g3⟩ : ∃ z, z = h0.size := ⟨_, rfl⟩
      have g_q : n0 ≤ q := Nat.le_trans ZZ (Nat.le_of_eq g3.symm)
      rw [← g3] at A3 D3 st3
      replace ZZ := Nat.le_trans ZZ E3.1
      have E_q := A3
      have F_times_q : Fld Z h3 q "com/example/deliberate_scaler/deliberatescaler/model/RateWindow" "times" "[D" .null := D3 (Or.inl (hw _ (List.mem_of_getElem? (i := 11) rfl))) (ty := (.array .double)) (by decide)
      have F_latest_q : Fld Z h3 q "com/example/deliberate_scaler/deliberatescaler/model/RateWindow" "latest" "D" (.double (0 : UInt64)) := D3 (Or.inl (hw _ (List.mem_of_getElem? (i := 14) rfl))) (ty := .double) (by decide)
      have F_window_q : Fld Z h3 q "com/example/deliberate_scaler/deliberatescaler/model/RateWindow" "window" "D" (.double (0 : UInt64)) := D3 (Or.inr (hw _ (List.mem_of_getElem? (i := 17) rfl))) (ty := .double) (by decide)
      have F_end_q : Fld Z h3 q "com/example/deliberate_scaler/deliberatescaler/model/RateWindow" "end" "I" (.int (0 : Int32)) := D3 (Or.inl (hw _ (List.mem_of_getElem? (i := 24) rfl))) (ty := .int) (by decide)
      have F_first_q : Fld Z h3 q "com/example/deliberate_scaler/deliberatescaler/model/RateWindow" "first" "I" (.int (0 : Int32)) := D3 (Or.inl (hw _ (List.mem_of_getElem? (i := 31) rfl))) (ty := .int) (by decide)
      refine Go.on st3 ?_
      show Go _ _ _ _ _ _ _ _ (mkF m 103 #[Si i0, Si i1, Si i2, Si i3, Si i4, Sj jw, .second, Si 0, Si 0, Sj ja, .second, Sj jb, .second, Sj jc, .second, Sj jd, .second, Sj jn, .second, Sj jm, .second, Sd wd, .second, .unset, .unset, .unset, .unset, .unset, .unset, .unset] [(.ref q)])
      refine Go.on (fun _ k => XS.dup X3.here hx rfl (hb hby at_103) rfl rfl k) ?_
      refine Go.on (fun _ k => XS.dload X3.here hx rfl (hb hby at_104) rfl k) ?_
      show Go _ _ _ _ _ _ _ _ (mkF m 106 #[Si i0, Si i1, Si i2, Si i3, Si i4, Sj jw, .second, Si 0, Si 0, Sj ja, .second, Sj jb, .second, Sj jc, .second, Sj jd, .second, Sj jn, .second, Sj jm, .second, Sd wd, .second, .unset, .unset, .unset, .unset, .unset, .unset, .unset] [(.double wd), (.ref q), (.ref q)])
      obtain ⟨_, _, ⟨T4, L4, k4, n4⟩, -, X4, ⟨Lc4, hQ4, l4, y4, z4⟩, st4⟩ := X3.specialBack hx (y := (⟨"com/example/deliberate_scaler/deliberatescaler/model/RateWindow", "<init>", "(D)V"⟩ : MethodName)) rfl hown (mvT hZ (hw _ (List.mem_of_getElem? (i := 3) rfl))) (mvT hZ (hw _ (List.mem_of_getElem? (i := 4) rfl))) (mvT hZ (hw _ (List.mem_of_getElem? (i := 5) rfl))) (by decide) (backOf (W := 1) (rm1 l Z aw hw [] q wd  h3 n0 ZZ E_q F_times_q F_latest_q F_window_q F_first_q F_end_q g_q (own_wpos hwd hwj.1 Bjw) (own_winf hwd Bjw)) hZ (hw _ (List.mem_of_getElem? (i := 5) rfl)) (hw _ (List.mem_of_getElem? (i := 2) rfl)) (by decide) (by decide)) (g := (mkF m 106 #[Si i0, Si i1, Si i2, Si i3, Si i4, Sj jw, .second, Si 0, Si 0, Sj ja, .second, Sj jb, .second, Sj jc, .second, Sj jd, .second, Sj jn, .second, Sj jm, .second, Sd wd, .second, .unset, .unset, .unset, .unset, .unset, .unset, .unset] [(.double wd), (.ref q), (.ref q)])) rfl (by rw [hml]; rfl) (Steps.refl _) (a := q) (argsL := [(.double wd)]) (rest := [(.ref q)]) (lenOf pd_0 rfl) rfl (by show 2 * 0 + _ ≤ _; exact Nat.le_of_eq rfl) (hb hby at_106) (fun _ _ => ⟨rfl, e3, (by decide : 1 + 1 ≤ _), (by decide : 5 + 64 ≤ _)⟩)
      dsimp only [Pt.U, Pt.locs, Pt.cells, Pt.slots] at X4 l4 y4 z4 st4 hQ4
      subst l4 y4 z4
      obtain ⟨h4, e4⟩ : ∃ q, T4.heap = q := ⟨_, rfl⟩
      rw [e4] at hQ4
      obtain ⟨rfl, N4q, ar, k_ar, K4q, szarq, Eq4, F_timesq4, F_latestq4, F_windowq4, F_firstq4, F_endq4, V_ar⟩ := hQ4
      have N4 := Fr.app N0 N4q
      have ZZ4p := ZZ
      have lt_q := E_q.lt
      replace E_q := E_q.keep K4q
      replace ZZ := Nat.le_trans ZZ K4q.1
      have F_times_q := F_timesq4
      have F_latest_q := F_latestq4
      have F_window_q := F_windowq4
      have F_first_q := F_firstq4
      have F_end_q := F_endq4
      replace E_q := Eq4
      have g_ar : n0 ≤ ar := Nat.le_trans ZZ4p szarq
      have ne_q_ar : q ≠ ar := Nat.ne_of_lt (Nat.lt_of_lt_of_le lt_q szarq)
      refine Go.on (fun _ k => st4.trans k) ?_
      show Go _ _ _ _ _ _ _ _ (mkF m 109 #[Si i0, Si i1, Si i2, Si i3, Si i4, Sj jw, .second, Si 0, Si 0, Sj ja, .second, Sj jb, .second, Sj jc, .second, Sj jd, .second, Sj jn, .second, Sj jm, .second, Sd wd, .second, .unset, .unset, .unset, .unset, .unset, .unset, .unset] [(.ref q)])
      refine Go.on (fun _ k => XS.astore X4.here hx rfl (hb hby at_109) rfl rfl (l' := #[.val (.int i0), .val (.int i1), .val (.int i2), .val (.int i3), .val (.int i4), .val (.long jw), .second, .val (.int (0 : Int32)), .val (.int (0 : Int32)), .val (.long ja), .second, .val (.long jb), .second, .val (.long jc), .second, .val (.long jd), .second, .val (.long jn), .second, .val (.long jm), .second, .val (.double wd), .second, .val (.ref q), .unset, .unset, .unset, .unset, .unset, .unset]) rfl k) ?_
      show Go _ _ _ _ _ _ _ _ (mkF m 111 #[Si i0, Si i1, Si i2, Si i3, Si i4, Sj jw, .second, Si 0, Si 0, Sj ja, .second, Sj jb, .second, Sj jc, .second, Sj jd, .second, Sj jn, .second, Sj jm, .second, Sd wd, .second, Sr q, .unset, .unset, .unset, .unset, .unset, .unset] [])
      refine Go.on (fun _ k => XS.iload X4.here hx rfl (hb hby at_111) rfl k) ?_
      refine Go.on (fun _ k => XS.iconst X4.here hx rfl (hb hby at_113) k) ?_
      show Go _ _ _ _ _ _ _ _ (mkF m 114 #[Si i0, Si i1, Si i2, Si i3, Si i4, Sj jw, .second, Si 0, Si 0, Sj ja, .second, Sj jb, .second, Sj jc, .second, Sj jd, .second, Sj jn, .second, Sj jm, .second, Sd wd, .second, Sr q, .unset, .unset, .unset, .unset, .unset, .unset] [(.int 1), (.int 0)])
      have hc5 : (0 : Int32) < (1 : Int32) := by decide
      refine Go.on (fun _ k => XS.icmpYes X4.here hx rfl (pc0 := 114) (pc' := 125) rfl (hb hby at_114) rfl (tlt hc5).1 (by decide) (by decide) k) ?_
      refine Go.on (fun _ k => XS.iload X4.here hx rfl (hb hby at_125) rfl k) ?_
      refine Go.on (fun _ k => XS.iconst X4.here hx rfl (hb hby at_127) k) ?_
      show Go _ _ _ _ _ _ _ _ (mkF m 128 #[Si i0, Si i1, Si i2, Si i3, Si i4, Sj jw, .second, Si 0, Si 0, Sj ja, .second, Sj jb, .second, Sj jc, .second, Sj jd, .second, Sj jn, .second, Sj jm, .second, Sd wd, .second, Sr q, .unset, .unset, .unset, .unset, .unset, .unset] [(.int 2), (.int 0)])
      have hc6 : (0 : Int32) < (2 : Int32) := by decide
      refine Go.on (fun _ k => XS.icmpYes X4.here hx rfl (pc0 := 128) (pc' := 139) rfl (hb hby at_128) rfl (tlt hc6).1 (by decide) (by decide) k) ?_
      refine Go.on (fun _ k => XS.iload X4.here hx rfl (hb hby at_139) rfl k) ?_
      refine Go.on (fun _ k => XS.iconst X4.here hx rfl (hb hby at_141) k) ?_
      show Go _ _ _ _ _ _ _ _ (mkF m 142 #[Si i0, Si i1, Si i2, Si i3, Si i4, Sj jw, .second, Si 0, Si 0, Sj ja, .second, Sj jb, .second, Sj jc, .second, Sj jd, .second, Sj jn, .second, Sj jm, .second, Sd wd, .second, Sr q, .unset, .unset, .unset, .unset, .unset, .unset] [(.int 3), (.int 0)])
      have hc7 : (0 : Int32) < (3 : Int32) := by decide
      refine Go.on (fun _ k => XS.icmpYes X4.here hx rfl (pc0 := 142) (pc' := 153) rfl (hb hby at_142) rfl (tlt hc7).1 (by decide) (by decide) k) ?_
      refine Go.on (fun _ k => XS.aload X4.here hx rfl (hb hby at_153) rfl rfl k) ?_
      refine Go.on (fun _ k => XS.lload X4.here hx rfl (hb hby at_155) rfl k) ?_
      refine Go.on (fun _ k => XS.l2dS X4.here hx rfl (hb hby at_157) rfl rfl k) ?_
      show Go _ _ _ _ _ _ _ _ (mkF m 158 #[Si i0, Si i1, Si i2, Si i3, Si i4, Sj jw, .second, Si 0, Si 0, Sj ja, .second, Sj jb, .second, Sj jc, .second, Sj jd, .second, Sj jn, .second, Sj jm, .second, Sd wd, .second, Sr q, .unset, .unset, .unset, .unset, .unset, .unset] [(.double (FP.l2d jn)), (.ref q)])
      obtain ⟨cq8, kq8, q8a, q8b, q8c⟩ := isOf hZ e4 E_q
      obtain ⟨_, _, ⟨T8, L8, k8, n8⟩, -, X8, ⟨Lc8, hQ8, l8, y8, z8⟩, st8⟩ := X4.virtualBack hx (y := (⟨"com/example/deliberate_scaler/deliberatescaler/model/RateWindow", "rate", "(D)D"⟩ : MethodName)) (z := (⟨"com/example/deliberate_scaler/deliberatescaler/model/RateWindow", "rate", "(D)D"⟩ : MethodName)) hown (mvT hZ (hw _ (List.mem_of_getElem? (i := 25) rfl))) (mvT hZ (hw _ (List.mem_of_getElem? (i := 26) rfl))) (notFace_of_selects (args := #[]) (mvT hZ (hw _ (List.mem_of_getElem? (i := 28) rfl)))) (mvT hZ (hw _ (List.mem_of_getElem? (i := 28) rfl))) (mvT hZ (hw _ (List.mem_of_getElem? (i := 27) rfl))) (by decide) (backOf (W := 0) (rw_rate_0 l Z aw hw [] q (FP.l2d jn) jn jw ar (18442240474082181120 : UInt64) wd (0 : Int32) k_ar h4 n0 ZZ E_q F_times_q F_latest_q F_window_q F_first_q F_end_q V_ar g_q ne_q_ar rfl hwd.symm Bjn Bjw hwj.1 rfl) hZ (hw _ (List.mem_of_getElem? (i := 29) rfl)) (hw _ (List.mem_of_getElem? (i := 2) rfl)) (by decide) (by decide)) q8a q8c (g := (mkF m 158 #[Si i0, Si i1, Si i2, Si i3, Si i4, Sj jw, .second, Si 0, Si 0, Sj ja, .second, Sj jb, .second, Sj jc, .second, Sj jd, .second, Sj jn, .second, Sj jm, .second, Sd wd, .second, Sr q, .unset, .unset, .unset, .unset, .unset, .unset] [(.double (FP.l2d jn)), (.ref q)])) rfl (by rw [hml]; rfl) (Steps.refl _) (argsL := [(.double (FP.l2d jn))]) (rest := []) (lenOf pd_1 rfl) rfl (by show 2 * 0 + _ ≤ _; exact Nat.le_of_eq rfl) (hb hby at_158) (fun _ _ => ⟨rfl, e4, (by decide : 2 + 0 ≤ _), (by decide : 69 + 0 ≤ _)⟩)
      dsimp only [Pt.U, Pt.locs, Pt.cells, Pt.slots] at X8 l8 y8 z8 st8 hQ8
      subst l8 y8 z8
      obtain ⟨h8, e8⟩ : ∃ q, T8.heap = q := ⟨_, rfl⟩
      rw [e8] at hQ8
      obtain ⟨f1_8, rfl, N8q, K8q, Eq8, F_timesq8, F_latestq8, F_windowq8, F_firstq8, F_endq8, hdj8⟩ := hQ8
      have N8 := Fr.app N4 N8q
      have ZZ8p := ZZ
      have lt_q := E_q.lt
      have lt_ar := V_ar.lt
      replace E_q := E_q.keep K8q
      replace V_ar := V_ar.keep K8q (ninS (Ne.symm ne_q_ar) nin0)
      replace ZZ := Nat.le_trans ZZ K8q.1
      obtain ⟨fr1, hfr1⟩ : ∃ z, z = f1_8 := ⟨_, rfl⟩
      rw [← hfr1] at F_firstq8 hdj8
      have F_times_q := F_timesq8
      have F_latest_q := F_latestq8
      have F_window_q := F_windowq8
      have F_first_q := F_firstq8
      have F_end_q := F_endq8
      replace E_q := Eq8
      refine Go.on (fun _ k => st8.trans k) ?_
      show Go _ _ _ _ _ _ _ _ (mkF m 161 #[Si i0, Si i1, Si i2, Si i3, Si i4, Sj jw, .second, Si 0, Si 0, Sj ja, .second, Sj jb, .second, Sj jc, .second, Sj jd, .second, Sj jn, .second, Sj jm, .second, Sd wd, .second, Sr q, .unset, .unset, .unset, .unset, .unset, .unset] [(.double (FP.ddiv (FP.i2d (0 : Int32)) wd))])
      refine Go.on (fun _ k => XS.dstore X8.here hx rfl (hb hby at_161) rfl (l' := #[.val (.int i0), .val (.int i1), .val (.int i2), .val (.int i3), .val (.int i4), .val (.long jw), .second, .val (.int (0 : Int32)), .val (.int (0 : Int32)), .val (.long ja), .second, .val (.long jb), .second, .val (.long jc), .second, .val (.long jd), .second, .val (.long jn), .second, .val (.long jm), .second, .val (.double wd), .second, .val (.ref q), .val (.double (FP.ddiv (FP.i2d (0 : Int32)) wd)), .second, .unset, .unset, .unset, .unset]) rfl k) ?_
      show Go _ _ _ _ _ _ _ _ (mkF m 163 #[Si i0, Si i1, Si i2, Si i3, Si i4, Sj jw, .second, Si 0, Si 0, Sj ja, .second, Sj jb, .second, Sj jc, .second, Sj jd, .second, Sj jn, .second, Sj jm, .second, Sd wd, .second, Sr q, .val (.double (FP.ddiv (FP.i2d (0 : Int32)) wd)), .second, .unset, .unset, .unset, .unset] [])
      generalize hra : (FP.ddiv (FP.i2d (0 : Int32)) wd) = ra
      show Go _ _ _ _ _ _ _ _ (mkF m 163 #[Si i0, Si i1, Si i2, Si i3, Si i4, Sj jw, .second, Si 0, Si 0, Sj ja, .second, Sj jb, .second, Sj jc, .second, Sj jd, .second, Sj jn, .second, Sj jm, .second, Sd wd, .second, Sr q, Sd ra, .second, .unset, .unset, .unset, .unset] [])
      refine Go.on (fun _ k => XS.iload X8.here hx rfl (hb hby at_163) rfl k) ?_
      show Go _ _ _ _ _ _ _ _ (mkF m 165 #[Si i0, Si i1, Si i2, Si i3, Si i4, Sj jw, .second, Si 0, Si 0, Sj ja, .second, Sj jb, .second, Sj jc, .second, Sj jd, .second, Sj jn, .second, Sj jm, .second, Sd wd, .second, Sr q, Sd ra, .second, .unset, .unset, .unset, .unset] [(.int 0)])
      have hc9 : (0 : Int32) = (0 : Int32) := by decide
      refine Go.on (fun _ k => XS.ifYes X8.here hx rfl (pc0 := 165) (pc' := 176) rfl (hb hby at_165) rfl ((if0 _ _).trans (teq hc9).1) (by decide) (by decide) k) ?_
      refine Go.on (fun _ k => XS.aload X8.here hx rfl (hb hby at_176) rfl rfl k) ?_
      refine Go.on (fun _ k => XS.lload X8.here hx rfl (hb hby at_178) rfl k) ?_
      refine Go.on (fun _ k => XS.l2dS X8.here hx rfl (hb hby at_180) rfl rfl k) ?_
      show Go _ _ _ _ _ _ _ _ (mkF m 181 #[Si i0, Si i1, Si i2, Si i3, Si i4, Sj jw, .second, Si 0, Si 0, Sj ja, .second, Sj jb, .second, Sj jc, .second, Sj jd, .second, Sj jn, .second, Sj jm, .second, Sd wd, .second, Sr q, Sd ra, .second, .unset, .unset, .unset, .unset] [(.double (FP.l2d jm)), (.ref q)])
      obtain ⟨cq10, kq10, q10a, q10b, q10c⟩ := isOf hZ e8 E_q
      obtain ⟨_, _, ⟨T10, L10, k10, n10⟩, -, X10, ⟨Lc10, hQ10, l10, y10, z10⟩, st10⟩ := X8.virtualBack hx (y := (⟨"com/example/deliberate_scaler/deliberatescaler/model/RateWindow", "rate", "(D)D"⟩ : MethodName)) (z := (⟨"com/example/deliberate_scaler/deliberatescaler/model/RateWindow", "rate", "(D)D"⟩ : MethodName)) hown (mvT hZ (hw _ (List.mem_of_getElem? (i := 25) rfl))) (mvT hZ (hw _ (List.mem_of_getElem? (i := 26) rfl))) (notFace_of_selects (args := #[]) (mvT hZ (hw _ (List.mem_of_getElem? (i := 28) rfl)))) (mvT hZ (hw _ (List.mem_of_getElem? (i := 28) rfl))) (mvT hZ (hw _ (List.mem_of_getElem? (i := 27) rfl))) (by decide) (backOf (W := 0) (rw_rate_0 l Z aw hw [] q (FP.l2d jm) jm jw ar (18442240474082181120 : UInt64) wd fr1 k_ar h8 n0 ZZ E_q F_times_q F_latest_q F_window_q F_first_q F_end_q V_ar g_q ne_q_ar rfl hwd.symm Bjm Bjw hwj.1 hdj8) hZ (hw _ (List.mem_of_getElem? (i := 29) rfl)) (hw _ (List.mem_of_getElem? (i := 2) rfl)) (by decide) (by decide)) q10a q10c (g := (mkF m 181 #[Si i0, Si i1, Si i2, Si i3, Si i4, Sj jw, .second, Si 0, Si 0, Sj ja, .second, Sj jb, .second, Sj jc, .second, Sj jd, .second, Sj jn, .second, Sj jm, .second, Sd wd, .second, Sr q, Sd ra, .second, .unset, .unset, .unset, .unset] [(.double (FP.l2d jm)), (.ref q)])) rfl (by rw [hml]; rfl) (Steps.refl _) (argsL := [(.double (FP.l2d jm))]) (rest := []) (lenOf pd_1 rfl) rfl (by show 2 * 0 + _ ≤ _; exact Nat.le_of_eq rfl) (hb hby at_181) (fun _ _ => ⟨rfl, e8, (by decide : 2 + 0 ≤ _), (by decide : 69 + 0 ≤ _)⟩)
      dsimp only [Pt.U, Pt.locs, Pt.cells, Pt.slots] at X10 l10 y10 z10 st10 hQ10
      subst l10 y10 z10
      obtain ⟨h10, e10⟩ : ∃ q, T10.heap = q := ⟨_, rfl⟩
      rw [e10] at hQ10
      obtain ⟨f1_10, rfl, N10q, K10q, Eq10, F_timesq10, F_latestq10, F_windowq10, F_firstq10, F_endq10, hdj10⟩ := hQ10
      have N10 := Fr.app N8 N10q
      have ZZ10p := ZZ
      have lt_q := E_q.lt
      have lt_ar := V_ar.lt
      replace E_q := E_q.keep K10q
      replace V_ar := V_ar.keep K10q (ninS (Ne.symm ne_q_ar) nin0)
      replace ZZ := Nat.le_trans ZZ K10q.1
      obtain ⟨fr2, hfr2⟩ : ∃ z, z = f1_10 := ⟨_, rfl⟩
      rw [← hfr2] at F_firstq10 hdj10
      have F_times_q := F_timesq10
      have F_latest_q := F_latestq10
      have F_window_q := F_windowq10
      have F_first_q := F_firstq10
      have F_end_q := F_endq10
      replace E_q := Eq10
      refine Go.on (fun _ k => st10.trans k) ?_
      show Go _ _ _ _ _ _ _ _ (mkF m 184 #[Si i0, Si i1, Si i2, Si i3, Si i4, Sj jw, .second, Si 0, Si 0, Sj ja, .second, Sj jb, .second, Sj jc, .second, Sj jd, .second, Sj jn, .second, Sj jm, .second, Sd wd, .second, Sr q, Sd ra, .second, .unset, .unset, .unset, .unset] [(.double (FP.ddiv (FP.i2d (0 : Int32)) wd))])
      refine Go.on (fun _ k => XS.dstore X10.here hx rfl (hb hby at_184) rfl (l' := #[.val (.int i0), .val (.int i1), .val (.int i2), .val (.int i3), .val (.int i4), .val (.long jw), .second, .val (.int (0 : Int32)), .val (.int (0 : Int32)), .val (.long ja), .second, .val (.long jb), .second, .val (.long jc), .second, .val (.long jd), .second, .val (.long jn), .second, .val (.long jm), .second, .val (.double wd), .second, .val (.ref q), .val (.double ra), .second, .val (.double (FP.ddiv (FP.i2d (0 : Int32)) wd)), .second, .unset, .unset]) rfl k) ?_
      show Go _ _ _ _ _ _ _ _ (mkF m 186 #[Si i0, Si i1, Si i2, Si i3, Si i4, Sj jw, .second, Si 0, Si 0, Sj ja, .second, Sj jb, .second, Sj jc, .second, Sj jd, .second, Sj jn, .second, Sj jm, .second, Sd wd, .second, Sr q, Sd ra, .second, .val (.double (FP.ddiv (FP.i2d (0 : Int32)) wd)), .second, .unset, .unset] [])
      generalize hrb : (FP.ddiv (FP.i2d (0 : Int32)) wd) = rb
      show Go _ _ _ _ _ _ _ _ (mkF m 186 #[Si i0, Si i1, Si i2, Si i3, Si i4, Sj jw, .second, Si 0, Si 0, Sj ja, .second, Sj jb, .second, Sj jc, .second, Sj jd, .second, Sj jn, .second, Sj jm, .second, Sd wd, .second, Sr q, Sd ra, .second, Sd rb, .second, .unset, .unset] [])
      refine Go.on (fun _ k => XS.iload X10.here hx rfl (hb hby at_186) rfl k) ?_
      refine Go.on (fun _ k => XS.iconst X10.here hx rfl (hb hby at_188) k) ?_
      show Go _ _ _ _ _ _ _ _ (mkF m 189 #[Si i0, Si i1, Si i2, Si i3, Si i4, Sj jw, .second, Si 0, Si 0, Sj ja, .second, Sj jb, .second, Sj jc, .second, Sj jd, .second, Sj jn, .second, Sj jm, .second, Sd wd, .second, Sr q, Sd ra, .second, Sd rb, .second, .unset, .unset] [(.int 1), (.int 0)])
      have hc11 : (0 : Int32) < (1 : Int32) := by decide
      refine Go.on (fun _ k => XS.icmpYes X10.here hx rfl (pc0 := 189) (pc' := 204) rfl (hb hby at_189) rfl (tlt hc11).1 (by decide) (by decide) k) ?_
      refine Go.on (fun _ k => XS.iconst X10.here hx rfl (hb hby at_204) k) ?_
      refine Go.on (fun _ k => XS.iload X10.here hx rfl (hb hby at_205) rfl k) ?_
      refine Go.on (fun _ k => XS.iconst X10.here hx rfl (hb hby at_207) k) ?_
      show Go _ _ _ _ _ _ _ _ (mkF m 208 #[Si i0, Si i1, Si i2, Si i3, Si i4, Sj jw, .second, Si 0, Si 0, Sj ja, .second, Sj jb, .second, Sj jc, .second, Sj jd, .second, Sj jn, .second, Sj jm, .second, Sd wd, .second, Sr q, Sd ra, .second, Sd rb, .second, .unset, .unset] [(.int 2), (.int 0), (.int 0)])
      have hc12 : (0 : Int32) < (2 : Int32) := by decide
      refine Go.on (fun _ k => XS.icmpYes X10.here hx rfl (pc0 := 208) (pc' := 223) rfl (hb hby at_208) rfl (tlt hc12).1 (by decide) (by decide) k) ?_
      refine Go.on (fun _ k => XS.iconst X10.here hx rfl (hb hby at_223) k) ?_
      refine Go.on (fun _ k => XS.iadd X10.here hx rfl (hb hby at_224) rfl k) ?_
      refine Go.on (fun _ k => XS.iload X10.here hx rfl (hb hby at_225) rfl k) ?_
      refine Go.on (fun _ k => XS.iconst X10.here hx rfl (hb hby at_227) k) ?_
      show Go _ _ _ _ _ _ _ _ (mkF m 228 #[Si i0, Si i1, Si i2, Si i3, Si i4, Sj jw, .second, Si 0, Si 0, Sj ja, .second, Sj jb, .second, Sj jc, .second, Sj jd, .second, Sj jn, .second, Sj jm, .second, Sd wd, .second, Sr q, Sd ra, .second, Sd rb, .second, .unset, .unset] [(.int 3), (.int 0), (.int 0)])
      have hc13 : (0 : Int32) < (3 : Int32) := by decide
      refine Go.on (fun _ k => XS.icmpYes X10.here hx rfl (pc0 := 228) (pc' := 243) rfl (hb hby at_228) rfl (tlt hc13).1 (by decide) (by decide) k) ?_
      refine Go.on (fun _ k => XS.iconst X10.here hx rfl (hb hby at_243) k) ?_
      refine Go.on (fun _ k => XS.iadd X10.here hx rfl (hb hby at_244) rfl k) ?_
      show Go _ _ _ _ _ _ _ _ (mkF m 245 #[Si i0, Si i1, Si i2, Si i3, Si i4, Sj jw, .second, Si 0, Si 0, Sj ja, .second, Sj jb, .second, Sj jc, .second, Sj jd, .second, Sj jn, .second, Sj jm, .second, Sd wd, .second, Sr q, Sd ra, .second, Sd rb, .second, .unset, .unset] [(.int 0)])
      refine Go.on (fun _ k => XS.istore X10.here hx rfl (hb hby at_245) rfl (l' := #[.val (.int i0), .val (.int i1), .val (.int i2), .val (.int i3), .val (.int i4), .val (.long jw), .second, .val (.int (0 : Int32)), .val (.int (0 : Int32)), .val (.long ja), .second, .val (.long jb), .second, .val (.long jc), .second, .val (.long jd), .second, .val (.long jn), .second, .val (.long jm), .second, .val (.double wd), .second, .val (.ref q), .val (.double ra), .second, .val (.double rb), .second, .val (.int (0 : Int32)), .unset]) rfl k) ?_
      show Go _ _ _ _ _ _ _ _ (mkF m 247 #[Si i0, Si i1, Si i2, Si i3, Si i4, Sj jw, .second, Si 0, Si 0, Sj ja, .second, Sj jb, .second, Sj jc, .second, Sj jd, .second, Sj jn, .second, Sj jm, .second, Sd wd, .second, Sr q, Sd ra, .second, Sd rb, .second, Si 0, .unset] [])
      refine Go.on (fun _ k => XS.iload X10.here hx rfl (hb hby at_247) rfl k) ?_
      refine Go.on (fun _ k => XS.iconst X10.here hx rfl (hb hby at_249) k) ?_
      show Go _ _ _ _ _ _ _ _ (mkF m 250 #[Si i0, Si i1, Si i2, Si i3, Si i4, Sj jw, .second, Si 0, Si 0, Sj ja, .second, Sj jb, .second, Sj jc, .second, Sj jd, .second, Sj jn, .second, Sj jm, .second, Sd wd, .second, Sr q, Sd ra, .second, Sd rb, .second, Si 0, .unset] [(.int 1), (.int 0)])
      have hc14 : (0 : Int32) < (1 : Int32) := by decide
      refine Go.on (fun _ k => XS.icmpYes X10.here hx rfl (pc0 := 250) (pc' := 265) rfl (hb hby at_250) rfl (tlt hc14).1 (by decide) (by decide) k) ?_
      refine Go.on (fun _ k => XS.iconst X10.here hx rfl (hb hby at_265) k) ?_
      refine Go.on (fun _ k => XS.iload X10.here hx rfl (hb hby at_266) rfl k) ?_
      refine Go.on (fun _ k => XS.iconst X10.here hx rfl (hb hby at_268) k) ?_
      show Go _ _ _ _ _ _ _ _ (mkF m 269 #[Si i0, Si i1, Si i2, Si i3, Si i4, Sj jw, .second, Si 0, Si 0, Sj ja, .second, Sj jb, .second, Sj jc, .second, Sj jd, .second, Sj jn, .second, Sj jm, .second, Sd wd, .second, Sr q, Sd ra, .second, Sd rb, .second, Si 0, .unset] [(.int 2), (.int 0), (.int 0)])
      have hc15 : (0 : Int32) < (2 : Int32) := by decide
      refine Go.on (fun _ k => XS.icmpYes X10.here hx rfl (pc0 := 269) (pc' := 284) rfl (hb hby at_269) rfl (tlt hc15).1 (by decide) (by decide) k) ?_
      refine Go.on (fun _ k => XS.iconst X10.here hx rfl (hb hby at_284) k) ?_
      refine Go.on (fun _ k => XS.iadd X10.here hx rfl (hb hby at_285) rfl k) ?_
      refine Go.on (fun _ k => XS.iload X10.here hx rfl (hb hby at_286) rfl k) ?_
      refine Go.on (fun _ k => XS.iconst X10.here hx rfl (hb hby at_288) k) ?_
      show Go _ _ _ _ _ _ _ _ (mkF m 289 #[Si i0, Si i1, Si i2, Si i3, Si i4, Sj jw, .second, Si 0, Si 0, Sj ja, .second, Sj jb, .second, Sj jc, .second, Sj jd, .second, Sj jn, .second, Sj jm, .second, Sd wd, .second, Sr q, Sd ra, .second, Sd rb, .second, Si 0, .unset] [(.int 3), (.int 0), (.int 0)])
      have hc16 : (0 : Int32) < (3 : Int32) := by decide
      refine Go.on (fun _ k => XS.icmpYes X10.here hx rfl (pc0 := 289) (pc' := 304) rfl (hb hby at_289) rfl (tlt hc16).1 (by decide) (by decide) k) ?_
      refine Go.on (fun _ k => XS.iconst X10.here hx rfl (hb hby at_304) k) ?_
      refine Go.on (fun _ k => XS.iadd X10.here hx rfl (hb hby at_305) rfl k) ?_
      refine Go.on (fun _ k => XS.iload X10.here hx rfl (hb hby at_306) rfl k) ?_
      show Go _ _ _ _ _ _ _ _ (mkF m 308 #[Si i0, Si i1, Si i2, Si i3, Si i4, Sj jw, .second, Si 0, Si 0, Sj ja, .second, Sj jb, .second, Sj jc, .second, Sj jd, .second, Sj jn, .second, Sj jm, .second, Sd wd, .second, Sr q, Sd ra, .second, Sd rb, .second, Si 0, .unset] [(.int 0), (.int 0)])
      have hc17 : (0 : Int32) = (0 : Int32) := by decide
      refine Go.on (fun _ k => XS.ifYes X10.here hx rfl (pc0 := 308) (pc' := 323) rfl (hb hby at_308) rfl ((if0 _ _).trans (teq hc17).1) (by decide) (by decide) k) ?_
      refine Go.on (fun _ k => XS.iconst X10.here hx rfl (hb hby at_323) k) ?_
      refine Go.on (fun _ k => XS.iadd X10.here hx rfl (hb hby at_324) rfl k) ?_
      show Go _ _ _ _ _ _ _ _ (mkF m 325 #[Si i0, Si i1, Si i2, Si i3, Si i4, Sj jw, .second, Si 0, Si 0, Sj ja, .second, Sj jb, .second, Sj jc, .second, Sj jd, .second, Sj jn, .second, Sj jm, .second, Sd wd, .second, Sr q, Sd ra, .second, Sd rb, .second, Si 0, .unset] [(.int 0)])
      refine Go.on (fun _ k => XS.istore X10.here hx rfl (hb hby at_325) rfl (l' := #[.val (.int i0), .val (.int i1), .val (.int i2), .val (.int i3), .val (.int i4), .val (.long jw), .second, .val (.int (0 : Int32)), .val (.int (0 : Int32)), .val (.long ja), .second, .val (.long jb), .second, .val (.long jc), .second, .val (.long jd), .second, .val (.long jn), .second, .val (.long jm), .second, .val (.double wd), .second, .val (.ref q), .val (.double ra), .second, .val (.double rb), .second, .val (.int (0 : Int32)), .val (.int (0 : Int32))]) rfl k) ?_
      show Go _ _ _ _ _ _ _ _ (mkF m 327 #[Si i0, Si i1, Si i2, Si i3, Si i4, Sj jw, .second, Si 0, Si 0, Sj ja, .second, Sj jb, .second, Sj jc, .second, Sj jd, .second, Sj jn, .second, Sj jm, .second, Sd wd, .second, Sr q, Sd ra, .second, Sd rb, .second, Si 0, Si 0] [])
      refine Go.on (fun _ k => XS.dload X10.here hx rfl (hb hby at_327) rfl k) ?_
      refine Go.on (fun _ k => XS.iload X10.here hx rfl (hb hby at_329) rfl k) ?_
      refine Go.on (fun _ k => XS.i2dS X10.here hx rfl (hb hby at_331) rfl rfl k) ?_
      refine Go.on (fun _ k => XS.dload X10.here hx rfl (hb hby at_332) rfl k) ?_
      show Go _ _ _ _ _ _ _ _ (mkF m 334 #[Si i0, Si i1, Si i2, Si i3, Si i4, Sj jw, .second, Si 0, Si 0, Sj ja, .second, Sj jb, .second, Sj jc, .second, Sj jd, .second, Sj jn, .second, Sj jm, .second, Sd wd, .second, Sr q, Sd ra, .second, Sd rb, .second, Si 0, Si 0] [(.double wd), (.double (FP.i2d (0 : Int32))), (.double ra)])
      refine Go.on (fun _ k => XS.ddivS X10.here hx rfl (hb hby at_334) rfl ((own_rt _ hwd.symm hwj.1 Bjw)) rfl k) ?_
      show Go _ _ _ _ _ _ _ _ (mkF m 335 #[Si i0, Si i1, Si i2, Si i3, Si i4, Sj jw, .second, Si 0, Si 0, Sj ja, .second, Sj jb, .second, Sj jc, .second, Sj jd, .second, Sj jn, .second, Sj jm, .second, Sd wd, .second, Sr q, Sd ra, .second, Sd rb, .second, Si 0, Si 0] [(.double (FP.ddiv (FP.i2d (0 : Int32)) wd)), (.double ra)])
      refine Go.on (fun _ k => XS.dcmpS X10.here hx rfl (hb hby at_335) rfl rfl k) ?_
      show Go _ _ _ _ _ _ _ _ (mkF m 336 #[Si i0, Si i1, Si i2, Si i3, Si i4, Sj jw, .second, Si 0, Si 0, Sj ja, .second, Sj jb, .second, Sj jc, .second, Sj jd, .second, Sj jn, .second, Sj jm, .second, Sd wd, .second, Sr q, Sd ra, .second, Sd rb, .second, Si 0, Si 0] [(.int (cmpValue (FP.dcmp ra (FP.ddiv (FP.i2d (0 : Int32)) wd)) .l))])
      have hc18 : (cmpValue (FP.dcmp ra (FP.ddiv (FP.i2d (0 : Int32)) wd)) .l) = (0 : Int32) := own_same hra (by first | exact hca | rfl | (rw [← hca]; simp) | simp) hwd hwj.1 Bjw
      refine Go.on (fun _ k => XS.ifNo X10.here hx rfl (hb hby at_336) rfl ((if0 _ _).trans (teq hc18).2) k) ?_
      refine Go.on (fun _ k => XS.dload X10.here hx rfl (hb hby at_339) rfl k) ?_
      refine Go.on (fun _ k => XS.iload X10.here hx rfl (hb hby at_341) rfl k) ?_
      refine Go.on (fun _ k => XS.i2dS X10.here hx rfl (hb hby at_343) rfl rfl k) ?_
      refine Go.on (fun _ k => XS.dload X10.here hx rfl (hb hby at_344) rfl k) ?_
      show Go _ _ _ _ _ _ _ _ (mkF m 346 #[Si i0, Si i1, Si i2, Si i3, Si i4, Sj jw, .second, Si 0, Si 0, Sj ja, .second, Sj jb, .second, Sj jc, .second, Sj jd, .second, Sj jn, .second, Sj jm, .second, Sd wd, .second, Sr q, Sd ra, .second, Sd rb, .second, Si 0, Si 0] [(.double wd), (.double (FP.i2d (0 : Int32))), (.double rb)])
      refine Go.on (fun _ k => XS.ddivS X10.here hx rfl (hb hby at_346) rfl ((own_rt _ hwd.symm hwj.1 Bjw)) rfl k) ?_
      show Go _ _ _ _ _ _ _ _ (mkF m 347 #[Si i0, Si i1, Si i2, Si i3, Si i4, Sj jw, .second, Si 0, Si 0, Sj ja, .second, Sj jb, .second, Sj jc, .second, Sj jd, .second, Sj jn, .second, Sj jm, .second, Sd wd, .second, Sr q, Sd ra, .second, Sd rb, .second, Si 0, Si 0] [(.double (FP.ddiv (FP.i2d (0 : Int32)) wd)), (.double rb)])
      refine Go.on (fun _ k => XS.dcmpS X10.here hx rfl (hb hby at_347) rfl rfl k) ?_
      show Go _ _ _ _ _ _ _ _ (mkF m 348 #[Si i0, Si i1, Si i2, Si i3, Si i4, Sj jw, .second, Si 0, Si 0, Sj ja, .second, Sj jb, .second, Sj jc, .second, Sj jd, .second, Sj jn, .second, Sj jm, .second, Sd wd, .second, Sr q, Sd ra, .second, Sd rb, .second, Si 0, Si 0] [(.int (cmpValue (FP.dcmp rb (FP.ddiv (FP.i2d (0 : Int32)) wd)) .l))])
      have hc19 : (cmpValue (FP.dcmp rb (FP.ddiv (FP.i2d (0 : Int32)) wd)) .l) = (0 : Int32) := own_same hrb (by first | exact hcb | rfl | (rw [← hcb]; simp) | simp) hwd hwj.1 Bjw
      refine Go.on (fun _ k => XS.ifNo X10.here hx rfl (hb hby at_348) rfl ((if0 _ _).trans (teq hc19).2) k) ?_
      refine Go.on (fun _ k => XS.iconst X10.here hx rfl (hb hby at_351) k) ?_
      refine Go.on (fun _ k => XS.goto X10.here hx rfl (pc0 := 352) (pc' := 356) rfl (hb hby at_352) (by decide) (by decide) k) ?_
      show Go _ _ _ _ _ _ _ _ (mkF m 356 #[Si i0, Si i1, Si i2, Si i3, Si i4, Sj jw, .second, Si 0, Si 0, Sj ja, .second, Sj jb, .second, Sj jc, .second, Sj jd, .second, Sj jn, .second, Sj jm, .second, Sd wd, .second, Sr q, Sd ra, .second, Sd rb, .second, Si 0, Si 0] [(.int 1)])
      refine Go.retN X10 hx (t := .boolean) Bd.returns (by simp) (hb hby at_356) ?_ (by rw [hK1]; decide) (by rw [hK2]; decide)
      rw [e10, ← hQQ]
      exact ⟨rfl, N10⟩
    · -- late 1
      subst hk
      show Go _ _ _ _ _ _ _ _ (mkF m 100 #[Si i0, Si i1, Si i2, Si i3, Si i4, Sj jw, .second, Si 0, Si 1, Sj ja, .second, Sj jb, .second, Sj jc, .second, Sj jd, .second, Sj jn, .second, Sj jm, .second, Sd wd, .second, .unset, .unset, .unset, .unset, .unset, .unset, .unset] [])
      obtain ⟨T20, h20, X20, e20, E20, A20, D20, -, st20⟩ := newO X0 hx hZ hown (hw _ (List.mem_of_getElem? (i := 0) rfl)) (hw _ (List.mem_of_getElem? (i := 1) rfl)) (hw _ (List.mem_of_getElem? (i := 2) rfl)) e0 (g := (mkF m 100 #[Si i0, Si i1, Si i2, Si i3, Si i4, Sj jw, .second, Si 0, Si 1, Sj ja, .second, Sj jb, .second, Sj jc, .second, Sj jd, .second, Sj jn, .second, Sj jm, .second, Sd wd, .second, .unset, .unset, .unset, .unset, .unset, .unset, .unset] [])) rfl (hb hby at_100) (by decide) (by decide)
      obtain ⟨q, g20⟩ : ∃ z, z = h0.size := ⟨_, rfl⟩
      have g_q : n0 ≤ q := Nat.le_trans ZZ (Nat.le_of_eq g20.symm)
      rw [← g20] at A20 D20 st20
      replace ZZ := Nat.le_trans ZZ E20.1
      have E_q := A20
      have F_times_q : Fld Z h20 q "com/example/deliberate_scaler/deliberatescaler/model/RateWindow" "times" "[D" .null := D20 (Or.inl (hw _ (List.mem_of_getElem? (i := 11) rfl))) (ty := (.array .double)) (by decide)
      have F_latest_q : Fld Z h20 q "com/example/deliberate_scaler/deliberatescaler/model/RateWindow" "latest" "D" (.double (0 : UInt64)) := D20 (Or.inl (hw _ (List.mem_of_getElem? (i := 14) rfl))) (ty := .double) (by decide)
      have F_window_q : Fld Z h20 q "com/example/deliberate_scaler/deliberatescaler/model/RateWindow" "window" "D" (.double (0 : UInt64)) := D20 (Or.inr (hw _ (List.mem_of_getElem? (i := 17) rfl))) (ty := .double) (by decide)
      have F_end_q : Fld Z h20 q "com/example/deliberate_scaler/deliberatescaler/model/RateWindow" "end" "I" (.int (0 : Int32)) := D20 (Or.inl (hw _ (List.mem_of_getElem? (i := 24) rfl))) (ty := .int) (by decide)
      have F_first_q : Fld Z h20 q "com/example/deliberate_scaler/deliberatescaler/model/RateWindow" "first" "I" (.int (0 : Int32)) := D20 (Or.inl (hw _ (List.mem_of_getElem? (i := 31) rfl))) (ty := .int) (by decide)
      refine Go.on st20 ?_
      show Go _ _ _ _ _ _ _ _ (mkF m 103 #[Si i0, Si i1, Si i2, Si i3, Si i4, Sj jw, .second, Si 0, Si 1, Sj ja, .second, Sj jb, .second, Sj jc, .second, Sj jd, .second, Sj jn, .second, Sj jm, .second, Sd wd, .second, .unset, .unset, .unset, .unset, .unset, .unset, .unset] [(.ref q)])
      refine Go.on (fun _ k => XS.dup X20.here hx rfl (hb hby at_103) rfl rfl k) ?_
      refine Go.on (fun _ k => XS.dload X20.here hx rfl (hb hby at_104) rfl k) ?_
      show Go _ _ _ _ _ _ _ _ (mkF m 106 #[Si i0, Si i1, Si i2, Si i3, Si i4, Sj jw, .second, Si 0, Si 1, Sj ja, .second, Sj jb, .second, Sj jc, .second, Sj jd, .second, Sj jn, .second, Sj jm, .second, Sd wd, .second, .unset, .unset, .unset, .unset, .unset, .unset, .unset] [(.double wd), (.ref q), (.ref q)])
      obtain ⟨_, _, ⟨T21, L21, k21, n21⟩, -, X21, ⟨Lc21, hQ21, l21, y21, z21⟩, st21⟩ := X20.specialBack hx (y := (⟨"com/example/deliberate_scaler/deliberatescaler/model/RateWindow", "<init>", "(D)V"⟩ : MethodName)) rfl hown (mvT hZ (hw _ (List.mem_of_getElem? (i := 3) rfl))) (mvT hZ (hw _ (List.mem_of_getElem? (i := 4) rfl))) (mvT hZ (hw _ (List.mem_of_getElem? (i := 5) rfl))) (by decide) (backOf (W := 1) (rm1 l Z aw hw [] q wd  h20 n0 ZZ E_q F_times_q F_latest_q F_window_q F_first_q F_end_q g_q (own_wpos hwd hwj.1 Bjw) (own_winf hwd Bjw)) hZ (hw _ (List.mem_of_getElem? (i := 5) rfl)) (hw _ (List.mem_of_getElem? (i := 2) rfl)) (by decide) (by decide)) (g := (mkF m 106 #[Si i0, Si i1, Si i2, Si i3, Si i4, Sj jw, .second, Si 0, Si 1, Sj ja, .second, Sj jb, .second, Sj jc, .second, Sj jd, .second, Sj jn, .second, Sj jm, .second, Sd wd, .second, .unset, .unset, .unset, .unset, .unset, .unset, .unset] [(.double wd), (.ref q), (.ref q)])) rfl (by rw [hml]; rfl) (Steps.refl _) (a := q) (argsL := [(.double wd)]) (rest := [(.ref q)]) (lenOf pd_0 rfl) rfl (by show 2 * 0 + _ ≤ _; exact Nat.le_of_eq rfl) (hb hby at_106) (fun _ _ => ⟨rfl, e20, (by decide : 1 + 1 ≤ _), (by decide : 5 + 64 ≤ _)⟩)
      dsimp only [Pt.U, Pt.locs, Pt.cells, Pt.slots] at X21 l21 y21 z21 st21 hQ21
      subst l21 y21 z21
      obtain ⟨h21, e21⟩ : ∃ q, T21.heap = q := ⟨_, rfl⟩
      rw [e21] at hQ21
      obtain ⟨rfl, N21q, ar, k_ar, K21q, szarq, Eq21, F_timesq21, F_latestq21, F_windowq21, F_firstq21, F_endq21, V_ar⟩ := hQ21
      have N21 := Fr.app N0 N21q
      have ZZ21p := ZZ
      have lt_q := E_q.lt
      replace E_q := E_q.keep K21q
      replace ZZ := Nat.le_trans ZZ K21q.1
      have F_times_q := F_timesq21
      have F_latest_q := F_latestq21
      have F_window_q := F_windowq21
      have F_first_q := F_firstq21
      have F_end_q := F_endq21
      replace E_q := Eq21
      have g_ar : n0 ≤ ar := Nat.le_trans ZZ21p szarq
      have ne_q_ar : q ≠ ar := Nat.ne_of_lt (Nat.lt_of_lt_of_le lt_q szarq)
      refine Go.on (fun _ k => st21.trans k) ?_
      show Go _ _ _ _ _ _ _ _ (mkF m 109 #[Si i0, Si i1, Si i2, Si i3, Si i4, Sj jw, .second, Si 0, Si 1, Sj ja, .second, Sj jb, .second, Sj jc, .second, Sj jd, .second, Sj jn, .second, Sj jm, .second, Sd wd, .second, .unset, .unset, .unset, .unset, .unset, .unset, .unset] [(.ref q)])
      refine Go.on (fun _ k => XS.astore X21.here hx rfl (hb hby at_109) rfl rfl (l' := #[.val (.int i0), .val (.int i1), .val (.int i2), .val (.int i3), .val (.int i4), .val (.long jw), .second, .val (.int (0 : Int32)), .val (.int (1 : Int32)), .val (.long ja), .second, .val (.long jb), .second, .val (.long jc), .second, .val (.long jd), .second, .val (.long jn), .second, .val (.long jm), .second, .val (.double wd), .second, .val (.ref q), .unset, .unset, .unset, .unset, .unset, .unset]) rfl k) ?_
      show Go _ _ _ _ _ _ _ _ (mkF m 111 #[Si i0, Si i1, Si i2, Si i3, Si i4, Sj jw, .second, Si 0, Si 1, Sj ja, .second, Sj jb, .second, Sj jc, .second, Sj jd, .second, Sj jn, .second, Sj jm, .second, Sd wd, .second, Sr q, .unset, .unset, .unset, .unset, .unset, .unset] [])
      refine Go.on (fun _ k => XS.iload X21.here hx rfl (hb hby at_111) rfl k) ?_
      refine Go.on (fun _ k => XS.iconst X21.here hx rfl (hb hby at_113) k) ?_
      show Go _ _ _ _ _ _ _ _ (mkF m 114 #[Si i0, Si i1, Si i2, Si i3, Si i4, Sj jw, .second, Si 0, Si 1, Sj ja, .second, Sj jb, .second, Sj jc, .second, Sj jd, .second, Sj jn, .second, Sj jm, .second, Sd wd, .second, Sr q, .unset, .unset, .unset, .unset, .unset, .unset] [(.int 1), (.int 0)])
      have hc22 : (0 : Int32) < (1 : Int32) := by decide
      refine Go.on (fun _ k => XS.icmpYes X21.here hx rfl (pc0 := 114) (pc' := 125) rfl (hb hby at_114) rfl (tlt hc22).1 (by decide) (by decide) k) ?_
      refine Go.on (fun _ k => XS.iload X21.here hx rfl (hb hby at_125) rfl k) ?_
      refine Go.on (fun _ k => XS.iconst X21.here hx rfl (hb hby at_127) k) ?_
      show Go _ _ _ _ _ _ _ _ (mkF m 128 #[Si i0, Si i1, Si i2, Si i3, Si i4, Sj jw, .second, Si 0, Si 1, Sj ja, .second, Sj jb, .second, Sj jc, .second, Sj jd, .second, Sj jn, .second, Sj jm, .second, Sd wd, .second, Sr q, .unset, .unset, .unset, .unset, .unset, .unset] [(.int 2), (.int 0)])
      have hc23 : (0 : Int32) < (2 : Int32) := by decide
      refine Go.on (fun _ k => XS.icmpYes X21.here hx rfl (pc0 := 128) (pc' := 139) rfl (hb hby at_128) rfl (tlt hc23).1 (by decide) (by decide) k) ?_
      refine Go.on (fun _ k => XS.iload X21.here hx rfl (hb hby at_139) rfl k) ?_
      refine Go.on (fun _ k => XS.iconst X21.here hx rfl (hb hby at_141) k) ?_
      show Go _ _ _ _ _ _ _ _ (mkF m 142 #[Si i0, Si i1, Si i2, Si i3, Si i4, Sj jw, .second, Si 0, Si 1, Sj ja, .second, Sj jb, .second, Sj jc, .second, Sj jd, .second, Sj jn, .second, Sj jm, .second, Sd wd, .second, Sr q, .unset, .unset, .unset, .unset, .unset, .unset] [(.int 3), (.int 0)])
      have hc24 : (0 : Int32) < (3 : Int32) := by decide
      refine Go.on (fun _ k => XS.icmpYes X21.here hx rfl (pc0 := 142) (pc' := 153) rfl (hb hby at_142) rfl (tlt hc24).1 (by decide) (by decide) k) ?_
      refine Go.on (fun _ k => XS.aload X21.here hx rfl (hb hby at_153) rfl rfl k) ?_
      refine Go.on (fun _ k => XS.lload X21.here hx rfl (hb hby at_155) rfl k) ?_
      refine Go.on (fun _ k => XS.l2dS X21.here hx rfl (hb hby at_157) rfl rfl k) ?_
      show Go _ _ _ _ _ _ _ _ (mkF m 158 #[Si i0, Si i1, Si i2, Si i3, Si i4, Sj jw, .second, Si 0, Si 1, Sj ja, .second, Sj jb, .second, Sj jc, .second, Sj jd, .second, Sj jn, .second, Sj jm, .second, Sd wd, .second, Sr q, .unset, .unset, .unset, .unset, .unset, .unset] [(.double (FP.l2d jn)), (.ref q)])
      obtain ⟨cq25, kq25, q25a, q25b, q25c⟩ := isOf hZ e21 E_q
      obtain ⟨_, _, ⟨T25, L25, k25, n25⟩, -, X25, ⟨Lc25, hQ25, l25, y25, z25⟩, st25⟩ := X21.virtualBack hx (y := (⟨"com/example/deliberate_scaler/deliberatescaler/model/RateWindow", "rate", "(D)D"⟩ : MethodName)) (z := (⟨"com/example/deliberate_scaler/deliberatescaler/model/RateWindow", "rate", "(D)D"⟩ : MethodName)) hown (mvT hZ (hw _ (List.mem_of_getElem? (i := 25) rfl))) (mvT hZ (hw _ (List.mem_of_getElem? (i := 26) rfl))) (notFace_of_selects (args := #[]) (mvT hZ (hw _ (List.mem_of_getElem? (i := 28) rfl)))) (mvT hZ (hw _ (List.mem_of_getElem? (i := 28) rfl))) (mvT hZ (hw _ (List.mem_of_getElem? (i := 27) rfl))) (by decide) (backOf (W := 0) (rw_rate_0 l Z aw hw [] q (FP.l2d jn) jn jw ar (18442240474082181120 : UInt64) wd (0 : Int32) k_ar h21 n0 ZZ E_q F_times_q F_latest_q F_window_q F_first_q F_end_q V_ar g_q ne_q_ar rfl hwd.symm Bjn Bjw hwj.1 rfl) hZ (hw _ (List.mem_of_getElem? (i := 29) rfl)) (hw _ (List.mem_of_getElem? (i := 2) rfl)) (by decide) (by decide)) q25a q25c (g := (mkF m 158 #[Si i0, Si i1, Si i2, Si i3, Si i4, Sj jw, .second, Si 0, Si 1, Sj ja, .second, Sj jb, .second, Sj jc, .second, Sj jd, .second, Sj jn, .second, Sj jm, .second, Sd wd, .second, Sr q, .unset, .unset, .unset, .unset, .unset, .unset] [(.double (FP.l2d jn)), (.ref q)])) rfl (by rw [hml]; rfl) (Steps.refl _) (argsL := [(.double (FP.l2d jn))]) (rest := []) (lenOf pd_1 rfl) rfl (by show 2 * 0 + _ ≤ _; exact Nat.le_of_eq rfl) (hb hby at_158) (fun _ _ => ⟨rfl, e21, (by decide : 2 + 0 ≤ _), (by decide : 69 + 0 ≤ _)⟩)
      dsimp only [Pt.U, Pt.locs, Pt.cells, Pt.slots] at X25 l25 y25 z25 st25 hQ25
      subst l25 y25 z25
      obtain ⟨h25, e25⟩ : ∃ q, T25.heap = q := ⟨_, rfl⟩
      rw [e25] at hQ25
      obtain ⟨f1_25, rfl, N25q, K25q, Eq25, F_timesq25, F_latestq25, F_windowq25, F_firstq25, F_endq25, hdj25⟩ := hQ25
      have N25 := Fr.app N21 N25q
      have ZZ25p := ZZ
      have lt_q := E_q.lt
      have lt_ar := V_ar.lt
      replace E_q := E_q.keep K25q
      replace V_ar := V_ar.keep K25q (ninS (Ne.symm ne_q_ar) nin0)
      replace ZZ := Nat.le_trans ZZ K25q.1
      obtain ⟨fr1, hfr1⟩ : ∃ z, z = f1_25 := ⟨_, rfl⟩
      rw [← hfr1] at F_firstq25 hdj25
      have F_times_q := F_timesq25
      have F_latest_q := F_latestq25
      have F_window_q := F_windowq25
      have F_first_q := F_firstq25
      have F_end_q := F_endq25
      replace E_q := Eq25
      refine Go.on (fun _ k => st25.trans k) ?_
      show Go _ _ _ _ _ _ _ _ (mkF m 161 #[Si i0, Si i1, Si i2, Si i3, Si i4, Sj jw, .second, Si 0, Si 1, Sj ja, .second, Sj jb, .second, Sj jc, .second, Sj jd, .second, Sj jn, .second, Sj jm, .second, Sd wd, .second, Sr q, .unset, .unset, .unset, .unset, .unset, .unset] [(.double (FP.ddiv (FP.i2d (0 : Int32)) wd))])
      refine Go.on (fun _ k => XS.dstore X25.here hx rfl (hb hby at_161) rfl (l' := #[.val (.int i0), .val (.int i1), .val (.int i2), .val (.int i3), .val (.int i4), .val (.long jw), .second, .val (.int (0 : Int32)), .val (.int (1 : Int32)), .val (.long ja), .second, .val (.long jb), .second, .val (.long jc), .second, .val (.long jd), .second, .val (.long jn), .second, .val (.long jm), .second, .val (.double wd), .second, .val (.ref q), .val (.double (FP.ddiv (FP.i2d (0 : Int32)) wd)), .second, .unset, .unset, .unset, .unset]) rfl k) ?_
      show Go _ _ _ _ _ _ _ _ (mkF m 163 #[Si i0, Si i1, Si i2, Si i3, Si i4, Sj jw, .second, Si 0, Si 1, Sj ja, .second, Sj jb, .second, Sj jc, .second, Sj jd, .second, Sj jn, .second, Sj jm, .second, Sd wd, .second, Sr q, .val (.double (FP.ddiv (FP.i2d (0 : Int32)) wd)), .second, .unset, .unset, .unset, .unset] [])
      generalize hra : (FP.ddiv (FP.i2d (0 : Int32)) wd) = ra
      show Go _ _ _ _ _ _ _ _ (mkF m 163 #[Si i0, Si i1, Si i2, Si i3, Si i4, Sj jw, .second, Si 0, Si 1, Sj ja, .second, Sj jb, .second, Sj jc, .second, Sj jd, .second, Sj jn, .second, Sj jm, .second, Sd wd, .second, Sr q, Sd ra, .second, .unset, .unset, .unset, .unset] [])
      refine Go.on (fun _ k => XS.iload X25.here hx rfl (hb hby at_163) rfl k) ?_
      show Go _ _ _ _ _ _ _ _ (mkF m 165 #[Si i0, Si i1, Si i2, Si i3, Si i4, Sj jw, .second, Si 0, Si 1, Sj ja, .second, Sj jb, .second, Sj jc, .second, Sj jd, .second, Sj jn, .second, Sj jm, .second, Sd wd, .second, Sr q, Sd ra, .second, .unset, .unset, .unset, .unset] [(.int 1)])
      have hc26 : ¬ ((1 : Int32) = (0 : Int32)) := by decide
      refine Go.on (fun _ k => XS.ifNo X25.here hx rfl (hb hby at_165) rfl ((if0 _ _).trans (feq hc26).1) k) ?_
      refine Go.on (fun _ k => XS.aload X25.here hx rfl (hb hby at_168) rfl rfl k) ?_
      refine Go.on (fun _ k => XS.lload X25.here hx rfl (hb hby at_170) rfl k) ?_
      refine Go.on (fun _ k => XS.l2dS X25.here hx rfl (hb hby at_172) rfl rfl k) ?_
      show Go _ _ _ _ _ _ _ _ (mkF m 173 #[Si i0, Si i1, Si i2, Si i3, Si i4, Sj jw, .second, Si 0, Si 1, Sj ja, .second, Sj jb, .second, Sj jc, .second, Sj jd, .second, Sj jn, .second, Sj jm, .second, Sd wd, .second, Sr q, Sd ra, .second, .unset, .unset, .unset, .unset] [(.double (FP.l2d jd)), (.ref q)])
      obtain ⟨cq27, kq27, q27a, q27b, q27c⟩ := isOf hZ e25 E_q
      obtain ⟨_, _, ⟨T27, L27, k27, n27⟩, -, X27, ⟨Lc27, hQ27, l27, y27, z27⟩, st27⟩ := X25.virtualBack hx (y := (⟨"com/example/deliberate_scaler/deliberatescaler/model/RateWindow", "add", "(D)V"⟩ : MethodName)) (z := (⟨"com/example/deliberate_scaler/deliberatescaler/model/RateWindow", "add", "(D)V"⟩ : MethodName)) hown (mvT hZ (hw _ (List.mem_of_getElem? (i := 18) rfl))) (mvT hZ (hw _ (List.mem_of_getElem? (i := 19) rfl))) (notFace_of_selects (args := #[]) (mvT hZ (hw _ (List.mem_of_getElem? (i := 21) rfl)))) (mvT hZ (hw _ (List.mem_of_getElem? (i := 21) rfl))) (mvT hZ (hw _ (List.mem_of_getElem? (i := 20) rfl))) (by decide) (backOf (W := 0) (rw_add_0 l Z aw hw [] q (FP.l2d jd) ar (18442240474082181120 : UInt64) wd fr1 k_ar h25 n0 ZZ E_q F_times_q F_latest_q F_window_q F_first_q F_end_q V_ar g_q g_ar ne_q_ar (own_inf Bjd)) hZ (hw _ (List.mem_of_getElem? (i := 22) rfl)) (hw _ (List.mem_of_getElem? (i := 2) rfl)) (by decide) (by decide)) q27a q27c (g := (mkF m 173 #[Si i0, Si i1, Si i2, Si i3, Si i4, Sj jw, .second, Si 0, Si 1, Sj ja, .second, Sj jb, .second, Sj jc, .second, Sj jd, .second, Sj jn, .second, Sj jm, .second, Sd wd, .second, Sr q, Sd ra, .second, .unset, .unset, .unset, .unset] [(.double (FP.l2d jd)), (.ref q)])) rfl (by rw [hml]; rfl) (Steps.refl _) (argsL := [(.double (FP.l2d jd))]) (rest := []) (lenOf pd_0 rfl) rfl (by show 2 * 0 + _ ≤ _; exact Nat.le_of_eq rfl) (hb hby at_173) (fun _ _ => ⟨rfl, e25, (by decide : 2 + 0 ≤ _), (by decide : 69 + 0 ≤ _)⟩)
      dsimp only [Pt.U, Pt.locs, Pt.cells, Pt.slots] at X27 l27 y27 z27 st27 hQ27
      subst l27 y27 z27
      obtain ⟨h27, e27⟩ : ∃ q, T27.heap = q := ⟨_, rfl⟩
      rw [e27] at hQ27
      obtain ⟨rfl, N27q, K27q, Eq27, F_timesq27, F_latestq27, F_windowq27, F_firstq27, F_endq27, V_q27⟩ := hQ27
      have N27 := Fr.app N25 N27q
      have ZZ27p := ZZ
      have lt_q := E_q.lt
      have lt_ar := V_ar.lt
      replace E_q := E_q.keep K27q
      replace ZZ := Nat.le_trans ZZ K27q.1
      have F_times_q := F_timesq27
      have F_latest_q := F_latestq27
      have F_window_q := F_windowq27
      have F_first_q := F_firstq27
      have F_end_q := F_endq27
      replace E_q := Eq27
      have V_ar := V_q27
      refine Go.on (fun _ k => st27.trans k) ?_
      show Go _ _ _ _ _ _ _ _ (mkF m 176 #[Si i0, Si i1, Si i2, Si i3, Si i4, Sj jw, .second, Si 0, Si 1, Sj ja, .second, Sj jb, .second, Sj jc, .second, Sj jd, .second, Sj jn, .second, Sj jm, .second, Sd wd, .second, Sr q, Sd ra, .second, .unset, .unset, .unset, .unset] [])
      refine Go.on (fun _ k => XS.aload X27.here hx rfl (hb hby at_176) rfl rfl k) ?_
      refine Go.on (fun _ k => XS.lload X27.here hx rfl (hb hby at_178) rfl k) ?_
      refine Go.on (fun _ k => XS.l2dS X27.here hx rfl (hb hby at_180) rfl rfl k) ?_
      show Go _ _ _ _ _ _ _ _ (mkF m 181 #[Si i0, Si i1, Si i2, Si i3, Si i4, Sj jw, .second, Si 0, Si 1, Sj ja, .second, Sj jb, .second, Sj jc, .second, Sj jd, .second, Sj jn, .second, Sj jm, .second, Sd wd, .second, Sr q, Sd ra, .second, .unset, .unset, .unset, .unset] [(.double (FP.l2d jm)), (.ref q)])
      obtain ⟨cq28, kq28, q28a, q28b, q28c⟩ := isOf hZ e27 E_q
      obtain ⟨_, _, ⟨T28, L28, k28, n28⟩, -, X28, ⟨Lc28, hQ28, l28, y28, z28⟩, st28⟩ := X27.virtualBack hx (y := (⟨"com/example/deliberate_scaler/deliberatescaler/model/RateWindow", "rate", "(D)D"⟩ : MethodName)) (z := (⟨"com/example/deliberate_scaler/deliberatescaler/model/RateWindow", "rate", "(D)D"⟩ : MethodName)) hown (mvT hZ (hw _ (List.mem_of_getElem? (i := 25) rfl))) (mvT hZ (hw _ (List.mem_of_getElem? (i := 26) rfl))) (notFace_of_selects (args := #[]) (mvT hZ (hw _ (List.mem_of_getElem? (i := 28) rfl)))) (mvT hZ (hw _ (List.mem_of_getElem? (i := 28) rfl))) (mvT hZ (hw _ (List.mem_of_getElem? (i := 27) rfl))) (by decide) (backOf (W := 0) (rw_rate_1 l Z aw hw [] q (FP.l2d jm) jd jm jw ar (FP.l2d jd) wd fr1 k_ar (FP.l2d jd) h27 n0 ZZ E_q F_times_q F_latest_q F_window_q F_first_q F_end_q V_ar g_q ne_q_ar rfl hwd.symm Bjm Bjw hwj.1 rfl Bjd (Or.inl hdj25) (fun q => by rw [hdj25] at q; exact absurd q (by decide))) hZ (hw _ (List.mem_of_getElem? (i := 29) rfl)) (hw _ (List.mem_of_getElem? (i := 2) rfl)) (by decide) (by decide)) q28a q28c (g := (mkF m 181 #[Si i0, Si i1, Si i2, Si i3, Si i4, Sj jw, .second, Si 0, Si 1, Sj ja, .second, Sj jb, .second, Sj jc, .second, Sj jd, .second, Sj jn, .second, Sj jm, .second, Sd wd, .second, Sr q, Sd ra, .second, .unset, .unset, .unset, .unset] [(.double (FP.l2d jm)), (.ref q)])) rfl (by rw [hml]; rfl) (Steps.refl _) (argsL := [(.double (FP.l2d jm))]) (rest := []) (lenOf pd_1 rfl) rfl (by show 2 * 0 + _ ≤ _; exact Nat.le_of_eq rfl) (hb hby at_181) (fun _ _ => ⟨rfl, e27, (by decide : 2 + 0 ≤ _), (by decide : 69 + 0 ≤ _)⟩)
      dsimp only [Pt.U, Pt.locs, Pt.cells, Pt.slots] at X28 l28 y28 z28 st28 hQ28
      subst l28 y28 z28
      obtain ⟨h28, e28⟩ : ∃ q, T28.heap = q := ⟨_, rfl⟩
      rw [e28] at hQ28
      obtain ⟨f1_28, rfl, N28q, K28q, Eq28, F_timesq28, F_latestq28, F_windowq28, F_firstq28, F_endq28, hdj28, hdr0_28⟩ := hQ28
      have N28 := Fr.app N27 N28q
      have ZZ28p := ZZ
      have lt_q := E_q.lt
      have lt_ar := V_ar.lt
      replace E_q := E_q.keep K28q
      replace V_ar := V_ar.keep K28q (ninS (Ne.symm ne_q_ar) nin0)
      replace ZZ := Nat.le_trans ZZ K28q.1
      obtain ⟨fr2, hfr2⟩ : ∃ z, z = f1_28 := ⟨_, rfl⟩
      rw [← hfr2] at F_firstq28 hdj28 hdr0_28
      have F_times_q := F_timesq28
      have F_latest_q := F_latestq28
      have F_window_q := F_windowq28
      have F_first_q := F_firstq28
      have F_end_q := F_endq28
      replace E_q := Eq28
      refine Go.on (fun _ k => st28.trans k) ?_
      show Go _ _ _ _ _ _ _ _ (mkF m 184 #[Si i0, Si i1, Si i2, Si i3, Si i4, Sj jw, .second, Si 0, Si 1, Sj ja, .second, Sj jb, .second, Sj jc, .second, Sj jd, .second, Sj jn, .second, Sj jm, .second, Sd wd, .second, Sr q, Sd ra, .second, .unset, .unset, .unset, .unset] [(.double (FP.ddiv (FP.i2d (inV jd jm jw)) wd))])
      refine Go.on (fun _ k => XS.dstore X28.here hx rfl (hb hby at_184) rfl (l' := #[.val (.int i0), .val (.int i1), .val (.int i2), .val (.int i3), .val (.int i4), .val (.long jw), .second, .val (.int (0 : Int32)), .val (.int (1 : Int32)), .val (.long ja), .second, .val (.long jb), .second, .val (.long jc), .second, .val (.long jd), .second, .val (.long jn), .second, .val (.long jm), .second, .val (.double wd), .second, .val (.ref q), .val (.double ra), .second, .val (.double (FP.ddiv (FP.i2d (inV jd jm jw)) wd)), .second, .unset, .unset]) rfl k) ?_
      show Go _ _ _ _ _ _ _ _ (mkF m 186 #[Si i0, Si i1, Si i2, Si i3, Si i4, Sj jw, .second, Si 0, Si 1, Sj ja, .second, Sj jb, .second, Sj jc, .second, Sj jd, .second, Sj jn, .second, Sj jm, .second, Sd wd, .second, Sr q, Sd ra, .second, .val (.double (FP.ddiv (FP.i2d (inV jd jm jw)) wd)), .second, .unset, .unset] [])
      generalize hrb : (FP.ddiv (FP.i2d (inV jd jm jw)) wd) = rb
      show Go _ _ _ _ _ _ _ _ (mkF m 186 #[Si i0, Si i1, Si i2, Si i3, Si i4, Sj jw, .second, Si 0, Si 1, Sj ja, .second, Sj jb, .second, Sj jc, .second, Sj jd, .second, Sj jn, .second, Sj jm, .second, Sd wd, .second, Sr q, Sd ra, .second, Sd rb, .second, .unset, .unset] [])
      refine Go.on (fun _ k => XS.iload X28.here hx rfl (hb hby at_186) rfl k) ?_
      refine Go.on (fun _ k => XS.iconst X28.here hx rfl (hb hby at_188) k) ?_
      show Go _ _ _ _ _ _ _ _ (mkF m 189 #[Si i0, Si i1, Si i2, Si i3, Si i4, Sj jw, .second, Si 0, Si 1, Sj ja, .second, Sj jb, .second, Sj jc, .second, Sj jd, .second, Sj jn, .second, Sj jm, .second, Sd wd, .second, Sr q, Sd ra, .second, Sd rb, .second, .unset, .unset] [(.int 1), (.int 0)])
      have hc29 : (0 : Int32) < (1 : Int32) := by decide
      refine Go.on (fun _ k => XS.icmpYes X28.here hx rfl (pc0 := 189) (pc' := 204) rfl (hb hby at_189) rfl (tlt hc29).1 (by decide) (by decide) k) ?_
      refine Go.on (fun _ k => XS.iconst X28.here hx rfl (hb hby at_204) k) ?_
      refine Go.on (fun _ k => XS.iload X28.here hx rfl (hb hby at_205) rfl k) ?_
      refine Go.on (fun _ k => XS.iconst X28.here hx rfl (hb hby at_207) k) ?_
      show Go _ _ _ _ _ _ _ _ (mkF m 208 #[Si i0, Si i1, Si i2, Si i3, Si i4, Sj jw, .second, Si 0, Si 1, Sj ja, .second, Sj jb, .second, Sj jc, .second, Sj jd, .second, Sj jn, .second, Sj jm, .second, Sd wd, .second, Sr q, Sd ra, .second, Sd rb, .second, .unset, .unset] [(.int 2), (.int 0), (.int 0)])
      have hc30 : (0 : Int32) < (2 : Int32) := by decide
      refine Go.on (fun _ k => XS.icmpYes X28.here hx rfl (pc0 := 208) (pc' := 223) rfl (hb hby at_208) rfl (tlt hc30).1 (by decide) (by decide) k) ?_
      refine Go.on (fun _ k => XS.iconst X28.here hx rfl (hb hby at_223) k) ?_
      refine Go.on (fun _ k => XS.iadd X28.here hx rfl (hb hby at_224) rfl k) ?_
      refine Go.on (fun _ k => XS.iload X28.here hx rfl (hb hby at_225) rfl k) ?_
      refine Go.on (fun _ k => XS.iconst X28.here hx rfl (hb hby at_227) k) ?_
      show Go _ _ _ _ _ _ _ _ (mkF m 228 #[Si i0, Si i1, Si i2, Si i3, Si i4, Sj jw, .second, Si 0, Si 1, Sj ja, .second, Sj jb, .second, Sj jc, .second, Sj jd, .second, Sj jn, .second, Sj jm, .second, Sd wd, .second, Sr q, Sd ra, .second, Sd rb, .second, .unset, .unset] [(.int 3), (.int 0), (.int 0)])
      have hc31 : (0 : Int32) < (3 : Int32) := by decide
      refine Go.on (fun _ k => XS.icmpYes X28.here hx rfl (pc0 := 228) (pc' := 243) rfl (hb hby at_228) rfl (tlt hc31).1 (by decide) (by decide) k) ?_
      refine Go.on (fun _ k => XS.iconst X28.here hx rfl (hb hby at_243) k) ?_
      refine Go.on (fun _ k => XS.iadd X28.here hx rfl (hb hby at_244) rfl k) ?_
      show Go _ _ _ _ _ _ _ _ (mkF m 245 #[Si i0, Si i1, Si i2, Si i3, Si i4, Sj jw, .second, Si 0, Si 1, Sj ja, .second, Sj jb, .second, Sj jc, .second, Sj jd, .second, Sj jn, .second, Sj jm, .second, Sd wd, .second, Sr q, Sd ra, .second, Sd rb, .second, .unset, .unset] [(.int 0)])
      refine Go.on (fun _ k => XS.istore X28.here hx rfl (hb hby at_245) rfl (l' := #[.val (.int i0), .val (.int i1), .val (.int i2), .val (.int i3), .val (.int i4), .val (.long jw), .second, .val (.int (0 : Int32)), .val (.int (1 : Int32)), .val (.long ja), .second, .val (.long jb), .second, .val (.long jc), .second, .val (.long jd), .second, .val (.long jn), .second, .val (.long jm), .second, .val (.double wd), .second, .val (.ref q), .val (.double ra), .second, .val (.double rb), .second, .val (.int (0 : Int32)), .unset]) rfl k) ?_
      show Go _ _ _ _ _ _ _ _ (mkF m 247 #[Si i0, Si i1, Si i2, Si i3, Si i4, Sj jw, .second, Si 0, Si 1, Sj ja, .second, Sj jb, .second, Sj jc, .second, Sj jd, .second, Sj jn, .second, Sj jm, .second, Sd wd, .second, Sr q, Sd ra, .second, Sd rb, .second, Si 0, .unset] [])
      refine Go.on (fun _ k => XS.iload X28.here hx rfl (hb hby at_247) rfl k) ?_
      refine Go.on (fun _ k => XS.iconst X28.here hx rfl (hb hby at_249) k) ?_
      show Go _ _ _ _ _ _ _ _ (mkF m 250 #[Si i0, Si i1, Si i2, Si i3, Si i4, Sj jw, .second, Si 0, Si 1, Sj ja, .second, Sj jb, .second, Sj jc, .second, Sj jd, .second, Sj jn, .second, Sj jm, .second, Sd wd, .second, Sr q, Sd ra, .second, Sd rb, .second, Si 0, .unset] [(.int 1), (.int 0)])
      have hc32 : (0 : Int32) < (1 : Int32) := by decide
      refine Go.on (fun _ k => XS.icmpYes X28.here hx rfl (pc0 := 250) (pc' := 265) rfl (hb hby at_250) rfl (tlt hc32).1 (by decide) (by decide) k) ?_
      refine Go.on (fun _ k => XS.iconst X28.here hx rfl (hb hby at_265) k) ?_
      refine Go.on (fun _ k => XS.iload X28.here hx rfl (hb hby at_266) rfl k) ?_
      refine Go.on (fun _ k => XS.iconst X28.here hx rfl (hb hby at_268) k) ?_
      show Go _ _ _ _ _ _ _ _ (mkF m 269 #[Si i0, Si i1, Si i2, Si i3, Si i4, Sj jw, .second, Si 0, Si 1, Sj ja, .second, Sj jb, .second, Sj jc, .second, Sj jd, .second, Sj jn, .second, Sj jm, .second, Sd wd, .second, Sr q, Sd ra, .second, Sd rb, .second, Si 0, .unset] [(.int 2), (.int 0), (.int 0)])
      have hc33 : (0 : Int32) < (2 : Int32) := by decide
      refine Go.on (fun _ k => XS.icmpYes X28.here hx rfl (pc0 := 269) (pc' := 284) rfl (hb hby at_269) rfl (tlt hc33).1 (by decide) (by decide) k) ?_
      refine Go.on (fun _ k => XS.iconst X28.here hx rfl (hb hby at_284) k) ?_
      refine Go.on (fun _ k => XS.iadd X28.here hx rfl (hb hby at_285) rfl k) ?_
      refine Go.on (fun _ k => XS.iload X28.here hx rfl (hb hby at_286) rfl k) ?_
      refine Go.on (fun _ k => XS.iconst X28.here hx rfl (hb hby at_288) k) ?_
      show Go _ _ _ _ _ _ _ _ (mkF m 289 #[Si i0, Si i1, Si i2, Si i3, Si i4, Sj jw, .second, Si 0, Si 1, Sj ja, .second, Sj jb, .second, Sj jc, .second, Sj jd, .second, Sj jn, .second, Sj jm, .second, Sd wd, .second, Sr q, Sd ra, .second, Sd rb, .second, Si 0, .unset] [(.int 3), (.int 0), (.int 0)])
      have hc34 : (0 : Int32) < (3 : Int32) := by decide
      refine Go.on (fun _ k => XS.icmpYes X28.here hx rfl (pc0 := 289) (pc' := 304) rfl (hb hby at_289) rfl (tlt hc34).1 (by decide) (by decide) k) ?_
      refine Go.on (fun _ k => XS.iconst X28.here hx rfl (hb hby at_304) k) ?_
      refine Go.on (fun _ k => XS.iadd X28.here hx rfl (hb hby at_305) rfl k) ?_
      refine Go.on (fun _ k => XS.iload X28.here hx rfl (hb hby at_306) rfl k) ?_
      show Go _ _ _ _ _ _ _ _ (mkF m 308 #[Si i0, Si i1, Si i2, Si i3, Si i4, Sj jw, .second, Si 0, Si 1, Sj ja, .second, Sj jb, .second, Sj jc, .second, Sj jd, .second, Sj jn, .second, Sj jm, .second, Sd wd, .second, Sr q, Sd ra, .second, Sd rb, .second, Si 0, .unset] [(.int 1), (.int 0)])
      have hc35 : ¬ ((1 : Int32) = (0 : Int32)) := by decide
      refine Go.on (fun _ k => XS.ifNo X28.here hx rfl (hb hby at_308) rfl ((if0 _ _).trans (feq hc35).1) k) ?_
      refine Go.on (fun _ k => XS.lload X28.here hx rfl (hb hby at_311) rfl k) ?_
      refine Go.on (fun _ k => XS.lload X28.here hx rfl (hb hby at_313) rfl k) ?_
      refine Go.on (fun _ k => XS.lload X28.here hx rfl (hb hby at_315) rfl k) ?_
      show Go _ _ _ _ _ _ _ _ (mkF m 317 #[Si i0, Si i1, Si i2, Si i3, Si i4, Sj jw, .second, Si 0, Si 1, Sj ja, .second, Sj jb, .second, Sj jc, .second, Sj jd, .second, Sj jn, .second, Sj jm, .second, Sd wd, .second, Sr q, Sd ra, .second, Sd rb, .second, Si 0, .unset] [(.long jw), (.long jm), (.long jd), (.int 0)])
      obtain ⟨_, _, ⟨T36, L36, k36, n36⟩, -, X36, ⟨Lc36, hQ36, l36, y36, z36⟩, st36⟩ := Jvm.LawKit.callS X28 hx (y := (⟨"com/example/deliberate_scaler/deliberatescaler/model/RateWindowRatePinLaw", "in", "(JJJ)I"⟩ : MethodName)) hown (mvT hZ (hw _ (List.mem_of_getElem? (i := 32) rfl))) (mvT hZ (hw _ (List.mem_of_getElem? (i := 33) rfl))) (mvT hZ (hw _ (List.mem_of_getElem? (i := 34) rfl))) (mvT hZ (hw _ (List.mem_of_getElem? (i := 35) rfl))) (by decide) (backOf (W := 1) (rm5 l Z aw hw [] jd jm jw  h28 n0 ZZ ) hZ (hw _ (List.mem_of_getElem? (i := 35) rfl)) (hw _ (List.mem_of_getElem? (i := 34) rfl)) (by decide) (by decide)) (g := (mkF m 317 #[Si i0, Si i1, Si i2, Si i3, Si i4, Sj jw, .second, Si 0, Si 1, Sj ja, .second, Sj jb, .second, Sj jc, .second, Sj jd, .second, Sj jn, .second, Sj jm, .second, Sd wd, .second, Sr q, Sd ra, .second, Sd rb, .second, Si 0, .unset] [(.long jw), (.long jm), (.long jd), (.int 0)])) rfl (by rw [hml]; rfl) (argsL := [(.long jd), (.long jm), (.long jw)]) (rest := [(.int (0 : Int32))]) (lenOf pd_2 rfl) rfl (by show 2 * 0 + _ ≤ _; exact Nat.le_of_eq rfl) (hb hby at_317) (fun _ _ => ⟨rfl, e28, (by decide : 2 + 0 ≤ _), (by decide : 69 + 0 ≤ _)⟩)
      dsimp only [Pt.U, Pt.locs, Pt.cells, Pt.slots] at X36 l36 y36 z36 st36 hQ36
      subst l36 y36 z36
      obtain ⟨rfl, N36q, e36⟩ := hQ36
      have N36 := Fr.app N28 N36q
      refine Go.on st36 ?_
      show Go _ _ _ _ _ _ _ _ (mkF m 320 #[Si i0, Si i1, Si i2, Si i3, Si i4, Sj jw, .second, Si 0, Si 1, Sj ja, .second, Sj jb, .second, Sj jc, .second, Sj jd, .second, Sj jn, .second, Sj jm, .second, Sd wd, .second, Sr q, Sd ra, .second, Sd rb, .second, Si 0, .unset] [(.int (inV jd jm jw)), (.int 0)])
      refine Go.on (fun _ k => XS.goto X36.here hx rfl (pc0 := 320) (pc' := 324) rfl (hb hby at_320) (by decide) (by decide) k) ?_
      refine Go.on (fun _ k => XS.iadd X36.here hx rfl (hb hby at_324) rfl k) ?_
      show Go _ _ _ _ _ _ _ _ (mkF m 325 #[Si i0, Si i1, Si i2, Si i3, Si i4, Sj jw, .second, Si 0, Si 1, Sj ja, .second, Sj jb, .second, Sj jc, .second, Sj jd, .second, Sj jn, .second, Sj jm, .second, Sd wd, .second, Sr q, Sd ra, .second, Sd rb, .second, Si 0, .unset] [(.int ((0 : Int32) + (inV jd jm jw)))])
      refine Go.on (fun _ k => XS.istore X36.here hx rfl (hb hby at_325) rfl (l' := #[.val (.int i0), .val (.int i1), .val (.int i2), .val (.int i3), .val (.int i4), .val (.long jw), .second, .val (.int (0 : Int32)), .val (.int (1 : Int32)), .val (.long ja), .second, .val (.long jb), .second, .val (.long jc), .second, .val (.long jd), .second, .val (.long jn), .second, .val (.long jm), .second, .val (.double wd), .second, .val (.ref q), .val (.double ra), .second, .val (.double rb), .second, .val (.int (0 : Int32)), .val (.int ((0 : Int32) + (inV jd jm jw)))]) rfl k) ?_
      show Go _ _ _ _ _ _ _ _ (mkF m 327 #[Si i0, Si i1, Si i2, Si i3, Si i4, Sj jw, .second, Si 0, Si 1, Sj ja, .second, Sj jb, .second, Sj jc, .second, Sj jd, .second, Sj jn, .second, Sj jm, .second, Sd wd, .second, Sr q, Sd ra, .second, Sd rb, .second, Si 0, .val (.int ((0 : Int32) + (inV jd jm jw)))] [])
      generalize hcb : ((0 : Int32) + (inV jd jm jw)) = cb
      show Go _ _ _ _ _ _ _ _ (mkF m 327 #[Si i0, Si i1, Si i2, Si i3, Si i4, Sj jw, .second, Si 0, Si 1, Sj ja, .second, Sj jb, .second, Sj jc, .second, Sj jd, .second, Sj jn, .second, Sj jm, .second, Sd wd, .second, Sr q, Sd ra, .second, Sd rb, .second, Si 0, Si cb] [])
      refine Go.on (fun _ k => XS.dload X36.here hx rfl (hb hby at_327) rfl k) ?_
      refine Go.on (fun _ k => XS.iload X36.here hx rfl (hb hby at_329) rfl k) ?_
      refine Go.on (fun _ k => XS.i2dS X36.here hx rfl (hb hby at_331) rfl rfl k) ?_
      refine Go.on (fun _ k => XS.dload X36.here hx rfl (hb hby at_332) rfl k) ?_
      show Go _ _ _ _ _ _ _ _ (mkF m 334 #[Si i0, Si i1, Si i2, Si i3, Si i4, Sj jw, .second, Si 0, Si 1, Sj ja, .second, Sj jb, .second, Sj jc, .second, Sj jd, .second, Sj jn, .second, Sj jm, .second, Sd wd, .second, Sr q, Sd ra, .second, Sd rb, .second, Si 0, Si cb] [(.double wd), (.double (FP.i2d (0 : Int32))), (.double ra)])
      refine Go.on (fun _ k => XS.ddivS X36.here hx rfl (hb hby at_334) rfl ((own_rt _ hwd.symm hwj.1 Bjw)) rfl k) ?_
      show Go _ _ _ _ _ _ _ _ (mkF m 335 #[Si i0, Si i1, Si i2, Si i3, Si i4, Sj jw, .second, Si 0, Si 1, Sj ja, .second, Sj jb, .second, Sj jc, .second, Sj jd, .second, Sj jn, .second, Sj jm, .second, Sd wd, .second, Sr q, Sd ra, .second, Sd rb, .second, Si 0, Si cb] [(.double (FP.ddiv (FP.i2d (0 : Int32)) wd)), (.double ra)])
      refine Go.on (fun _ k => XS.dcmpS X36.here hx rfl (hb hby at_335) rfl rfl k) ?_
      show Go _ _ _ _ _ _ _ _ (mkF m 336 #[Si i0, Si i1, Si i2, Si i3, Si i4, Sj jw, .second, Si 0, Si 1, Sj ja, .second, Sj jb, .second, Sj jc, .second, Sj jd, .second, Sj jn, .second, Sj jm, .second, Sd wd, .second, Sr q, Sd ra, .second, Sd rb, .second, Si 0, Si cb] [(.int (cmpValue (FP.dcmp ra (FP.ddiv (FP.i2d (0 : Int32)) wd)) .l))])
      have hc37 : (cmpValue (FP.dcmp ra (FP.ddiv (FP.i2d (0 : Int32)) wd)) .l) = (0 : Int32) := own_same hra (by first | exact hca | rfl | (rw [← hca]; simp) | simp) hwd hwj.1 Bjw
      refine Go.on (fun _ k => XS.ifNo X36.here hx rfl (hb hby at_336) rfl ((if0 _ _).trans (teq hc37).2) k) ?_
      refine Go.on (fun _ k => XS.dload X36.here hx rfl (hb hby at_339) rfl k) ?_
      refine Go.on (fun _ k => XS.iload X36.here hx rfl (hb hby at_341) rfl k) ?_
      refine Go.on (fun _ k => XS.i2dS X36.here hx rfl (hb hby at_343) rfl rfl k) ?_
      refine Go.on (fun _ k => XS.dload X36.here hx rfl (hb hby at_344) rfl k) ?_
      show Go _ _ _ _ _ _ _ _ (mkF m 346 #[Si i0, Si i1, Si i2, Si i3, Si i4, Sj jw, .second, Si 0, Si 1, Sj ja, .second, Sj jb, .second, Sj jc, .second, Sj jd, .second, Sj jn, .second, Sj jm, .second, Sd wd, .second, Sr q, Sd ra, .second, Sd rb, .second, Si 0, Si cb] [(.double wd), (.double (FP.i2d cb)), (.double rb)])
      refine Go.on (fun _ k => XS.ddivS X36.here hx rfl (hb hby at_346) rfl ((own_rt _ hwd.symm hwj.1 Bjw)) rfl k) ?_
      show Go _ _ _ _ _ _ _ _ (mkF m 347 #[Si i0, Si i1, Si i2, Si i3, Si i4, Sj jw, .second, Si 0, Si 1, Sj ja, .second, Sj jb, .second, Sj jc, .second, Sj jd, .second, Sj jn, .second, Sj jm, .second, Sd wd, .second, Sr q, Sd ra, .second, Sd rb, .second, Si 0, Si cb] [(.double (FP.ddiv (FP.i2d cb) wd)), (.double rb)])
      refine Go.on (fun _ k => XS.dcmpS X36.here hx rfl (hb hby at_347) rfl rfl k) ?_
      show Go _ _ _ _ _ _ _ _ (mkF m 348 #[Si i0, Si i1, Si i2, Si i3, Si i4, Sj jw, .second, Si 0, Si 1, Sj ja, .second, Sj jb, .second, Sj jc, .second, Sj jd, .second, Sj jn, .second, Sj jm, .second, Sd wd, .second, Sr q, Sd ra, .second, Sd rb, .second, Si 0, Si cb] [(.int (cmpValue (FP.dcmp rb (FP.ddiv (FP.i2d cb) wd)) .l))])
      have hc38 : (cmpValue (FP.dcmp rb (FP.ddiv (FP.i2d cb) wd)) .l) = (0 : Int32) := own_same hrb (by first | exact hcb | rfl | (rw [← hcb]; simp) | simp) hwd hwj.1 Bjw
      refine Go.on (fun _ k => XS.ifNo X36.here hx rfl (hb hby at_348) rfl ((if0 _ _).trans (teq hc38).2) k) ?_
      refine Go.on (fun _ k => XS.iconst X36.here hx rfl (hb hby at_351) k) ?_
      refine Go.on (fun _ k => XS.goto X36.here hx rfl (pc0 := 352) (pc' := 356) rfl (hb hby at_352) (by decide) (by decide) k) ?_
      show Go _ _ _ _ _ _ _ _ (mkF m 356 #[Si i0, Si i1, Si i2, Si i3, Si i4, Sj jw, .second, Si 0, Si 1, Sj ja, .second, Sj jb, .second, Sj jc, .second, Sj jd, .second, Sj jn, .second, Sj jm, .second, Sd wd, .second, Sr q, Sd ra, .second, Sd rb, .second, Si 0, Si cb] [(.int 1)])
      refine Go.retN X36 hx (t := .boolean) Bd.returns (by simp) (hb hby at_356) ?_ (by rw [hK1]; decide) (by rw [hK2]; decide)
      rw [e36, ← hQQ]
      exact ⟨rfl, N36⟩
  · -- 1 times
    subst hk
    rcases own_lt hla with hk | hk
    · -- late 0
      subst hk
      show Go _ _ _ _ _ _ _ _ (mkF m 100 #[Si i0, Si i1, Si i2, Si i3, Si i4, Sj jw, .second, Si 1, Si 0, Sj ja, .second, Sj jb, .second, Sj jc, .second, Sj jd, .second, Sj jn, .second, Sj jm, .second, Sd wd, .second, .unset, .unset, .unset, .unset, .unset, .unset, .unset] [])
      obtain ⟨T39, h39, X39, e39, E39, A39, D39, -, st39⟩ := newO X0 hx hZ hown (hw _ (List.mem_of_getElem? (i := 0) rfl)) (hw _ (List.mem_of_getElem? (i := 1) rfl)) (hw _ (List.mem_of_getElem? (i := 2) rfl)) e0 (g := (mkF m 100 #[Si i0, Si i1, Si i2, Si i3, Si i4, Sj jw, .second, Si 1, Si 0, Sj ja, .second, Sj jb, .second, Sj jc, .second, Sj jd, .second, Sj jn, .second, Sj jm, .second, Sd wd, .second, .unset, .unset, .unset, .unset, .unset, .unset, .unset] [])) rfl (hb hby at_100) (by decide) (by decide)
      obtain ⟨q, g39⟩ : ∃ z, z = h0.size := ⟨_, rfl⟩
      have g_q : n0 ≤ q := Nat.le_trans ZZ (Nat.le_of_eq g39.symm)
      rw [← g39] at A39 D39 st39
      replace ZZ := Nat.le_trans ZZ E39.1
      have E_q := A39
      have F_times_q : Fld Z h39 q "com/example/deliberate_scaler/deliberatescaler/model/RateWindow" "times" "[D" .null := D39 (Or.inl (hw _ (List.mem_of_getElem? (i := 11) rfl))) (ty := (.array .double)) (by decide)
      have F_latest_q : Fld Z h39 q "com/example/deliberate_scaler/deliberatescaler/model/RateWindow" "latest" "D" (.double (0 : UInt64)) := D39 (Or.inl (hw _ (List.mem_of_getElem? (i := 14) rfl))) (ty := .double) (by decide)
      have F_window_q : Fld Z h39 q "com/example/deliberate_scaler/deliberatescaler/model/RateWindow" "window" "D" (.double (0 : UInt64)) := D39 (Or.inr (hw _ (List.mem_of_getElem? (i := 17) rfl))) (ty := .double) (by decide)
      have F_end_q : Fld Z h39 q "com/example/deliberate_scaler/deliberatescaler/model/RateWindow" "end" "I" (.int (0 : Int32)) := D39 (Or.inl (hw _ (List.mem_of_getElem? (i := 24) rfl))) (ty := .int) (by decide)
      have F_first_q : Fld Z h39 q "com/example/deliberate_scaler/deliberatescaler/model/RateWindow" "first" "I" (.int (0 : Int32)) := D39 (Or.inl (hw _ (List.mem_of_getElem? (i := 31) rfl))) (ty := .int) (by decide)
      refine Go.on st39 ?_
      show Go _ _ _ _ _ _ _ _ (mkF m 103 #[Si i0, Si i1, Si i2, Si i3, Si i4, Sj jw, .second, Si 1, Si 0, Sj ja, .second, Sj jb, .second, Sj jc, .second, Sj jd, .second, Sj jn, .second, Sj jm, .second, Sd wd, .second, .unset, .unset, .unset, .unset, .unset, .unset, .unset] [(.ref q)])
      refine Go.on (fun _ k => XS.dup X39.here hx rfl (hb hby at_103) rfl rfl k) ?_
      refine Go.on (fun _ k => XS.dload X39.here hx rfl (hb hby at_104) rfl k) ?_
      show Go _ _ _ _ _ _ _ _ (mkF m 106 #[Si i0, Si i1, Si i2, Si i3, Si i4, Sj jw, .second, Si 1, Si 0, Sj ja, .second, Sj jb, .second, Sj jc, .second, Sj jd, .second, Sj jn, .second, Sj jm, .second, Sd wd, .second, .unset, .unset, .unset, .unset, .unset, .unset, .unset] [(.double wd), (.ref q), (.ref q)])
      obtain ⟨_, _, ⟨T40, L40, k40, n40⟩, -, X40, ⟨Lc40, hQ40, l40, y40, z40⟩, st40⟩ := X39.specialBack hx (y := (⟨"com/example/deliberate_scaler/deliberatescaler/model/RateWindow", "<init>", "(D)V"⟩ : MethodName)) rfl hown (mvT hZ (hw _ (List.mem_of_getElem? (i := 3) rfl))) (mvT hZ (hw _ (List.mem_of_getElem? (i := 4) rfl))) (mvT hZ (hw _ (List.mem_of_getElem? (i := 5) rfl))) (by decide) (backOf (W := 1) (rm1 l Z aw hw [] q wd  h39 n0 ZZ E_q F_times_q F_latest_q F_window_q F_first_q F_end_q g_q (own_wpos hwd hwj.1 Bjw) (own_winf hwd Bjw)) hZ (hw _ (List.mem_of_getElem? (i := 5) rfl)) (hw _ (List.mem_of_getElem? (i := 2) rfl)) (by decide) (by decide)) (g := (mkF m 106 #[Si i0, Si i1, Si i2, Si i3, Si i4, Sj jw, .second, Si 1, Si 0, Sj ja, .second, Sj jb, .second, Sj jc, .second, Sj jd, .second, Sj jn, .second, Sj jm, .second, Sd wd, .second, .unset, .unset, .unset, .unset, .unset, .unset, .unset] [(.double wd), (.ref q), (.ref q)])) rfl (by rw [hml]; rfl) (Steps.refl _) (a := q) (argsL := [(.double wd)]) (rest := [(.ref q)]) (lenOf pd_0 rfl) rfl (by show 2 * 0 + _ ≤ _; exact Nat.le_of_eq rfl) (hb hby at_106) (fun _ _ => ⟨rfl, e39, (by decide : 1 + 1 ≤ _), (by decide : 5 + 64 ≤ _)⟩)
      dsimp only [Pt.U, Pt.locs, Pt.cells, Pt.slots] at X40 l40 y40 z40 st40 hQ40
      subst l40 y40 z40
      obtain ⟨h40, e40⟩ : ∃ q, T40.heap = q := ⟨_, rfl⟩
      rw [e40] at hQ40
      obtain ⟨rfl, N40q, ar, k_ar, K40q, szarq, Eq40, F_timesq40, F_latestq40, F_windowq40, F_firstq40, F_endq40, V_ar⟩ := hQ40
      have N40 := Fr.app N0 N40q
      have ZZ40p := ZZ
      have lt_q := E_q.lt
      replace E_q := E_q.keep K40q
      replace ZZ := Nat.le_trans ZZ K40q.1
      have F_times_q := F_timesq40
      have F_latest_q := F_latestq40
      have F_window_q := F_windowq40
      have F_first_q := F_firstq40
      have F_end_q := F_endq40
      replace E_q := Eq40
      have g_ar : n0 ≤ ar := Nat.le_trans ZZ40p szarq
      have ne_q_ar : q ≠ ar := Nat.ne_of_lt (Nat.lt_of_lt_of_le lt_q szarq)
      refine Go.on (fun _ k => st40.trans k) ?_
      show Go _ _ _ _ _ _ _ _ (mkF m 109 #[Si i0, Si i1, Si i2, Si i3, Si i4, Sj jw, .second, Si 1, Si 0, Sj ja, .second, Sj jb, .second, Sj jc, .second, Sj jd, .second, Sj jn, .second, Sj jm, .second, Sd wd, .second, .unset, .unset, .unset, .unset, .unset, .unset, .unset] [(.ref q)])
      refine Go.on (fun _ k => XS.astore X40.here hx rfl (hb hby at_109) rfl rfl (l' := #[.val (.int i0), .val (.int i1), .val (.int i2), .val (.int i3), .val (.int i4), .val (.long jw), .second, .val (.int (1 : Int32)), .val (.int (0 : Int32)), .val (.long ja), .second, .val (.long jb), .second, .val (.long jc), .second, .val (.long jd), .second, .val (.long jn), .second, .val (.long jm), .second, .val (.double wd), .second, .val (.ref q), .unset, .unset, .unset, .unset, .unset, .unset]) rfl k) ?_
      show Go _ _ _ _ _ _ _ _ (mkF m 111 #[Si i0, Si i1, Si i2, Si i3, Si i4, Sj jw, .second, Si 1, Si 0, Sj ja, .second, Sj jb, .second, Sj jc, .second, Sj jd, .second, Sj jn, .second, Sj jm, .second, Sd wd, .second, Sr q, .unset, .unset, .unset, .unset, .unset, .unset] [])
      refine Go.on (fun _ k => XS.iload X40.here hx rfl (hb hby at_111) rfl k) ?_
      refine Go.on (fun _ k => XS.iconst X40.here hx rfl (hb hby at_113) k) ?_
      show Go _ _ _ _ _ _ _ _ (mkF m 114 #[Si i0, Si i1, Si i2, Si i3, Si i4, Sj jw, .second, Si 1, Si 0, Sj ja, .second, Sj jb, .second, Sj jc, .second, Sj jd, .second, Sj jn, .second, Sj jm, .second, Sd wd, .second, Sr q, .unset, .unset, .unset, .unset, .unset, .unset] [(.int 1), (.int 1)])
      have hc41 : ¬ ((1 : Int32) < (1 : Int32)) := by decide
      refine Go.on (fun _ k => XS.icmpNo X40.here hx rfl (hb hby at_114) rfl (flt hc41).1 k) ?_
      refine Go.on (fun _ k => XS.aload X40.here hx rfl (hb hby at_117) rfl rfl k) ?_
      refine Go.on (fun _ k => XS.lload X40.here hx rfl (hb hby at_119) rfl k) ?_
      refine Go.on (fun _ k => XS.l2dS X40.here hx rfl (hb hby at_121) rfl rfl k) ?_
      show Go _ _ _ _ _ _ _ _ (mkF m 122 #[Si i0, Si i1, Si i2, Si i3, Si i4, Sj jw, .second, Si 1, Si 0, Sj ja, .second, Sj jb, .second, Sj jc, .second, Sj jd, .second, Sj jn, .second, Sj jm, .second, Sd wd, .second, Sr q, .unset, .unset, .unset, .unset, .unset, .unset] [(.double (FP.l2d ja)), (.ref q)])
      obtain ⟨cq42, kq42, q42a, q42b, q42c⟩ := isOf hZ e40 E_q
      obtain ⟨_, _, ⟨T42, L42, k42, n42⟩, -, X42, ⟨Lc42, hQ42, l42, y42, z42⟩, st42⟩ := X40.virtualBack hx (y := (⟨"com/example/deliberate_scaler/deliberatescaler/model/RateWindow", "add", "(D)V"⟩ : MethodName)) (z := (⟨"com/example/deliberate_scaler/deliberatescaler/model/RateWindow", "add", "(D)V"⟩ : MethodName)) hown (mvT hZ (hw _ (List.mem_of_getElem? (i := 18) rfl))) (mvT hZ (hw _ (List.mem_of_getElem? (i := 19) rfl))) (notFace_of_selects (args := #[]) (mvT hZ (hw _ (List.mem_of_getElem? (i := 21) rfl)))) (mvT hZ (hw _ (List.mem_of_getElem? (i := 21) rfl))) (mvT hZ (hw _ (List.mem_of_getElem? (i := 20) rfl))) (by decide) (backOf (W := 0) (rw_add_0 l Z aw hw [] q (FP.l2d ja) ar (18442240474082181120 : UInt64) wd (0 : Int32) k_ar h40 n0 ZZ E_q F_times_q F_latest_q F_window_q F_first_q F_end_q V_ar g_q g_ar ne_q_ar (own_inf Bja)) hZ (hw _ (List.mem_of_getElem? (i := 22) rfl)) (hw _ (List.mem_of_getElem? (i := 2) rfl)) (by decide) (by decide)) q42a q42c (g := (mkF m 122 #[Si i0, Si i1, Si i2, Si i3, Si i4, Sj jw, .second, Si 1, Si 0, Sj ja, .second, Sj jb, .second, Sj jc, .second, Sj jd, .second, Sj jn, .second, Sj jm, .second, Sd wd, .second, Sr q, .unset, .unset, .unset, .unset, .unset, .unset] [(.double (FP.l2d ja)), (.ref q)])) rfl (by rw [hml]; rfl) (Steps.refl _) (argsL := [(.double (FP.l2d ja))]) (rest := []) (lenOf pd_0 rfl) rfl (by show 2 * 0 + _ ≤ _; exact Nat.le_of_eq rfl) (hb hby at_122) (fun _ _ => ⟨rfl, e40, (by decide : 2 + 0 ≤ _), (by decide : 69 + 0 ≤ _)⟩)
      dsimp only [Pt.U, Pt.locs, Pt.cells, Pt.slots] at X42 l42 y42 z42 st42 hQ42
      subst l42 y42 z42
      obtain ⟨h42, e42⟩ : ∃ q, T42.heap = q := ⟨_, rfl⟩
      rw [e42] at hQ42
      obtain ⟨rfl, N42q, K42q, Eq42, F_timesq42, F_latestq42, F_windowq42, F_firstq42, F_endq42, V_q42⟩ := hQ42
      have N42 := Fr.app N40 N42q
      have ZZ42p := ZZ
      have lt_q := E_q.lt
      have lt_ar := V_ar.lt
      replace E_q := E_q.keep K42q
      replace ZZ := Nat.le_trans ZZ K42q.1
      have F_times_q := F_timesq42
      have F_latest_q := F_latestq42
      have F_window_q := F_windowq42
      have F_first_q := F_firstq42
      have F_end_q := F_endq42
      replace E_q := Eq42
      have V_ar := V_q42
      refine Go.on (fun _ k => st42.trans k) ?_
      show Go _ _ _ _ _ _ _ _ (mkF m 125 #[Si i0, Si i1, Si i2, Si i3, Si i4, Sj jw, .second, Si 1, Si 0, Sj ja, .second, Sj jb, .second, Sj jc, .second, Sj jd, .second, Sj jn, .second, Sj jm, .second, Sd wd, .second, Sr q, .unset, .unset, .unset, .unset, .unset, .unset] [])
      refine Go.on (fun _ k => XS.iload X42.here hx rfl (hb hby at_125) rfl k) ?_
      refine Go.on (fun _ k => XS.iconst X42.here hx rfl (hb hby at_127) k) ?_
      show Go _ _ _ _ _ _ _ _ (mkF m 128 #[Si i0, Si i1, Si i2, Si i3, Si i4, Sj jw, .second, Si 1, Si 0, Sj ja, .second, Sj jb, .second, Sj jc, .second, Sj jd, .second, Sj jn, .second, Sj jm, .second, Sd wd, .second, Sr q, .unset, .unset, .unset, .unset, .unset, .unset] [(.int 2), (.int 1)])
      have hc43 : (1 : Int32) < (2 : Int32) := by decide
      refine Go.on (fun _ k => XS.icmpYes X42.here hx rfl (pc0 := 128) (pc' := 139) rfl (hb hby at_128) rfl (tlt hc43).1 (by decide) (by decide) k) ?_
      refine Go.on (fun _ k => XS.iload X42.here hx rfl (hb hby at_139) rfl k) ?_
      refine Go.on (fun _ k => XS.iconst X42.here hx rfl (hb hby at_141) k) ?_
      show Go _ _ _ _ _ _ _ _ (mkF m 142 #[Si i0, Si i1, Si i2, Si i3, Si i4, Sj jw, .second, Si 1, Si 0, Sj ja, .second, Sj jb, .second, Sj jc, .second, Sj jd, .second, Sj jn, .second, Sj jm, .second, Sd wd, .second, Sr q, .unset, .unset, .unset, .unset, .unset, .unset] [(.int 3), (.int 1)])
      have hc44 : (1 : Int32) < (3 : Int32) := by decide
      refine Go.on (fun _ k => XS.icmpYes X42.here hx rfl (pc0 := 142) (pc' := 153) rfl (hb hby at_142) rfl (tlt hc44).1 (by decide) (by decide) k) ?_
      refine Go.on (fun _ k => XS.aload X42.here hx rfl (hb hby at_153) rfl rfl k) ?_
      refine Go.on (fun _ k => XS.lload X42.here hx rfl (hb hby at_155) rfl k) ?_
      refine Go.on (fun _ k => XS.l2dS X42.here hx rfl (hb hby at_157) rfl rfl k) ?_
      show Go _ _ _ _ _ _ _ _ (mkF m 158 #[Si i0, Si i1, Si i2, Si i3, Si i4, Sj jw, .second, Si 1, Si 0, Sj ja, .second, Sj jb, .second, Sj jc, .second, Sj jd, .second, Sj jn, .second, Sj jm, .second, Sd wd, .second, Sr q, .unset, .unset, .unset, .unset, .unset, .unset] [(.double (FP.l2d jn)), (.ref q)])
      obtain ⟨cq45, kq45, q45a, q45b, q45c⟩ := isOf hZ e42 E_q
      obtain ⟨_, _, ⟨T45, L45, k45, n45⟩, -, X45, ⟨Lc45, hQ45, l45, y45, z45⟩, st45⟩ := X42.virtualBack hx (y := (⟨"com/example/deliberate_scaler/deliberatescaler/model/RateWindow", "rate", "(D)D"⟩ : MethodName)) (z := (⟨"com/example/deliberate_scaler/deliberatescaler/model/RateWindow", "rate", "(D)D"⟩ : MethodName)) hown (mvT hZ (hw _ (List.mem_of_getElem? (i := 25) rfl))) (mvT hZ (hw _ (List.mem_of_getElem? (i := 26) rfl))) (notFace_of_selects (args := #[]) (mvT hZ (hw _ (List.mem_of_getElem? (i := 28) rfl)))) (mvT hZ (hw _ (List.mem_of_getElem? (i := 28) rfl))) (mvT hZ (hw _ (List.mem_of_getElem? (i := 27) rfl))) (by decide) (backOf (W := 0) (rw_rate_1 l Z aw hw [] q (FP.l2d jn) ja jn jw ar (FP.l2d ja) wd (0 : Int32) k_ar (FP.l2d ja) h42 n0 ZZ E_q F_times_q F_latest_q F_window_q F_first_q F_end_q V_ar g_q ne_q_ar rfl hwd.symm Bjn Bjw hwj.1 rfl Bja (Or.inl rfl) (fun q => absurd q (by decide))) hZ (hw _ (List.mem_of_getElem? (i := 29) rfl)) (hw _ (List.mem_of_getElem? (i := 2) rfl)) (by decide) (by decide)) q45a q45c (g := (mkF m 158 #[Si i0, Si i1, Si i2, Si i3, Si i4, Sj jw, .second, Si 1, Si 0, Sj ja, .second, Sj jb, .second, Sj jc, .second, Sj jd, .second, Sj jn, .second, Sj jm, .second, Sd wd, .second, Sr q, .unset, .unset, .unset, .unset, .unset, .unset] [(.double (FP.l2d jn)), (.ref q)])) rfl (by rw [hml]; rfl) (Steps.refl _) (argsL := [(.double (FP.l2d jn))]) (rest := []) (lenOf pd_1 rfl) rfl (by show 2 * 0 + _ ≤ _; exact Nat.le_of_eq rfl) (hb hby at_158) (fun _ _ => ⟨rfl, e42, (by decide : 2 + 0 ≤ _), (by decide : 69 + 0 ≤ _)⟩)
      dsimp only [Pt.U, Pt.locs, Pt.cells, Pt.slots] at X45 l45 y45 z45 st45 hQ45
      subst l45 y45 z45
      obtain ⟨h45, e45⟩ : ∃ q, T45.heap = q := ⟨_, rfl⟩
      rw [e45] at hQ45
      obtain ⟨f1_45, rfl, N45q, K45q, Eq45, F_timesq45, F_latestq45, F_windowq45, F_firstq45, F_endq45, hdj45, hdr0_45⟩ := hQ45
      have N45 := Fr.app N42 N45q
      have ZZ45p := ZZ
      have lt_q := E_q.lt
      have lt_ar := V_ar.lt
      replace E_q := E_q.keep K45q
      replace V_ar := V_ar.keep K45q (ninS (Ne.symm ne_q_ar) nin0)
      replace ZZ := Nat.le_trans ZZ K45q.1
      obtain ⟨fr1, hfr1⟩ : ∃ z, z = f1_45 := ⟨_, rfl⟩
      rw [← hfr1] at F_firstq45 hdj45 hdr0_45
      have F_times_q := F_timesq45
      have F_latest_q := F_latestq45
      have F_window_q := F_windowq45
      have F_first_q := F_firstq45
      have F_end_q := F_endq45
      replace E_q := Eq45
      refine Go.on (fun _ k => st45.trans k) ?_
      show Go _ _ _ _ _ _ _ _ (mkF m 161 #[Si i0, Si i1, Si i2, Si i3, Si i4, Sj jw, .second, Si 1, Si 0, Sj ja, .second, Sj jb, .second, Sj jc, .second, Sj jd, .second, Sj jn, .second, Sj jm, .second, Sd wd, .second, Sr q, .unset, .unset, .unset, .unset, .unset, .unset] [(.double (FP.ddiv (FP.i2d (inV ja jn jw)) wd))])
      refine Go.on (fun _ k => XS.dstore X45.here hx rfl (hb hby at_161) rfl (l' := #[.val (.int i0), .val (.int i1), .val (.int i2), .val (.int i3), .val (.int i4), .val (.long jw), .second, .val (.int (1 : Int32)), .val (.int (0 : Int32)), .val (.long ja), .second, .val (.long jb), .second, .val (.long jc), .second, .val (.long jd), .second, .val (.long jn), .second, .val (.long jm), .second, .val (.double wd), .second, .val (.ref q), .val (.double (FP.ddiv (FP.i2d (inV ja jn jw)) wd)), .second, .unset, .unset, .unset, .unset]) rfl k) ?_
      show Go _ _ _ _ _ _ _ _ (mkF m 163 #[Si i0, Si i1, Si i2, Si i3, Si i4, Sj jw, .second, Si 1, Si 0, Sj ja, .second, Sj jb, .second, Sj jc, .second, Sj jd, .second, Sj jn, .second, Sj jm, .second, Sd wd, .second, Sr q, .val (.double (FP.ddiv (FP.i2d (inV ja jn jw)) wd)), .second, .unset, .unset, .unset, .unset] [])
      generalize hra : (FP.ddiv (FP.i2d (inV ja jn jw)) wd) = ra
      show Go _ _ _ _ _ _ _ _ (mkF m 163 #[Si i0, Si i1, Si i2, Si i3, Si i4, Sj jw, .second, Si 1, Si 0, Sj ja, .second, Sj jb, .second, Sj jc, .second, Sj jd, .second, Sj jn, .second, Sj jm, .second, Sd wd, .second, Sr q, Sd ra, .second, .unset, .unset, .unset, .unset] [])
      refine Go.on (fun _ k => XS.iload X45.here hx rfl (hb hby at_163) rfl k) ?_
      show Go _ _ _ _ _ _ _ _ (mkF m 165 #[Si i0, Si i1, Si i2, Si i3, Si i4, Sj jw, .second, Si 1, Si 0, Sj ja, .second, Sj jb, .second, Sj jc, .second, Sj jd, .second, Sj jn, .second, Sj jm, .second, Sd wd, .second, Sr q, Sd ra, .second, .unset, .unset, .unset, .unset] [(.int 0)])
      have hc46 : (0 : Int32) = (0 : Int32) := by decide
      refine Go.on (fun _ k => XS.ifYes X45.here hx rfl (pc0 := 165) (pc' := 176) rfl (hb hby at_165) rfl ((if0 _ _).trans (teq hc46).1) (by decide) (by decide) k) ?_
      refine Go.on (fun _ k => XS.aload X45.here hx rfl (hb hby at_176) rfl rfl k) ?_
      refine Go.on (fun _ k => XS.lload X45.here hx rfl (hb hby at_178) rfl k) ?_
      refine Go.on (fun _ k => XS.l2dS X45.here hx rfl (hb hby at_180) rfl rfl k) ?_
      show Go _ _ _ _ _ _ _ _ (mkF m 181 #[Si i0, Si i1, Si i2, Si i3, Si i4, Sj jw, .second, Si 1, Si 0, Sj ja, .second, Sj jb, .second, Sj jc, .second, Sj jd, .second, Sj jn, .second, Sj jm, .second, Sd wd, .second, Sr q, Sd ra, .second, .unset, .unset, .unset, .unset] [(.double (FP.l2d jm)), (.ref q)])
      obtain ⟨cq47, kq47, q47a, q47b, q47c⟩ := isOf hZ e45 E_q
      obtain ⟨_, _, ⟨T47, L47, k47, n47⟩, -, X47, ⟨Lc47, hQ47, l47, y47, z47⟩, st47⟩ := X45.virtualBack hx (y := (⟨"com/example/deliberate_scaler/deliberatescaler/model/RateWindow", "rate", "(D)D"⟩ : MethodName)) (z := (⟨"com/example/deliberate_scaler/deliberatescaler/model/RateWindow", "rate", "(D)D"⟩ : MethodName)) hown (mvT hZ (hw _ (List.mem_of_getElem? (i := 25) rfl))) (mvT hZ (hw _ (List.mem_of_getElem? (i := 26) rfl))) (notFace_of_selects (args := #[]) (mvT hZ (hw _ (List.mem_of_getElem? (i := 28) rfl)))) (mvT hZ (hw _ (List.mem_of_getElem? (i := 28) rfl))) (mvT hZ (hw _ (List.mem_of_getElem? (i := 27) rfl))) (by decide) (backOf (W := 0) (rw_rate_1 l Z aw hw [] q (FP.l2d jm) ja jm jw ar (FP.l2d ja) wd fr1 k_ar (FP.l2d ja) h45 n0 ZZ E_q F_times_q F_latest_q F_window_q F_first_q F_end_q V_ar g_q ne_q_ar rfl hwd.symm Bjm Bjw hwj.1 rfl Bja hdj45 (fun q => Int.le_trans (hdr0_45 q) (by omega))) hZ (hw _ (List.mem_of_getElem? (i := 29) rfl)) (hw _ (List.mem_of_getElem? (i := 2) rfl)) (by decide) (by decide)) q47a q47c (g := (mkF m 181 #[Si i0, Si i1, Si i2, Si i3, Si i4, Sj jw, .second, Si 1, Si 0, Sj ja, .second, Sj jb, .second, Sj jc, .second, Sj jd, .second, Sj jn, .second, Sj jm, .second, Sd wd, .second, Sr q, Sd ra, .second, .unset, .unset, .unset, .unset] [(.double (FP.l2d jm)), (.ref q)])) rfl (by rw [hml]; rfl) (Steps.refl _) (argsL := [(.double (FP.l2d jm))]) (rest := []) (lenOf pd_1 rfl) rfl (by show 2 * 0 + _ ≤ _; exact Nat.le_of_eq rfl) (hb hby at_181) (fun _ _ => ⟨rfl, e45, (by decide : 2 + 0 ≤ _), (by decide : 69 + 0 ≤ _)⟩)
      dsimp only [Pt.U, Pt.locs, Pt.cells, Pt.slots] at X47 l47 y47 z47 st47 hQ47
      subst l47 y47 z47
      obtain ⟨h47, e47⟩ : ∃ q, T47.heap = q := ⟨_, rfl⟩
      rw [e47] at hQ47
      obtain ⟨f1_47, rfl, N47q, K47q, Eq47, F_timesq47, F_latestq47, F_windowq47, F_firstq47, F_endq47, hdj47, hdr0_47⟩ := hQ47
      have N47 := Fr.app N45 N47q
      have ZZ47p := ZZ
      have lt_q := E_q.lt
      have lt_ar := V_ar.lt
      replace E_q := E_q.keep K47q
      replace V_ar := V_ar.keep K47q (ninS (Ne.symm ne_q_ar) nin0)
      replace ZZ := Nat.le_trans ZZ K47q.1
      obtain ⟨fr2, hfr2⟩ : ∃ z, z = f1_47 := ⟨_, rfl⟩
      rw [← hfr2] at F_firstq47 hdj47 hdr0_47
      have F_times_q := F_timesq47
      have F_latest_q := F_latestq47
      have F_window_q := F_windowq47
      have F_first_q := F_firstq47
      have F_end_q := F_endq47
      replace E_q := Eq47
      refine Go.on (fun _ k => st47.trans k) ?_
      show Go _ _ _ _ _ _ _ _ (mkF m 184 #[Si i0, Si i1, Si i2, Si i3, Si i4, Sj jw, .second, Si 1, Si 0, Sj ja, .second, Sj jb, .second, Sj jc, .second, Sj jd, .second, Sj jn, .second, Sj jm, .second, Sd wd, .second, Sr q, Sd ra, .second, .unset, .unset, .unset, .unset] [(.double (FP.ddiv (FP.i2d (inV ja jm jw)) wd))])
      refine Go.on (fun _ k => XS.dstore X47.here hx rfl (hb hby at_184) rfl (l' := #[.val (.int i0), .val (.int i1), .val (.int i2), .val (.int i3), .val (.int i4), .val (.long jw), .second, .val (.int (1 : Int32)), .val (.int (0 : Int32)), .val (.long ja), .second, .val (.long jb), .second, .val (.long jc), .second, .val (.long jd), .second, .val (.long jn), .second, .val (.long jm), .second, .val (.double wd), .second, .val (.ref q), .val (.double ra), .second, .val (.double (FP.ddiv (FP.i2d (inV ja jm jw)) wd)), .second, .unset, .unset]) rfl k) ?_
      show Go _ _ _ _ _ _ _ _ (mkF m 186 #[Si i0, Si i1, Si i2, Si i3, Si i4, Sj jw, .second, Si 1, Si 0, Sj ja, .second, Sj jb, .second, Sj jc, .second, Sj jd, .second, Sj jn, .second, Sj jm, .second, Sd wd, .second, Sr q, Sd ra, .second, .val (.double (FP.ddiv (FP.i2d (inV ja jm jw)) wd)), .second, .unset, .unset] [])
      generalize hrb : (FP.ddiv (FP.i2d (inV ja jm jw)) wd) = rb
      show Go _ _ _ _ _ _ _ _ (mkF m 186 #[Si i0, Si i1, Si i2, Si i3, Si i4, Sj jw, .second, Si 1, Si 0, Sj ja, .second, Sj jb, .second, Sj jc, .second, Sj jd, .second, Sj jn, .second, Sj jm, .second, Sd wd, .second, Sr q, Sd ra, .second, Sd rb, .second, .unset, .unset] [])
      refine Go.on (fun _ k => XS.iload X47.here hx rfl (hb hby at_186) rfl k) ?_
      refine Go.on (fun _ k => XS.iconst X47.here hx rfl (hb hby at_188) k) ?_
      show Go _ _ _ _ _ _ _ _ (mkF m 189 #[Si i0, Si i1, Si i2, Si i3, Si i4, Sj jw, .second, Si 1, Si 0, Sj ja, .second, Sj jb, .second, Sj jc, .second, Sj jd, .second, Sj jn, .second, Sj jm, .second, Sd wd, .second, Sr q, Sd ra, .second, Sd rb, .second, .unset, .unset] [(.int 1), (.int 1)])
      have hc48 : ¬ ((1 : Int32) < (1 : Int32)) := by decide
      refine Go.on (fun _ k => XS.icmpNo X47.here hx rfl (hb hby at_189) rfl (flt hc48).1 k) ?_
      refine Go.on (fun _ k => XS.lload X47.here hx rfl (hb hby at_192) rfl k) ?_
      refine Go.on (fun _ k => XS.lload X47.here hx rfl (hb hby at_194) rfl k) ?_
      refine Go.on (fun _ k => XS.lload X47.here hx rfl (hb hby at_196) rfl k) ?_
      show Go _ _ _ _ _ _ _ _ (mkF m 198 #[Si i0, Si i1, Si i2, Si i3, Si i4, Sj jw, .second, Si 1, Si 0, Sj ja, .second, Sj jb, .second, Sj jc, .second, Sj jd, .second, Sj jn, .second, Sj jm, .second, Sd wd, .second, Sr q, Sd ra, .second, Sd rb, .second, .unset, .unset] [(.long jw), (.long jn), (.long ja)])
      obtain ⟨_, _, ⟨T49, L49, k49, n49⟩, -, X49, ⟨Lc49, hQ49, l49, y49, z49⟩, st49⟩ := Jvm.LawKit.callS X47 hx (y := (⟨"com/example/deliberate_scaler/deliberatescaler/model/RateWindowRatePinLaw", "in", "(JJJ)I"⟩ : MethodName)) hown (mvT hZ (hw _ (List.mem_of_getElem? (i := 32) rfl))) (mvT hZ (hw _ (List.mem_of_getElem? (i := 33) rfl))) (mvT hZ (hw _ (List.mem_of_getElem? (i := 34) rfl))) (mvT hZ (hw _ (List.mem_of_getElem? (i := 35) rfl))) (by decide) (backOf (W := 0) (rm5 l Z aw hw [] ja jn jw  h47 n0 ZZ ) hZ (hw _ (List.mem_of_getElem? (i := 35) rfl)) (hw _ (List.mem_of_getElem? (i := 34) rfl)) (by decide) (by decide)) (g := (mkF m 198 #[Si i0, Si i1, Si i2, Si i3, Si i4, Sj jw, .second, Si 1, Si 0, Sj ja, .second, Sj jb, .second, Sj jc, .second, Sj jd, .second, Sj jn, .second, Sj jm, .second, Sd wd, .second, Sr q, Sd ra, .second, Sd rb, .second, .unset, .unset] [(.long jw), (.long jn), (.long ja)])) rfl (by rw [hml]; rfl) (argsL := [(.long ja), (.long jn), (.long jw)]) (rest := []) (lenOf pd_2 rfl) rfl (by show 2 * 0 + _ ≤ _; exact Nat.le_of_eq rfl) (hb hby at_198) (fun _ _ => ⟨rfl, e47, (by decide : 2 + 0 ≤ _), (by decide : 69 + 0 ≤ _)⟩)
      dsimp only [Pt.U, Pt.locs, Pt.cells, Pt.slots] at X49 l49 y49 z49 st49 hQ49
      subst l49 y49 z49
      obtain ⟨rfl, N49q, e49⟩ := hQ49
      have N49 := Fr.app N47 N49q
      refine Go.on st49 ?_
      show Go _ _ _ _ _ _ _ _ (mkF m 201 #[Si i0, Si i1, Si i2, Si i3, Si i4, Sj jw, .second, Si 1, Si 0, Sj ja, .second, Sj jb, .second, Sj jc, .second, Sj jd, .second, Sj jn, .second, Sj jm, .second, Sd wd, .second, Sr q, Sd ra, .second, Sd rb, .second, .unset, .unset] [(.int (inV ja jn jw))])
      refine Go.on (fun _ k => XS.goto X49.here hx rfl (pc0 := 201) (pc' := 205) rfl (hb hby at_201) (by decide) (by decide) k) ?_
      refine Go.on (fun _ k => XS.iload X49.here hx rfl (hb hby at_205) rfl k) ?_
      refine Go.on (fun _ k => XS.iconst X49.here hx rfl (hb hby at_207) k) ?_
      show Go _ _ _ _ _ _ _ _ (mkF m 208 #[Si i0, Si i1, Si i2, Si i3, Si i4, Sj jw, .second, Si 1, Si 0, Sj ja, .second, Sj jb, .second, Sj jc, .second, Sj jd, .second, Sj jn, .second, Sj jm, .second, Sd wd, .second, Sr q, Sd ra, .second, Sd rb, .second, .unset, .unset] [(.int 2), (.int 1), (.int (inV ja jn jw))])
      have hc50 : (1 : Int32) < (2 : Int32) := by decide
      refine Go.on (fun _ k => XS.icmpYes X49.here hx rfl (pc0 := 208) (pc' := 223) rfl (hb hby at_208) rfl (tlt hc50).1 (by decide) (by decide) k) ?_
      refine Go.on (fun _ k => XS.iconst X49.here hx rfl (hb hby at_223) k) ?_
      refine Go.on (fun _ k => XS.iadd X49.here hx rfl (hb hby at_224) rfl k) ?_
      refine Go.on (fun _ k => XS.iload X49.here hx rfl (hb hby at_225) rfl k) ?_
      refine Go.on (fun _ k => XS.iconst X49.here hx rfl (hb hby at_227) k) ?_
      show Go _ _ _ _ _ _ _ _ (mkF m 228 #[Si i0, Si i1, Si i2, Si i3, Si i4, Sj jw, .second, Si 1, Si 0, Sj ja, .second, Sj jb, .second, Sj jc, .second, Sj jd, .second, Sj jn, .second, Sj jm, .second, Sd wd, .second, Sr q, Sd ra, .second, Sd rb, .second, .unset, .unset] [(.int 3), (.int 1), (.int ((inV ja jn jw) + (0 : Int32)))])
      have hc51 : (1 : Int32) < (3 : Int32) := by decide
      refine Go.on (fun _ k => XS.icmpYes X49.here hx rfl (pc0 := 228) (pc' := 243) rfl (hb hby at_228) rfl (tlt hc51).1 (by decide) (by decide) k) ?_
      refine Go.on (fun _ k => XS.iconst X49.here hx rfl (hb hby at_243) k) ?_
      refine Go.on (fun _ k => XS.iadd X49.here hx rfl (hb hby at_244) rfl k) ?_
      show Go _ _ _ _ _ _ _ _ (mkF m 245 #[Si i0, Si i1, Si i2, Si i3, Si i4, Sj jw, .second, Si 1, Si 0, Sj ja, .second, Sj jb, .second, Sj jc, .second, Sj jd, .second, Sj jn, .second, Sj jm, .second, Sd wd, .second, Sr q, Sd ra, .second, Sd rb, .second, .unset, .unset] [(.int (((inV ja jn jw) + (0 : Int32)) + (0 : Int32)))])
      refine Go.on (fun _ k => XS.istore X49.here hx rfl (hb hby at_245) rfl (l' := #[.val (.int i0), .val (.int i1), .val (.int i2), .val (.int i3), .val (.int i4), .val (.long jw), .second, .val (.int (1 : Int32)), .val (.int (0 : Int32)), .val (.long ja), .second, .val (.long jb), .second, .val (.long jc), .second, .val (.long jd), .second, .val (.long jn), .second, .val (.long jm), .second, .val (.double wd), .second, .val (.ref q), .val (.double ra), .second, .val (.double rb), .second, .val (.int (((inV ja jn jw) + (0 : Int32)) + (0 : Int32))), .unset]) rfl k) ?_
      show Go _ _ _ _ _ _ _ _ (mkF m 247 #[Si i0, Si i1, Si i2, Si i3, Si i4, Sj jw, .second, Si 1, Si 0, Sj ja, .second, Sj jb, .second, Sj jc, .second, Sj jd, .second, Sj jn, .second, Sj jm, .second, Sd wd, .second, Sr q, Sd ra, .second, Sd rb, .second, .val (.int (((inV ja jn jw) + (0 : Int32)) + (0 : Int32))), .unset] [])
      generalize hca : (((inV ja jn jw) + (0 : Int32)) + (0 : Int32)) = ca
      show Go _ _ _ _ _ _ _ _ (mkF m 247 #[Si i0, Si i1, Si i2, Si i3, Si i4, Sj jw, .second, Si 1, Si 0, Sj ja, .second, Sj jb, .second, Sj jc, .second, Sj jd, .second, Sj jn, .second, Sj jm, .second, Sd wd, .second, Sr q, Sd ra, .second, Sd rb, .second, Si ca, .unset] [])
      refine Go.on (fun _ k => XS.iload X49.here hx rfl (hb hby at_247) rfl k) ?_
      refine Go.on (fun _ k => XS.iconst X49.here hx rfl (hb hby at_249) k) ?_
      show Go _ _ _ _ _ _ _ _ (mkF m 250 #[Si i0, Si i1, Si i2, Si i3, Si i4, Sj jw, .second, Si 1, Si 0, Sj ja, .second, Sj jb, .second, Sj jc, .second, Sj jd, .second, Sj jn, .second, Sj jm, .second, Sd wd, .second, Sr q, Sd ra, .second, Sd rb, .second, Si ca, .unset] [(.int 1), (.int 1)])
      have hc52 : ¬ ((1 : Int32) < (1 : Int32)) := by decide
      refine Go.on (fun _ k => XS.icmpNo X49.here hx rfl (hb hby at_250) rfl (flt hc52).1 k) ?_
      refine Go.on (fun _ k => XS.lload X49.here hx rfl (hb hby at_253) rfl k) ?_
      refine Go.on (fun _ k => XS.lload X49.here hx rfl (hb hby at_255) rfl k) ?_
      refine Go.on (fun _ k => XS.lload X49.here hx rfl (hb hby at_257) rfl k) ?_
      show Go _ _ _ _ _ _ _ _ (mkF m 259 #[Si i0, Si i1, Si i2, Si i3, Si i4, Sj jw, .second, Si 1, Si 0, Sj ja, .second, Sj jb, .second, Sj jc, .second, Sj jd, .second, Sj jn, .second, Sj jm, .second, Sd wd, .second, Sr q, Sd ra, .second, Sd rb, .second, Si ca, .unset] [(.long jw), (.long jm), (.long ja)])
      obtain ⟨_, _, ⟨T53, L53, k53, n53⟩, -, X53, ⟨Lc53, hQ53, l53, y53, z53⟩, st53⟩ := Jvm.LawKit.callS X49 hx (y := (⟨"com/example/deliberate_scaler/deliberatescaler/model/RateWindowRatePinLaw", "in", "(JJJ)I"⟩ : MethodName)) hown (mvT hZ (hw _ (List.mem_of_getElem? (i := 32) rfl))) (mvT hZ (hw _ (List.mem_of_getElem? (i := 33) rfl))) (mvT hZ (hw _ (List.mem_of_getElem? (i := 34) rfl))) (mvT hZ (hw _ (List.mem_of_getElem? (i := 35) rfl))) (by decide) (backOf (W := 0) (rm5 l Z aw hw [] ja jm jw  h47 n0 ZZ ) hZ (hw _ (List.mem_of_getElem? (i := 35) rfl)) (hw _ (List.mem_of_getElem? (i := 34) rfl)) (by decide) (by decide)) (g := (mkF m 259 #[Si i0, Si i1, Si i2, Si i3, Si i4, Sj jw, .second, Si 1, Si 0, Sj ja, .second, Sj jb, .second, Sj jc, .second, Sj jd, .second, Sj jn, .second, Sj jm, .second, Sd wd, .second, Sr q, Sd ra, .second, Sd rb, .second, Si ca, .unset] [(.long jw), (.long jm), (.long ja)])) rfl (by rw [hml]; rfl) (argsL := [(.long ja), (.long jm), (.long jw)]) (rest := []) (lenOf pd_2 rfl) rfl (by show 2 * 0 + _ ≤ _; exact Nat.le_of_eq rfl) (hb hby at_259) (fun _ _ => ⟨rfl, e49, (by decide : 2 + 0 ≤ _), (by decide : 69 + 0 ≤ _)⟩)
      dsimp only [Pt.U, Pt.locs, Pt.cells, Pt.slots] at X53 l53 y53 z53 st53 hQ53
      subst l53 y53 z53
      obtain ⟨rfl, N53q, e53⟩ := hQ53
      have N53 := Fr.app N49 N53q
      refine Go.on st53 ?_
      show Go _ _ _ _ _ _ _ _ (mkF m 262 #[Si i0, Si i1, Si i2, Si i3, Si i4, Sj jw, .second, Si 1, Si 0, Sj ja, .second, Sj jb, .second, Sj jc, .second, Sj jd, .second, Sj jn, .second, Sj jm, .second, Sd wd, .second, Sr q, Sd ra, .second, Sd rb, .second, Si ca, .unset] [(.int (inV ja jm jw))])
      refine Go.on (fun _ k => XS.goto X53.here hx rfl (pc0 := 262) (pc' := 266) rfl (hb hby at_262) (by decide) (by decide) k) ?_
      refine Go.on (fun _ k => XS.iload X53.here hx rfl (hb hby at_266) rfl k) ?_
      refine Go.on (fun _ k => XS.iconst X53.here hx rfl (hb hby at_268) k) ?_
      show Go _ _ _ _ _ _ _ _ (mkF m 269 #[Si i0, Si i1, Si i2, Si i3, Si i4, Sj jw, .second, Si 1, Si 0, Sj ja, .second, Sj jb, .second, Sj jc, .second, Sj jd, .second, Sj jn, .second, Sj jm, .second, Sd wd, .second, Sr q, Sd ra, .second, Sd rb, .second, Si ca, .unset] [(.int 2), (.int 1), (.int (inV ja jm jw))])
      have hc54 : (1 : Int32) < (2 : Int32) := by decide
      refine Go.on (fun _ k => XS.icmpYes X53.here hx rfl (pc0 := 269) (pc' := 284) rfl (hb hby at_269) rfl (tlt hc54).1 (by decide) (by decide) k) ?_
      refine Go.on (fun _ k => XS.iconst X53.here hx rfl (hb hby at_284) k) ?_
      refine Go.on (fun _ k => XS.iadd X53.here hx rfl (hb hby at_285) rfl k) ?_
      refine Go.on (fun _ k => XS.iload X53.here hx rfl (hb hby at_286) rfl k) ?_
      refine Go.on (fun _ k => XS.iconst X53.here hx rfl (hb hby at_288) k) ?_
      show Go _ _ _ _ _ _ _ _ (mkF m 289 #[Si i0, Si i1, Si i2, Si i3, Si i4, Sj jw, .second, Si 1, Si 0, Sj ja, .second, Sj jb, .second, Sj jc, .second, Sj jd, .second, Sj jn, .second, Sj jm, .second, Sd wd, .second, Sr q, Sd ra, .second, Sd rb, .second, Si ca, .unset] [(.int 3), (.int 1), (.int ((inV ja jm jw) + (0 : Int32)))])
      have hc55 : (1 : Int32) < (3 : Int32) := by decide
      refine Go.on (fun _ k => XS.icmpYes X53.here hx rfl (pc0 := 289) (pc' := 304) rfl (hb hby at_289) rfl (tlt hc55).1 (by decide) (by decide) k) ?_
      refine Go.on (fun _ k => XS.iconst X53.here hx rfl (hb hby at_304) k) ?_
      refine Go.on (fun _ k => XS.iadd X53.here hx rfl (hb hby at_305) rfl k) ?_
      refine Go.on (fun _ k => XS.iload X53.here hx rfl (hb hby at_306) rfl k) ?_
      show Go _ _ _ _ _ _ _ _ (mkF m 308 #[Si i0, Si i1, Si i2, Si i3, Si i4, Sj jw, .second, Si 1, Si 0, Sj ja, .second, Sj jb, .second, Sj jc, .second, Sj jd, .second, Sj jn, .second, Sj jm, .second, Sd wd, .second, Sr q, Sd ra, .second, Sd rb, .second, Si ca, .unset] [(.int 0), (.int (((inV ja jm jw) + (0 : Int32)) + (0 : Int32)))])
      have hc56 : (0 : Int32) = (0 : Int32) := by decide
      refine Go.on (fun _ k => XS.ifYes X53.here hx rfl (pc0 := 308) (pc' := 323) rfl (hb hby at_308) rfl ((if0 _ _).trans (teq hc56).1) (by decide) (by decide) k) ?_
      refine Go.on (fun _ k => XS.iconst X53.here hx rfl (hb hby at_323) k) ?_
      refine Go.on (fun _ k => XS.iadd X53.here hx rfl (hb hby at_324) rfl k) ?_
      show Go _ _ _ _ _ _ _ _ (mkF m 325 #[Si i0, Si i1, Si i2, Si i3, Si i4, Sj jw, .second, Si 1, Si 0, Sj ja, .second, Sj jb, .second, Sj jc, .second, Sj jd, .second, Sj jn, .second, Sj jm, .second, Sd wd, .second, Sr q, Sd ra, .second, Sd rb, .second, Si ca, .unset] [(.int ((((inV ja jm jw) + (0 : Int32)) + (0 : Int32)) + (0 : Int32)))])
      refine Go.on (fun _ k => XS.istore X53.here hx rfl (hb hby at_325) rfl (l' := #[.val (.int i0), .val (.int i1), .val (.int i2), .val (.int i3), .val (.int i4), .val (.long jw), .second, .val (.int (1 : Int32)), .val (.int (0 : Int32)), .val (.long ja), .second, .val (.long jb), .second, .val (.long jc), .second, .val (.long jd), .second, .val (.long jn), .second, .val (.long jm), .second, .val (.double wd), .second, .val (.ref q), .val (.double ra), .second, .val (.double rb), .second, .val (.int ca), .val (.int ((((inV ja jm jw) + (0 : Int32)) + (0 : Int32)) + (0 : Int32)))]) rfl k) ?_
      show Go _ _ _ _ _ _ _ _ (mkF m 327 #[Si i0, Si i1, Si i2, Si i3, Si i4, Sj jw, .second, Si 1, Si 0, Sj ja, .second, Sj jb, .second, Sj jc, .second, Sj jd, .second, Sj jn, .second, Sj jm, .second, Sd wd, .second, Sr q, Sd ra, .second, Sd rb, .second, Si ca, .val (.int ((((inV ja jm jw) + (0 : Int32)) + (0 : Int32)) + (0 : Int32)))] [])
      generalize hcb : ((((inV ja jm jw) + (0 : Int32)) + (0 : Int32)) + (0 : Int32)) = cb
      show Go _ _ _ _ _ _ _ _ (mkF m 327 #[Si i0, Si i1, Si i2, Si i3, Si i4, Sj jw, .second, Si 1, Si 0, Sj ja, .second, Sj jb, .second, Sj jc, .second, Sj jd, .second, Sj jn, .second, Sj jm, .second, Sd wd, .second, Sr q, Sd ra, .second, Sd rb, .second, Si ca, Si cb] [])
      refine Go.on (fun _ k => XS.dload X53.here hx rfl (hb hby at_327) rfl k) ?_
      refine Go.on (fun _ k => XS.iload X53.here hx rfl (hb hby at_329) rfl k) ?_
      refine Go.on (fun _ k => XS.i2dS X53.here hx rfl (hb hby at_331) rfl rfl k) ?_
      refine Go.on (fun _ k => XS.dload X53.here hx rfl (hb hby at_332) rfl k) ?_
      show Go _ _ _ _ _ _ _ _ (mkF m 334 #[Si i0, Si i1, Si i2, Si i3, Si i4, Sj jw, .second, Si 1, Si 0, Sj ja, .second, Sj jb, .second, Sj jc, .second, Sj jd, .second, Sj jn, .second, Sj jm, .second, Sd wd, .second, Sr q, Sd ra, .second, Sd rb, .second, Si ca, Si cb] [(.double wd), (.double (FP.i2d ca)), (.double ra)])
      refine Go.on (fun _ k => XS.ddivS X53.here hx rfl (hb hby at_334) rfl ((own_rt _ hwd.symm hwj.1 Bjw)) rfl k) ?_
      show Go _ _ _ _ _ _ _ _ (mkF m 335 #[Si i0, Si i1, Si i2, Si i3, Si i4, Sj jw, .second, Si 1, Si 0, Sj ja, .second, Sj jb, .second, Sj jc, .second, Sj jd, .second, Sj jn, .second, Sj jm, .second, Sd wd, .second, Sr q, Sd ra, .second, Sd rb, .second, Si ca, Si cb] [(.double (FP.ddiv (FP.i2d ca) wd)), (.double ra)])
      refine Go.on (fun _ k => XS.dcmpS X53.here hx rfl (hb hby at_335) rfl rfl k) ?_
      show Go _ _ _ _ _ _ _ _ (mkF m 336 #[Si i0, Si i1, Si i2, Si i3, Si i4, Sj jw, .second, Si 1, Si 0, Sj ja, .second, Sj jb, .second, Sj jc, .second, Sj jd, .second, Sj jn, .second, Sj jm, .second, Sd wd, .second, Sr q, Sd ra, .second, Sd rb, .second, Si ca, Si cb] [(.int (cmpValue (FP.dcmp ra (FP.ddiv (FP.i2d ca) wd)) .l))])
      have hc57 : (cmpValue (FP.dcmp ra (FP.ddiv (FP.i2d ca) wd)) .l) = (0 : Int32) := own_same hra (by first | exact hca | rfl | (rw [← hca]; simp) | simp) hwd hwj.1 Bjw
      refine Go.on (fun _ k => XS.ifNo X53.here hx rfl (hb hby at_336) rfl ((if0 _ _).trans (teq hc57).2) k) ?_
      refine Go.on (fun _ k => XS.dload X53.here hx rfl (hb hby at_339) rfl k) ?_
      refine Go.on (fun _ k => XS.iload X53.here hx rfl (hb hby at_341) rfl k) ?_
      refine Go.on (fun _ k => XS.i2dS X53.here hx rfl (hb hby at_343) rfl rfl k) ?_
      refine Go.on (fun _ k => XS.dload X53.here hx rfl (hb hby at_344) rfl k) ?_
      show Go _ _ _ _ _ _ _ _ (mkF m 346 #[Si i0, Si i1, Si i2, Si i3, Si i4, Sj jw, .second, Si 1, Si 0, Sj ja, .second, Sj jb, .second, Sj jc, .second, Sj jd, .second, Sj jn, .second, Sj jm, .second, Sd wd, .second, Sr q, Sd ra, .second, Sd rb, .second, Si ca, Si cb] [(.double wd), (.double (FP.i2d cb)), (.double rb)])
      refine Go.on (fun _ k => XS.ddivS X53.here hx rfl (hb hby at_346) rfl ((own_rt _ hwd.symm hwj.1 Bjw)) rfl k) ?_
      show Go _ _ _ _ _ _ _ _ (mkF m 347 #[Si i0, Si i1, Si i2, Si i3, Si i4, Sj jw, .second, Si 1, Si 0, Sj ja, .second, Sj jb, .second, Sj jc, .second, Sj jd, .second, Sj jn, .second, Sj jm, .second, Sd wd, .second, Sr q, Sd ra, .second, Sd rb, .second, Si ca, Si cb] [(.double (FP.ddiv (FP.i2d cb) wd)), (.double rb)])
      refine Go.on (fun _ k => XS.dcmpS X53.here hx rfl (hb hby at_347) rfl rfl k) ?_
      show Go _ _ _ _ _ _ _ _ (mkF m 348 #[Si i0, Si i1, Si i2, Si i3, Si i4, Sj jw, .second, Si 1, Si 0, Sj ja, .second, Sj jb, .second, Sj jc, .second, Sj jd, .second, Sj jn, .second, Sj jm, .second, Sd wd, .second, Sr q, Sd ra, .second, Sd rb, .second, Si ca, Si cb] [(.int (cmpValue (FP.dcmp rb (FP.ddiv (FP.i2d cb) wd)) .l))])
      have hc58 : (cmpValue (FP.dcmp rb (FP.ddiv (FP.i2d cb) wd)) .l) = (0 : Int32) := own_same hrb (by first | exact hcb | rfl | (rw [← hcb]; simp) | simp) hwd hwj.1 Bjw
      refine Go.on (fun _ k => XS.ifNo X53.here hx rfl (hb hby at_348) rfl ((if0 _ _).trans (teq hc58).2) k) ?_
      refine Go.on (fun _ k => XS.iconst X53.here hx rfl (hb hby at_351) k) ?_
      refine Go.on (fun _ k => XS.goto X53.here hx rfl (pc0 := 352) (pc' := 356) rfl (hb hby at_352) (by decide) (by decide) k) ?_
      show Go _ _ _ _ _ _ _ _ (mkF m 356 #[Si i0, Si i1, Si i2, Si i3, Si i4, Sj jw, .second, Si 1, Si 0, Sj ja, .second, Sj jb, .second, Sj jc, .second, Sj jd, .second, Sj jn, .second, Sj jm, .second, Sd wd, .second, Sr q, Sd ra, .second, Sd rb, .second, Si ca, Si cb] [(.int 1)])
      refine Go.retN X53 hx (t := .boolean) Bd.returns (by simp) (hb hby at_356) ?_ (by rw [hK1]; decide) (by rw [hK2]; decide)
      rw [e53, ← hQQ]
      exact ⟨rfl, N53⟩
    · -- late 1
      subst hk
      show Go _ _ _ _ _ _ _ _ (mkF m 100 #[Si i0, Si i1, Si i2, Si i3, Si i4, Sj jw, .second, Si 1, Si 1, Sj ja, .second, Sj jb, .second, Sj jc, .second, Sj jd, .second, Sj jn, .second, Sj jm, .second, Sd wd, .second, .unset, .unset, .unset, .unset, .unset, .unset, .unset] [])
      obtain ⟨T59, h59, X59, e59, E59, A59, D59, -, st59⟩ := newO X0 hx hZ hown (hw _ (List.mem_of_getElem? (i := 0) rfl)) (hw _ (List.mem_of_getElem? (i := 1) rfl)) (hw _ (List.mem_of_getElem? (i := 2) rfl)) e0 (g := (mkF m 100 #[Si i0, Si i1, Si i2, Si i3, Si i4, Sj jw, .second, Si 1, Si 1, Sj ja, .second, Sj jb, .second, Sj jc, .second, Sj jd, .second, Sj jn, .second, Sj jm, .second, Sd wd, .second, .unset, .unset, .unset, .unset, .unset, .unset, .unset] [])) rfl (hb hby at_100) (by decide) (by decide)
      obtain ⟨q, g59⟩ : ∃ z, z = h0.size := ⟨_, rfl⟩
      have g_q : n0 ≤ q := Nat.le_trans ZZ (Nat.le_of_eq g59.symm)
      rw [← g59] at A59 D59 st59
      replace ZZ := Nat.le_trans ZZ E59.1
      have E_q := A59
      have F_times_q : Fld Z h59 q "com/example/deliberate_scaler/deliberatescaler/model/RateWindow" "times" "[D" .null := D59 (Or.inl (hw _ (List.mem_of_getElem? (i := 11) rfl))) (ty := (.array .double)) (by decide)
      have F_latest_q : Fld Z h59 q "com/example/deliberate_scaler/deliberatescaler/model/RateWindow" "latest" "D" (.double (0 : UInt64)) := D59 (Or.inl (hw _ (List.mem_of_getElem? (i := 14) rfl))) (ty := .double) (by decide)
      have F_window_q : Fld Z h59 q "com/example/deliberate_scaler/deliberatescaler/model/RateWindow" "window" "D" (.double (0 : UInt64)) := D59 (Or.inr (hw _ (List.mem_of_getElem? (i := 17) rfl))) (ty := .double) (by decide)
      have F_end_q : Fld Z h59 q "com/example/deliberate_scaler/deliberatescaler/model/RateWindow" "end" "I" (.int (0 : Int32)) := D59 (Or.inl (hw _ (List.mem_of_getElem? (i := 24) rfl))) (ty := .int) (by decide)
      have F_first_q : Fld Z h59 q "com/example/deliberate_scaler/deliberatescaler/model/RateWindow" "first" "I" (.int (0 : Int32)) := D59 (Or.inl (hw _ (List.mem_of_getElem? (i := 31) rfl))) (ty := .int) (by decide)
      refine Go.on st59 ?_
      show Go _ _ _ _ _ _ _ _ (mkF m 103 #[Si i0, Si i1, Si i2, Si i3, Si i4, Sj jw, .second, Si 1, Si 1, Sj ja, .second, Sj jb, .second, Sj jc, .second, Sj jd, .second, Sj jn, .second, Sj jm, .second, Sd wd, .second, .unset, .unset, .unset, .unset, .unset, .unset, .unset] [(.ref q)])
      refine Go.on (fun _ k => XS.dup X59.here hx rfl (hb hby at_103) rfl rfl k) ?_
      refine Go.on (fun _ k => XS.dload X59.here hx rfl (hb hby at_104) rfl k) ?_
      show Go _ _ _ _ _ _ _ _ (mkF m 106 #[Si i0, Si i1, Si i2, Si i3, Si i4, Sj jw, .second, Si 1, Si 1, Sj ja, .second, Sj jb, .second, Sj jc, .second, Sj jd, .second, Sj jn, .second, Sj jm, .second, Sd wd, .second, .unset, .unset, .unset, .unset, .unset, .unset, .unset] [(.double wd), (.ref q), (.ref q)])
      obtain ⟨_, _, ⟨T60, L60, k60, n60⟩, -, X60, ⟨Lc60, hQ60, l60, y60, z60⟩, st60⟩ := X59.specialBack hx (y := (⟨"com/example/deliberate_scaler/deliberatescaler/model/RateWindow", "<init>", "(D)V"⟩ : MethodName)) rfl hown (mvT hZ (hw _ (List.mem_of_getElem? (i := 3) rfl))) (mvT hZ (hw _ (List.mem_of_getElem? (i := 4) rfl))) (mvT hZ (hw _ (List.mem_of_getElem? (i := 5) rfl))) (by decide) (backOf (W := 1) (rm1 l Z aw hw [] q wd  h59 n0 ZZ E_q F_times_q F_latest_q F_window_q F_first_q F_end_q g_q (own_wpos hwd hwj.1 Bjw) (own_winf hwd Bjw)) hZ (hw _ (List.mem_of_getElem? (i := 5) rfl)) (hw _ (List.mem_of_getElem? (i := 2) rfl)) (by decide) (by decide)) (g := (mkF m 106 #[Si i0, Si i1, Si i2, Si i3, Si i4, Sj jw, .second, Si 1, Si 1, Sj ja, .second, Sj jb, .second, Sj jc, .second, Sj jd, .second, Sj jn, .second, Sj jm, .second, Sd wd, .second, .unset, .unset, .unset, .unset, .unset, .unset, .unset] [(.double wd), (.ref q), (.ref q)])) rfl (by rw [hml]; rfl) (Steps.refl _) (a := q) (argsL := [(.double wd)]) (rest := [(.ref q)]) (lenOf pd_0 rfl) rfl (by show 2 * 0 + _ ≤ _; exact Nat.le_of_eq rfl) (hb hby at_106) (fun _ _ => ⟨rfl, e59, (by decide : 1 + 1 ≤ _), (by decide : 5 + 64 ≤ _)⟩)
      dsimp only [Pt.U, Pt.locs, Pt.cells, Pt.slots] at X60 l60 y60 z60 st60 hQ60
      subst l60 y60 z60
      obtain ⟨h60, e60⟩ : ∃ q, T60.heap = q := ⟨_, rfl⟩
      rw [e60] at hQ60
      obtain ⟨rfl, N60q, ar, k_ar, K60q, szarq, Eq60, F_timesq60, F_latestq60, F_windowq60, F_firstq60, F_endq60, V_ar⟩ := hQ60
      have N60 := Fr.app N0 N60q
      have ZZ60p := ZZ
      have lt_q := E_q.lt
      replace E_q := E_q.keep K60q
      replace ZZ := Nat.le_trans ZZ K60q.1
      have F_times_q := F_timesq60
      have F_latest_q := F_latestq60
      have F_window_q := F_windowq60
      have F_first_q := F_firstq60
      have F_end_q := F_endq60
      replace E_q := Eq60
      have g_ar : n0 ≤ ar := Nat.le_trans ZZ60p szarq
      have ne_q_ar : q ≠ ar := Nat.ne_of_lt (Nat.lt_of_lt_of_le lt_q szarq)
      refine Go.on (fun _ k => st60.trans k) ?_
      show Go _ _ _ _ _ _ _ _ (mkF m 109 #[Si i0, Si i1, Si i2, Si i3, Si i4, Sj jw, .second, Si 1, Si 1, Sj ja, .second, Sj jb, .second, Sj jc, .second, Sj jd, .second, Sj jn, .second, Sj jm, .second, Sd wd, .second, .unset, .unset, .unset, .unset, .unset, .unset, .unset] [(.ref q)])
      refine Go.on (fun _ k => XS.astore X60.here hx rfl (hb hby at_109) rfl rfl (l' := #[.val (.int i0), .val (.int i1), .val (.int i2), .val (.int i3), .val (.int i4), .val (.long jw), .second, .val (.int (1 : Int32)), .val (.int (1 : Int32)), .val (.long ja), .second, .val (.long jb), .second, .val (.long jc), .second, .val (.long jd), .second, .val (.long jn), .second, .val (.long jm), .second, .val (.double wd), .second, .val (.ref q), .unset, .unset, .unset, .unset, .unset, .unset]) rfl k) ?_
      show Go _ _ _ _ _ _ _ _ (mkF m 111 #[Si i0, Si i1, Si i2, Si i3, Si i4, Sj jw, .second, Si 1, Si 1, Sj ja, .second, Sj jb, .second, Sj jc, .second, Sj jd, .second, Sj jn, .second, Sj jm, .second, Sd wd, .second, Sr q, .unset, .unset, .unset, .unset, .unset, .unset] [])
      refine Go.on (fun _ k => XS.iload X60.here hx rfl (hb hby at_111) rfl k) ?_
      refine Go.on (fun _ k => XS.iconst X60.here hx rfl (hb hby at_113) k) ?_
      show Go _ _ _ _ _ _ _ _ (mkF m 114 #[Si i0, Si i1, Si i2, Si i3, Si i4, Sj jw, .second, Si 1, Si 1, Sj ja, .second, Sj jb, .second, Sj jc, .second, Sj jd, .second, Sj jn, .second, Sj jm, .second, Sd wd, .second, Sr q, .unset, .unset, .unset, .unset, .unset, .unset] [(.int 1), (.int 1)])
      have hc61 : ¬ ((1 : Int32) < (1 : Int32)) := by decide
      refine Go.on (fun _ k => XS.icmpNo X60.here hx rfl (hb hby at_114) rfl (flt hc61).1 k) ?_
      refine Go.on (fun _ k => XS.aload X60.here hx rfl (hb hby at_117) rfl rfl k) ?_
      refine Go.on (fun _ k => XS.lload X60.here hx rfl (hb hby at_119) rfl k) ?_
      refine Go.on (fun _ k => XS.l2dS X60.here hx rfl (hb hby at_121) rfl rfl k) ?_
      show Go _ _ _ _ _ _ _ _ (mkF m 122 #[Si i0, Si i1, Si i2, Si i3, Si i4, Sj jw, .second, Si 1, Si 1, Sj ja, .second, Sj jb, .second, Sj jc, .second, Sj jd, .second, Sj jn, .second, Sj jm, .second, Sd wd, .second, Sr q, .unset, .unset, .unset, .unset, .unset, .unset] [(.double (FP.l2d ja)), (.ref q)])
      obtain ⟨cq62, kq62, q62a, q62b, q62c⟩ := isOf hZ e60 E_q
      obtain ⟨_, _, ⟨T62, L62, k62, n62⟩, -, X62, ⟨Lc62, hQ62, l62, y62, z62⟩, st62⟩ := X60.virtualBack hx (y := (⟨"com/example/deliberate_scaler/deliberatescaler/model/RateWindow", "add", "(D)V"⟩ : MethodName)) (z := (⟨"com/example/deliberate_scaler/deliberatescaler/model/RateWindow", "add", "(D)V"⟩ : MethodName)) hown (mvT hZ (hw _ (List.mem_of_getElem? (i := 18) rfl))) (mvT hZ (hw _ (List.mem_of_getElem? (i := 19) rfl))) (notFace_of_selects (args := #[]) (mvT hZ (hw _ (List.mem_of_getElem? (i := 21) rfl)))) (mvT hZ (hw _ (List.mem_of_getElem? (i := 21) rfl))) (mvT hZ (hw _ (List.mem_of_getElem? (i := 20) rfl))) (by decide) (backOf (W := 0) (rw_add_0 l Z aw hw [] q (FP.l2d ja) ar (18442240474082181120 : UInt64) wd (0 : Int32) k_ar h60 n0 ZZ E_q F_times_q F_latest_q F_window_q F_first_q F_end_q V_ar g_q g_ar ne_q_ar (own_inf Bja)) hZ (hw _ (List.mem_of_getElem? (i := 22) rfl)) (hw _ (List.mem_of_getElem? (i := 2) rfl)) (by decide) (by decide)) q62a q62c (g := (mkF m 122 #[Si i0, Si i1, Si i2, Si i3, Si i4, Sj jw, .second, Si 1, Si 1, Sj ja, .second, Sj jb, .second, Sj jc, .second, Sj jd, .second, Sj jn, .second, Sj jm, .second, Sd wd, .second, Sr q, .unset, .unset, .unset, .unset, .unset, .unset] [(.double (FP.l2d ja)), (.ref q)])) rfl (by rw [hml]; rfl) (Steps.refl _) (argsL := [(.double (FP.l2d ja))]) (rest := []) (lenOf pd_0 rfl) rfl (by show 2 * 0 + _ ≤ _; exact Nat.le_of_eq rfl) (hb hby at_122) (fun _ _ => ⟨rfl, e60, (by decide : 2 + 0 ≤ _), (by decide : 69 + 0 ≤ _)⟩)
      dsimp only [Pt.U, Pt.locs, Pt.cells, Pt.slots] at X62 l62 y62 z62 st62 hQ62
      subst l62 y62 z62
      obtain ⟨h62, e62⟩ : ∃ q, T62.heap = q := ⟨_, rfl⟩
      rw [e62] at hQ62
      obtain ⟨rfl, N62q, K62q, Eq62, F_timesq62, F_latestq62, F_windowq62, F_firstq62, F_endq62, V_q62⟩ := hQ62
      have N62 := Fr.app N60 N62q
      have ZZ62p := ZZ
      have lt_q := E_q.lt
      have lt_ar := V_ar.lt
      replace E_q := E_q.keep K62q
      replace ZZ := Nat.le_trans ZZ K62q.1
      have F_times_q := F_timesq62
      have F_latest_q := F_latestq62
      have F_window_q := F_windowq62
      have F_first_q := F_firstq62
      have F_end_q := F_endq62
      replace E_q := Eq62
      have V_ar := V_q62
      refine Go.on (fun _ k => st62.trans k) ?_
      show Go _ _ _ _ _ _ _ _ (mkF m 125 #[Si i0, Si i1, Si i2, Si i3, Si i4, Sj jw, .second, Si 1, Si 1, Sj ja, .second, Sj jb, .second, Sj jc, .second, Sj jd, .second, Sj jn, .second, Sj jm, .second, Sd wd, .second, Sr q, .unset, .unset, .unset, .unset, .unset, .unset] [])
      refine Go.on (fun _ k => XS.iload X62.here hx rfl (hb hby at_125) rfl k) ?_
      refine Go.on (fun _ k => XS.iconst X62.here hx rfl (hb hby at_127) k) ?_
      show Go _ _ _ _ _ _ _ _ (mkF m 128 #[Si i0, Si i1, Si i2, Si i3, Si i4, Sj jw, .second, Si 1, Si 1, Sj ja, .second, Sj jb, .second, Sj jc, .second, Sj jd, .second, Sj jn, .second, Sj jm, .second, Sd wd, .second, Sr q, .unset, .unset, .unset, .unset, .unset, .unset] [(.int 2), (.int 1)])
      have hc63 : (1 : Int32) < (2 : Int32) := by decide
      refine Go.on (fun _ k => XS.icmpYes X62.here hx rfl (pc0 := 128) (pc' := 139) rfl (hb hby at_128) rfl (tlt hc63).1 (by decide) (by decide) k) ?_
      refine Go.on (fun _ k => XS.iload X62.here hx rfl (hb hby at_139) rfl k) ?_
      refine Go.on (fun _ k => XS.iconst X62.here hx rfl (hb hby at_141) k) ?_
      show Go _ _ _ _ _ _ _ _ (mkF m 142 #[Si i0, Si i1, Si i2, Si i3, Si i4, Sj jw, .second, Si 1, Si 1, Sj ja, .second, Sj jb, .second, Sj jc, .second, Sj jd, .second, Sj jn, .second, Sj jm, .second, Sd wd, .second, Sr q, .unset, .unset, .unset, .unset, .unset, .unset] [(.int 3), (.int 1)])
      have hc64 : (1 : Int32) < (3 : Int32) := by decide
      refine Go.on (fun _ k => XS.icmpYes X62.here hx rfl (pc0 := 142) (pc' := 153) rfl (hb hby at_142) rfl (tlt hc64).1 (by decide) (by decide) k) ?_
      refine Go.on (fun _ k => XS.aload X62.here hx rfl (hb hby at_153) rfl rfl k) ?_
      refine Go.on (fun _ k => XS.lload X62.here hx rfl (hb hby at_155) rfl k) ?_
      refine Go.on (fun _ k => XS.l2dS X62.here hx rfl (hb hby at_157) rfl rfl k) ?_
      show Go _ _ _ _ _ _ _ _ (mkF m 158 #[Si i0, Si i1, Si i2, Si i3, Si i4, Sj jw, .second, Si 1, Si 1, Sj ja, .second, Sj jb, .second, Sj jc, .second, Sj jd, .second, Sj jn, .second, Sj jm, .second, Sd wd, .second, Sr q, .unset, .unset, .unset, .unset, .unset, .unset] [(.double (FP.l2d jn)), (.ref q)])
      obtain ⟨cq65, kq65, q65a, q65b, q65c⟩ := isOf hZ e62 E_q
      obtain ⟨_, _, ⟨T65, L65, k65, n65⟩, -, X65, ⟨Lc65, hQ65, l65, y65, z65⟩, st65⟩ := X62.virtualBack hx (y := (⟨"com/example/deliberate_scaler/deliberatescaler/model/RateWindow", "rate", "(D)D"⟩ : MethodName)) (z := (⟨"com/example/deliberate_scaler/deliberatescaler/model/RateWindow", "rate", "(D)D"⟩ : MethodName)) hown (mvT hZ (hw _ (List.mem_of_getElem? (i := 25) rfl))) (mvT hZ (hw _ (List.mem_of_getElem? (i := 26) rfl))) (notFace_of_selects (args := #[]) (mvT hZ (hw _ (List.mem_of_getElem? (i := 28) rfl)))) (mvT hZ (hw _ (List.mem_of_getElem? (i := 28) rfl))) (mvT hZ (hw _ (List.mem_of_getElem? (i := 27) rfl))) (by decide) (backOf (W := 0) (rw_rate_1 l Z aw hw [] q (FP.l2d jn) ja jn jw ar (FP.l2d ja) wd (0 : Int32) k_ar (FP.l2d ja) h62 n0 ZZ E_q F_times_q F_latest_q F_window_q F_first_q F_end_q V_ar g_q ne_q_ar rfl hwd.symm Bjn Bjw hwj.1 rfl Bja (Or.inl rfl) (fun q => absurd q (by decide))) hZ (hw _ (List.mem_of_getElem? (i := 29) rfl)) (hw _ (List.mem_of_getElem? (i := 2) rfl)) (by decide) (by decide)) q65a q65c (g := (mkF m 158 #[Si i0, Si i1, Si i2, Si i3, Si i4, Sj jw, .second, Si 1, Si 1, Sj ja, .second, Sj jb, .second, Sj jc, .second, Sj jd, .second, Sj jn, .second, Sj jm, .second, Sd wd, .second, Sr q, .unset, .unset, .unset, .unset, .unset, .unset] [(.double (FP.l2d jn)), (.ref q)])) rfl (by rw [hml]; rfl) (Steps.refl _) (argsL := [(.double (FP.l2d jn))]) (rest := []) (lenOf pd_1 rfl) rfl (by show 2 * 0 + _ ≤ _; exact Nat.le_of_eq rfl) (hb hby at_158) (fun _ _ => ⟨rfl, e62, (by decide : 2 + 0 ≤ _), (by decide : 69 + 0 ≤ _)⟩)
      dsimp only [Pt.U, Pt.locs, Pt.cells, Pt.slots] at X65 l65 y65 z65 st65 hQ65
      subst l65 y65 z65
      obtain ⟨h65, e65⟩ : ∃ q, T65.heap = q := ⟨_, rfl⟩
      rw [e65] at hQ65
      obtain ⟨f1_65, rfl, N65q, K65q, Eq65, F_timesq65, F_latestq65, F_windowq65, F_firstq65, F_endq65, hdj65, hdr0_65⟩ := hQ65
      have N65 := Fr.app N62 N65q
      have ZZ65p := ZZ
      have lt_q := E_q.lt
      have lt_ar := V_ar.lt
      replace E_q := E_q.keep K65q
      replace V_ar := V_ar.keep K65q (ninS (Ne.symm ne_q_ar) nin0)
      replace ZZ := Nat.le_trans ZZ K65q.1
      obtain ⟨fr1, hfr1⟩ : ∃ z, z = f1_65 := ⟨_, rfl⟩
      rw [← hfr1] at F_firstq65 hdj65 hdr0_65
      have F_times_q := F_timesq65
      have F_latest_q := F_latestq65
      have F_window_q := F_windowq65
      have F_first_q := F_firstq65
      have F_end_q := F_endq65
      replace E_q := Eq65
      refine Go.on (fun _ k => st65.trans k) ?_
      show Go _ _ _ _ _ _ _ _ (mkF m 161 #[Si i0, Si i1, Si i2, Si i3, Si i4, Sj jw, .second, Si 1, Si 1, Sj ja, .second, Sj jb, .second, Sj jc, .second, Sj jd, .second, Sj jn, .second, Sj jm, .second, Sd wd, .second, Sr q, .unset, .unset, .unset, .unset, .unset, .unset] [(.double (FP.ddiv (FP.i2d (inV ja jn jw)) wd))])
      refine Go.on (fun _ k => XS.dstore X65.here hx rfl (hb hby at_161) rfl (l' := #[.val (.int i0), .val (.int i1), .val (.int i2), .val (.int i3), .val (.int i4), .val (.long jw), .second, .val (.int (1 : Int32)), .val (.int (1 : Int32)), .val (.long ja), .second, .val (.long jb), .second, .val (.long jc), .second, .val (.long jd), .second, .val (.long jn), .second, .val (.long jm), .second, .val (.double wd), .second, .val (.ref q), .val (.double (FP.ddiv (FP.i2d (inV ja jn jw)) wd)), .second, .unset, .unset, .unset, .unset]) rfl k) ?_
      show Go _ _ _ _ _ _ _ _ (mkF m 163 #[Si i0, Si i1, Si i2, Si i3, Si i4, Sj jw, .second, Si 1, Si 1, Sj ja, .second, Sj jb, .second, Sj jc, .second, Sj jd, .second, Sj jn, .second, Sj jm, .second, Sd wd, .second, Sr q, .val (.double (FP.ddiv (FP.i2d (inV ja jn jw)) wd)), .second, .unset, .unset, .unset, .unset] [])
      generalize hra : (FP.ddiv (FP.i2d (inV ja jn jw)) wd) = ra
      show Go _ _ _ _ _ _ _ _ (mkF m 163 #[Si i0, Si i1, Si i2, Si i3, Si i4, Sj jw, .second, Si 1, Si 1, Sj ja, .second, Sj jb, .second, Sj jc, .second, Sj jd, .second, Sj jn, .second, Sj jm, .second, Sd wd, .second, Sr q, Sd ra, .second, .unset, .unset, .unset, .unset] [])
      refine Go.on (fun _ k => XS.iload X65.here hx rfl (hb hby at_163) rfl k) ?_
      show Go _ _ _ _ _ _ _ _ (mkF m 165 #[Si i0, Si i1, Si i2, Si i3, Si i4, Sj jw, .second, Si 1, Si 1, Sj ja, .second, Sj jb, .second, Sj jc, .second, Sj jd, .second, Sj jn, .second, Sj jm, .second, Sd wd, .second, Sr q, Sd ra, .second, .unset, .unset, .unset, .unset] [(.int 1)])
      have hc66 : ¬ ((1 : Int32) = (0 : Int32)) := by decide
      refine Go.on (fun _ k => XS.ifNo X65.here hx rfl (hb hby at_165) rfl ((if0 _ _).trans (feq hc66).1) k) ?_
      refine Go.on (fun _ k => XS.aload X65.here hx rfl (hb hby at_168) rfl rfl k) ?_
      refine Go.on (fun _ k => XS.lload X65.here hx rfl (hb hby at_170) rfl k) ?_
      refine Go.on (fun _ k => XS.l2dS X65.here hx rfl (hb hby at_172) rfl rfl k) ?_
      show Go _ _ _ _ _ _ _ _ (mkF m 173 #[Si i0, Si i1, Si i2, Si i3, Si i4, Sj jw, .second, Si 1, Si 1, Sj ja, .second, Sj jb, .second, Sj jc, .second, Sj jd, .second, Sj jn, .second, Sj jm, .second, Sd wd, .second, Sr q, Sd ra, .second, .unset, .unset, .unset, .unset] [(.double (FP.l2d jd)), (.ref q)])
      obtain ⟨cq67, kq67, q67a, q67b, q67c⟩ := isOf hZ e65 E_q
      obtain ⟨_, _, ⟨T67, L67, k67, n67⟩, -, X67, ⟨Lc67, hQ67, l67, y67, z67⟩, st67⟩ := X65.virtualBack hx (y := (⟨"com/example/deliberate_scaler/deliberatescaler/model/RateWindow", "add", "(D)V"⟩ : MethodName)) (z := (⟨"com/example/deliberate_scaler/deliberatescaler/model/RateWindow", "add", "(D)V"⟩ : MethodName)) hown (mvT hZ (hw _ (List.mem_of_getElem? (i := 18) rfl))) (mvT hZ (hw _ (List.mem_of_getElem? (i := 19) rfl))) (notFace_of_selects (args := #[]) (mvT hZ (hw _ (List.mem_of_getElem? (i := 21) rfl)))) (mvT hZ (hw _ (List.mem_of_getElem? (i := 21) rfl))) (mvT hZ (hw _ (List.mem_of_getElem? (i := 20) rfl))) (by decide) (backOf (W := 0) (rw_add_1 l Z aw hw [] q (FP.l2d jd) ar (FP.l2d ja) wd fr1 k_ar (FP.l2d ja) h65 n0 ZZ E_q F_times_q F_latest_q F_window_q F_first_q F_end_q V_ar g_q g_ar ne_q_ar (own_ge Bjd Bja (by omega))) hZ (hw _ (List.mem_of_getElem? (i := 22) rfl)) (hw _ (List.mem_of_getElem? (i := 2) rfl)) (by decide) (by decide)) q67a q67c (g := (mkF m 173 #[Si i0, Si i1, Si i2, Si i3, Si i4, Sj jw, .second, Si 1, Si 1, Sj ja, .second, Sj jb, .second, Sj jc, .second, Sj jd, .second, Sj jn, .second, Sj jm, .second, Sd wd, .second, Sr q, Sd ra, .second, .unset, .unset, .unset, .unset] [(.double (FP.l2d jd)), (.ref q)])) rfl (by rw [hml]; rfl) (Steps.refl _) (argsL := [(.double (FP.l2d jd))]) (rest := []) (lenOf pd_0 rfl) rfl (by show 2 * 0 + _ ≤ _; exact Nat.le_of_eq rfl) (hb hby at_173) (fun _ _ => ⟨rfl, e65, (by decide : 2 + 0 ≤ _), (by decide : 69 + 0 ≤ _)⟩)
      dsimp only [Pt.U, Pt.locs, Pt.cells, Pt.slots] at X67 l67 y67 z67 st67 hQ67
      subst l67 y67 z67
      obtain ⟨h67, e67⟩ : ∃ q, T67.heap = q := ⟨_, rfl⟩
      rw [e67] at hQ67
      obtain ⟨rfl, N67q, K67q, Eq67, F_timesq67, F_latestq67, F_windowq67, F_firstq67, F_endq67, V_q67⟩ := hQ67
      have N67 := Fr.app N65 N67q
      have ZZ67p := ZZ
      have lt_q := E_q.lt
      have lt_ar := V_ar.lt
      replace E_q := E_q.keep K67q
      replace ZZ := Nat.le_trans ZZ K67q.1
      have F_times_q := F_timesq67
      have F_latest_q := F_latestq67
      have F_window_q := F_windowq67
      have F_first_q := F_firstq67
      have F_end_q := F_endq67
      replace E_q := Eq67
      have V_ar := V_q67
      refine Go.on (fun _ k => st67.trans k) ?_
      show Go _ _ _ _ _ _ _ _ (mkF m 176 #[Si i0, Si i1, Si i2, Si i3, Si i4, Sj jw, .second, Si 1, Si 1, Sj ja, .second, Sj jb, .second, Sj jc, .second, Sj jd, .second, Sj jn, .second, Sj jm, .second, Sd wd, .second, Sr q, Sd ra, .second, .unset, .unset, .unset, .unset] [])
      refine Go.on (fun _ k => XS.aload X67.here hx rfl (hb hby at_176) rfl rfl k) ?_
      refine Go.on (fun _ k => XS.lload X67.here hx rfl (hb hby at_178) rfl k) ?_
      refine Go.on (fun _ k => XS.l2dS X67.here hx rfl (hb hby at_180) rfl rfl k) ?_
      show Go _ _ _ _ _ _ _ _ (mkF m 181 #[Si i0, Si i1, Si i2, Si i3, Si i4, Sj jw, .second, Si 1, Si 1, Sj ja, .second, Sj jb, .second, Sj jc, .second, Sj jd, .second, Sj jn, .second, Sj jm, .second, Sd wd, .second, Sr q, Sd ra, .second, .unset, .unset, .unset, .unset] [(.double (FP.l2d jm)), (.ref q)])
      obtain ⟨cq68, kq68, q68a, q68b, q68c⟩ := isOf hZ e67 E_q
      obtain ⟨_, _, ⟨T68, L68, k68, n68⟩, -, X68, ⟨Lc68, hQ68, l68, y68, z68⟩, st68⟩ := X67.virtualBack hx (y := (⟨"com/example/deliberate_scaler/deliberatescaler/model/RateWindow", "rate", "(D)D"⟩ : MethodName)) (z := (⟨"com/example/deliberate_scaler/deliberatescaler/model/RateWindow", "rate", "(D)D"⟩ : MethodName)) hown (mvT hZ (hw _ (List.mem_of_getElem? (i := 25) rfl))) (mvT hZ (hw _ (List.mem_of_getElem? (i := 26) rfl))) (notFace_of_selects (args := #[]) (mvT hZ (hw _ (List.mem_of_getElem? (i := 28) rfl)))) (mvT hZ (hw _ (List.mem_of_getElem? (i := 28) rfl))) (mvT hZ (hw _ (List.mem_of_getElem? (i := 27) rfl))) (by decide) (backOf (W := 0) (rw_rate_2 l Z aw hw [] q (FP.l2d jm) ja jd jm jw ar (FP.l2d jd) wd fr1 k_ar (FP.l2d ja) (FP.l2d jd) h67 n0 ZZ E_q F_times_q F_latest_q F_window_q F_first_q F_end_q V_ar g_q ne_q_ar rfl hwd.symm Bjm Bjw hwj.1 rfl rfl Bja Bjd (by omega) (by rcases hdj65 with hz | hz <;> simp [hz]) (fun q => Int.le_trans (hdr0_65 q) (by omega)) (fun q => by rcases hdj65 with hz | hz <;> (rw [hz] at q; exact absurd q (by decide)))) hZ (hw _ (List.mem_of_getElem? (i := 29) rfl)) (hw _ (List.mem_of_getElem? (i := 2) rfl)) (by decide) (by decide)) q68a q68c (g := (mkF m 181 #[Si i0, Si i1, Si i2, Si i3, Si i4, Sj jw, .second, Si 1, Si 1, Sj ja, .second, Sj jb, .second, Sj jc, .second, Sj jd, .second, Sj jn, .second, Sj jm, .second, Sd wd, .second, Sr q, Sd ra, .second, .unset, .unset, .unset, .unset] [(.double (FP.l2d jm)), (.ref q)])) rfl (by rw [hml]; rfl) (Steps.refl _) (argsL := [(.double (FP.l2d jm))]) (rest := []) (lenOf pd_1 rfl) rfl (by show 2 * 0 + _ ≤ _; exact Nat.le_of_eq rfl) (hb hby at_181) (fun _ _ => ⟨rfl, e67, (by decide : 2 + 0 ≤ _), (by decide : 69 + 0 ≤ _)⟩)
      dsimp only [Pt.U, Pt.locs, Pt.cells, Pt.slots] at X68 l68 y68 z68 st68 hQ68
      subst l68 y68 z68
      obtain ⟨h68, e68⟩ : ∃ q, T68.heap = q := ⟨_, rfl⟩
      rw [e68] at hQ68
      obtain ⟨f1_68, rfl, N68q, K68q, Eq68, F_timesq68, F_latestq68, F_windowq68, F_firstq68, F_endq68, hdj68, hdr0_68, hdr1_68⟩ := hQ68
      have N68 := Fr.app N67 N68q
      have ZZ68p := ZZ
      have lt_q := E_q.lt
      have lt_ar := V_ar.lt
      replace E_q := E_q.keep K68q
      replace V_ar := V_ar.keep K68q (ninS (Ne.symm ne_q_ar) nin0)
      replace ZZ := Nat.le_trans ZZ K68q.1
      obtain ⟨fr2, hfr2⟩ : ∃ z, z = f1_68 := ⟨_, rfl⟩
      rw [← hfr2] at F_firstq68 hdj68 hdr0_68 hdr1_68
      have F_times_q := F_timesq68
      have F_latest_q := F_latestq68
      have F_window_q := F_windowq68
      have F_first_q := F_firstq68
      have F_end_q := F_endq68
      replace E_q := Eq68
      refine Go.on (fun _ k => st68.trans k) ?_
      show Go _ _ _ _ _ _ _ _ (mkF m 184 #[Si i0, Si i1, Si i2, Si i3, Si i4, Sj jw, .second, Si 1, Si 1, Sj ja, .second, Sj jb, .second, Sj jc, .second, Sj jd, .second, Sj jn, .second, Sj jm, .second, Sd wd, .second, Sr q, Sd ra, .second, .unset, .unset, .unset, .unset] [(.double (FP.ddiv (FP.i2d ((inV ja jm jw) + (inV jd jm jw))) wd))])
      refine Go.on (fun _ k => XS.dstore X68.here hx rfl (hb hby at_184) rfl (l' := #[.val (.int i0), .val (.int i1), .val (.int i2), .val (.int i3), .val (.int i4), .val (.long jw), .second, .val (.int (1 : Int32)), .val (.int (1 : Int32)), .val (.long ja), .second, .val (.long jb), .second, .val (.long jc), .second, .val (.long jd), .second, .val (.long jn), .second, .val (.long jm), .second, .val (.double wd), .second, .val (.ref q), .val (.double ra), .second, .val (.double (FP.ddiv (FP.i2d ((inV ja jm jw) + (inV jd jm jw))) wd)), .second, .unset, .unset]) rfl k) ?_
      show Go _ _ _ _ _ _ _ _ (mkF m 186 #[Si i0, Si i1, Si i2, Si i3, Si i4, Sj jw, .second, Si 1, Si 1, Sj ja, .second, Sj jb, .second, Sj jc, .second, Sj jd, .second, Sj jn, .second, Sj jm, .second, Sd wd, .second, Sr q, Sd ra, .second, .val (.double (FP.ddiv (FP.i2d ((inV ja jm jw) + (inV jd jm jw))) wd)), .second, .unset, .unset] [])
      generalize hrb : (FP.ddiv (FP.i2d ((inV ja jm jw) + (inV jd jm jw))) wd) = rb
      show Go _ _ _ _ _ _ _ _ (mkF m 186 #[Si i0, Si i1, Si i2, Si i3, Si i4, Sj jw, .second, Si 1, Si 1, Sj ja, .second, Sj jb, .second, Sj jc, .second, Sj jd, .second, Sj jn, .second, Sj jm, .second, Sd wd, .second, Sr q, Sd ra, .second, Sd rb, .second, .unset, .unset] [])
      refine Go.on (fun _ k => XS.iload X68.here hx rfl (hb hby at_186) rfl k) ?_
      refine Go.on (fun _ k => XS.iconst X68.here hx rfl (hb hby at_188) k) ?_
      show Go _ _ _ _ _ _ _ _ (mkF m 189 #[Si i0, Si i1, Si i2, Si i3, Si i4, Sj jw, .second, Si 1, Si 1, Sj ja, .second, Sj jb, .second, Sj jc, .second, Sj jd, .second, Sj jn, .second, Sj jm, .second, Sd wd, .second, Sr q, Sd ra, .second, Sd rb, .second, .unset, .unset] [(.int 1), (.int 1)])
      have hc69 : ¬ ((1 : Int32) < (1 : Int32)) := by decide
      refine Go.on (fun _ k => XS.icmpNo X68.here hx rfl (hb hby at_189) rfl (flt hc69).1 k) ?_
      refine Go.on (fun _ k => XS.lload X68.here hx rfl (hb hby at_192) rfl k) ?_
      refine Go.on (fun _ k => XS.lload X68.here hx rfl (hb hby at_194) rfl k) ?_
      refine Go.on (fun _ k => XS.lload X68.here hx rfl (hb hby at_196) rfl k) ?_
      show Go _ _ _ _ _ _ _ _ (mkF m 198 #[Si i0, Si i1, Si i2, Si i3, Si i4, Sj jw, .second, Si 1, Si 1, Sj ja, .second, Sj jb, .second, Sj jc, .second, Sj jd, .second, Sj jn, .second, Sj jm, .second, Sd wd, .second, Sr q, Sd ra, .second, Sd rb, .second, .unset, .unset] [(.long jw), (.long jn), (.long ja)])
      obtain ⟨_, _, ⟨T70, L70, k70, n70⟩, -, X70, ⟨Lc70, hQ70, l70, y70, z70⟩, st70⟩ := Jvm.LawKit.callS X68 hx (y := (⟨"com/example/deliberate_scaler/deliberatescaler/model/RateWindowRatePinLaw", "in", "(JJJ)I"⟩ : MethodName)) hown (mvT hZ (hw _ (List.mem_of_getElem? (i := 32) rfl))) (mvT hZ (hw _ (List.mem_of_getElem? (i := 33) rfl))) (mvT hZ (hw _ (List.mem_of_getElem? (i := 34) rfl))) (mvT hZ (hw _ (List.mem_of_getElem? (i := 35) rfl))) (by decide) (backOf (W := 0) (rm5 l Z aw hw [] ja jn jw  h68 n0 ZZ ) hZ (hw _ (List.mem_of_getElem? (i := 35) rfl)) (hw _ (List.mem_of_getElem? (i := 34) rfl)) (by decide) (by decide)) (g := (mkF m 198 #[Si i0, Si i1, Si i2, Si i3, Si i4, Sj jw, .second, Si 1, Si 1, Sj ja, .second, Sj jb, .second, Sj jc, .second, Sj jd, .second, Sj jn, .second, Sj jm, .second, Sd wd, .second, Sr q, Sd ra, .second, Sd rb, .second, .unset, .unset] [(.long jw), (.long jn), (.long ja)])) rfl (by rw [hml]; rfl) (argsL := [(.long ja), (.long jn), (.long jw)]) (rest := []) (lenOf pd_2 rfl) rfl (by show 2 * 0 + _ ≤ _; exact Nat.le_of_eq rfl) (hb hby at_198) (fun _ _ => ⟨rfl, e68, (by decide : 2 + 0 ≤ _), (by decide : 69 + 0 ≤ _)⟩)
      dsimp only [Pt.U, Pt.locs, Pt.cells, Pt.slots] at X70 l70 y70 z70 st70 hQ70
      subst l70 y70 z70
      obtain ⟨rfl, N70q, e70⟩ := hQ70
      have N70 := Fr.app N68 N70q
      refine Go.on st70 ?_
      show Go _ _ _ _ _ _ _ _ (mkF m 201 #[Si i0, Si i1, Si i2, Si i3, Si i4, Sj jw, .second, Si 1, Si 1, Sj ja, .second, Sj jb, .second, Sj jc, .second, Sj jd, .second, Sj jn, .second, Sj jm, .second, Sd wd, .second, Sr q, Sd ra, .second, Sd rb, .second, .unset, .unset] [(.int (inV ja jn jw))])
      refine Go.on (fun _ k => XS.goto X70.here hx rfl (pc0 := 201) (pc' := 205) rfl (hb hby at_201) (by decide) (by decide) k) ?_
      refine Go.on (fun _ k => XS.iload X70.here hx rfl (hb hby at_205) rfl k) ?_
      refine Go.on (fun _ k => XS.iconst X70.here hx rfl (hb hby at_207) k) ?_
      show Go _ _ _ _ _ _ _ _ (mkF m 208 #[Si i0, Si i1, Si i2, Si i3, Si i4, Sj jw, .second, Si 1, Si 1, Sj ja, .second, Sj jb, .second, Sj jc, .second, Sj jd, .second, Sj jn, .second, Sj jm, .second, Sd wd, .second, Sr q, Sd ra, .second, Sd rb, .second, .unset, .unset] [(.int 2), (.int 1), (.int (inV ja jn jw))])
      have hc71 : (1 : Int32) < (2 : Int32) := by decide
      refine Go.on (fun _ k => XS.icmpYes X70.here hx rfl (pc0 := 208) (pc' := 223) rfl (hb hby at_208) rfl (tlt hc71).1 (by decide) (by decide) k) ?_
      refine Go.on (fun _ k => XS.iconst X70.here hx rfl (hb hby at_223) k) ?_
      refine Go.on (fun _ k => XS.iadd X70.here hx rfl (hb hby at_224) rfl k) ?_
      refine Go.on (fun _ k => XS.iload X70.here hx rfl (hb hby at_225) rfl k) ?_
      refine Go.on (fun _ k => XS.iconst X70.here hx rfl (hb hby at_227) k) ?_
      show Go _ _ _ _ _ _ _ _ (mkF m 228 #[Si i0, Si i1, Si i2, Si i3, Si i4, Sj jw, .second, Si 1, Si 1, Sj ja, .second, Sj jb, .second, Sj jc, .second, Sj jd, .second, Sj jn, .second, Sj jm, .second, Sd wd, .second, Sr q, Sd ra, .second, Sd rb, .second, .unset, .unset] [(.int 3), (.int 1), (.int ((inV ja jn jw) + (0 : Int32)))])
      have hc72 : (1 : Int32) < (3 : Int32) := by decide
      refine Go.on (fun _ k => XS.icmpYes X70.here hx rfl (pc0 := 228) (pc' := 243) rfl (hb hby at_228) rfl (tlt hc72).1 (by decide) (by decide) k) ?_
      refine Go.on (fun _ k => XS.iconst X70.here hx rfl (hb hby at_243) k) ?_
      refine Go.on (fun _ k => XS.iadd X70.here hx rfl (hb hby at_244) rfl k) ?_
      show Go _ _ _ _ _ _ _ _ (mkF m 245 #[Si i0, Si i1, Si i2, Si i3, Si i4, Sj jw, .second, Si 1, Si 1, Sj ja, .second, Sj jb, .second, Sj jc, .second, Sj jd, .second, Sj jn, .second, Sj jm, .second, Sd wd, .second, Sr q, Sd ra, .second, Sd rb, .second, .unset, .unset] [(.int (((inV ja jn jw) + (0 : Int32)) + (0 : Int32)))])
      refine Go.on (fun _ k => XS.istore X70.here hx rfl (hb hby at_245) rfl (l' := #[.val (.int i0), .val (.int i1), .val (.int i2), .val (.int i3), .val (.int i4), .val (.long jw), .second, .val (.int (1 : Int32)), .val (.int (1 : Int32)), .val (.long ja), .second, .val (.long jb), .second, .val (.long jc), .second, .val (.long jd), .second, .val (.long jn), .second, .val (.long jm), .second, .val (.double wd), .second, .val (.ref q), .val (.double ra), .second, .val (.double rb), .second, .val (.int (((inV ja jn jw) + (0 : Int32)) + (0 : Int32))), .unset]) rfl k) ?_
      show Go _ _ _ _ _ _ _ _ (mkF m 247 #[Si i0, Si i1, Si i2, Si i3, Si i4, Sj jw, .second, Si 1, Si 1, Sj ja, .second, Sj jb, .second, Sj jc, .second, Sj jd, .second, Sj jn, .second, Sj jm, .second, Sd wd, .second, Sr q, Sd ra, .second, Sd rb, .second, .val (.int (((inV ja jn jw) + (0 : Int32)) + (0 : Int32))), .unset] [])
      generalize hca : (((inV ja jn jw) + (0 : Int32)) + (0 : Int32)) = ca
      show Go _ _ _ _ _ _ _ _ (mkF m 247 #[Si i0, Si i1, Si i2, Si i3, Si i4, Sj jw, .second, Si 1, Si 1, Sj ja, .second, Sj jb, .second, Sj jc, .second, Sj jd, .second, Sj jn, .second, Sj jm, .second, Sd wd, .second, Sr q, Sd ra, .second, Sd rb, .second, Si ca, .unset] [])
      refine Go.on (fun _ k => XS.iload X70.here hx rfl (hb hby at_247) rfl k) ?_
      refine Go.on (fun _ k => XS.iconst X70.here hx rfl (hb hby at_249) k) ?_
      show Go _ _ _ _ _ _ _ _ (mkF m 250 #[Si i0, Si i1, Si i2, Si i3, Si i4, Sj jw, .second, Si 1, Si 1, Sj ja, .second, Sj jb, .second, Sj jc, .second, Sj jd, .second, Sj jn, .second, Sj jm, .second, Sd wd, .second, Sr q, Sd ra, .second, Sd rb, .second, Si ca, .unset] [(.int 1), (.int 1)])
      have hc73 : ¬ ((1 : Int32) < (1 : Int32)) := by decide
      refine Go.on (fun _ k => XS.icmpNo X70.here hx rfl (hb hby at_250) rfl (flt hc73).1 k) ?_
      refine Go.on (fun _ k => XS.lload X70.here hx rfl (hb hby at_253) rfl k) ?_
      refine Go.on (fun _ k => XS.lload X70.here hx rfl (hb hby at_255) rfl k) ?_
      refine Go.on (fun _ k => XS.lload X70.here hx rfl (hb hby at_257) rfl k) ?_
      show Go _ _ _ _ _ _ _ _ (mkF m 259 #[Si i0, Si i1, Si i2, Si i3, Si i4, Sj jw, .second, Si 1, Si 1, Sj ja, .second, Sj jb, .second, Sj jc, .second, Sj jd, .second, Sj jn, .second, Sj jm, .second, Sd wd, .second, Sr q, Sd ra, .second, Sd rb, .second, Si ca, .unset] [(.long jw), (.long jm), (.long ja)])
      obtain ⟨_, _, ⟨T74, L74, k74, n74⟩, -, X74, ⟨Lc74, hQ74, l74, y74, z74⟩, st74⟩ := Jvm.LawKit.callS X70 hx (y := (⟨"com/example/deliberate_scaler/deliberatescaler/model/RateWindowRatePinLaw", "in", "(JJJ)I"⟩ : MethodName)) hown (mvT hZ (hw _ (List.mem_of_getElem? (i := 32) rfl))) (mvT hZ (hw _ (List.mem_of_getElem? (i := 33) rfl))) (mvT hZ (hw _ (List.mem_of_getElem? (i := 34) rfl))) (mvT hZ (hw _ (List.mem_of_getElem? (i := 35) rfl))) (by decide) (backOf (W := 0) (rm5 l Z aw hw [] ja jm jw  h68 n0 ZZ ) hZ (hw _ (List.mem_of_getElem? (i := 35) rfl)) (hw _ (List.mem_of_getElem? (i := 34) rfl)) (by decide) (by decide)) (g := (mkF m 259 #[Si i0, Si i1, Si i2, Si i3, Si i4, Sj jw, .second, Si 1, Si 1, Sj ja, .second, Sj jb, .second, Sj jc, .second, Sj jd, .second, Sj jn, .second, Sj jm, .second, Sd wd, .second, Sr q, Sd ra, .second, Sd rb, .second, Si ca, .unset] [(.long jw), (.long jm), (.long ja)])) rfl (by rw [hml]; rfl) (argsL := [(.long ja), (.long jm), (.long jw)]) (rest := []) (lenOf pd_2 rfl) rfl (by show 2 * 0 + _ ≤ _; exact Nat.le_of_eq rfl) (hb hby at_259) (fun _ _ => ⟨rfl, e70, (by decide : 2 + 0 ≤ _), (by decide : 69 + 0 ≤ _)⟩)
      dsimp only [Pt.U, Pt.locs, Pt.cells, Pt.slots] at X74 l74 y74 z74 st74 hQ74
      subst l74 y74 z74
      obtain ⟨rfl, N74q, e74⟩ := hQ74
      have N74 := Fr.app N70 N74q
      refine Go.on st74 ?_
      show Go _ _ _ _ _ _ _ _ (mkF m 262 #[Si i0, Si i1, Si i2, Si i3, Si i4, Sj jw, .second, Si 1, Si 1, Sj ja, .second, Sj jb, .second, Sj jc, .second, Sj jd, .second, Sj jn, .second, Sj jm, .second, Sd wd, .second, Sr q, Sd ra, .second, Sd rb, .second, Si ca, .unset] [(.int (inV ja jm jw))])
      refine Go.on (fun _ k => XS.goto X74.here hx rfl (pc0 := 262) (pc' := 266) rfl (hb hby at_262) (by decide) (by decide) k) ?_
      refine Go.on (fun _ k => XS.iload X74.here hx rfl (hb hby at_266) rfl k) ?_
      refine Go.on (fun _ k => XS.iconst X74.here hx rfl (hb hby at_268) k) ?_
      show Go _ _ _ _ _ _ _ _ (mkF m 269 #[Si i0, Si i1, Si i2, Si i3, Si i4, Sj jw, .second, Si 1, Si 1, Sj ja, .second, Sj jb, .second, Sj jc, .second, Sj jd, .second, Sj jn, .second, Sj jm, .second, Sd wd, .second, Sr q, Sd ra, .second, Sd rb, .second, Si ca, .unset] [(.int 2), (.int 1), (.int (inV ja jm jw))])
      have hc75 : (1 : Int32) < (2 : Int32) := by decide
      refine Go.on (fun _ k => XS.icmpYes X74.here hx rfl (pc0 := 269) (pc' := 284) rfl (hb hby at_269) rfl (tlt hc75).1 (by decide) (by decide) k) ?_
      refine Go.on (fun _ k => XS.iconst X74.here hx rfl (hb hby at_284) k) ?_
      refine Go.on (fun _ k => XS.iadd X74.here hx rfl (hb hby at_285) rfl k) ?_
      refine Go.on (fun _ k => XS.iload X74.here hx rfl (hb hby at_286) rfl k) ?_
      refine Go.on (fun _ k => XS.iconst X74.here hx rfl (hb hby at_288) k) ?_
      show Go _ _ _ _ _ _ _ _ (mkF m 289 #[Si i0, Si i1, Si i2, Si i3, Si i4, Sj jw, .second, Si 1, Si 1, Sj ja, .second, Sj jb, .second, Sj jc, .second, Sj jd, .second, Sj jn, .second, Sj jm, .second, Sd wd, .second, Sr q, Sd ra, .second, Sd rb, .second, Si ca, .unset] [(.int 3), (.int 1), (.int ((inV ja jm jw) + (0 : Int32)))])
      have hc76 : (1 : Int32) < (3 : Int32) := by decide
      refine Go.on (fun _ k => XS.icmpYes X74.here hx rfl (pc0 := 289) (pc' := 304) rfl (hb hby at_289) rfl (tlt hc76).1 (by decide) (by decide) k) ?_
      refine Go.on (fun _ k => XS.iconst X74.here hx rfl (hb hby at_304) k) ?_
      refine Go.on (fun _ k => XS.iadd X74.here hx rfl (hb hby at_305) rfl k) ?_
      refine Go.on (fun _ k => XS.iload X74.here hx rfl (hb hby at_306) rfl k) ?_
      show Go _ _ _ _ _ _ _ _ (mkF m 308 #[Si i0, Si i1, Si i2, Si i3, Si i4, Sj jw, .second, Si 1, Si 1, Sj ja, .second, Sj jb, .second, Sj jc, .second, Sj jd, .second, Sj jn, .second, Sj jm, .second, Sd wd, .second, Sr q, Sd ra, .second, Sd rb, .second, Si ca, .unset] [(.int 1), (.int (((inV ja jm jw) + (0 : Int32)) + (0 : Int32)))])
      have hc77 : ¬ ((1 : Int32) = (0 : Int32)) := by decide
      refine Go.on (fun _ k => XS.ifNo X74.here hx rfl (hb hby at_308) rfl ((if0 _ _).trans (feq hc77).1) k) ?_
      refine Go.on (fun _ k => XS.lload X74.here hx rfl (hb hby at_311) rfl k) ?_
      refine Go.on (fun _ k => XS.lload X74.here hx rfl (hb hby at_313) rfl k) ?_
      refine Go.on (fun _ k => XS.lload X74.here hx rfl (hb hby at_315) rfl k) ?_
      show Go _ _ _ _ _ _ _ _ (mkF m 317 #[Si i0, Si i1, Si i2, Si i3, Si i4, Sj jw, .second, Si 1, Si 1, Sj ja, .second, Sj jb, .second, Sj jc, .second, Sj jd, .second, Sj jn, .second, Sj jm, .second, Sd wd, .second, Sr q, Sd ra, .second, Sd rb, .second, Si ca, .unset] [(.long jw), (.long jm), (.long jd), (.int (((inV ja jm jw) + (0 : Int32)) + (0 : Int32)))])
      obtain ⟨_, _, ⟨T78, L78, k78, n78⟩, -, X78, ⟨Lc78, hQ78, l78, y78, z78⟩, st78⟩ := Jvm.LawKit.callS X74 hx (y := (⟨"com/example/deliberate_scaler/deliberatescaler/model/RateWindowRatePinLaw", "in", "(JJJ)I"⟩ : MethodName)) hown (mvT hZ (hw _ (List.mem_of_getElem? (i := 32) rfl))) (mvT hZ (hw _ (List.mem_of_getElem? (i := 33) rfl))) (mvT hZ (hw _ (List.mem_of_getElem? (i := 34) rfl))) (mvT hZ (hw _ (List.mem_of_getElem? (i := 35) rfl))) (by decide) (backOf (W := 1) (rm5 l Z aw hw [] jd jm jw  h68 n0 ZZ ) hZ (hw _ (List.mem_of_getElem? (i := 35) rfl)) (hw _ (List.mem_of_getElem? (i := 34) rfl)) (by decide) (by decide)) (g := (mkF m 317 #[Si i0, Si i1, Si i2, Si i3, Si i4, Sj jw, .second, Si 1, Si 1, Sj ja, .second, Sj jb, .second, Sj jc, .second, Sj jd, .second, Sj jn, .second, Sj jm, .second, Sd wd, .second, Sr q, Sd ra, .second, Sd rb, .second, Si ca, .unset] [(.long jw), (.long jm), (.long jd), (.int (((inV ja jm jw) + (0 : Int32)) + (0 : Int32)))])) rfl (by rw [hml]; rfl) (argsL := [(.long jd), (.long jm), (.long jw)]) (rest := [(.int (((inV ja jm jw) + (0 : Int32)) + (0 : Int32)))]) (lenOf pd_2 rfl) rfl (by show 2 * 0 + _ ≤ _; exact Nat.le_of_eq rfl) (hb hby at_317) (fun _ _ => ⟨rfl, e74, (by decide : 2 + 0 ≤ _), (by decide : 69 + 0 ≤ _)⟩)
      dsimp only [Pt.U, Pt.locs, Pt.cells, Pt.slots] at X78 l78 y78 z78 st78 hQ78
      subst l78 y78 z78
      obtain ⟨rfl, N78q, e78⟩ := hQ78
      have N78 := Fr.app N74 N78q
      refine Go.on st78 ?_
      show Go _ _ _ _ _ _ _ _ (mkF m 320 #[Si i0, Si i1, Si i2, Si i3, Si i4, Sj jw, .second, Si 1, Si 1, Sj ja, .second, Sj jb, .second, Sj jc, .second, Sj jd, .second, Sj jn, .second, Sj jm, .second, Sd wd, .second, Sr q, Sd ra, .second, Sd rb, .second, Si ca, .unset] [(.int (inV jd jm jw)), (.int (((inV ja jm jw) + (0 : Int32)) + (0 : Int32)))])
      refine Go.on (fun _ k => XS.goto X78.here hx rfl (pc0 := 320) (pc' := 324) rfl (hb hby at_320) (by decide) (by decide) k) ?_
      refine Go.on (fun _ k => XS.iadd X78.here hx rfl (hb hby at_324) rfl k) ?_
      show Go _ _ _ _ _ _ _ _ (mkF m 325 #[Si i0, Si i1, Si i2, Si i3, Si i4, Sj jw, .second, Si 1, Si 1, Sj ja, .second, Sj jb, .second, Sj jc, .second, Sj jd, .second, Sj jn, .second, Sj jm, .second, Sd wd, .second, Sr q, Sd ra, .second, Sd rb, .second, Si ca, .unset] [(.int ((((inV ja jm jw) + (0 : Int32)) + (0 : Int32)) + (inV jd jm jw)))])
      refine Go.on (fun _ k => XS.istore X78.here hx rfl (hb hby at_325) rfl (l' := #[.val (.int i0), .val (.int i1), .val (.int i2), .val (.int i3), .val (.int i4), .val (.long jw), .second, .val (.int (1 : Int32)), .val (.int (1 : Int32)), .val (.long ja), .second, .val (.long jb), .second, .val (.long jc), .second, .val (.long jd), .second, .val (.long jn), .second, .val (.long jm), .second, .val (.double wd), .second, .val (.ref q), .val (.double ra), .second, .val (.double rb), .second, .val (.int ca), .val (.int ((((inV ja jm jw) + (0 : Int32)) + (0 : Int32)) + (inV jd jm jw)))]) rfl k) ?_
      show Go _ _ _ _ _ _ _ _ (mkF m 327 #[Si i0, Si i1, Si i2, Si i3, Si i4, Sj jw, .second, Si 1, Si 1, Sj ja, .second, Sj jb, .second, Sj jc, .second, Sj jd, .second, Sj jn, .second, Sj jm, .second, Sd wd, .second, Sr q, Sd ra, .second, Sd rb, .second, Si ca, .val (.int ((((inV ja jm jw) + (0 : Int32)) + (0 : Int32)) + (inV jd jm jw)))] [])
      generalize hcb : ((((inV ja jm jw) + (0 : Int32)) + (0 : Int32)) + (inV jd jm jw)) = cb
      show Go _ _ _ _ _ _ _ _ (mkF m 327 #[Si i0, Si i1, Si i2, Si i3, Si i4, Sj jw, .second, Si 1, Si 1, Sj ja, .second, Sj jb, .second, Sj jc, .second, Sj jd, .second, Sj jn, .second, Sj jm, .second, Sd wd, .second, Sr q, Sd ra, .second, Sd rb, .second, Si ca, Si cb] [])
      refine Go.on (fun _ k => XS.dload X78.here hx rfl (hb hby at_327) rfl k) ?_
      refine Go.on (fun _ k => XS.iload X78.here hx rfl (hb hby at_329) rfl k) ?_
      refine Go.on (fun _ k => XS.i2dS X78.here hx rfl (hb hby at_331) rfl rfl k) ?_
      refine Go.on (fun _ k => XS.dload X78.here hx rfl (hb hby at_332) rfl k) ?_
      show Go _ _ _ _ _ _ _ _ (mkF m 334 #[Si i0, Si i1, Si i2, Si i3, Si i4, Sj jw, .second, Si 1, Si 1, Sj ja, .second, Sj jb, .second, Sj jc, .second, Sj jd, .second, Sj jn, .second, Sj jm, .second, Sd wd, .second, Sr q, Sd ra, .second, Sd rb, .second, Si ca, Si cb] [(.double wd), (.double (FP.i2d ca)), (.double ra)])
      refine Go.on (fun _ k => XS.ddivS X78.here hx rfl (hb hby at_334) rfl ((own_rt _ hwd.symm hwj.1 Bjw)) rfl k) ?_
      show Go _ _ _ _ _ _ _ _ (mkF m 335 #[Si i0, Si i1, Si i2, Si i3, Si i4, Sj jw, .second, Si 1, Si 1, Sj ja, .second, Sj jb, .second, Sj jc, .second, Sj jd, .second, Sj jn, .second, Sj jm, .second, Sd wd, .second, Sr q, Sd ra, .second, Sd rb, .second, Si ca, Si cb] [(.double (FP.ddiv (FP.i2d ca) wd)), (.double ra)])
      refine Go.on (fun _ k => XS.dcmpS X78.here hx rfl (hb hby at_335) rfl rfl k) ?_
      show Go _ _ _ _ _ _ _ _ (mkF m 336 #[Si i0, Si i1, Si i2, Si i3, Si i4, Sj jw, .second, Si 1, Si 1, Sj ja, .second, Sj jb, .second, Sj jc, .second, Sj jd, .second, Sj jn, .second, Sj jm, .second, Sd wd, .second, Sr q, Sd ra, .second, Sd rb, .second, Si ca, Si cb] [(.int (cmpValue (FP.dcmp ra (FP.ddiv (FP.i2d ca) wd)) .l))])
      have hc79 : (cmpValue (FP.dcmp ra (FP.ddiv (FP.i2d ca) wd)) .l) = (0 : Int32) := own_same hra (by first | exact hca | rfl | (rw [← hca]; simp) | simp) hwd hwj.1 Bjw
      refine Go.on (fun _ k => XS.ifNo X78.here hx rfl (hb hby at_336) rfl ((if0 _ _).trans (teq hc79).2) k) ?_
      refine Go.on (fun _ k => XS.dload X78.here hx rfl (hb hby at_339) rfl k) ?_
      refine Go.on (fun _ k => XS.iload X78.here hx rfl (hb hby at_341) rfl k) ?_
      refine Go.on (fun _ k => XS.i2dS X78.here hx rfl (hb hby at_343) rfl rfl k) ?_
      refine Go.on (fun _ k => XS.dload X78.here hx rfl (hb hby at_344) rfl k) ?_
      show Go _ _ _ _ _ _ _ _ (mkF m 346 #[Si i0, Si i1, Si i2, Si i3, Si i4, Sj jw, .second, Si 1, Si 1, Sj ja, .second, Sj jb, .second, Sj jc, .second, Sj jd, .second, Sj jn, .second, Sj jm, .second, Sd wd, .second, Sr q, Sd ra, .second, Sd rb, .second, Si ca, Si cb] [(.double wd), (.double (FP.i2d cb)), (.double rb)])
      refine Go.on (fun _ k => XS.ddivS X78.here hx rfl (hb hby at_346) rfl ((own_rt _ hwd.symm hwj.1 Bjw)) rfl k) ?_
      show Go _ _ _ _ _ _ _ _ (mkF m 347 #[Si i0, Si i1, Si i2, Si i3, Si i4, Sj jw, .second, Si 1, Si 1, Sj ja, .second, Sj jb, .second, Sj jc, .second, Sj jd, .second, Sj jn, .second, Sj jm, .second, Sd wd, .second, Sr q, Sd ra, .second, Sd rb, .second, Si ca, Si cb] [(.double (FP.ddiv (FP.i2d cb) wd)), (.double rb)])
      refine Go.on (fun _ k => XS.dcmpS X78.here hx rfl (hb hby at_347) rfl rfl k) ?_
      show Go _ _ _ _ _ _ _ _ (mkF m 348 #[Si i0, Si i1, Si i2, Si i3, Si i4, Sj jw, .second, Si 1, Si 1, Sj ja, .second, Sj jb, .second, Sj jc, .second, Sj jd, .second, Sj jn, .second, Sj jm, .second, Sd wd, .second, Sr q, Sd ra, .second, Sd rb, .second, Si ca, Si cb] [(.int (cmpValue (FP.dcmp rb (FP.ddiv (FP.i2d cb) wd)) .l))])
      have hc80 : (cmpValue (FP.dcmp rb (FP.ddiv (FP.i2d cb) wd)) .l) = (0 : Int32) := own_same hrb (by first | exact hcb | rfl | (rw [← hcb]; simp) | simp) hwd hwj.1 Bjw
      refine Go.on (fun _ k => XS.ifNo X78.here hx rfl (hb hby at_348) rfl ((if0 _ _).trans (teq hc80).2) k) ?_
      refine Go.on (fun _ k => XS.iconst X78.here hx rfl (hb hby at_351) k) ?_
      refine Go.on (fun _ k => XS.goto X78.here hx rfl (pc0 := 352) (pc' := 356) rfl (hb hby at_352) (by decide) (by decide) k) ?_
      show Go _ _ _ _ _ _ _ _ (mkF m 356 #[Si i0, Si i1, Si i2, Si i3, Si i4, Sj jw, .second, Si 1, Si 1, Sj ja, .second, Sj jb, .second, Sj jc, .second, Sj jd, .second, Sj jn, .second, Sj jm, .second, Sd wd, .second, Sr q, Sd ra, .second, Sd rb, .second, Si ca, Si cb] [(.int 1)])
      refine Go.retN X78 hx (t := .boolean) Bd.returns (by simp) (hb hby at_356) ?_ (by rw [hK1]; decide) (by rw [hK2]; decide)
      rw [e78, ← hQQ]
      exact ⟨rfl, N78⟩
  · -- 2 times
    subst hk
    rcases own_lt hla with hk | hk
    · -- late 0
      subst hk
      show Go _ _ _ _ _ _ _ _ (mkF m 100 #[Si i0, Si i1, Si i2, Si i3, Si i4, Sj jw, .second, Si 2, Si 0, Sj ja, .second, Sj jb, .second, Sj jc, .second, Sj jd, .second, Sj jn, .second, Sj jm, .second, Sd wd, .second, .unset, .unset, .unset, .unset, .unset, .unset, .unset] [])
      obtain ⟨T81, h81, X81, e81, E81, A81, D81, -, st81⟩ := newO X0 hx hZ hown (hw _ (List.mem_of_getElem? (i := 0) rfl)) (hw _ (List.mem_of_getElem? (i := 1) rfl)) (hw _ (List.mem_of_getElem? (i := 2) rfl)) e0 (g := (mkF m 100 #[Si i0, Si i1, Si i2, Si i3, Si i4, Sj jw, .second, Si 2, Si 0, Sj ja, .second, Sj jb, .second, Sj jc, .second, Sj jd, .second, Sj jn, .second, Sj jm, .second, Sd wd, .second, .unset, .unset, .unset, .unset, .unset, .unset, .unset] [])) rfl (hb hby at_100) (by decide) (by decide)
      obtain ⟨q, g81⟩ : ∃ z, z = h0.size := ⟨_, rfl⟩
      have g_q : n0 ≤ q := Nat.le_trans ZZ (Nat.le_of_eq g81.symm)
      rw [← g81] at A81 D81 st81
      replace ZZ := Nat.le_trans ZZ E81.1
      have E_q := A81
      have F_times_q : Fld Z h81 q "com/example/deliberate_scaler/deliberatescaler/model/RateWindow" "times" "[D" .null := D81 (Or.inl (hw _ (List.mem_of_getElem? (i := 11) rfl))) (ty := (.array .double)) (by decide)
      have F_latest_q : Fld Z h81 q "com/example/deliberate_scaler/deliberatescaler/model/RateWindow" "latest" "D" (.double (0 : UInt64)) := D81 (Or.inl (hw _ (List.mem_of_getElem? (i := 14) rfl))) (ty := .double) (by decide)
      have F_window_q : Fld Z h81 q "com/example/deliberate_scaler/deliberatescaler/model/RateWindow" "window" "D" (.double (0 : UInt64)) := D81 (Or.inr (hw _ (List.mem_of_getElem? (i := 17) rfl))) (ty := .double) (by decide)
      have F_end_q : Fld Z h81 q "com/example/deliberate_scaler/deliberatescaler/model/RateWindow" "end" "I" (.int (0 : Int32)) := D81 (Or.inl (hw _ (List.mem_of_getElem? (i := 24) rfl))) (ty := .int) (by decide)
      have F_first_q : Fld Z h81 q "com/example/deliberate_scaler/deliberatescaler/model/RateWindow" "first" "I" (.int (0 : Int32)) := D81 (Or.inl (hw _ (List.mem_of_getElem? (i := 31) rfl))) (ty := .int) (by decide)
      refine Go.on st81 ?_
      show Go _ _ _ _ _ _ _ _ (mkF m 103 #[Si i0, Si i1, Si i2, Si i3, Si i4, Sj jw, .second, Si 2, Si 0, Sj ja, .second, Sj jb, .second, Sj jc, .second, Sj jd, .second, Sj jn, .second, Sj jm, .second, Sd wd, .second, .unset, .unset, .unset, .unset, .unset, .unset, .unset] [(.ref q)])
      refine Go.on (fun _ k => XS.dup X81.here hx rfl (hb hby at_103) rfl rfl k) ?_
      refine Go.on (fun _ k => XS.dload X81.here hx rfl (hb hby at_104) rfl k) ?_
      show Go _ _ _ _ _ _ _ _ (mkF m 106 #[Si i0, Si i1, Si i2, Si i3, Si i4, Sj jw, .second, Si 2, Si 0, Sj ja, .second, Sj jb, .second, Sj jc, .second, Sj jd, .second, Sj jn, .second, Sj jm, .second, Sd wd, .second, .unset, .unset, .unset, .unset, .unset, .unset, .unset] [(.double wd), (.ref q), (.ref q)])
      obtain ⟨_, _, ⟨T82, L82, k82, n82⟩, -, X82, ⟨Lc82, hQ82, l82, y82, z82⟩, st82⟩ := X81.specialBack hx (y := (⟨"com/example/deliberate_scaler/deliberatescaler/model/RateWindow", "<init>", "(D)V"⟩ : MethodName)) rfl hown (mvT hZ (hw _ (List.mem_of_getElem? (i := 3) rfl))) (mvT hZ (hw _ (List.mem_of_getElem? (i := 4) rfl))) (mvT hZ (hw _ (List.mem_of_getElem? (i := 5) rfl))) (by decide) (backOf (W := 1) (rm1 l Z aw hw [] q wd  h81 n0 ZZ E_q F_times_q F_latest_q F_window_q F_first_q F_end_q g_q (own_wpos hwd hwj.1 Bjw) (own_winf hwd Bjw)) hZ (hw _ (List.mem_of_getElem? (i := 5) rfl)) (hw _ (List.mem_of_getElem? (i := 2) rfl)) (by decide) (by decide)) (g := (mkF m 106 #[Si i0, Si i1, Si i2, Si i3, Si i4, Sj jw, .second, Si 2, Si 0, Sj ja, .second, Sj jb, .second, Sj jc, .second, Sj jd, .second, Sj jn, .second, Sj jm, .second, Sd wd, .second, .unset, .unset, .unset, .unset, .unset, .unset, .unset] [(.double wd), (.ref q), (.ref q)])) rfl (by rw [hml]; rfl) (Steps.refl _) (a := q) (argsL := [(.double wd)]) (rest := [(.ref q)]) (lenOf pd_0 rfl) rfl (by show 2 * 0 + _ ≤ _; exact Nat.le_of_eq rfl) (hb hby at_106) (fun _ _ => ⟨rfl, e81, (by decide : 1 + 1 ≤ _), (by decide : 5 + 64 ≤ _)⟩)
      dsimp only [Pt.U, Pt.locs, Pt.cells, Pt.slots] at X82 l82 y82 z82 st82 hQ82
      subst l82 y82 z82
      obtain ⟨h82, e82⟩ : ∃ q, T82.heap = q := ⟨_, rfl⟩
      rw [e82] at hQ82
      obtain ⟨rfl, N82q, ar, k_ar, K82q, szarq, Eq82, F_timesq82, F_latestq82, F_windowq82, F_firstq82, F_endq82, V_ar⟩ := hQ82
      have N82 := Fr.app N0 N82q
      have ZZ82p := ZZ
      have lt_q := E_q.lt
      replace E_q := E_q.keep K82q
      replace ZZ := Nat.le_trans ZZ K82q.1
      have F_times_q := F_timesq82
      have F_latest_q := F_latestq82
      have F_window_q := F_windowq82
      have F_first_q := F_firstq82
      have F_end_q := F_endq82
      replace E_q := Eq82
      have g_ar : n0 ≤ ar := Nat.le_trans ZZ82p szarq
      have ne_q_ar : q ≠ ar := Nat.ne_of_lt (Nat.lt_of_lt_of_le lt_q szarq)
      refine Go.on (fun _ k => st82.trans k) ?_
      show Go _ _ _ _ _ _ _ _ (mkF m 109 #[Si i0, Si i1, Si i2, Si i3, Si i4, Sj jw, .second, Si 2, Si 0, Sj ja, .second, Sj jb, .second, Sj jc, .second, Sj jd, .second, Sj jn, .second, Sj jm, .second, Sd wd, .second, .unset, .unset, .unset, .unset, .unset, .unset, .unset] [(.ref q)])
      refine Go.on (fun _ k => XS.astore X82.here hx rfl (hb hby at_109) rfl rfl (l' := #[.val (.int i0), .val (.int i1), .val (.int i2), .val (.int i3), .val (.int i4), .val (.long jw), .second, .val (.int (2 : Int32)), .val (.int (0 : Int32)), .val (.long ja), .second, .val (.long jb), .second, .val (.long jc), .second, .val (.long jd), .second, .val (.long jn), .second, .val (.long jm), .second, .val (.double wd), .second, .val (.ref q), .unset, .unset, .unset, .unset, .unset, .unset]) rfl k) ?_
      show Go _ _ _ _ _ _ _ _ (mkF m 111 #[Si i0, Si i1, Si i2, Si i3, Si i4, Sj jw, .second, Si 2, Si 0, Sj ja, .second, Sj jb, .second, Sj jc, .second, Sj jd, .second, Sj jn, .second, Sj jm, .second, Sd wd, .second, Sr q, .unset, .unset, .unset, .unset, .unset, .unset] [])
      refine Go.on (fun _ k => XS.iload X82.here hx rfl (hb hby at_111) rfl k) ?_
      refine Go.on (fun _ k => XS.iconst X82.here hx rfl (hb hby at_113) k) ?_
      show Go _ _ _ _ _ _ _ _ (mkF m 114 #[Si i0, Si i1, Si i2, Si i3, Si i4, Sj jw, .second, Si 2, Si 0, Sj ja, .second, Sj jb, .second, Sj jc, .second, Sj jd, .second, Sj jn, .second, Sj jm, .second, Sd wd, .second, Sr q, .unset, .unset, .unset, .unset, .unset, .unset] [(.int 1), (.int 2)])
      have hc83 : ¬ ((2 : Int32) < (1 : Int32)) := by decide
      refine Go.on (fun _ k => XS.icmpNo X82.here hx rfl (hb hby at_114) rfl (flt hc83).1 k) ?_
      refine Go.on (fun _ k => XS.aload X82.here hx rfl (hb hby at_117) rfl rfl k) ?_
      refine Go.on (fun _ k => XS.lload X82.here hx rfl (hb hby at_119) rfl k) ?_
      refine Go.on (fun _ k => XS.l2dS X82.here hx rfl (hb hby at_121) rfl rfl k) ?_
      show Go _ _ _ _ _ _ _ _ (mkF m 122 #[Si i0, Si i1, Si i2, Si i3, Si i4, Sj jw, .second, Si 2, Si 0, Sj ja, .second, Sj jb, .second, Sj jc, .second, Sj jd, .second, Sj jn, .second, Sj jm, .second, Sd wd, .second, Sr q, .unset, .unset, .unset, .unset, .unset, .unset] [(.double (FP.l2d ja)), (.ref q)])
      obtain ⟨cq84, kq84, q84a, q84b, q84c⟩ := isOf hZ e82 E_q
      obtain ⟨_, _, ⟨T84, L84, k84, n84⟩, -, X84, ⟨Lc84, hQ84, l84, y84, z84⟩, st84⟩ := X82.virtualBack hx (y := (⟨"com/example/deliberate_scaler/deliberatescaler/model/RateWindow", "add", "(D)V"⟩ : MethodName)) (z := (⟨"com/example/deliberate_scaler/deliberatescaler/model/RateWindow", "add", "(D)V"⟩ : MethodName)) hown (mvT hZ (hw _ (List.mem_of_getElem? (i := 18) rfl))) (mvT hZ (hw _ (List.mem_of_getElem? (i := 19) rfl))) (notFace_of_selects (args := #[]) (mvT hZ (hw _ (List.mem_of_getElem? (i := 21) rfl)))) (mvT hZ (hw _ (List.mem_of_getElem? (i := 21) rfl))) (mvT hZ (hw _ (List.mem_of_getElem? (i := 20) rfl))) (by decide) (backOf (W := 0) (rw_add_0 l Z aw hw [] q (FP.l2d ja) ar (18442240474082181120 : UInt64) wd (0 : Int32) k_ar h82 n0 ZZ E_q F_times_q F_latest_q F_window_q F_first_q F_end_q V_ar g_q g_ar ne_q_ar (own_inf Bja)) hZ (hw _ (List.mem_of_getElem? (i := 22) rfl)) (hw _ (List.mem_of_getElem? (i := 2) rfl)) (by decide) (by decide)) q84a q84c (g := (mkF m 122 #[Si i0, Si i1, Si i2, Si i3, Si i4, Sj jw, .second, Si 2, Si 0, Sj ja, .second, Sj jb, .second, Sj jc, .second, Sj jd, .second, Sj jn, .second, Sj jm, .second, Sd wd, .second, Sr q, .unset, .unset, .unset, .unset, .unset, .unset] [(.double (FP.l2d ja)), (.ref q)])) rfl (by rw [hml]; rfl) (Steps.refl _) (argsL := [(.double (FP.l2d ja))]) (rest := []) (lenOf pd_0 rfl) rfl (by show 2 * 0 + _ ≤ _; exact Nat.le_of_eq rfl) (hb hby at_122) (fun _ _ => ⟨rfl, e82, (by decide : 2 + 0 ≤ _), (by decide : 69 + 0 ≤ _)⟩)
      dsimp only [Pt.U, Pt.locs, Pt.cells, Pt.slots] at X84 l84 y84 z84 st84 hQ84
      subst l84 y84 z84
      obtain ⟨h84, e84⟩ : ∃ q, T84.heap = q := ⟨_, rfl⟩
      rw [e84] at hQ84
      obtain ⟨rfl, N84q, K84q, Eq84, F_timesq84, F_latestq84, F_windowq84, F_firstq84, F_endq84, V_q84⟩ := hQ84
      have N84 := Fr.app N82 N84q
      have ZZ84p := ZZ
      have lt_q := E_q.lt
      have lt_ar := V_ar.lt
      replace E_q := E_q.keep K84q
      replace ZZ := Nat.le_trans ZZ K84q.1
      have F_times_q := F_timesq84
      have F_latest_q := F_latestq84
      have F_window_q := F_windowq84
      have F_first_q := F_firstq84
      have F_end_q := F_endq84
      replace E_q := Eq84
      have V_ar := V_q84
      refine Go.on (fun _ k => st84.trans k) ?_
      show Go _ _ _ _ _ _ _ _ (mkF m 125 #[Si i0, Si i1, Si i2, Si i3, Si i4, Sj jw, .second, Si 2, Si 0, Sj ja, .second, Sj jb, .second, Sj jc, .second, Sj jd, .second, Sj jn, .second, Sj jm, .second, Sd wd, .second, Sr q, .unset, .unset, .unset, .unset, .unset, .unset] [])
      refine Go.on (fun _ k => XS.iload X84.here hx rfl (hb hby at_125) rfl k) ?_
      refine Go.on (fun _ k => XS.iconst X84.here hx rfl (hb hby at_127) k) ?_
      show Go _ _ _ _ _ _ _ _ (mkF m 128 #[Si i0, Si i1, Si i2, Si i3, Si i4, Sj jw, .second, Si 2, Si 0, Sj ja, .second, Sj jb, .second, Sj jc, .second, Sj jd, .second, Sj jn, .second, Sj jm, .second, Sd wd, .second, Sr q, .unset, .unset, .unset, .unset, .unset, .unset] [(.int 2), (.int 2)])
      have hc85 : ¬ ((2 : Int32) < (2 : Int32)) := by decide
      refine Go.on (fun _ k => XS.icmpNo X84.here hx rfl (hb hby at_128) rfl (flt hc85).1 k) ?_
      refine Go.on (fun _ k => XS.aload X84.here hx rfl (hb hby at_131) rfl rfl k) ?_
      refine Go.on (fun _ k => XS.lload X84.here hx rfl (hb hby at_133) rfl k) ?_
      refine Go.on (fun _ k => XS.l2dS X84.here hx rfl (hb hby at_135) rfl rfl k) ?_
      show Go _ _ _ _ _ _ _ _ (mkF m 136 #[Si i0, Si i1, Si i2, Si i3, Si i4, Sj jw, .second, Si 2, Si 0, Sj ja, .second, Sj jb, .second, Sj jc, .second, Sj jd, .second, Sj jn, .second, Sj jm, .second, Sd wd, .second, Sr q, .unset, .unset, .unset, .unset, .unset, .unset] [(.double (FP.l2d jb)), (.ref q)])
      obtain ⟨cq86, kq86, q86a, q86b, q86c⟩ := isOf hZ e84 E_q
      obtain ⟨_, _, ⟨T86, L86, k86, n86⟩, -, X86, ⟨Lc86, hQ86, l86, y86, z86⟩, st86⟩ := X84.virtualBack hx (y := (⟨"com/example/deliberate_scaler/deliberatescaler/model/RateWindow", "add", "(D)V"⟩ : MethodName)) (z := (⟨"com/example/deliberate_scaler/deliberatescaler/model/RateWindow", "add", "(D)V"⟩ : MethodName)) hown (mvT hZ (hw _ (List.mem_of_getElem? (i := 18) rfl))) (mvT hZ (hw _ (List.mem_of_getElem? (i := 19) rfl))) (notFace_of_selects (args := #[]) (mvT hZ (hw _ (List.mem_of_getElem? (i := 21) rfl)))) (mvT hZ (hw _ (List.mem_of_getElem? (i := 21) rfl))) (mvT hZ (hw _ (List.mem_of_getElem? (i := 20) rfl))) (by decide) (backOf (W := 0) (rw_add_1 l Z aw hw [] q (FP.l2d jb) ar (FP.l2d ja) wd (0 : Int32) k_ar (FP.l2d ja) h84 n0 ZZ E_q F_times_q F_latest_q F_window_q F_first_q F_end_q V_ar g_q g_ar ne_q_ar (own_ge Bjb Bja (by omega))) hZ (hw _ (List.mem_of_getElem? (i := 22) rfl)) (hw _ (List.mem_of_getElem? (i := 2) rfl)) (by decide) (by decide)) q86a q86c (g := (mkF m 136 #[Si i0, Si i1, Si i2, Si i3, Si i4, Sj jw, .second, Si 2, Si 0, Sj ja, .second, Sj jb, .second, Sj jc, .second, Sj jd, .second, Sj jn, .second, Sj jm, .second, Sd wd, .second, Sr q, .unset, .unset, .unset, .unset, .unset, .unset] [(.double (FP.l2d jb)), (.ref q)])) rfl (by rw [hml]; rfl) (Steps.refl _) (argsL := [(.double (FP.l2d jb))]) (rest := []) (lenOf pd_0 rfl) rfl (by show 2 * 0 + _ ≤ _; exact Nat.le_of_eq rfl) (hb hby at_136) (fun _ _ => ⟨rfl, e84, (by decide : 2 + 0 ≤ _), (by decide : 69 + 0 ≤ _)⟩)
      dsimp only [Pt.U, Pt.locs, Pt.cells, Pt.slots] at X86 l86 y86 z86 st86 hQ86
      subst l86 y86 z86
      obtain ⟨h86, e86⟩ : ∃ q, T86.heap = q := ⟨_, rfl⟩
      rw [e86] at hQ86
      obtain ⟨rfl, N86q, K86q, Eq86, F_timesq86, F_latestq86, F_windowq86, F_firstq86, F_endq86, V_q86⟩ := hQ86
      have N86 := Fr.app N84 N86q
      have ZZ86p := ZZ
      have lt_q := E_q.lt
      have lt_ar := V_ar.lt
      replace E_q := E_q.keep K86q
      replace ZZ := Nat.le_trans ZZ K86q.1
      have F_times_q := F_timesq86
      have F_latest_q := F_latestq86
      have F_window_q := F_windowq86
      have F_first_q := F_firstq86
      have F_end_q := F_endq86
      replace E_q := Eq86
      have V_ar := V_q86
      refine Go.on (fun _ k => st86.trans k) ?_
      show Go _ _ _ _ _ _ _ _ (mkF m 139 #[Si i0, Si i1, Si i2, Si i3, Si i4, Sj jw, .second, Si 2, Si 0, Sj ja, .second, Sj jb, .second, Sj jc, .second, Sj jd, .second, Sj jn, .second, Sj jm, .second, Sd wd, .second, Sr q, .unset, .unset, .unset, .unset, .unset, .unset] [])
      refine Go.on (fun _ k => XS.iload X86.here hx rfl (hb hby at_139) rfl k) ?_
      refine Go.on (fun _ k => XS.iconst X86.here hx rfl (hb hby at_141) k) ?_
      show Go _ _ _ _ _ _ _ _ (mkF m 142 #[Si i0, Si i1, Si i2, Si i3, Si i4, Sj jw, .second, Si 2, Si 0, Sj ja, .second, Sj jb, .second, Sj jc, .second, Sj jd, .second, Sj jn, .second, Sj jm, .second, Sd wd, .second, Sr q, .unset, .unset, .unset, .unset, .unset, .unset] [(.int 3), (.int 2)])
      have hc87 : (2 : Int32) < (3 : Int32) := by decide
      refine Go.on (fun _ k => XS.icmpYes X86.here hx rfl (pc0 := 142) (pc' := 153) rfl (hb hby at_142) rfl (tlt hc87).1 (by decide) (by decide) k) ?_
      refine Go.on (fun _ k => XS.aload X86.here hx rfl (hb hby at_153) rfl rfl k) ?_
      refine Go.on (fun _ k => XS.lload X86.here hx rfl (hb hby at_155) rfl k) ?_
      refine Go.on (fun _ k => XS.l2dS X86.here hx rfl (hb hby at_157) rfl rfl k) ?_
      show Go _ _ _ _ _ _ _ _ (mkF m 158 #[Si i0, Si i1, Si i2, Si i3, Si i4, Sj jw, .second, Si 2, Si 0, Sj ja, .second, Sj jb, .second, Sj jc, .second, Sj jd, .second, Sj jn, .second, Sj jm, .second, Sd wd, .second, Sr q, .unset, .unset, .unset, .unset, .unset, .unset] [(.double (FP.l2d jn)), (.ref q)])
      obtain ⟨cq88, kq88, q88a, q88b, q88c⟩ := isOf hZ e86 E_q
      obtain ⟨_, _, ⟨T88, L88, k88, n88⟩, -, X88, ⟨Lc88, hQ88, l88, y88, z88⟩, st88⟩ := X86.virtualBack hx (y := (⟨"com/example/deliberate_scaler/deliberatescaler/model/RateWindow", "rate", "(D)D"⟩ : MethodName)) (z := (⟨"com/example/deliberate_scaler/deliberatescaler/model/RateWindow", "rate", "(D)D"⟩ : MethodName)) hown (mvT hZ (hw _ (List.mem_of_getElem? (i := 25) rfl))) (mvT hZ (hw _ (List.mem_of_getElem? (i := 26) rfl))) (notFace_of_selects (args := #[]) (mvT hZ (hw _ (List.mem_of_getElem? (i := 28) rfl)))) (mvT hZ (hw _ (List.mem_of_getElem? (i := 28) rfl))) (mvT hZ (hw _ (List.mem_of_getElem? (i := 27) rfl))) (by decide) (backOf (W := 0) (rw_rate_2 l Z aw hw [] q (FP.l2d jn) ja jb jn jw ar (FP.l2d jb) wd (0 : Int32) k_ar (FP.l2d ja) (FP.l2d jb) h86 n0 ZZ E_q F_times_q F_latest_q F_window_q F_first_q F_end_q V_ar g_q ne_q_ar rfl hwd.symm Bjn Bjw hwj.1 rfl rfl Bja Bjb (by omega) (Or.inl rfl) (fun q => absurd q (by decide)) (fun q => absurd q (by decide))) hZ (hw _ (List.mem_of_getElem? (i := 29) rfl)) (hw _ (List.mem_of_getElem? (i := 2) rfl)) (by decide) (by decide)) q88a q88c (g := (mkF m 158 #[Si i0, Si i1, Si i2, Si i3, Si i4, Sj jw, .second, Si 2, Si 0, Sj ja, .second, Sj jb, .second, Sj jc, .second, Sj jd, .second, Sj jn, .second, Sj jm, .second, Sd wd, .second, Sr q, .unset, .unset, .unset, .unset, .unset, .unset] [(.double (FP.l2d jn)), (.ref q)])) rfl (by rw [hml]; rfl) (Steps.refl _) (argsL := [(.double (FP.l2d jn))]) (rest := []) (lenOf pd_1 rfl) rfl (by show 2 * 0 + _ ≤ _; exact Nat.le_of_eq rfl) (hb hby at_158) (fun _ _ => ⟨rfl, e86, (by decide : 2 + 0 ≤ _), (by decide : 69 + 0 ≤ _)⟩)
      dsimp only [Pt.U, Pt.locs, Pt.cells, Pt.slots] at X88 l88 y88 z88 st88 hQ88
      subst l88 y88 z88
      obtain ⟨h88, e88⟩ : ∃ q, T88.heap = q := ⟨_, rfl⟩
      rw [e88] at hQ88
      obtain ⟨f1_88, rfl, N88q, K88q, Eq88, F_timesq88, F_latestq88, F_windowq88, F_firstq88, F_endq88, hdj88, hdr0_88, hdr1_88⟩ := hQ88
      have N88 := Fr.app N86 N88q
      have ZZ88p := ZZ
      have lt_q := E_q.lt
      have lt_ar := V_ar.lt
      replace E_q := E_q.keep K88q
      replace V_ar := V_ar.keep K88q (ninS (Ne.symm ne_q_ar) nin0)
      replace ZZ := Nat.le_trans ZZ K88q.1
      obtain ⟨fr1, hfr1⟩ : ∃ z, z = f1_88 := ⟨_, rfl⟩
      rw [← hfr1] at F_firstq88 hdj88 hdr0_88 hdr1_88
      have F_times_q := F_timesq88
      have F_latest_q := F_latestq88
      have F_window_q := F_windowq88
      have F_first_q := F_firstq88
      have F_end_q := F_endq88
      replace E_q := Eq88
      refine Go.on (fun _ k => st88.trans k) ?_
      show Go _ _ _ _ _ _ _ _ (mkF m 161 #[Si i0, Si i1, Si i2, Si i3, Si i4, Sj jw, .second, Si 2, Si 0, Sj ja, .second, Sj jb, .second, Sj jc, .second, Sj jd, .second, Sj jn, .second, Sj jm, .second, Sd wd, .second, Sr q, .unset, .unset, .unset, .unset, .unset, .unset] [(.double (FP.ddiv (FP.i2d ((inV ja jn jw) + (inV jb jn jw))) wd))])
      refine Go.on (fun _ k => XS.dstore X88.here hx rfl (hb hby at_161) rfl (l' := #[.val (.int i0), .val (.int i1), .val (.int i2), .val (.int i3), .val (.int i4), .val (.long jw), .second, .val (.int (2 : Int32)), .val (.int (0 : Int32)), .val (.long ja), .second, .val (.long jb), .second, .val (.long jc), .second, .val (.long jd), .second, .val (.long jn), .second, .val (.long jm), .second, .val (.double wd), .second, .val (.ref q), .val (.double (FP.ddiv (FP.i2d ((inV ja jn jw) + (inV jb jn jw))) wd)), .second, .unset, .unset, .unset, .unset]) rfl k) ?_
      show Go _ _ _ _ _ _ _ _ (mkF m 163 #[Si i0, Si i1, Si i2, Si i3, Si i4, Sj jw, .second, Si 2, Si 0, Sj ja, .second, Sj jb, .second, Sj jc, .second, Sj jd, .second, Sj jn, .second, Sj jm, .second, Sd wd, .second, Sr q, .val (.double (FP.ddiv (FP.i2d ((inV ja jn jw) + (inV jb jn jw))) wd)), .second, .unset, .unset, .unset, .unset] [])
      generalize hra : (FP.ddiv (FP.i2d ((inV ja jn jw) + (inV jb jn jw))) wd) = ra
      show Go _ _ _ _ _ _ _ _ (mkF m 163 #[Si i0, Si i1, Si i2, Si i3, Si i4, Sj jw, .second, Si 2, Si 0, Sj ja, .second, Sj jb, .second, Sj jc, .second, Sj jd, .second, Sj jn, .second, Sj jm, .second, Sd wd, .second, Sr q, Sd ra, .second, .unset, .unset, .unset, .unset] [])
      refine Go.on (fun _ k => XS.iload X88.here hx rfl (hb hby at_163) rfl k) ?_
      show Go _ _ _ _ _ _ _ _ (mkF m 165 #[Si i0, Si i1, Si i2, Si i3, Si i4, Sj jw, .second, Si 2, Si 0, Sj ja, .second, Sj jb, .second, Sj jc, .second, Sj jd, .second, Sj jn, .second, Sj jm, .second, Sd wd, .second, Sr q, Sd ra, .second, .unset, .unset, .unset, .unset] [(.int 0)])
      have hc89 : (0 : Int32) = (0 : Int32) := by decide
      refine Go.on (fun _ k => XS.ifYes X88.here hx rfl (pc0 := 165) (pc' := 176) rfl (hb hby at_165) rfl ((if0 _ _).trans (teq hc89).1) (by decide) (by decide) k) ?_
      refine Go.on (fun _ k => XS.aload X88.here hx rfl (hb hby at_176) rfl rfl k) ?_
      refine Go.on (fun _ k => XS.lload X88.here hx rfl (hb hby at_178) rfl k) ?_
      refine Go.on (fun _ k => XS.l2dS X88.here hx rfl (hb hby at_180) rfl rfl k) ?_
      show Go _ _ _ _ _ _ _ _ (mkF m 181 #[Si i0, Si i1, Si i2, Si i3, Si i4, Sj jw, .second, Si 2, Si 0, Sj ja, .second, Sj jb, .second, Sj jc, .second, Sj jd, .second, Sj jn, .second, Sj jm, .second, Sd wd, .second, Sr q, Sd ra, .second, .unset, .unset, .unset, .unset] [(.double (FP.l2d jm)), (.ref q)])
      obtain ⟨cq90, kq90, q90a, q90b, q90c⟩ := isOf hZ e88 E_q
      obtain ⟨_, _, ⟨T90, L90, k90, n90⟩, -, X90, ⟨Lc90, hQ90, l90, y90, z90⟩, st90⟩ := X88.virtualBack hx (y := (⟨"com/example/deliberate_scaler/deliberatescaler/model/RateWindow", "rate", "(D)D"⟩ : MethodName)) (z := (⟨"com/example/deliberate_scaler/deliberatescaler/model/RateWindow", "rate", "(D)D"⟩ : MethodName)) hown (mvT hZ (hw _ (List.mem_of_getElem? (i := 25) rfl))) (mvT hZ (hw _ (List.mem_of_getElem? (i := 26) rfl))) (notFace_of_selects (args := #[]) (mvT hZ (hw _ (List.mem_of_getElem? (i := 28) rfl)))) (mvT hZ (hw _ (List.mem_of_getElem? (i := 28) rfl))) (mvT hZ (hw _ (List.mem_of_getElem? (i := 27) rfl))) (by decide) (backOf (W := 0) (rw_rate_2 l Z aw hw [] q (FP.l2d jm) ja jb jm jw ar (FP.l2d jb) wd fr1 k_ar (FP.l2d ja) (FP.l2d jb) h88 n0 ZZ E_q F_times_q F_latest_q F_window_q F_first_q F_end_q V_ar g_q ne_q_ar rfl hwd.symm Bjm Bjw hwj.1 rfl rfl Bja Bjb (by omega) hdj88 (fun q => Int.le_trans (hdr0_88 q) (by omega)) (fun q => Int.le_trans (hdr1_88 q) (by omega))) hZ (hw _ (List.mem_of_getElem? (i := 29) rfl)) (hw _ (List.mem_of_getElem? (i := 2) rfl)) (by decide) (by decide)) q90a q90c (g := (mkF m 181 #[Si i0, Si i1, Si i2, Si i3, Si i4, Sj jw, .second, Si 2, Si 0, Sj ja, .second, Sj jb, .second, Sj jc, .second, Sj jd, .second, Sj jn, .second, Sj jm, .second, Sd wd, .second, Sr q, Sd ra, .second, .unset, .unset, .unset, .unset] [(.double (FP.l2d jm)), (.ref q)])) rfl (by rw [hml]; rfl) (Steps.refl _) (argsL := [(.double (FP.l2d jm))]) (rest := []) (lenOf pd_1 rfl) rfl (by show 2 * 0 + _ ≤ _; exact Nat.le_of_eq rfl) (hb hby at_181) (fun _ _ => ⟨rfl, e88, (by decide : 2 + 0 ≤ _), (by decide : 69 + 0 ≤ _)⟩)
      dsimp only [Pt.U, Pt.locs, Pt.cells, Pt.slots] at X90 l90 y90 z90 st90 hQ90
      subst l90 y90 z90
      obtain ⟨h90, e90⟩ : ∃ q, T90.heap = q := ⟨_, rfl⟩
      rw [e90] at hQ90
      obtain ⟨f1_90, rfl, N90q, K90q, Eq90, F_timesq90, F_latestq90, F_windowq90, F_firstq90, F_endq90, hdj90, hdr0_90, hdr1_90⟩ := hQ90
      have N90 := Fr.app N88 N90q
      have ZZ90p := ZZ
      have lt_q := E_q.lt
      have lt_ar := V_ar.lt
      replace E_q := E_q.keep K90q
      replace V_ar := V_ar.keep K90q (ninS (Ne.symm ne_q_ar) nin0)
      replace ZZ := Nat.le_trans ZZ K90q.1
      obtain ⟨fr2, hfr2⟩ : ∃ z, z = f1_90 := ⟨_, rfl⟩
      rw [← hfr2] at F_firstq90 hdj90 hdr0_90 hdr1_90
      have F_times_q := F_timesq90
      have F_latest_q := F_latestq90
      have F_window_q := F_windowq90
      have F_first_q := F_firstq90
      have F_end_q := F_endq90
      replace E_q := Eq90
      refine Go.on (fun _ k => st90.trans k) ?_
      show Go _ _ _ _ _ _ _ _ (mkF m 184 #[Si i0, Si i1, Si i2, Si i3, Si i4, Sj jw, .second, Si 2, Si 0, Sj ja, .second, Sj jb, .second, Sj jc, .second, Sj jd, .second, Sj jn, .second, Sj jm, .second, Sd wd, .second, Sr q, Sd ra, .second, .unset, .unset, .unset, .unset] [(.double (FP.ddiv (FP.i2d ((inV ja jm jw) + (inV jb jm jw))) wd))])
      refine Go.on (fun _ k => XS.dstore X90.here hx rfl (hb hby at_184) rfl (l' := #[.val (.int i0), .val (.int i1), .val (.int i2), .val (.int i3), .val (.int i4), .val (.long jw), .second, .val (.int (2 : Int32)), .val (.int (0 : Int32)), .val (.long ja), .second, .val (.long jb), .second, .val (.long jc), .second, .val (.long jd), .second, .val (.long jn), .second, .val (.long jm), .second, .val (.double wd), .second, .val (.ref q), .val (.double ra), .second, .val (.double (FP.ddiv (FP.i2d ((inV ja jm jw) + (inV jb jm jw))) wd)), .second, .unset, .unset]) rfl k) ?_
      show Go _ _ _ _ _ _ _ _ (mkF m 186 #[Si i0, Si i1, Si i2, Si i3, Si i4, Sj jw, .second, Si 2, Si 0, Sj ja, .second, Sj jb, .second, Sj jc, .second, Sj jd, .second, Sj jn, .second, Sj jm, .second, Sd wd, .second, Sr q, Sd ra, .second, .val (.double (FP.ddiv (FP.i2d ((inV ja jm jw) + (inV jb jm jw))) wd)), .second, .unset, .unset] [])
      generalize hrb : (FP.ddiv (FP.i2d ((inV ja jm jw) + (inV jb jm jw))) wd) = rb
      show Go _ _ _ _ _ _ _ _ (mkF m 186 #[Si i0, Si i1, Si i2, Si i3, Si i4, Sj jw, .second, Si 2, Si 0, Sj ja, .second, Sj jb, .second, Sj jc, .second, Sj jd, .second, Sj jn, .second, Sj jm, .second, Sd wd, .second, Sr q, Sd ra, .second, Sd rb, .second, .unset, .unset] [])
      refine Go.on (fun _ k => XS.iload X90.here hx rfl (hb hby at_186) rfl k) ?_
      refine Go.on (fun _ k => XS.iconst X90.here hx rfl (hb hby at_188) k) ?_
      show Go _ _ _ _ _ _ _ _ (mkF m 189 #[Si i0, Si i1, Si i2, Si i3, Si i4, Sj jw, .second, Si 2, Si 0, Sj ja, .second, Sj jb, .second, Sj jc, .second, Sj jd, .second, Sj jn, .second, Sj jm, .second, Sd wd, .second, Sr q, Sd ra, .second, Sd rb, .second, .unset, .unset] [(.int 1), (.int 2)])
      have hc91 : ¬ ((2 : Int32) < (1 : Int32)) := by decide
      refine Go.on (fun _ k => XS.icmpNo X90.here hx rfl (hb hby at_189) rfl (flt hc91).1 k) ?_
      refine Go.on (fun _ k => XS.lload X90.here hx rfl (hb hby at_192) rfl k) ?_
      refine Go.on (fun _ k => XS.lload X90.here hx rfl (hb hby at_194) rfl k) ?_
      refine Go.on (fun _ k => XS.lload X90.here hx rfl (hb hby at_196) rfl k) ?_
      show Go _ _ _ _ _ _ _ _ (mkF m 198 #[Si i0, Si i1, Si i2, Si i3, Si i4, Sj jw, .second, Si 2, Si 0, Sj ja, .second, Sj jb, .second, Sj jc, .second, Sj jd, .second, Sj jn, .second, Sj jm, .second, Sd wd, .second, Sr q, Sd ra, .second, Sd rb, .second, .unset, .unset] [(.long jw), (.long jn), (.long ja)])
      obtain ⟨_, _, ⟨T92, L92, k92, n92⟩, -, X92, ⟨Lc92, hQ92, l92, y92, z92⟩, st92⟩ := Jvm.LawKit.callS X90 hx (y := (⟨"com/example/deliberate_scaler/deliberatescaler/model/RateWindowRatePinLaw", "in", "(JJJ)I"⟩ : MethodName)) hown (mvT hZ (hw _ (List.mem_of_getElem? (i := 32) rfl))) (mvT hZ (hw _ (List.mem_of_getElem? (i := 33) rfl))) (mvT hZ (hw _ (List.mem_of_getElem? (i := 34) rfl))) (mvT hZ (hw _ (List.mem_of_getElem? (i := 35) rfl))) (by decide) (backOf (W := 0) (rm5 l Z aw hw [] ja jn jw  h90 n0 ZZ ) hZ (hw _ (List.mem_of_getElem? (i := 35) rfl)) (hw _ (List.mem_of_getElem? (i := 34) rfl)) (by decide) (by decide)) (g := (mkF m 198 #[Si i0, Si i1, Si i2, Si i3, Si i4, Sj jw, .second, Si 2, Si 0, Sj ja, .second, Sj jb, .second, Sj jc, .second, Sj jd, .second, Sj jn, .second, Sj jm, .second, Sd wd, .second, Sr q, Sd ra, .second, Sd rb, .second, .unset, .unset] [(.long jw), (.long jn), (.long ja)])) rfl (by rw [hml]; rfl) (argsL := [(.long ja), (.long jn), (.long jw)]) (rest := []) (lenOf pd_2 rfl) rfl (by show 2 * 0 + _ ≤ _; exact Nat.le_of_eq rfl) (hb hby at_198) (fun _ _ => ⟨rfl, e90, (by decide : 2 + 0 ≤ _), (by decide : 69 + 0 ≤ _)⟩)
      dsimp only [Pt.U, Pt.locs, Pt.cells, Pt.slots] at X92 l92 y92 z92 st92 hQ92
      subst l92 y92 z92
      obtain ⟨rfl, N92q, e92⟩ := hQ92
      have N92 := Fr.app N90 N92q
      refine Go.on st92 ?_
      show Go _ _ _ _ _ _ _ _ (mkF m 201 #[Si i0, Si i1, Si i2, Si i3, Si i4, Sj jw, .second, Si 2, Si 0, Sj ja, .second, Sj jb, .second, Sj jc, .second, Sj jd, .second, Sj jn, .second, Sj jm, .second, Sd wd, .second, Sr q, Sd ra, .second, Sd rb, .second, .unset, .unset] [(.int (inV ja jn jw))])
      refine Go.on (fun _ k => XS.goto X92.here hx rfl (pc0 := 201) (pc' := 205) rfl (hb hby at_201) (by decide) (by decide) k) ?_
      refine Go.on (fun _ k => XS.iload X92.here hx rfl (hb hby at_205) rfl k) ?_
      refine Go.on (fun _ k => XS.iconst X92.here hx rfl (hb hby at_207) k) ?_
      show Go _ _ _ _ _ _ _ _ (mkF m 208 #[Si i0, Si i1, Si i2, Si i3, Si i4, Sj jw, .second, Si 2, Si 0, Sj ja, .second, Sj jb, .second, Sj jc, .second, Sj jd, .second, Sj jn, .second, Sj jm, .second, Sd wd, .second, Sr q, Sd ra, .second, Sd rb, .second, .unset, .unset] [(.int 2), (.int 2), (.int (inV ja jn jw))])
      have hc93 : ¬ ((2 : Int32) < (2 : Int32)) := by decide
      refine Go.on (fun _ k => XS.icmpNo X92.here hx rfl (hb hby at_208) rfl (flt hc93).1 k) ?_
      refine Go.on (fun _ k => XS.lload X92.here hx rfl (hb hby at_211) rfl k) ?_
      refine Go.on (fun _ k => XS.lload X92.here hx rfl (hb hby at_213) rfl k) ?_
      refine Go.on (fun _ k => XS.lload X92.here hx rfl (hb hby at_215) rfl k) ?_
      show Go _ _ _ _ _ _ _ _ (mkF m 217 #[Si i0, Si i1, Si i2, Si i3, Si i4, Sj jw, .second, Si 2, Si 0, Sj ja, .second, Sj jb, .second, Sj jc, .second, Sj jd, .second, Sj jn, .second, Sj jm, .second, Sd wd, .second, Sr q, Sd ra, .second, Sd rb, .second, .unset, .unset] [(.long jw), (.long jn), (.long jb), (.int (inV ja jn jw))])
      obtain ⟨_, _, ⟨T94, L94, k94, n94⟩, -, X94, ⟨Lc94, hQ94, l94, y94, z94⟩, st94⟩ := Jvm.LawKit.callS X92 hx (y := (⟨"com/example/deliberate_scaler/deliberatescaler/model/RateWindowRatePinLaw", "in", "(JJJ)I"⟩ : MethodName)) hown (mvT hZ (hw _ (List.mem_of_getElem? (i := 32) rfl))) (mvT hZ (hw _ (List.mem_of_getElem? (i := 33) rfl))) (mvT hZ (hw _ (List.mem_of_getElem? (i := 34) rfl))) (mvT hZ (hw _ (List.mem_of_getElem? (i := 35) rfl))) (by decide) (backOf (W := 1) (rm5 l Z aw hw [] jb jn jw  h90 n0 ZZ ) hZ (hw _ (List.mem_of_getElem? (i := 35) rfl)) (hw _ (List.mem_of_getElem? (i := 34) rfl)) (by decide) (by decide)) (g := (mkF m 217 #[Si i0, Si i1, Si i2, Si i3, Si i4, Sj jw, .second, Si 2, Si 0, Sj ja, .second, Sj jb, .second, Sj jc, .second, Sj jd, .second, Sj jn, .second, Sj jm, .second, Sd wd, .second, Sr q, Sd ra, .second, Sd rb, .second, .unset, .unset] [(.long jw), (.long jn), (.long jb), (.int (inV ja jn jw))])) rfl (by rw [hml]; rfl) (argsL := [(.long jb), (.long jn), (.long jw)]) (rest := [(.int (inV ja jn jw))]) (lenOf pd_2 rfl) rfl (by show 2 * 0 + _ ≤ _; exact Nat.le_of_eq rfl) (hb hby at_217) (fun _ _ => ⟨rfl, e92, (by decide : 2 + 0 ≤ _), (by decide : 69 + 0 ≤ _)⟩)
      dsimp only [Pt.U, Pt.locs, Pt.cells, Pt.slots] at X94 l94 y94 z94 st94 hQ94
      subst l94 y94 z94
      obtain ⟨rfl, N94q, e94⟩ := hQ94
      have N94 := Fr.app N92 N94q
      refine Go.on st94 ?_
      show Go _ _ _ _ _ _ _ _ (mkF m 220 #[Si i0, Si i1, Si i2, Si i3, Si i4, Sj jw, .second, Si 2, Si 0, Sj ja, .second, Sj jb, .second, Sj jc, .second, Sj jd, .second, Sj jn, .second, Sj jm, .second, Sd wd, .second, Sr q, Sd ra, .second, Sd rb, .second, .unset, .unset] [(.int (inV jb jn jw)), (.int (inV ja jn jw))])
      refine Go.on (fun _ k => XS.goto X94.here hx rfl (pc0 := 220) (pc' := 224) rfl (hb hby at_220) (by decide) (by decide) k) ?_
      refine Go.on (fun _ k => XS.iadd X94.here hx rfl (hb hby at_224) rfl k) ?_
      refine Go.on (fun _ k => XS.iload X94.here hx rfl (hb hby at_225) rfl k) ?_
      refine Go.on (fun _ k => XS.iconst X94.here hx rfl (hb hby at_227) k) ?_
      show Go _ _ _ _ _ _ _ _ (mkF m 228 #[Si i0, Si i1, Si i2, Si i3, Si i4, Sj jw, .second, Si 2, Si 0, Sj ja, .second, Sj jb, .second, Sj jc, .second, Sj jd, .second, Sj jn, .second, Sj jm, .second, Sd wd, .second, Sr q, Sd ra, .second, Sd rb, .second, .unset, .unset] [(.int 3), (.int 2), (.int ((inV ja jn jw) + (inV jb jn jw)))])
      have hc95 : (2 : Int32) < (3 : Int32) := by decide
      refine Go.on (fun _ k => XS.icmpYes X94.here hx rfl (pc0 := 228) (pc' := 243) rfl (hb hby at_228) rfl (tlt hc95).1 (by decide) (by decide) k) ?_
      refine Go.on (fun _ k => XS.iconst X94.here hx rfl (hb hby at_243) k) ?_
      refine Go.on (fun _ k => XS.iadd X94.here hx rfl (hb hby at_244) rfl k) ?_
      show Go _ _ _ _ _ _ _ _ (mkF m 245 #[Si i0, Si i1, Si i2, Si i3, Si i4, Sj jw, .second, Si 2, Si 0, Sj ja, .second, Sj jb, .second, Sj jc, .second, Sj jd, .second, Sj jn, .second, Sj jm, .second, Sd wd, .second, Sr q, Sd ra, .second, Sd rb, .second, .unset, .unset] [(.int (((inV ja jn jw) + (inV jb jn jw)) + (0 : Int32)))])
      refine Go.on (fun _ k => XS.istore X94.here hx rfl (hb hby at_245) rfl (l' := #[.val (.int i0), .val (.int i1), .val (.int i2), .val (.int i3), .val (.int i4), .val (.long jw), .second, .val (.int (2 : Int32)), .val (.int (0 : Int32)), .val (.long ja), .second, .val (.long jb), .second, .val (.long jc), .second, .val (.long jd), .second, .val (.long jn), .second, .val (.long jm), .second, .val (.double wd), .second, .val (.ref q), .val (.double ra), .second, .val (.double rb), .second, .val (.int (((inV ja jn jw) + (inV jb jn jw)) + (0 : Int32))), .unset]) rfl k) ?_
      show Go _ _ _ _ _ _ _ _ (mkF m 247 #[Si i0, Si i1, Si i2, Si i3, Si i4, Sj jw, .second, Si 2, Si 0, Sj ja, .second, Sj jb, .second, Sj jc, .second, Sj jd, .second, Sj jn, .second, Sj jm, .second, Sd wd, .second, Sr q, Sd ra, .second, Sd rb, .second, .val (.int (((inV ja jn jw) + (inV jb jn jw)) + (0 : Int32))), .unset] [])
      generalize hca : (((inV ja jn jw) + (inV jb jn jw)) + (0 : Int32)) = ca
      show Go _ _ _ _ _ _ _ _ (mkF m 247 #[Si i0, Si i1, Si i2, Si i3, Si i4, Sj jw, .second, Si 2, Si 0, Sj ja, .second, Sj jb, .second, Sj jc, .second, Sj jd, .second, Sj jn, .second, Sj jm, .second, Sd wd, .second, Sr q, Sd ra, .second, Sd rb, .second, Si ca, .unset] [])
      refine Go.on (fun _ k => XS.iload X94.here hx rfl (hb hby at_247) rfl k) ?_
      refine Go.on (fun _ k => XS.iconst X94.here hx rfl (hb hby at_249) k) ?_
      show Go _ _ _ _ _ _ _ _ (mkF m 250 #[Si i0, Si i1, Si i2, Si i3, Si i4, Sj jw, .second, Si 2, Si 0, Sj ja, .second, Sj jb, .second, Sj jc, .second, Sj jd, .second, Sj jn, .second, Sj jm, .second, Sd wd, .second, Sr q, Sd ra, .second, Sd rb, .second, Si ca, .unset] [(.int 1), (.int 2)])
      have hc96 : ¬ ((2 : Int32) < (1 : Int32)) := by decide
      refine Go.on (fun _ k => XS.icmpNo X94.here hx rfl (hb hby at_250) rfl (flt hc96).1 k) ?_
      refine Go.on (fun _ k => XS.lload X94.here hx rfl (hb hby at_253) rfl k) ?_
      refine Go.on (fun _ k => XS.lload X94.here hx rfl (hb hby at_255) rfl k) ?_
      refine Go.on (fun _ k => XS.lload X94.here hx rfl (hb hby at_257) rfl k) ?_
      show Go _ _ _ _ _ _ _ _ (mkF m 259 #[Si i0, Si i1, Si i2, Si i3, Si i4, Sj jw, .second, Si 2, Si 0, Sj ja, .second, Sj jb, .second, Sj jc, .second, Sj jd, .second, Sj jn, .second, Sj jm, .second, Sd wd, .second, Sr q, Sd ra, .second, Sd rb, .second, Si ca, .unset] [(.long jw), (.long jm), (.long ja)])
      obtain ⟨_, _, ⟨T97, L97, k97, n97⟩, -, X97, ⟨Lc97, hQ97, l97, y97, z97⟩, st97⟩ := Jvm.LawKit.callS X94 hx (y := (⟨"com/example/deliberate_scaler/deliberatescaler/model/RateWindowRatePinLaw", "in", "(JJJ)I"⟩ : MethodName)) hown (mvT hZ (hw _ (List.mem_of_getElem? (i := 32) rfl))) (mvT hZ (hw _ (List.mem_of_getElem? (i := 33) rfl))) (mvT hZ (hw _ (List.mem_of_getElem? (i := 34) rfl))) (mvT hZ (hw _ (List.mem_of_getElem? (i := 35) rfl))) (by decide) (backOf (W := 0) (rm5 l Z aw hw [] ja jm jw  h90 n0 ZZ ) hZ (hw _ (List.mem_of_getElem? (i := 35) rfl)) (hw _ (List.mem_of_getElem? (i := 34) rfl)) (by decide) (by decide)) (g := (mkF m 259 #[Si i0, Si i1, Si i2, Si i3, Si i4, Sj jw, .second, Si 2, Si 0, Sj ja, .second, Sj jb, .second, Sj jc, .second, Sj jd, .second, Sj jn, .second, Sj jm, .second, Sd wd, .second, Sr q, Sd ra, .second, Sd rb, .second, Si ca, .unset] [(.long jw), (.long jm), (.long ja)])) rfl (by rw [hml]; rfl) (argsL := [(.long ja), (.long jm), (.long jw)]) (rest := []) (lenOf pd_2 rfl) rfl (by show 2 * 0 + _ ≤ _; exact Nat.le_of_eq rfl) (hb hby at_259) (fun _ _ => ⟨rfl, e94, (by decide : 2 + 0 ≤ _), (by decide : 69 + 0 ≤ _)⟩)
      dsimp only [Pt.U, Pt.locs, Pt.cells, Pt.slots] at X97 l97 y97 z97 st97 hQ97
      subst l97 y97 z97
      obtain ⟨rfl, N97q, e97⟩ := hQ97
      have N97 := Fr.app N94 N97q
      refine Go.on st97 ?_
      show Go _ _ _ _ _ _ _ _ (mkF m 262 #[Si i0, Si i1, Si i2, Si i3, Si i4, Sj jw, .second, Si 2, Si 0, Sj ja, .second, Sj jb, .second, Sj jc, .second, Sj jd, .second, Sj jn, .second, Sj jm, .second, Sd wd, .second, Sr q, Sd ra, .second, Sd rb, .second, Si ca, .unset] [(.int (inV ja jm jw))])
      refine Go.on (fun _ k => XS.goto X97.here hx rfl (pc0 := 262) (pc' := 266) rfl (hb hby at_262) (by decide) (by decide) k) ?_
      refine Go.on (fun _ k => XS.iload X97.here hx rfl (hb hby at_266) rfl k) ?_
      refine Go.on (fun _ k => XS.iconst X97.here hx rfl (hb hby at_268) k) ?_
      show Go _ _ _ _ _ _ _ _ (mkF m 269 #[Si i0, Si i1, Si i2, Si i3, Si i4, Sj jw, .second, Si 2, Si 0, Sj ja, .second, Sj jb, .second, Sj jc, .second, Sj jd, .second, Sj jn, .second, Sj jm, .second, Sd wd, .second, Sr q, Sd ra, .second, Sd rb, .second, Si ca, .unset] [(.int 2), (.int 2), (.int (inV ja jm jw))])
      have hc98 : ¬ ((2 : Int32) < (2 : Int32)) := by decide
      refine Go.on (fun _ k => XS.icmpNo X97.here hx rfl (hb hby at_269) rfl (flt hc98).1 k) ?_
      refine Go.on (fun _ k => XS.lload X97.here hx rfl (hb hby at_272) rfl k) ?_
      refine Go.on (fun _ k => XS.lload X97.here hx rfl (hb hby at_274) rfl k) ?_
      refine Go.on (fun _ k => XS.lload X97.here hx rfl (hb hby at_276) rfl k) ?_
      show Go _ _ _ _ _ _ _ _ (mkF m 278 #[Si i0, Si i1, Si i2, Si i3, Si i4, Sj jw, .second, Si 2, Si 0, Sj ja, .second, Sj jb, .second, Sj jc, .second, Sj jd, .second, Sj jn, .second, Sj jm, .second, Sd wd, .second, Sr q, Sd ra, .second, Sd rb, .second, Si ca, .unset] [(.long jw), (.long jm), (.long jb), (.int (inV ja jm jw))])
      obtain ⟨_, _, ⟨T99, L99, k99, n99⟩, -, X99, ⟨Lc99, hQ99, l99, y99, z99⟩, st99⟩ := Jvm.LawKit.callS X97 hx (y := (⟨"com/example/deliberate_scaler/deliberatescaler/model/RateWindowRatePinLaw", "in", "(JJJ)I"⟩ : MethodName)) hown (mvT hZ (hw _ (List.mem_of_getElem? (i := 32) rfl))) (mvT hZ (hw _ (List.mem_of_getElem? (i := 33) rfl))) (mvT hZ (hw _ (List.mem_of_getElem? (i := 34) rfl))) (mvT hZ (hw _ (List.mem_of_getElem? (i := 35) rfl))) (by decide) (backOf (W := 1) (rm5 l Z aw hw [] jb jm jw  h90 n0 ZZ ) hZ (hw _ (List.mem_of_getElem? (i := 35) rfl)) (hw _ (List.mem_of_getElem? (i := 34) rfl)) (by decide) (by decide)) (g := (mkF m 278 #[Si i0, Si i1, Si i2, Si i3, Si i4, Sj jw, .second, Si 2, Si 0, Sj ja, .second, Sj jb, .second, Sj jc, .second, Sj jd, .second, Sj jn, .second, Sj jm, .second, Sd wd, .second, Sr q, Sd ra, .second, Sd rb, .second, Si ca, .unset] [(.long jw), (.long jm), (.long jb), (.int (inV ja jm jw))])) rfl (by rw [hml]; rfl) (argsL := [(.long jb), (.long jm), (.long jw)]) (rest := [(.int (inV ja jm jw))]) (lenOf pd_2 rfl) rfl (by show 2 * 0 + _ ≤ _; exact Nat.le_of_eq rfl) (hb hby at_278) (fun _ _ => ⟨rfl, e97, (by decide : 2 + 0 ≤ _), (by decide : 69 + 0 ≤ _)⟩)
      dsimp only [Pt.U, Pt.locs, Pt.cells, Pt.slots] at X99 l99 y99 z99 st99 hQ99
      subst l99 y99 z99
      obtain ⟨rfl, N99q, e99⟩ := hQ99
      have N99 := Fr.app N97 N99q
      refine Go.on st99 ?_
      show Go _ _ _ _ _ _ _ _ (mkF m 281 #[Si i0, Si i1, Si i2, Si i3, Si i4, Sj jw, .second, Si 2, Si 0, Sj ja, .second, Sj jb, .second, Sj jc, .second, Sj jd, .second, Sj jn, .second, Sj jm, .second, Sd wd, .second, Sr q, Sd ra, .second, Sd rb, .second, Si ca, .unset] [(.int (inV jb jm jw)), (.int (inV ja jm jw))])
      refine Go.on (fun _ k => XS.goto X99.here hx rfl (pc0 := 281) (pc' := 285) rfl (hb hby at_281) (by decide) (by decide) k) ?_
      refine Go.on (fun _ k => XS.iadd X99.here hx rfl (hb hby at_285) rfl k) ?_
      refine Go.on (fun _ k => XS.iload X99.here hx rfl (hb hby at_286) rfl k) ?_
      refine Go.on (fun _ k => XS.iconst X99.here hx rfl (hb hby at_288) k) ?_
      show Go _ _ _ _ _ _ _ _ (mkF m 289 #[Si i0, Si i1, Si i2, Si i3, Si i4, Sj jw, .second, Si 2, Si 0, Sj ja, .second, Sj jb, .second, Sj jc, .second, Sj jd, .second, Sj jn, .second, Sj jm, .second, Sd wd, .second, Sr q, Sd ra, .second, Sd rb, .second, Si ca, .unset] [(.int 3), (.int 2), (.int ((inV ja jm jw) + (inV jb jm jw)))])
      have hc100 : (2 : Int32) < (3 : Int32) := by decide
      refine Go.on (fun _ k => XS.icmpYes X99.here hx rfl (pc0 := 289) (pc' := 304) rfl (hb hby at_289) rfl (tlt hc100).1 (by decide) (by decide) k) ?_
      refine Go.on (fun _ k => XS.iconst X99.here hx rfl (hb hby at_304) k) ?_
      refine Go.on (fun _ k => XS.iadd X99.here hx rfl (hb hby at_305) rfl k) ?_
      refine Go.on (fun _ k => XS.iload X99.here hx rfl (hb hby at_306) rfl k) ?_
      show Go _ _ _ _ _ _ _ _ (mkF m 308 #[Si i0, Si i1, Si i2, Si i3, Si i4, Sj jw, .second, Si 2, Si 0, Sj ja, .second, Sj jb, .second, Sj jc, .second, Sj jd, .second, Sj jn, .second, Sj jm, .second, Sd wd, .second, Sr q, Sd ra, .second, Sd rb, .second, Si ca, .unset] [(.int 0), (.int (((inV ja jm jw) + (inV jb jm jw)) + (0 : Int32)))])
      have hc101 : (0 : Int32) = (0 : Int32) := by decide
      refine Go.on (fun _ k => XS.ifYes X99.here hx rfl (pc0 := 308) (pc' := 323) rfl (hb hby at_308) rfl ((if0 _ _).trans (teq hc101).1) (by decide) (by decide) k) ?_
      refine Go.on (fun _ k => XS.iconst X99.here hx rfl (hb hby at_323) k) ?_
      refine Go.on (fun _ k => XS.iadd X99.here hx rfl (hb hby at_324) rfl k) ?_
      show Go _ _ _ _ _ _ _ _ (mkF m 325 #[Si i0, Si i1, Si i2, Si i3, Si i4, Sj jw, .second, Si 2, Si 0, Sj ja, .second, Sj jb, .second, Sj jc, .second, Sj jd, .second, Sj jn, .second, Sj jm, .second, Sd wd, .second, Sr q, Sd ra, .second, Sd rb, .second, Si ca, .unset] [(.int ((((inV ja jm jw) + (inV jb jm jw)) + (0 : Int32)) + (0 : Int32)))])
      refine Go.on (fun _ k => XS.istore X99.here hx rfl (hb hby at_325) rfl (l' := #[.val (.int i0), .val (.int i1), .val (.int i2), .val (.int i3), .val (.int i4), .val (.long jw), .second, .val (.int (2 : Int32)), .val (.int (0 : Int32)), .val (.long ja), .second, .val (.long jb), .second, .val (.long jc), .second, .val (.long jd), .second, .val (.long jn), .second, .val (.long jm), .second, .val (.double wd), .second, .val (.ref q), .val (.double ra), .second, .val (.double rb), .second, .val (.int ca), .val (.int ((((inV ja jm jw) + (inV jb jm jw)) + (0 : Int32)) + (0 : Int32)))]) rfl k) ?_
      show Go _ _ _ _ _ _ _ _ (mkF m 327 #[Si i0, Si i1, Si i2, Si i3, Si i4, Sj jw, .second, Si 2, Si 0, Sj ja, .second, Sj jb, .second, Sj jc, .second, Sj jd, .second, Sj jn, .second, Sj jm, .second, Sd wd, .second, Sr q, Sd ra, .second, Sd rb, .second, Si ca, .val (.int ((((inV ja jm jw) + (inV jb jm jw)) + (0 : Int32)) + (0 : Int32)))] [])
      generalize hcb : ((((inV ja jm jw) + (inV jb jm jw)) + (0 : Int32)) + (0 : Int32)) = cb
      show Go _ _ _ _ _ _ _ _ (mkF m 327 #[Si i0, Si i1, Si i2, Si i3, Si i4, Sj jw, .second, Si 2, Si 0, Sj ja, .second, Sj jb, .second, Sj jc, .second, Sj jd, .second, Sj jn, .second, Sj jm, .second, Sd wd, .second, Sr q, Sd ra, .second, Sd rb, .second, Si ca, Si cb] [])
      refine Go.on (fun _ k => XS.dload X99.here hx rfl (hb hby at_327) rfl k) ?_
      refine Go.on (fun _ k => XS.iload X99.here hx rfl (hb hby at_329) rfl k) ?_
      refine Go.on (fun _ k => XS.i2dS X99.here hx rfl (hb hby at_331) rfl rfl k) ?_
      refine Go.on (fun _ k => XS.dload X99.here hx rfl (hb hby at_332) rfl k) ?_
      show Go _ _ _ _ _ _ _ _ (mkF m 334 #[Si i0, Si i1, Si i2, Si i3, Si i4, Sj jw, .second, Si 2, Si 0, Sj ja, .second, Sj jb, .second, Sj jc, .second, Sj jd, .second, Sj jn, .second, Sj jm, .second, Sd wd, .second, Sr q, Sd ra, .second, Sd rb, .second, Si ca, Si cb] [(.double wd), (.double (FP.i2d ca)), (.double ra)])
      refine Go.on (fun _ k => XS.ddivS X99.here hx rfl (hb hby at_334) rfl ((own_rt _ hwd.symm hwj.1 Bjw)) rfl k) ?_
      show Go _ _ _ _ _ _ _ _ (mkF m 335 #[Si i0, Si i1, Si i2, Si i3, Si i4, Sj jw, .second, Si 2, Si 0, Sj ja, .second, Sj jb, .second, Sj jc, .second, Sj jd, .second, Sj jn, .second, Sj jm, .second, Sd wd, .second, Sr q, Sd ra, .second, Sd rb, .second, Si ca, Si cb] [(.double (FP.ddiv (FP.i2d ca) wd)), (.double ra)])
      refine Go.on (fun _ k => XS.dcmpS X99.here hx rfl (hb hby at_335) rfl rfl k) ?_
      show Go _ _ _ _ _ _ _ _ (mkF m 336 #[Si i0, Si i1, Si i2, Si i3, Si i4, Sj jw, .second, Si 2, Si 0, Sj ja, .second, Sj jb, .second, Sj jc, .second, Sj jd, .second, Sj jn, .second, Sj jm, .second, Sd wd, .second, Sr q, Sd ra, .second, Sd rb, .second, Si ca, Si cb] [(.int (cmpValue (FP.dcmp ra (FP.ddiv (FP.i2d ca) wd)) .l))])
      have hc102 : (cmpValue (FP.dcmp ra (FP.ddiv (FP.i2d ca) wd)) .l) = (0 : Int32) := own_same hra (by first | exact hca | rfl | (rw [← hca]; simp) | simp) hwd hwj.1 Bjw
      refine Go.on (fun _ k => XS.ifNo X99.here hx rfl (hb hby at_336) rfl ((if0 _ _).trans (teq hc102).2) k) ?_
      refine Go.on (fun _ k => XS.dload X99.here hx rfl (hb hby at_339) rfl k) ?_
      refine Go.on (fun _ k => XS.iload X99.here hx rfl (hb hby at_341) rfl k) ?_
      refine Go.on (fun _ k => XS.i2dS X99.here hx rfl (hb hby at_343) rfl rfl k) ?_
      refine Go.on (fun _ k => XS.dload X99.here hx rfl (hb hby at_344) rfl k) ?_
      show Go _ _ _ _ _ _ _ _ (mkF m 346 #[Si i0, Si i1, Si i2, Si i3, Si i4, Sj jw, .second, Si 2, Si 0, Sj ja, .second, Sj jb, .second, Sj jc, .second, Sj jd, .second, Sj jn, .second, Sj jm, .second, Sd wd, .second, Sr q, Sd ra, .second, Sd rb, .second, Si ca, Si cb] [(.double wd), (.double (FP.i2d cb)), (.double rb)])
      refine Go.on (fun _ k => XS.ddivS X99.here hx rfl (hb hby at_346) rfl ((own_rt _ hwd.symm hwj.1 Bjw)) rfl k) ?_
      show Go _ _ _ _ _ _ _ _ (mkF m 347 #[Si i0, Si i1, Si i2, Si i3, Si i4, Sj jw, .second, Si 2, Si 0, Sj ja, .second, Sj jb, .second, Sj jc, .second, Sj jd, .second, Sj jn, .second, Sj jm, .second, Sd wd, .second, Sr q, Sd ra, .second, Sd rb, .second, Si ca, Si cb] [(.double (FP.ddiv (FP.i2d cb) wd)), (.double rb)])
      refine Go.on (fun _ k => XS.dcmpS X99.here hx rfl (hb hby at_347) rfl rfl k) ?_
      show Go _ _ _ _ _ _ _ _ (mkF m 348 #[Si i0, Si i1, Si i2, Si i3, Si i4, Sj jw, .second, Si 2, Si 0, Sj ja, .second, Sj jb, .second, Sj jc, .second, Sj jd, .second, Sj jn, .second, Sj jm, .second, Sd wd, .second, Sr q, Sd ra, .second, Sd rb, .second, Si ca, Si cb] [(.int (cmpValue (FP.dcmp rb (FP.ddiv (FP.i2d cb) wd)) .l))])
      have hc103 : (cmpValue (FP.dcmp rb (FP.ddiv (FP.i2d cb) wd)) .l) = (0 : Int32) := own_same hrb (by first | exact hcb | rfl | (rw [← hcb]; simp) | simp) hwd hwj.1 Bjw
      refine Go.on (fun _ k => XS.ifNo X99.here hx rfl (hb hby at_348) rfl ((if0 _ _).trans (teq hc103).2) k) ?_
      refine Go.on (fun _ k => XS.iconst X99.here hx rfl (hb hby at_351) k) ?_
      refine Go.on (fun _ k => XS.goto X99.here hx rfl (pc0 := 352) (pc' := 356) rfl (hb hby at_352) (by decide) (by decide) k) ?_
      show Go _ _ _ _ _ _ _ _ (mkF m 356 #[Si i0, Si i1, Si i2, Si i3, Si i4, Sj jw, .second, Si 2, Si 0, Sj ja, .second, Sj jb, .second, Sj jc, .second, Sj jd, .second, Sj jn, .second, Sj jm, .second, Sd wd, .second, Sr q, Sd ra, .second, Sd rb, .second, Si ca, Si cb] [(.int 1)])
      refine Go.retN X99 hx (t := .boolean) Bd.returns (by simp) (hb hby at_356) ?_ (by rw [hK1]; decide) (by rw [hK2]; decide)
      rw [e99, ← hQQ]
      exact ⟨rfl, N99⟩
    · -- late 1
      subst hk
      show Go _ _ _ _ _ _ _ _ (mkF m 100 #[Si i0, Si i1, Si i2, Si i3, Si i4, Sj jw, .second, Si 2, Si 1, Sj ja, .second, Sj jb, .second, Sj jc, .second, Sj jd, .second, Sj jn, .second, Sj jm, .second, Sd wd, .second, .unset, .unset, .unset, .unset, .unset, .unset, .unset] [])
      obtain ⟨T104, h104, X104, e104, E104, A104, D104, -, st104⟩ := newO X0 hx hZ hown (hw _ (List.mem_of_getElem? (i := 0) rfl)) (hw _ (List.mem_of_getElem? (i := 1) rfl)) (hw _ (List.mem_of_getElem? (i := 2) rfl)) e0 (g := (mkF m 100 #[Si i0, Si i1, Si i2, Si i3, Si i4, Sj jw, .second, Si 2, Si 1, Sj ja, .second, Sj jb, .second, Sj jc, .second, Sj jd, .second, Sj jn, .second, Sj jm, .second, Sd wd, .second, .unset, .unset, .unset, .unset, .unset, .unset, .unset] [])) rfl (hb hby at_100) (by decide) (by decide)
      obtain ⟨q, g104⟩ : ∃ z, z = h0.size := ⟨_, rfl⟩
      have g_q : n0 ≤ q := Nat.le_trans ZZ (Nat.le_of_eq g104.symm)
      rw [← g104] at A104 D104 st104
      replace ZZ := Nat.le_trans ZZ E104.1
      have E_q := A104
      have F_times_q : Fld Z h104 q "com/example/deliberate_scaler/deliberatescaler/model/RateWindow" "times" "[D" .null := D104 (Or.inl (hw _ (List.mem_of_getElem? (i := 11) rfl))) (ty := (.array .double)) (by decide)
      have F_latest_q : Fld Z h104 q "com/example/deliberate_scaler/deliberatescaler/model/RateWindow" "latest" "D" (.double (0 : UInt64)) := D104 (Or.inl (hw _ (List.mem_of_getElem? (i := 14) rfl))) (ty := .double) (by decide)
      have F_window_q : Fld Z h104 q "com/example/deliberate_scaler/deliberatescaler/model/RateWindow" "window" "D" (.double (0 : UInt64)) := D104 (Or.inr (hw _ (List.mem_of_getElem? (i := 17) rfl))) (ty := .double) (by decide)
      have F_end_q : Fld Z h104 q "com/example/deliberate_scaler/deliberatescaler/model/RateWindow" "end" "I" (.int (0 : Int32)) := D104 (Or.inl (hw _ (List.mem_of_getElem? (i := 24) rfl))) (ty := .int) (by decide)
      have F_first_q : Fld Z h104 q "com/example/deliberate_scaler/deliberatescaler/model/RateWindow" "first" "I" (.int (0 : Int32)) := D104 (Or.inl (hw _ (List.mem_of_getElem? (i := 31) rfl))) (ty := .int) (by decide)
      refine Go.on st104 ?_
      show Go _ _ _ _ _ _ _ _ (mkF m 103 #[Si i0, Si i1, Si i2, Si i3, Si i4, Sj jw, .second, Si 2, Si 1, Sj ja, .second, Sj jb, .second, Sj jc, .second, Sj jd, .second, Sj jn, .second, Sj jm, .second, Sd wd, .second, .unset, .unset, .unset, .unset, .unset, .unset, .unset] [(.ref q)])
      refine Go.on (fun _ k => XS.dup X104.here hx rfl (hb hby at_103) rfl rfl k) ?_
      refine Go.on (fun _ k => XS.dload X104.here hx rfl (hb hby at_104) rfl k) ?_
      show Go _ _ _ _ _ _ _ _ (mkF m 106 #[Si i0, Si i1, Si i2, Si i3, Si i4, Sj jw, .second, Si 2, Si 1, Sj ja, .second, Sj jb, .second, Sj jc, .second, Sj jd, .second, Sj jn, .second, Sj jm, .second, Sd wd, .second, .unset, .unset, .unset, .unset, .unset, .unset, .unset] [(.double wd), (.ref q), (.ref q)])
      obtain ⟨_, _, ⟨T105, L105, k105, n105⟩, -, X105, ⟨Lc105, hQ105, l105, y105, z105⟩, st105⟩ := X104.specialBack hx (y := (⟨"com/example/deliberate_scaler/deliberatescaler/model/RateWindow", "<init>", "(D)V"⟩ : MethodName)) rfl hown (mvT hZ (hw _ (List.mem_of_getElem? (i := 3) rfl))) (mvT hZ (hw _ (List.mem_of_getElem? (i := 4) rfl))) (mvT hZ (hw _ (List.mem_of_getElem? (i := 5) rfl))) (by decide) (backOf (W := 1) (rm1 l Z aw hw [] q wd  h104 n0 ZZ E_q F_times_q F_latest_q F_window_q F_first_q F_end_q g_q (own_wpos hwd hwj.1 Bjw) (own_winf hwd Bjw)) hZ (hw _ (List.mem_of_getElem? (i := 5) rfl)) (hw _ (List.mem_of_getElem? (i := 2) rfl)) (by decide) (by decide)) (g := (mkF m 106 #[Si i0, Si i1, Si i2, Si i3, Si i4, Sj jw, .second, Si 2, Si 1, Sj ja, .second, Sj jb, .second, Sj jc, .second, Sj jd, .second, Sj jn, .second, Sj jm, .second, Sd wd, .second, .unset, .unset, .unset, .unset, .unset, .unset, .unset] [(.double wd), (.ref q), (.ref q)])) rfl (by rw [hml]; rfl) (Steps.refl _) (a := q) (argsL := [(.double wd)]) (rest := [(.ref q)]) (lenOf pd_0 rfl) rfl (by show 2 * 0 + _ ≤ _; exact Nat.le_of_eq rfl) (hb hby at_106) (fun _ _ => ⟨rfl, e104, (by decide : 1 + 1 ≤ _), (by decide : 5 + 64 ≤ _)⟩)
      dsimp only [Pt.U, Pt.locs, Pt.cells, Pt.slots] at X105 l105 y105 z105 st105 hQ105
      subst l105 y105 z105
      obtain ⟨h105, e105⟩ : ∃ q, T105.heap = q := ⟨_, rfl⟩
      rw [e105] at hQ105
      obtain ⟨rfl, N105q, ar, k_ar, K105q, szarq, Eq105, F_timesq105, F_latestq105, F_windowq105, F_firstq105, F_endq105, V_ar⟩ := hQ105
      have N105 := Fr.app N0 N105q
      have ZZ105p := ZZ
      have lt_q := E_q.lt
      replace E_q := E_q.keep K105q
      replace ZZ := Nat.le_trans ZZ K105q.1
      have F_times_q := F_timesq105
      have F_latest_q := F_latestq105
      have F_window_q := F_windowq105
      have F_first_q := F_firstq105
      have F_end_q := F_endq105
      replace E_q := Eq105
      have g_ar : n0 ≤ ar := Nat.le_trans ZZ105p szarq
      have ne_q_ar : q ≠ ar := Nat.ne_of_lt (Nat.lt_of_lt_of_le lt_q szarq)
      refine Go.on (fun _ k => st105.trans k) ?_
      show Go _ _ _ _ _ _ _ _ (mkF m 109 #[Si i0, Si i1, Si i2, Si i3, Si i4, Sj jw, .second, Si 2, Si 1, Sj ja, .second, Sj jb, .second, Sj jc, .second, Sj jd, .second, Sj jn, .second, Sj jm, .second, Sd wd, .second, .unset, .unset, .unset, .unset, .unset, .unset, .unset] [(.ref q)])
      refine Go.on (fun _ k => XS.astore X105.here hx rfl (hb hby at_109) rfl rfl (l' := #[.val (.int i0), .val (.int i1), .val (.int i2), .val (.int i3), .val (.int i4), .val (.long jw), .second, .val (.int (2 : Int32)), .val (.int (1 : Int32)), .val (.long ja), .second, .val (.long jb), .second, .val (.long jc), .second, .val (.long jd), .second, .val (.long jn), .second, .val (.long jm), .second, .val (.double wd), .second, .val (.ref q), .unset, .unset, .unset, .unset, .unset, .unset]) rfl k) ?_
      show Go _ _ _ _ _ _ _ _ (mkF m 111 #[Si i0, Si i1, Si i2, Si i3, Si i4, Sj jw, .second, Si 2, Si 1, Sj ja, .second, Sj jb, .second, Sj jc, .second, Sj jd, .second, Sj jn, .second, Sj jm, .second, Sd wd, .second, Sr q, .unset, .unset, .unset, .unset, .unset, .unset] [])
      refine Go.on (fun _ k => XS.iload X105.here hx rfl (hb hby at_111) rfl k) ?_
      refine Go.on (fun _ k => XS.iconst X105.here hx rfl (hb hby at_113) k) ?_
      show Go _ _ _ _ _ _ _ _ (mkF m 114 #[Si i0, Si i1, Si i2, Si i3, Si i4, Sj jw, .second, Si 2, Si 1, Sj ja, .second, Sj jb, .second, Sj jc, .second, Sj jd, .second, Sj jn, .second, Sj jm, .second, Sd wd, .second, Sr q, .unset, .unset, .unset, .unset, .unset, .unset] [(.int 1), (.int 2)])
      have hc106 : ¬ ((2 : Int32) < (1 : Int32)) := by decide
      refine Go.on (fun _ k => XS.icmpNo X105.here hx rfl (hb hby at_114) rfl (flt hc106).1 k) ?_
      refine Go.on (fun _ k => XS.aload X105.here hx rfl (hb hby at_117) rfl rfl k) ?_
      refine Go.on (fun _ k => XS.lload X105.here hx rfl (hb hby at_119) rfl k) ?_
      refine Go.on (fun _ k => XS.l2dS X105.here hx rfl (hb hby at_121) rfl rfl k) ?_
      show Go _ _ _ _ _ _ _ _ (mkF m 122 #[Si i0, Si i1, Si i2, Si i3, Si i4, Sj jw, .second, Si 2, Si 1, Sj ja, .second, Sj jb, .second, Sj jc, .second, Sj jd, .second, Sj jn, .second, Sj jm, .second, Sd wd, .second, Sr q, .unset, .unset, .unset, .unset, .unset, .unset] [(.double (FP.l2d ja)), (.ref q)])
      obtain ⟨cq107, kq107, q107a, q107b, q107c⟩ := isOf hZ e105 E_q
      obtain ⟨_, _, ⟨T107, L107, k107, n107⟩, -, X107, ⟨Lc107, hQ107, l107, y107, z107⟩, st107⟩ := X105.virtualBack hx (y := (⟨"com/example/deliberate_scaler/deliberatescaler/model/RateWindow", "add", "(D)V"⟩ : MethodName)) (z := (⟨"com/example/deliberate_scaler/deliberatescaler/model/RateWindow", "add", "(D)V"⟩ : MethodName)) hown (mvT hZ (hw _ (List.mem_of_getElem? (i := 18) rfl))) (mvT hZ (hw _ (List.mem_of_getElem? (i := 19) rfl))) (notFace_of_selects (args := #[]) (mvT hZ (hw _ (List.mem_of_getElem? (i := 21) rfl)))) (mvT hZ (hw _ (List.mem_of_getElem? (i := 21) rfl))) (mvT hZ (hw _ (List.mem_of_getElem? (i := 20) rfl))) (by decide) (backOf (W := 0) (rw_add_0 l Z aw hw [] q (FP.l2d ja) ar (18442240474082181120 : UInt64) wd (0 : Int32) k_ar h105 n0 ZZ E_q F_times_q F_latest_q F_window_q F_first_q F_end_q V_ar g_q g_ar ne_q_ar (own_inf Bja)) hZ (hw _ (List.mem_of_getElem? (i := 22) rfl)) (hw _ (List.mem_of_getElem? (i := 2) rfl)) (by decide) (by decide)) q107a q107c (g := (mkF m 122 #[Si i0, Si i1, Si i2, Si i3, Si i4, Sj jw, .second, Si 2, Si 1, Sj ja, .second, Sj jb, .second, Sj jc, .second, Sj jd, .second, Sj jn, .second, Sj jm, .second, Sd wd, .second, Sr q, .unset, .unset, .unset, .unset, .unset, .unset] [(.double (FP.l2d ja)), (.ref q)])) rfl (by rw [hml]; rfl) (Steps.refl _) (argsL := [(.double (FP.l2d ja))]) (rest := []) (lenOf pd_0 rfl) rfl (by show 2 * 0 + _ ≤ _; exact Nat.le_of_eq rfl) (hb hby at_122) (fun _ _ => ⟨rfl, e105, (by decide : 2 + 0 ≤ _), (by decide : 69 + 0 ≤ _)⟩)
      dsimp only [Pt.U, Pt.locs, Pt.cells, Pt.slots] at X107 l107 y107 z107 st107 hQ107
      subst l107 y107 z107
      obtain ⟨h107, e107⟩ : ∃ q, T107.heap = q := ⟨_, rfl⟩
      rw [e107] at hQ107
      obtain ⟨rfl, N107q, K107q, Eq107, F_timesq107, F_latestq107, F_windowq107, F_firstq107, F_endq107, V_q107⟩ := hQ107
      have N107 := Fr.app N105 N107q
      have ZZ107p := ZZ
      have lt_q := E_q.lt
      have lt_ar := V_ar.lt
      replace E_q := E_q.keep K107q
      replace ZZ := Nat.le_trans ZZ K107q.1
      have F_times_q := F_timesq107
      have F_latest_q := F_latestq107
      have F_window_q := F_windowq107
      have F_first_q := F_firstq107
      have F_end_q := F_endq107
      replace E_q := Eq107
      have V_ar := V_q107
      refine Go.on (fun _ k => st107.trans k) ?_
      show Go _ _ _ _ _ _ _ _ (mkF m 125 #[Si i0, Si i1, Si i2, Si i3, Si i4, Sj jw, .second, Si 2, Si 1, Sj ja, .second, Sj jb, .second, Sj jc, .second, Sj jd, .second, Sj jn, .second, Sj jm, .second, Sd wd, .second, Sr q, .unset, .unset, .unset, .unset, .unset, .unset] [])
      refine Go.on (fun _ k => XS.iload X107.here hx rfl (hb hby at_125) rfl k) ?_
      refine Go.on (fun _ k => XS.iconst X107.here hx rfl (hb hby at_127) k) ?_
      show Go _ _ _ _ _ _ _ _ (mkF m 128 #[Si i0, Si i1, Si i2, Si i3, Si i4, Sj jw, .second, Si 2, Si 1, Sj ja, .second, Sj jb, .second, Sj jc, .second, Sj jd, .second, Sj jn, .second, Sj jm, .second, Sd wd, .second, Sr q, .unset, .unset, .unset, .unset, .unset, .unset] [(.int 2), (.int 2)])
      have hc108 : ¬ ((2 : Int32) < (2 : Int32)) := by decide
      refine Go.on (fun _ k => XS.icmpNo X107.here hx rfl (hb hby at_128) rfl (flt hc108).1 k) ?_
      refine Go.on (fun _ k => XS.aload X107.here hx rfl (hb hby at_131) rfl rfl k) ?_
      refine Go.on (fun _ k => XS.lload X107.here hx rfl (hb hby at_133) rfl k) ?_
      refine Go.on (fun _ k => XS.l2dS X107.here hx rfl (hb hby at_135) rfl rfl k) ?_
      show Go _ _ _ _ _ _ _ _ (mkF m 136 #[Si i0, Si i1, Si i2, Si i3, Si i4, Sj jw, .second, Si 2, Si 1, Sj ja, .second, Sj jb, .second, Sj jc, .second, Sj jd, .second, Sj jn, .second, Sj jm, .second, Sd wd, .second, Sr q, .unset, .unset, .unset, .unset, .unset, .unset] [(.double (FP.l2d jb)), (.ref q)])
      obtain ⟨cq109, kq109, q109a, q109b, q109c⟩ := isOf hZ e107 E_q
      obtain ⟨_, _, ⟨T109, L109, k109, n109⟩, -, X109, ⟨Lc109, hQ109, l109, y109, z109⟩, st109⟩ := X107.virtualBack hx (y := (⟨"com/example/deliberate_scaler/deliberatescaler/model/RateWindow", "add", "(D)V"⟩ : MethodName)) (z := (⟨"com/example/deliberate_scaler/deliberatescaler/model/RateWindow", "add", "(D)V"⟩ : MethodName)) hown (mvT hZ (hw _ (List.mem_of_getElem? (i := 18) rfl))) (mvT hZ (hw _ (List.mem_of_getElem? (i := 19) rfl))) (notFace_of_selects (args := #[]) (mvT hZ (hw _ (List.mem_of_getElem? (i := 21) rfl)))) (mvT hZ (hw _ (List.mem_of_getElem? (i := 21) rfl))) (mvT hZ (hw _ (List.mem_of_getElem? (i := 20) rfl))) (by decide) (backOf (W := 0) (rw_add_1 l Z aw hw [] q (FP.l2d jb) ar (FP.l2d ja) wd (0 : Int32) k_ar (FP.l2d ja) h107 n0 ZZ E_q F_times_q F_latest_q F_window_q F_first_q F_end_q V_ar g_q g_ar ne_q_ar (own_ge Bjb Bja (by omega))) hZ (hw _ (List.mem_of_getElem? (i := 22) rfl)) (hw _ (List.mem_of_getElem? (i := 2) rfl)) (by decide) (by decide)) q109a q109c (g := (mkF m 136 #[Si i0, Si i1, Si i2, Si i3, Si i4, Sj jw, .second, Si 2, Si 1, Sj ja, .second, Sj jb, .second, Sj jc, .second, Sj jd, .second, Sj jn, .second, Sj jm, .second, Sd wd, .second, Sr q, .unset, .unset, .unset, .unset, .unset, .unset] [(.double (FP.l2d jb)), (.ref q)])) rfl (by rw [hml]; rfl) (Steps.refl _) (argsL := [(.double (FP.l2d jb))]) (rest := []) (lenOf pd_0 rfl) rfl (by show 2 * 0 + _ ≤ _; exact Nat.le_of_eq rfl) (hb hby at_136) (fun _ _ => ⟨rfl, e107, (by decide : 2 + 0 ≤ _), (by decide : 69 + 0 ≤ _)⟩)
      dsimp only [Pt.U, Pt.locs, Pt.cells, Pt.slots] at X109 l109 y109 z109 st109 hQ109
      subst l109 y109 z109
      obtain ⟨h109, e109⟩ : ∃ q, T109.heap = q := ⟨_, rfl⟩
      rw [e109] at hQ109
      obtain ⟨rfl, N109q, K109q, Eq109, F_timesq109, F_latestq109, F_windowq109, F_firstq109, F_endq109, V_q109⟩ := hQ109
      have N109 := Fr.app N107 N109q
      have ZZ109p := ZZ
      have lt_q := E_q.lt
      have lt_ar := V_ar.lt
      replace E_q := E_q.keep K109q
      replace ZZ := Nat.le_trans ZZ K109q.1
      have F_times_q := F_timesq109
      have F_latest_q := F_latestq109
      have F_window_q := F_windowq109
      have F_first_q := F_firstq109
      have F_end_q := F_endq109
      replace E_q := Eq109
      have V_ar := V_q109
      refine Go.on (fun _ k => st109.trans k) ?_
      show Go _ _ _ _ _ _ _ _ (mkF m 139 #[Si i0, Si i1, Si i2, Si i3, Si i4, Sj jw, .second, Si 2, Si 1, Sj ja, .second, Sj jb, .second, Sj jc, .second, Sj jd, .second, Sj jn, .second, Sj jm, .second, Sd wd, .second, Sr q, .unset, .unset, .unset, .unset, .unset, .unset] [])
      refine Go.on (fun _ k => XS.iload X109.here hx rfl (hb hby at_139) rfl k) ?_
      refine Go.on (fun _ k => XS.iconst X109.here hx rfl (hb hby at_141) k) ?_
      show Go _ _ _ _ _ _ _ _ (mkF m 142 #[Si i0, Si i1, Si i2, Si i3, Si i4, Sj jw, .second, Si 2, Si 1, Sj ja, .second, Sj jb, .second, Sj jc, .second, Sj jd, .second, Sj jn, .second, Sj jm, .second, Sd wd, .second, Sr q, .unset, .unset, .unset, .unset, .unset, .unset] [(.int 3), (.int 2)])
      have hc110 : (2 : Int32) < (3 : Int32) := by decide
      refine Go.on (fun _ k => XS.icmpYes X109.here hx rfl (pc0 := 142) (pc' := 153) rfl (hb hby at_142) rfl (tlt hc110).1 (by decide) (by decide) k) ?_
      refine Go.on (fun _ k => XS.aload X109.here hx rfl (hb hby at_153) rfl rfl k) ?_
      refine Go.on (fun _ k => XS.lload X109.here hx rfl (hb hby at_155) rfl k) ?_
      refine Go.on (fun _ k => XS.l2dS X109.here hx rfl (hb hby at_157) rfl rfl k) ?_
      show Go _ _ _ _ _ _ _ _ (mkF m 158 #[Si i0, Si i1, Si i2, Si i3, Si i4, Sj jw, .second, Si 2, Si 1, Sj ja, .second, Sj jb, .second, Sj jc, .second, Sj jd, .second, Sj jn, .second, Sj jm, .second, Sd wd, .second, Sr q, .unset, .unset, .unset, .unset, .unset, .unset] [(.double (FP.l2d jn)), (.ref q)])
      obtain ⟨cq111, kq111, q111a, q111b, q111c⟩ := isOf hZ e109 E_q
      obtain ⟨_, _, ⟨T111, L111, k111, n111⟩, -, X111, ⟨Lc111, hQ111, l111, y111, z111⟩, st111⟩ := X109.virtualBack hx (y := (⟨"com/example/deliberate_scaler/deliberatescaler/model/RateWindow", "rate", "(D)D"⟩ : MethodName)) (z := (⟨"com/example/deliberate_scaler/deliberatescaler/model/RateWindow", "rate", "(D)D"⟩ : MethodName)) hown (mvT hZ (hw _ (List.mem_of_getElem? (i := 25) rfl))) (mvT hZ (hw _ (List.mem_of_getElem? (i := 26) rfl))) (notFace_of_selects (args := #[]) (mvT hZ (hw _ (List.mem_of_getElem? (i := 28) rfl)))) (mvT hZ (hw _ (List.mem_of_getElem? (i := 28) rfl))) (mvT hZ (hw _ (List.mem_of_getElem? (i := 27) rfl))) (by decide) (backOf (W := 0) (rw_rate_2 l Z aw hw [] q (FP.l2d jn) ja jb jn jw ar (FP.l2d jb) wd (0 : Int32) k_ar (FP.l2d ja) (FP.l2d jb) h109 n0 ZZ E_q F_times_q F_latest_q F_window_q F_first_q F_end_q V_ar g_q ne_q_ar rfl hwd.symm Bjn Bjw hwj.1 rfl rfl Bja Bjb (by omega) (Or.inl rfl) (fun q => absurd q (by decide)) (fun q => absurd q (by decide))) hZ (hw _ (List.mem_of_getElem? (i := 29) rfl)) (hw _ (List.mem_of_getElem? (i := 2) rfl)) (by decide) (by decide)) q111a q111c (g := (mkF m 158 #[Si i0, Si i1, Si i2, Si i3, Si i4, Sj jw, .second, Si 2, Si 1, Sj ja, .second, Sj jb, .second, Sj jc, .second, Sj jd, .second, Sj jn, .second, Sj jm, .second, Sd wd, .second, Sr q, .unset, .unset, .unset, .unset, .unset, .unset] [(.double (FP.l2d jn)), (.ref q)])) rfl (by rw [hml]; rfl) (Steps.refl _) (argsL := [(.double (FP.l2d jn))]) (rest := []) (lenOf pd_1 rfl) rfl (by show 2 * 0 + _ ≤ _; exact Nat.le_of_eq rfl) (hb hby at_158) (fun _ _ => ⟨rfl, e109, (by decide : 2 + 0 ≤ _), (by decide : 69 + 0 ≤ _)⟩)
      dsimp only [Pt.U, Pt.locs, Pt.cells, Pt.slots] at X111 l111 y111 z111 st111 hQ111
      subst l111 y111 z111
      obtain ⟨h111, e111⟩ : ∃ q, T111.heap = q := ⟨_, rfl⟩
      rw [e111] at hQ111
      obtain ⟨f1_111, rfl, N111q, K111q, Eq111, F_timesq111, F_latestq111, F_windowq111, F_firstq111, F_endq111, hdj111, hdr0_111, hdr1_111⟩ := hQ111
      have N111 := Fr.app N109 N111q
      have ZZ111p := ZZ
      have lt_q := E_q.lt
      have lt_ar := V_ar.lt
      replace E_q := E_q.keep K111q
      replace V_ar := V_ar.keep K111q (ninS (Ne.symm ne_q_ar) nin0)
      replace ZZ := Nat.le_trans ZZ K111q.1
      obtain ⟨fr1, hfr1⟩ : ∃ z, z = f1_111 := ⟨_, rfl⟩
      rw [← hfr1] at F_firstq111 hdj111 hdr0_111 hdr1_111
      have F_times_q := F_timesq111
      have F_latest_q := F_latestq111
      have F_window_q := F_windowq111
      have F_first_q := F_firstq111
      have F_end_q := F_endq111
      replace E_q := Eq111
      refine Go.on (fun _ k => st111.trans k) ?_
      show Go _ _ _ _ _ _ _ _ (mkF m 161 #[Si i0, Si i1, Si i2, Si i3, Si i4, Sj jw, .second, Si 2, Si 1, Sj ja, .second, Sj jb, .second, Sj jc, .second, Sj jd, .second, Sj jn, .second, Sj jm, .second, Sd wd, .second, Sr q, .unset, .unset, .unset, .unset, .unset, .unset] [(.double (FP.ddiv (FP.i2d ((inV ja jn jw) + (inV jb jn jw))) wd))])
      refine Go.on (fun _ k => XS.dstore X111.here hx rfl (hb hby at_161) rfl (l' := #[.val (.int i0), .val (.int i1), .val (.int i2), .val (.int i3), .val (.int i4), .val (.long jw), .second, .val (.int (2 : Int32)), .val (.int (1 : Int32)), .val (.long ja), .second, .val (.long jb), .second, .val (.long jc), .second, .val (.long jd), .second, .val (.long jn), .second, .val (.long jm), .second, .val (.double wd), .second, .val (.ref q), .val (.double (FP.ddiv (FP.i2d ((inV ja jn jw) + (inV jb jn jw))) wd)), .second, .unset, .unset, .unset, .unset]) rfl k) ?_
      show Go _ _ _ _ _ _ _ _ (mkF m 163 #[Si i0, Si i1, Si i2, Si i3, Si i4, Sj jw, .second, Si 2, Si 1, Sj ja, .second, Sj jb, .second, Sj jc, .second, Sj jd, .second, Sj jn, .second, Sj jm, .second, Sd wd, .second, Sr q, .val (.double (FP.ddiv (FP.i2d ((inV ja jn jw) + (inV jb jn jw))) wd)), .second, .unset, .unset, .unset, .unset] [])
      generalize hra : (FP.ddiv (FP.i2d ((inV ja jn jw) + (inV jb jn jw))) wd) = ra
      show Go _ _ _ _ _ _ _ _ (mkF m 163 #[Si i0, Si i1, Si i2, Si i3, Si i4, Sj jw, .second, Si 2, Si 1, Sj ja, .second, Sj jb, .second, Sj jc, .second, Sj jd, .second, Sj jn, .second, Sj jm, .second, Sd wd, .second, Sr q, Sd ra, .second, .unset, .unset, .unset, .unset] [])
      refine Go.on (fun _ k => XS.iload X111.here hx rfl (hb hby at_163) rfl k) ?_
      show Go _ _ _ _ _ _ _ _ (mkF m 165 #[Si i0, Si i1, Si i2, Si i3, Si i4, Sj jw, .second, Si 2, Si 1, Sj ja, .second, Sj jb, .second, Sj jc, .second, Sj jd, .second, Sj jn, .second, Sj jm, .second, Sd wd, .second, Sr q, Sd ra, .second, .unset, .unset, .unset, .unset] [(.int 1)])
      have hc112 : ¬ ((1 : Int32) = (0 : Int32)) := by decide
      refine Go.on (fun _ k => XS.ifNo X111.here hx rfl (hb hby at_165) rfl ((if0 _ _).trans (feq hc112).1) k) ?_
      refine Go.on (fun _ k => XS.aload X111.here hx rfl (hb hby at_168) rfl rfl k) ?_
      refine Go.on (fun _ k => XS.lload X111.here hx rfl (hb hby at_170) rfl k) ?_
      refine Go.on (fun _ k => XS.l2dS X111.here hx rfl (hb hby at_172) rfl rfl k) ?_
      show Go _ _ _ _ _ _ _ _ (mkF m 173 #[Si i0, Si i1, Si i2, Si i3, Si i4, Sj jw, .second, Si 2, Si 1, Sj ja, .second, Sj jb, .second, Sj jc, .second, Sj jd, .second, Sj jn, .second, Sj jm, .second, Sd wd, .second, Sr q, Sd ra, .second, .unset, .unset, .unset, .unset] [(.double (FP.l2d jd)), (.ref q)])
      obtain ⟨cq113, kq113, q113a, q113b, q113c⟩ := isOf hZ e111 E_q
      obtain ⟨_, _, ⟨T113, L113, k113, n113⟩, -, X113, ⟨Lc113, hQ113, l113, y113, z113⟩, st113⟩ := X111.virtualBack hx (y := (⟨"com/example/deliberate_scaler/deliberatescaler/model/RateWindow", "add", "(D)V"⟩ : MethodName)) (z := (⟨"com/example/deliberate_scaler/deliberatescaler/model/RateWindow", "add", "(D)V"⟩ : MethodName)) hown (mvT hZ (hw _ (List.mem_of_getElem? (i := 18) rfl))) (mvT hZ (hw _ (List.mem_of_getElem? (i := 19) rfl))) (notFace_of_selects (args := #[]) (mvT hZ (hw _ (List.mem_of_getElem? (i := 21) rfl)))) (mvT hZ (hw _ (List.mem_of_getElem? (i := 21) rfl))) (mvT hZ (hw _ (List.mem_of_getElem? (i := 20) rfl))) (by decide) (backOf (W := 0) (rw_add_2 l Z aw hw [] q (FP.l2d jd) ar (FP.l2d jb) wd fr1 k_ar (FP.l2d ja) (FP.l2d jb) h111 n0 ZZ E_q F_times_q F_latest_q F_window_q F_first_q F_end_q V_ar g_q g_ar ne_q_ar (own_ge Bjd Bjb (by omega))) hZ (hw _ (List.mem_of_getElem? (i := 22) rfl)) (hw _ (List.mem_of_getElem? (i := 2) rfl)) (by decide) (by decide)) q113a q113c (g := (mkF m 173 #[Si i0, Si i1, Si i2, Si i3, Si i4, Sj jw, .second, Si 2, Si 1, Sj ja, .second, Sj jb, .second, Sj jc, .second, Sj jd, .second, Sj jn, .second, Sj jm, .second, Sd wd, .second, Sr q, Sd ra, .second, .unset, .unset, .unset, .unset] [(.double (FP.l2d jd)), (.ref q)])) rfl (by rw [hml]; rfl) (Steps.refl _) (argsL := [(.double (FP.l2d jd))]) (rest := []) (lenOf pd_0 rfl) rfl (by show 2 * 0 + _ ≤ _; exact Nat.le_of_eq rfl) (hb hby at_173) (fun _ _ => ⟨rfl, e111, (by decide : 2 + 0 ≤ _), (by decide : 69 + 0 ≤ _)⟩)
      dsimp only [Pt.U, Pt.locs, Pt.cells, Pt.slots] at X113 l113 y113 z113 st113 hQ113
      subst l113 y113 z113
      obtain ⟨h113, e113⟩ : ∃ q, T113.heap = q := ⟨_, rfl⟩
      rw [e113] at hQ113
      obtain ⟨rfl, N113q, K113q, Eq113, F_timesq113, F_latestq113, F_windowq113, F_firstq113, F_endq113, V_q113⟩ := hQ113
      have N113 := Fr.app N111 N113q
      have ZZ113p := ZZ
      have lt_q := E_q.lt
      have lt_ar := V_ar.lt
      replace E_q := E_q.keep K113q
      replace ZZ := Nat.le_trans ZZ K113q.1
      have F_times_q := F_timesq113
      have F_latest_q := F_latestq113
      have F_window_q := F_windowq113
      have F_first_q := F_firstq113
      have F_end_q := F_endq113
      replace E_q := Eq113
      have V_ar := V_q113
      refine Go.on (fun _ k => st113.trans k) ?_
      show Go _ _ _ _ _ _ _ _ (mkF m 176 #[Si i0, Si i1, Si i2, Si i3, Si i4, Sj jw, .second, Si 2, Si 1, Sj ja, .second, Sj jb, .second, Sj jc, .second, Sj jd, .second, Sj jn, .second, Sj jm, .second, Sd wd, .second, Sr q, Sd ra, .second, .unset, .unset, .unset, .unset] [])
      refine Go.on (fun _ k => XS.aload X113.here hx rfl (hb hby at_176) rfl rfl k) ?_
      refine Go.on (fun _ k => XS.lload X113.here hx rfl (hb hby at_178) rfl k) ?_
      refine Go.on (fun _ k => XS.l2dS X113.here hx rfl (hb hby at_180) rfl rfl k) ?_
      show Go _ _ _ _ _ _ _ _ (mkF m 181 #[Si i0, Si i1, Si i2, Si i3, Si i4, Sj jw, .second, Si 2, Si 1, Sj ja, .second, Sj jb, .second, Sj jc, .second, Sj jd, .second, Sj jn, .second, Sj jm, .second, Sd wd, .second, Sr q, Sd ra, .second, .unset, .unset, .unset, .unset] [(.double (FP.l2d jm)), (.ref q)])
      obtain ⟨cq114, kq114, q114a, q114b, q114c⟩ := isOf hZ e113 E_q
      obtain ⟨_, _, ⟨T114, L114, k114, n114⟩, -, X114, ⟨Lc114, hQ114, l114, y114, z114⟩, st114⟩ := X113.virtualBack hx (y := (⟨"com/example/deliberate_scaler/deliberatescaler/model/RateWindow", "rate", "(D)D"⟩ : MethodName)) (z := (⟨"com/example/deliberate_scaler/deliberatescaler/model/RateWindow", "rate", "(D)D"⟩ : MethodName)) hown (mvT hZ (hw _ (List.mem_of_getElem? (i := 25) rfl))) (mvT hZ (hw _ (List.mem_of_getElem? (i := 26) rfl))) (notFace_of_selects (args := #[]) (mvT hZ (hw _ (List.mem_of_getElem? (i := 28) rfl)))) (mvT hZ (hw _ (List.mem_of_getElem? (i := 28) rfl))) (mvT hZ (hw _ (List.mem_of_getElem? (i := 27) rfl))) (by decide) (backOf (W := 0) (rw_rate_3 l Z aw hw [] q (FP.l2d jm) ja jb jd jm jw ar (FP.l2d jd) wd fr1 k_ar (FP.l2d ja) (FP.l2d jb) (FP.l2d jd) h113 n0 ZZ E_q F_times_q F_latest_q F_window_q F_first_q F_end_q V_ar g_q ne_q_ar rfl hwd.symm Bjm Bjw hwj.1 rfl rfl rfl Bja Bjb Bjd (by omega) (by omega) (by rcases hdj111 with hz | hz | hz <;> simp [hz]) (fun q => Int.le_trans (hdr0_111 q) (by omega)) (fun q => Int.le_trans (hdr1_111 q) (by omega)) (fun q => by rcases hdj111 with hz | hz | hz <;> (rw [hz] at q; exact absurd q (by decide)))) hZ (hw _ (List.mem_of_getElem? (i := 29) rfl)) (hw _ (List.mem_of_getElem? (i := 2) rfl)) (by decide) (by decide)) q114a q114c (g := (mkF m 181 #[Si i0, Si i1, Si i2, Si i3, Si i4, Sj jw, .second, Si 2, Si 1, Sj ja, .second, Sj jb, .second, Sj jc, .second, Sj jd, .second, Sj jn, .second, Sj jm, .second, Sd wd, .second, Sr q, Sd ra, .second, .unset, .unset, .unset, .unset] [(.double (FP.l2d jm)), (.ref q)])) rfl (by rw [hml]; rfl) (Steps.refl _) (argsL := [(.double (FP.l2d jm))]) (rest := []) (lenOf pd_1 rfl) rfl (by show 2 * 0 + _ ≤ _; exact Nat.le_of_eq rfl) (hb hby at_181) (fun _ _ => ⟨rfl, e113, (by decide : 2 + 0 ≤ _), (by decide : 69 + 0 ≤ _)⟩)
      dsimp only [Pt.U, Pt.locs, Pt.cells, Pt.slots] at X114 l114 y114 z114 st114 hQ114
      subst l114 y114 z114
      obtain ⟨h114, e114⟩ : ∃ q, T114.heap = q := ⟨_, rfl⟩
      rw [e114] at hQ114
      obtain ⟨f1_114, rfl, N114q, K114q, Eq114, F_timesq114, F_latestq114, F_windowq114, F_firstq114, F_endq114, hdj114, hdr0_114, hdr1_114, hdr2_114⟩ := hQ114
      have N114 := Fr.app N113 N114q
      have ZZ114p := ZZ
      have lt_q := E_q.lt
      have lt_ar := V_ar.lt
      replace E_q := E_q.keep K114q
      replace V_ar := V_ar.keep K114q (ninS (Ne.symm ne_q_ar) nin0)
      replace ZZ := Nat.le_trans ZZ K114q.1
      obtain ⟨fr2, hfr2⟩ : ∃ z, z = f1_114 := ⟨_, rfl⟩
      rw [← hfr2] at F_firstq114 hdj114 hdr0_114 hdr1_114 hdr2_114
      have F_times_q := F_timesq114
      have F_latest_q := F_latestq114
      have F_window_q := F_windowq114
      have F_first_q := F_firstq114
      have F_end_q := F_endq114
      replace E_q := Eq114
      refine Go.on (fun _ k => st114.trans k) ?_
      show Go _ _ _ _ _ _ _ _ (mkF m 184 #[Si i0, Si i1, Si i2, Si i3, Si i4, Sj jw, .second, Si 2, Si 1, Sj ja, .second, Sj jb, .second, Sj jc, .second, Sj jd, .second, Sj jn, .second, Sj jm, .second, Sd wd, .second, Sr q, Sd ra, .second, .unset, .unset, .unset, .unset] [(.double (FP.ddiv (FP.i2d (((inV ja jm jw) + (inV jb jm jw)) + (inV jd jm jw))) wd))])
      refine Go.on (fun _ k => XS.dstore X114.here hx rfl (hb hby at_184) rfl (l' := #[.val (.int i0), .val (.int i1), .val (.int i2), .val (.int i3), .val (.int i4), .val (.long jw), .second, .val (.int (2 : Int32)), .val (.int (1 : Int32)), .val (.long ja), .second, .val (.long jb), .second, .val (.long jc), .second, .val (.long jd), .second, .val (.long jn), .second, .val (.long jm), .second, .val (.double wd), .second, .val (.ref q), .val (.double ra), .second, .val (.double (FP.ddiv (FP.i2d (((inV ja jm jw) + (inV jb jm jw)) + (inV jd jm jw))) wd)), .second, .unset, .unset]) rfl k) ?_
      show Go _ _ _ _ _ _ _ _ (mkF m 186 #[Si i0, Si i1, Si i2, Si i3, Si i4, Sj jw, .second, Si 2, Si 1, Sj ja, .second, Sj jb, .second, Sj jc, .second, Sj jd, .second, Sj jn, .second, Sj jm, .second, Sd wd, .second, Sr q, Sd ra, .second, .val (.double (FP.ddiv (FP.i2d (((inV ja jm jw) + (inV jb jm jw)) + (inV jd jm jw))) wd)), .second, .unset, .unset] [])
      generalize hrb : (FP.ddiv (FP.i2d (((inV ja jm jw) + (inV jb jm jw)) + (inV jd jm jw))) wd) = rb
      show Go _ _ _ _ _ _ _ _ (mkF m 186 #[Si i0, Si i1, Si i2, Si i3, Si i4, Sj jw, .second, Si 2, Si 1, Sj ja, .second, Sj jb, .second, Sj jc, .second, Sj jd, .second, Sj jn, .second, Sj jm, .second, Sd wd, .second, Sr q, Sd ra, .second, Sd rb, .second, .unset, .unset] [])
      refine Go.on (fun _ k => XS.iload X114.here hx rfl (hb hby at_186) rfl k) ?_
      refine Go.on (fun _ k => XS.iconst X114.here hx rfl (hb hby at_188) k) ?_
      show Go _ _ _ _ _ _ _ _ (mkF m 189 #[Si i0, Si i1, Si i2, Si i3, Si i4, Sj jw, .second, Si 2, Si 1, Sj ja, .second, Sj jb, .second, Sj jc, .second, Sj jd, .second, Sj jn, .second, Sj jm, .second, Sd wd, .second, Sr q, Sd ra, .second, Sd rb, .second, .unset, .unset] [(.int 1), (.int 2)])
      have hc115 : ¬ ((2 : Int32) < (1 : Int32)) := by decide
      refine Go.on (fun _ k => XS.icmpNo X114.here hx rfl (hb hby at_189) rfl (flt hc115).1 k) ?_
      refine Go.on (fun _ k => XS.lload X114.here hx rfl (hb hby at_192) rfl k) ?_
      refine Go.on (fun _ k => XS.lload X114.here hx rfl (hb hby at_194) rfl k) ?_
      refine Go.on (fun _ k => XS.lload X114.here hx rfl (hb hby at_196) rfl k) ?_
      show Go _ _ _ _ _ _ _ _ (mkF m 198 #[Si i0, Si i1, Si i2, Si i3, Si i4, Sj jw, .second, Si 2, Si 1, Sj ja, .second, Sj jb, .second, Sj jc, .second, Sj jd, .second, Sj jn, .second, Sj jm, .second, Sd wd, .second, Sr q, Sd ra, .second, Sd rb, .second, .unset, .unset] [(.long jw), (.long jn), (.long ja)])
      obtain ⟨_, _, ⟨T116, L116, k116, n116⟩, -, X116, ⟨Lc116, hQ116, l116, y116, z116⟩, st116⟩ := Jvm.LawKit.callS X114 hx (y := (⟨"com/example/deliberate_scaler/deliberatescaler/model/RateWindowRatePinLaw", "in", "(JJJ)I"⟩ : MethodName)) hown (mvT hZ (hw _ (List.mem_of_getElem? (i := 32) rfl))) (mvT hZ (hw _ (List.mem_of_getElem? (i := 33) rfl))) (mvT hZ (hw _ (List.mem_of_getElem? (i := 34) rfl))) (mvT hZ (hw _ (List.mem_of_getElem? (i := 35) rfl))) (by decide) (backOf (W := 0) (rm5 l Z aw hw [] ja jn jw  h114 n0 ZZ ) hZ (hw _ (List.mem_of_getElem? (i := 35) rfl)) (hw _ (List.mem_of_getElem? (i := 34) rfl)) (by decide) (by decide)) (g := (mkF m 198 #[Si i0, Si i1, Si i2, Si i3, Si i4, Sj jw, .second, Si 2, Si 1, Sj ja, .second, Sj jb, .second, Sj jc, .second, Sj jd, .second, Sj jn, .second, Sj jm, .second, Sd wd, .second, Sr q, Sd ra, .second, Sd rb, .second, .unset, .unset] [(.long jw), (.long jn), (.long ja)])) rfl (by rw [hml]; rfl) (argsL := [(.long ja), (.long jn), (.long jw)]) (rest := []) (lenOf pd_2 rfl) rfl (by show 2 * 0 + _ ≤ _; exact Nat.le_of_eq rfl) (hb hby at_198) (fun _ _ => ⟨rfl, e114, (by decide : 2 + 0 ≤ _), (by decide : 69 + 0 ≤ _)⟩)
      dsimp only [Pt.U, Pt.locs, Pt.cells, Pt.slots] at X116 l116 y116 z116 st116 hQ116
      subst l116 y116 z116
      obtain ⟨rfl, N116q, e116⟩ := hQ116
      have N116 := Fr.app N114 N116q
      refine Go.on st116 ?_
      show Go _ _ _ _ _ _ _ _ (mkF m 201 #[Si i0, Si i1, Si i2, Si i3, Si i4, Sj jw, .second, Si 2, Si 1, Sj ja, .second, Sj jb, .second, Sj jc, .second, Sj jd, .second, Sj jn, .second, Sj jm, .second, Sd wd, .second, Sr q, Sd ra, .second, Sd rb, .second, .unset, .unset] [(.int (inV ja jn jw))])
      refine Go.on (fun _ k => XS.goto X116.here hx rfl (pc0 := 201) (pc' := 205) rfl (hb hby at_201) (by decide) (by decide) k) ?_
      refine Go.on (fun _ k => XS.iload X116.here hx rfl (hb hby at_205) rfl k) ?_
      refine Go.on (fun _ k => XS.iconst X116.here hx rfl (hb hby at_207) k) ?_
      show Go _ _ _ _ _ _ _ _ (mkF m 208 #[Si i0, Si i1, Si i2, Si i3, Si i4, Sj jw, .second, Si 2, Si 1, Sj ja, .second, Sj jb, .second, Sj jc, .second, Sj jd, .second, Sj jn, .second, Sj jm, .second, Sd wd, .second, Sr q, Sd ra, .second, Sd rb, .second, .unset, .unset] [(.int 2), (.int 2), (.int (inV ja jn jw))])
      have hc117 : ¬ ((2 : Int32) < (2 : Int32)) := by decide
      refine Go.on (fun _ k => XS.icmpNo X116.here hx rfl (hb hby at_208) rfl (flt hc117).1 k) ?_
      refine Go.on (fun _ k => XS.lload X116.here hx rfl (hb hby at_211) rfl k) ?_
      refine Go.on (fun _ k => XS.lload X116.here hx rfl (hb hby at_213) rfl k) ?_
      refine Go.on (fun _ k => XS.lload X116.here hx rfl (hb hby at_215) rfl k) ?_
      show Go _ _ _ _ _ _ _ _ (mkF m 217 #[Si i0, Si i1, Si i2, Si i3, Si i4, Sj jw, .second, Si 2, Si 1, Sj ja, .second, Sj jb, .second, Sj jc, .second, Sj jd, .second, Sj jn, .second, Sj jm, .second, Sd wd, .second, Sr q, Sd ra, .second, Sd rb, .second, .unset, .unset] [(.long jw), (.long jn), (.long jb), (.int (inV ja jn jw))])
      obtain ⟨_, _, ⟨T118, L118, k118, n118⟩, -, X118, ⟨Lc118, hQ118, l118, y118, z118⟩, st118⟩ := Jvm.LawKit.callS X116 hx (y := (⟨"com/example/deliberate_scaler/deliberatescaler/model/RateWindowRatePinLaw", "in", "(JJJ)I"⟩ : MethodName)) hown (mvT hZ (hw _ (List.mem_of_getElem? (i := 32) rfl))) (mvT hZ (hw _ (List.mem_of_getElem? (i := 33) rfl))) (mvT hZ (hw _ (List.mem_of_getElem? (i := 34) rfl))) (mvT hZ (hw _ (List.mem_of_getElem? (i := 35) rfl))) (by decide) (backOf (W := 1) (rm5 l Z aw hw [] jb jn jw  h114 n0 ZZ ) hZ (hw _ (List.mem_of_getElem? (i := 35) rfl)) (hw _ (List.mem_of_getElem? (i := 34) rfl)) (by decide) (by decide)) (g := (mkF m 217 #[Si i0, Si i1, Si i2, Si i3, Si i4, Sj jw, .second, Si 2, Si 1, Sj ja, .second, Sj jb, .second, Sj jc, .second, Sj jd, .second, Sj jn, .second, Sj jm, .second, Sd wd, .second, Sr q, Sd ra, .second, Sd rb, .second, .unset, .unset] [(.long jw), (.long jn), (.long jb), (.int (inV ja jn jw))])) rfl (by rw [hml]; rfl) (argsL := [(.long jb), (.long jn), (.long jw)]) (rest := [(.int (inV ja jn jw))]) (lenOf pd_2 rfl) rfl (by show 2 * 0 + _ ≤ _; exact Nat.le_of_eq rfl) (hb hby at_217) (fun _ _ => ⟨rfl, e116, (by decide : 2 + 0 ≤ _), (by decide : 69 + 0 ≤ _)⟩)
      dsimp only [Pt.U, Pt.locs, Pt.cells, Pt.slots] at X118 l118 y118 z118 st118 hQ118
      subst l118 y118 z118
      obtain ⟨rfl, N118q, e118⟩ := hQ118
      have N118 := Fr.app N116 N118q
      refine Go.on st118 ?_
      show Go _ _ _ _ _ _ _ _ (mkF m 220 #[Si i0, Si i1, Si i2, Si i3, Si i4, Sj jw, .second, Si 2, Si 1, Sj ja, .second, Sj jb, .second, Sj jc, .second, Sj jd, .second, Sj jn, .second, Sj jm, .second, Sd wd, .second, Sr q, Sd ra, .second, Sd rb, .second, .unset, .unset] [(.int (inV jb jn jw)), (.int (inV ja jn jw))])
      refine Go.on (fun _ k => XS.goto X118.here hx rfl (pc0 := 220) (pc' := 224) rfl (hb hby at_220) (by decide) (by decide) k) ?_
      refine Go.on (fun _ k => XS.iadd X118.here hx rfl (hb hby at_224) rfl k) ?_
      refine Go.on (fun _ k => XS.iload X118.here hx rfl (hb hby at_225) rfl k) ?_
      refine Go.on (fun _ k => XS.iconst X118.here hx rfl (hb hby at_227) k) ?_
      show Go _ _ _ _ _ _ _ _ (mkF m 228 #[Si i0, Si i1, Si i2, Si i3, Si i4, Sj jw, .second, Si 2, Si 1, Sj ja, .second, Sj jb, .second, Sj jc, .second, Sj jd, .second, Sj jn, .second, Sj jm, .second, Sd wd, .second, Sr q, Sd ra, .second, Sd rb, .second, .unset, .unset] [(.int 3), (.int 2), (.int ((inV ja jn jw) + (inV jb jn jw)))])
      have hc119 : (2 : Int32) < (3 : Int32) := by decide
      refine Go.on (fun _ k => XS.icmpYes X118.here hx rfl (pc0 := 228) (pc' := 243) rfl (hb hby at_228) rfl (tlt hc119).1 (by decide) (by decide) k) ?_
      refine Go.on (fun _ k => XS.iconst X118.here hx rfl (hb hby at_243) k) ?_
      refine Go.on (fun _ k => XS.iadd X118.here hx rfl (hb hby at_244) rfl k) ?_
      show Go _ _ _ _ _ _ _ _ (mkF m 245 #[Si i0, Si i1, Si i2, Si i3, Si i4, Sj jw, .second, Si 2, Si 1, Sj ja, .second, Sj jb, .second, Sj jc, .second, Sj jd, .second, Sj jn, .second, Sj jm, .second, Sd wd, .second, Sr q, Sd ra, .second, Sd rb, .second, .unset, .unset] [(.int (((inV ja jn jw) + (inV jb jn jw)) + (0 : Int32)))])
      refine Go.on (fun _ k => XS.istore X118.here hx rfl (hb hby at_245) rfl (l' := #[.val (.int i0), .val (.int i1), .val (.int i2), .val (.int i3), .val (.int i4), .val (.long jw), .second, .val (.int (2 : Int32)), .val (.int (1 : Int32)), .val (.long ja), .second, .val (.long jb), .second, .val (.long jc), .second, .val (.long jd), .second, .val (.long jn), .second, .val (.long jm), .second, .val (.double wd), .second, .val (.ref q), .val (.double ra), .second, .val (.double rb), .second, .val (.int (((inV ja jn jw) + (inV jb jn jw)) + (0 : Int32))), .unset]) rfl k) ?_
      show Go _ _ _ _ _ _ _ _ (mkF m 247 #[Si i0, Si i1, Si i2, Si i3, Si i4, Sj jw, .second, Si 2, Si 1, Sj ja, .second, Sj jb, .second, Sj jc, .second, Sj jd, .second, Sj jn, .second, Sj jm, .second, Sd wd, .second, Sr q, Sd ra, .second, Sd rb, .second, .val (.int (((inV ja jn jw) + (inV jb jn jw)) + (0 : Int32))), .unset] [])
      generalize hca : (((inV ja jn jw) + (inV jb jn jw)) + (0 : Int32)) = ca
      show Go _ _ _ _ _ _ _ _ (mkF m 247 #[Si i0, Si i1, Si i2, Si i3, Si i4, Sj jw, .second, Si 2, Si 1, Sj ja, .second, Sj jb, .second, Sj jc, .second, Sj jd, .second, Sj jn, .second, Sj jm, .second, Sd wd, .second, Sr q, Sd ra, .second, Sd rb, .second, Si ca, .unset] [])
      refine Go.on (fun _ k => XS.iload X118.here hx rfl (hb hby at_247) rfl k) ?_
      refine Go.on (fun _ k => XS.iconst X118.here hx rfl (hb hby at_249) k) ?_
      show Go _ _ _ _ _ _ _ _ (mkF m 250 #[Si i0, Si i1, Si i2, Si i3, Si i4, Sj jw, .second, Si 2, Si 1, Sj ja, .second, Sj jb, .second, Sj jc, .second, Sj jd, .second, Sj jn, .second, Sj jm, .second, Sd wd, .second, Sr q, Sd ra, .second, Sd rb, .second, Si ca, .unset] [(.int 1), (.int 2)])
      have hc120 : ¬ ((2 : Int32) < (1 : Int32)) := by decide
      refine Go.on (fun _ k => XS.icmpNo X118.here hx rfl (hb hby at_250) rfl (flt hc120).1 k) ?_
      refine Go.on (fun _ k => XS.lload X118.here hx rfl (hb hby at_253) rfl k) ?_
      refine Go.on (fun _ k => XS.lload X118.here hx rfl (hb hby at_255) rfl k) ?_
      refine Go.on (fun _ k => XS.lload X118.here hx rfl (hb hby at_257) rfl k) ?_
      show Go _ _ _ _ _ _ _ _ (mkF m 259 #[Si i0, Si i1, Si i2, Si i3, Si i4, Sj jw, .second, Si 2, Si 1, Sj ja, .second, Sj jb, .second, Sj jc, .second, Sj jd, .second, Sj jn, .second, Sj jm, .second, Sd wd, .second, Sr q, Sd ra, .second, Sd rb, .second, Si ca, .unset] [(.long jw), (.long jm), (.long ja)])
      obtain ⟨_, _, ⟨T121, L121, k121, n121⟩, -, X121, ⟨Lc121, hQ121, l121, y121, z121⟩, st121⟩ := Jvm.LawKit.callS X118 hx (y := (⟨"com/example/deliberate_scaler/deliberatescaler/model/RateWindowRatePinLaw", "in", "(JJJ)I"⟩ : MethodName)) hown (mvT hZ (hw _ (List.mem_of_getElem? (i := 32) rfl))) (mvT hZ (hw _ (List.mem_of_getElem? (i := 33) rfl))) (mvT hZ (hw _ (List.mem_of_getElem? (i := 34) rfl))) (mvT hZ (hw _ (List.mem_of_getElem? (i := 35) rfl))) (by decide) (backOf (W := 0) (rm5 l Z aw hw [] ja jm jw  h114 n0 ZZ ) hZ (hw _ (List.mem_of_getElem? (i := 35) rfl)) (hw _ (List.mem_of_getElem? (i := 34) rfl)) (by decide) (by decide)) (g := (mkF m 259 #[Si i0, Si i1, Si i2, Si i3, Si i4, Sj jw, .second, Si 2, Si 1, Sj ja, .second, Sj jb, .second, Sj jc, .second, Sj jd, .second, Sj jn, .second, Sj jm, .second, Sd wd, .second, Sr q, Sd ra, .second, Sd rb, .second, Si ca, .unset] [(.long jw), (.long jm), (.long ja)])) rfl (by rw [hml]; rfl) (argsL := [(.long ja), (.long jm), (.long jw)]) (rest := []) (lenOf pd_2 rfl) rfl (by show 2 * 0 + _ ≤ _; exact Nat.le_of_eq rfl) (hb hby at_259) (fun _ _ => ⟨rfl, e118, (by decide : 2 + 0 ≤ _), (by decide : 69 + 0 ≤ _)⟩)
      dsimp only [Pt.U, Pt.locs, Pt.cells, Pt.slots] at X121 l121 y121 z121 st121 hQ121
      subst l121 y121 z121
      obtain ⟨rfl, N121q, e121⟩ := hQ121
      have N121 := Fr.app N118 N121q
      refine Go.on st121 ?_
      show Go _ _ _ _ _ _ _ _ (mkF m 262 #[Si i0, Si i1, Si i2, Si i3, Si i4, Sj jw, .second, Si 2, Si 1, Sj ja, .second, Sj jb, .second, Sj jc, .second, Sj jd, .second, Sj jn, .second, Sj jm, .second, Sd wd, .second, Sr q, Sd ra, .second, Sd rb, .second, Si ca, .unset] [(.int (inV ja jm jw))])
      refine Go.on (fun _ k => XS.goto X121.here hx rfl (pc0 := 262) (pc' := 266) rfl (hb hby at_262) (by decide) (by decide) k) ?_
      refine Go.on (fun _ k => XS.iload X121.here hx rfl (hb hby at_266) rfl k) ?_
      refine Go.on (fun _ k => XS.iconst X121.here hx rfl (hb hby at_268) k) ?_
      show Go _ _ _ _ _ _ _ _ (mkF m 269 #[Si i0, Si i1, Si i2, Si i3, Si i4, Sj jw, .second, Si 2, Si 1, Sj ja, .second, Sj jb, .second, Sj jc, .second, Sj jd, .second, Sj jn, .second, Sj jm, .second, Sd wd, .second, Sr q, Sd ra, .second, Sd rb, .second, Si ca, .unset] [(.int 2), (.int 2), (.int (inV ja jm jw))])
      have hc122 : ¬ ((2 : Int32) < (2 : Int32)) := by decide
      refine Go.on (fun _ k => XS.icmpNo X121.here hx rfl (hb hby at_269) rfl (flt hc122).1 k) ?_
      refine Go.on (fun _ k => XS.lload X121.here hx rfl (hb hby at_272) rfl k) ?_
      refine Go.on (fun _ k => XS.lload X121.here hx rfl (hb hby at_274) rfl k) ?_
      refine Go.on (fun _ k => XS.lload X121.here hx rfl (hb hby at_276) rfl k) ?_
      show Go _ _ _ _ _ _ _ _ (mkF m 278 #[Si i0, Si i1, Si i2, Si i3, Si i4, Sj jw, .second, Si 2, Si 1, Sj ja, .second, Sj jb, .second, Sj jc, .second, Sj jd, .second, Sj jn, .second, Sj jm, .second, Sd wd, .second, Sr q, Sd ra, .second, Sd rb, .second, Si ca, .unset] [(.long jw), (.long jm), (.long jb), (.int (inV ja jm jw))])
      obtain ⟨_, _, ⟨T123, L123, k123, n123⟩, -, X123, ⟨Lc123, hQ123, l123, y123, z123⟩, st123⟩ := Jvm.LawKit.callS X121 hx (y := (⟨"com/example/deliberate_scaler/deliberatescaler/model/RateWindowRatePinLaw", "in", "(JJJ)I"⟩ : MethodName)) hown (mvT hZ (hw _ (List.mem_of_getElem? (i := 32) rfl))) (mvT hZ (hw _ (List.mem_of_getElem? (i := 33) rfl))) (mvT hZ (hw _ (List.mem_of_getElem? (i := 34) rfl))) (mvT hZ (hw _ (List.mem_of_getElem? (i := 35) rfl))) (by decide) (backOf (W := 1) (rm5 l Z aw hw [] jb jm jw  h114 n0 ZZ ) hZ (hw _ (List.mem_of_getElem? (i := 35) rfl)) (hw _ (List.mem_of_getElem? (i := 34) rfl)) (by decide) (by decide)) (g := (mkF m 278 #[Si i0, Si i1, Si i2, Si i3, Si i4, Sj jw, .second, Si 2, Si 1, Sj ja, .second, Sj jb, .second, Sj jc, .second, Sj jd, .second, Sj jn, .second, Sj jm, .second, Sd wd, .second, Sr q, Sd ra, .second, Sd rb, .second, Si ca, .unset] [(.long jw), (.long jm), (.long jb), (.int (inV ja jm jw))])) rfl (by rw [hml]; rfl) (argsL := [(.long jb), (.long jm), (.long jw)]) (rest := [(.int (inV ja jm jw))]) (lenOf pd_2 rfl) rfl (by show 2 * 0 + _ ≤ _; exact Nat.le_of_eq rfl) (hb hby at_278) (fun _ _ => ⟨rfl, e121, (by decide : 2 + 0 ≤ _), (by decide : 69 + 0 ≤ _)⟩)
      dsimp only [Pt.U, Pt.locs, Pt.cells, Pt.slots] at X123 l123 y123 z123 st123 hQ123
      subst l123 y123 z123
      obtain ⟨rfl, N123q, e123⟩ := hQ123
      have N123 := Fr.app N121 N123q
      refine Go.on st123 ?_
      show Go _ _ _ _ _ _ _ _ (mkF m 281 #[Si i0, Si i1, Si i2, Si i3, Si i4, Sj jw, .second, Si 2, Si 1, Sj ja, .second, Sj jb, .second, Sj jc, .second, Sj jd, .second, Sj jn, .second, Sj jm, .second, Sd wd, .second, Sr q, Sd ra, .second, Sd rb, .second, Si ca, .unset] [(.int (inV jb jm jw)), (.int (inV ja jm jw))])
      refine Go.on (fun _ k => XS.goto X123.here hx rfl (pc0 := 281) (pc' := 285) rfl (hb hby at_281) (by decide) (by decide) k) ?_
      refine Go.on (fun _ k => XS.iadd X123.here hx rfl (hb hby at_285) rfl k) ?_
      refine Go.on (fun _ k => XS.iload X123.here hx rfl (hb hby at_286) rfl k) ?_
      refine Go.on (fun _ k => XS.iconst X123.here hx rfl (hb hby at_288) k) ?_
      show Go _ _ _ _ _ _ _ _ (mkF m 289 #[Si i0, Si i1, Si i2, Si i3, Si i4, Sj jw, .second, Si 2, Si 1, Sj ja, .second, Sj jb, .second, Sj jc, .second, Sj jd, .second, Sj jn, .second, Sj jm, .second, Sd wd, .second, Sr q, Sd ra, .second, Sd rb, .second, Si ca, .unset] [(.int 3), (.int 2), (.int ((inV ja jm jw) + (inV jb jm jw)))])
      have hc124 : (2 : Int32) < (3 : Int32) := by decide
      refine Go.on (fun _ k => XS.icmpYes X123.here hx rfl (pc0 := 289) (pc' := 304) rfl (hb hby at_289) rfl (tlt hc124).1 (by decide) (by decide) k) ?_
      refine Go.on (fun _ k => XS.iconst X123.here hx rfl (hb hby at_304) k) ?_
      refine Go.on (fun _ k => XS.iadd X123.here hx rfl (hb hby at_305) rfl k) ?_
      refine Go.on (fun _ k => XS.iload X123.here hx rfl (hb hby at_306) rfl k) ?_
      show Go _ _ _ _ _ _ _ _ (mkF m 308 #[Si i0, Si i1, Si i2, Si i3, Si i4, Sj jw, .second, Si 2, Si 1, Sj ja, .second, Sj jb, .second, Sj jc, .second, Sj jd, .second, Sj jn, .second, Sj jm, .second, Sd wd, .second, Sr q, Sd ra, .second, Sd rb, .second, Si ca, .unset] [(.int 1), (.int (((inV ja jm jw) + (inV jb jm jw)) + (0 : Int32)))])
      have hc125 : ¬ ((1 : Int32) = (0 : Int32)) := by decide
      refine Go.on (fun _ k => XS.ifNo X123.here hx rfl (hb hby at_308) rfl ((if0 _ _).trans (feq hc125).1) k) ?_
      refine Go.on (fun _ k => XS.lload X123.here hx rfl (hb hby at_311) rfl k) ?_
      refine Go.on (fun _ k => XS.lload X123.here hx rfl (hb hby at_313) rfl k) ?_
      refine Go.on (fun _ k => XS.lload X123.here hx rfl (hb hby at_315) rfl k) ?_
      show Go _ _ _ _ _ _ _ _ (mkF m 317 #[Si i0, Si i1, Si i2, Si i3, Si i4, Sj jw, .second, Si 2, Si 1, Sj ja, .second, Sj jb, .second, Sj jc, .second, Sj jd, .second, Sj jn, .second, Sj jm, .second, Sd wd, .second, Sr q, Sd ra, .second, Sd rb, .second, Si ca, .unset] [(.long jw), (.long jm), (.long jd), (.int (((inV ja jm jw) + (inV jb jm jw)) + (0 : Int32)))])
      obtain ⟨_, _, ⟨T126, L126, k126, n126⟩, -, X126, ⟨Lc126, hQ126, l126, y126, z126⟩, st126⟩ := Jvm.LawKit.callS X123 hx (y := (⟨"com/example/deliberate_scaler/deliberatescaler/model/RateWindowRatePinLaw", "in", "(JJJ)I"⟩ : MethodName)) hown (mvT hZ (hw _ (List.mem_of_getElem? (i := 32) rfl))) (mvT hZ (hw _ (List.mem_of_getElem? (i := 33) rfl))) (mvT hZ (hw _ (List.mem_of_getElem? (i := 34) rfl))) (mvT hZ (hw _ (List.mem_of_getElem? (i := 35) rfl))) (by decide) (backOf (W := 1) (rm5 l Z aw hw [] jd jm jw  h114 n0 ZZ ) hZ (hw _ (List.mem_of_getElem? (i := 35) rfl)) (hw _ (List.mem_of_getElem? (i := 34) rfl)) (by decide) (by decide)) (g := (mkF m 317 #[Si i0, Si i1, Si i2, Si i3, Si i4, Sj jw, .second, Si 2, Si 1, Sj ja, .second, Sj jb, .second, Sj jc, .second, Sj jd, .second, Sj jn, .second, Sj jm, .second, Sd wd, .second, Sr q, Sd ra, .second, Sd rb, .second, Si ca, .unset] [(.long jw), (.long jm), (.long jd), (.int (((inV ja jm jw) + (inV jb jm jw)) + (0 : Int32)))])) rfl (by rw [hml]; rfl) (argsL := [(.long jd), (.long jm), (.long jw)]) (rest := [(.int (((inV ja jm jw) + (inV jb jm jw)) + (0 : Int32)))]) (lenOf pd_2 rfl) rfl (by show 2 * 0 + _ ≤ _; exact Nat.le_of_eq rfl) (hb hby at_317) (fun _ _ => ⟨rfl, e123, (by decide : 2 + 0 ≤ _), (by decide : 69 + 0 ≤ _)⟩)
      dsimp only [Pt.U, Pt.locs, Pt.cells, Pt.slots] at X126 l126 y126 z126 st126 hQ126
      subst l126 y126 z126
      obtain ⟨rfl, N126q, e126⟩ := hQ126
      have N126 := Fr.app N123 N126q
      refine Go.on st126 ?_
      show Go _ _ _ _ _ _ _ _ (mkF m 320 #[Si i0, Si i1, Si i2, Si i3, Si i4, Sj jw, .second, Si 2, Si 1, Sj ja, .second, Sj jb, .second, Sj jc, .second, Sj jd, .second, Sj jn, .second, Sj jm, .second, Sd wd, .second, Sr q, Sd ra, .second, Sd rb, .second, Si ca, .unset] [(.int (inV jd jm jw)), (.int (((inV ja jm jw) + (inV jb jm jw)) + (0 : Int32)))])
      refine Go.on (fun _ k => XS.goto X126.here hx rfl (pc0 := 320) (pc' := 324) rfl (hb hby at_320) (by decide) (by decide) k) ?_
      refine Go.on (fun _ k => XS.iadd X126.here hx rfl (hb hby at_324) rfl k) ?_
      show Go _ _ _ _ _ _ _ _ (mkF m 325 #[Si i0, Si i1, Si i2, Si i3, Si i4, Sj jw, .second, Si 2, Si 1, Sj ja, .second, Sj jb, .second, Sj jc, .second, Sj jd, .second, Sj jn, .second, Sj jm, .second, Sd wd, .second, Sr q, Sd ra, .second, Sd rb, .second, Si ca, .unset] [(.int ((((inV ja jm jw) + (inV jb jm jw)) + (0 : Int32)) + (inV jd jm jw)))])
      refine Go.on (fun _ k => XS.istore X126.here hx rfl (hb hby at_325) rfl (l' := #[.val (.int i0), .val (.int i1), .val (.int i2), .val (.int i3), .val (.int i4), .val (.long jw), .second, .val (.int (2 : Int32)), .val (.int (1 : Int32)), .val (.long ja), .second, .val (.long jb), .second, .val (.long jc), .second, .val (.long jd), .second, .val (.long jn), .second, .val (.long jm), .second, .val (.double wd), .second, .val (.ref q), .val (.double ra), .second, .val (.double rb), .second, .val (.int ca), .val (.int ((((inV ja jm jw) + (inV jb jm jw)) + (0 : Int32)) + (inV jd jm jw)))]) rfl k) ?_
      show Go _ _ _ _ _ _ _ _ (mkF m 327 #[Si i0, Si i1, Si i2, Si i3, Si i4, Sj jw, .second, Si 2, Si 1, Sj ja, .second, Sj jb, .second, Sj jc, .second, Sj jd, .second, Sj jn, .second, Sj jm, .second, Sd wd, .second, Sr q, Sd ra, .second, Sd rb, .second, Si ca, .val (.int ((((inV ja jm jw) + (inV jb jm jw)) + (0 : Int32)) + (inV jd jm jw)))] [])
      generalize hcb : ((((inV ja jm jw) + (inV jb jm jw)) + (0 : Int32)) + (inV jd jm jw)) = cb
      show Go _ _ _ _ _ _ _ _ (mkF m 327 #[Si i0, Si i1, Si i2, Si i3, Si i4, Sj jw, .second, Si 2, Si 1, Sj ja, .second, Sj jb, .second, Sj jc, .second, Sj jd, .second, Sj jn, .second, Sj jm, .second, Sd wd, .second, Sr q, Sd ra, .second, Sd rb, .second, Si ca, Si cb] [])
      refine Go.on (fun _ k => XS.dload X126.here hx rfl (hb hby at_327) rfl k) ?_
      refine Go.on (fun _ k => XS.iload X126.here hx rfl (hb hby at_329) rfl k) ?_
      refine Go.on (fun _ k => XS.i2dS X126.here hx rfl (hb hby at_331) rfl rfl k) ?_
      refine Go.on (fun _ k => XS.dload X126.here hx rfl (hb hby at_332) rfl k) ?_
      show Go _ _ _ _ _ _ _ _ (mkF m 334 #[Si i0, Si i1, Si i2, Si i3, Si i4, Sj jw, .second, Si 2, Si 1, Sj ja, .second, Sj jb, .second, Sj jc, .second, Sj jd, .second, Sj jn, .second, Sj jm, .second, Sd wd, .second, Sr q, Sd ra, .second, Sd rb, .second, Si ca, Si cb] [(.double wd), (.double (FP.i2d ca)), (.double ra)])
      refine Go.on (fun _ k => XS.ddivS X126.here hx rfl (hb hby at_334) rfl ((own_rt _ hwd.symm hwj.1 Bjw)) rfl k) ?_
      show Go _ _ _ _ _ _ _ _ (mkF m 335 #[Si i0, Si i1, Si i2, Si i3, Si i4, Sj jw, .second, Si 2, Si 1, Sj ja, .second, Sj jb, .second, Sj jc, .second, Sj jd, .second, Sj jn, .second, Sj jm, .second, Sd wd, .second, Sr q, Sd ra, .second, Sd rb, .second, Si ca, Si cb] [(.double (FP.ddiv (FP.i2d ca) wd)), (.double ra)])
      refine Go.on (fun _ k => XS.dcmpS X126.here hx rfl (hb hby at_335) rfl rfl k) ?_
      show Go _ _ _ _ _ _ _ _ (mkF m 336 #[Si i0, Si i1, Si i2, Si i3, Si i4, Sj jw, .second, Si 2, Si 1, Sj ja, .second, Sj jb, .second, Sj jc, .second, Sj jd, .second, Sj jn, .second, Sj jm, .second, Sd wd, .second, Sr q, Sd ra, .second, Sd rb, .second, Si ca, Si cb] [(.int (cmpValue (FP.dcmp ra (FP.ddiv (FP.i2d ca) wd)) .l))])
      have hc127 : (cmpValue (FP.dcmp ra (FP.ddiv (FP.i2d ca) wd)) .l) = (0 : Int32) := own_same hra (by first | exact hca | rfl | (rw [← hca]; simp) | simp) hwd hwj.1 Bjw
      refine Go.on (fun _ k => XS.ifNo X126.here hx rfl (hb hby at_336) rfl ((if0 _ _).trans (teq hc127).2) k) ?_
      refine Go.on (fun _ k => XS.dload X126.here hx rfl (hb hby at_339) rfl k) ?_
      refine Go.on (fun _ k => XS.iload X126.here hx rfl (hb hby at_341) rfl k) ?_
      refine Go.on (fun _ k => XS.i2dS X126.here hx rfl (hb hby at_343) rfl rfl k) ?_
      refine Go.on (fun _ k => XS.dload X126.here hx rfl (hb hby at_344) rfl k) ?_
      show Go _ _ _ _ _ _ _ _ (mkF m 346 #[Si i0, Si i1, Si i2, Si i3, Si i4, Sj jw, .second, Si 2, Si 1, Sj ja, .second, Sj jb, .second, Sj jc, .second, Sj jd, .second, Sj jn, .second, Sj jm, .second, Sd wd, .second, Sr q, Sd ra, .second, Sd rb, .second, Si ca, Si cb] [(.double wd), (.double (FP.i2d cb)), (.double rb)])
      refine Go.on (fun _ k => XS.ddivS X126.here hx rfl (hb hby at_346) rfl ((own_rt _ hwd.symm hwj.1 Bjw)) rfl k) ?_
      show Go _ _ _ _ _ _ _ _ (mkF m 347 #[Si i0, Si i1, Si i2, Si i3, Si i4, Sj jw, .second, Si 2, Si 1, Sj ja, .second, Sj jb, .second, Sj jc, .second, Sj jd, .second, Sj jn, .second, Sj jm, .second, Sd wd, .second, Sr q, Sd ra, .second, Sd rb, .second, Si ca, Si cb] [(.double (FP.ddiv (FP.i2d cb) wd)), (.double rb)])
      refine Go.on (fun _ k => XS.dcmpS X126.here hx rfl (hb hby at_347) rfl rfl k) ?_
      show Go _ _ _ _ _ _ _ _ (mkF m 348 #[Si i0, Si i1, Si i2, Si i3, Si i4, Sj jw, .second, Si 2, Si 1, Sj ja, .second, Sj jb, .second, Sj jc, .second, Sj jd, .second, Sj jn, .second, Sj jm, .second, Sd wd, .second, Sr q, Sd ra, .second, Sd rb, .second, Si ca, Si cb] [(.int (cmpValue (FP.dcmp rb (FP.ddiv (FP.i2d cb) wd)) .l))])
      have hc128 : (cmpValue (FP.dcmp rb (FP.ddiv (FP.i2d cb) wd)) .l) = (0 : Int32) := own_same hrb (by first | exact hcb | rfl | (rw [← hcb]; simp) | simp) hwd hwj.1 Bjw
      refine Go.on (fun _ k => XS.ifNo X126.here hx rfl (hb hby at_348) rfl ((if0 _ _).trans (teq hc128).2) k) ?_
      refine Go.on (fun _ k => XS.iconst X126.here hx rfl (hb hby at_351) k) ?_
      refine Go.on (fun _ k => XS.goto X126.here hx rfl (pc0 := 352) (pc' := 356) rfl (hb hby at_352) (by decide) (by decide) k) ?_
      show Go _ _ _ _ _ _ _ _ (mkF m 356 #[Si i0, Si i1, Si i2, Si i3, Si i4, Sj jw, .second, Si 2, Si 1, Sj ja, .second, Sj jb, .second, Sj jc, .second, Sj jd, .second, Sj jn, .second, Sj jm, .second, Sd wd, .second, Sr q, Sd ra, .second, Sd rb, .second, Si ca, Si cb] [(.int 1)])
      refine Go.retN X126 hx (t := .boolean) Bd.returns (by simp) (hb hby at_356) ?_ (by rw [hK1]; decide) (by rw [hK2]; decide)
      rw [e126, ← hQQ]
      exact ⟨rfl, N126⟩
  · -- 3 times
    subst hk
    rcases own_lt hla with hk | hk
    · -- late 0
      subst hk
      show Go _ _ _ _ _ _ _ _ (mkF m 100 #[Si i0, Si i1, Si i2, Si i3, Si i4, Sj jw, .second, Si 3, Si 0, Sj ja, .second, Sj jb, .second, Sj jc, .second, Sj jd, .second, Sj jn, .second, Sj jm, .second, Sd wd, .second, .unset, .unset, .unset, .unset, .unset, .unset, .unset] [])
      obtain ⟨T129, h129, X129, e129, E129, A129, D129, -, st129⟩ := newO X0 hx hZ hown (hw _ (List.mem_of_getElem? (i := 0) rfl)) (hw _ (List.mem_of_getElem? (i := 1) rfl)) (hw _ (List.mem_of_getElem? (i := 2) rfl)) e0 (g := (mkF m 100 #[Si i0, Si i1, Si i2, Si i3, Si i4, Sj jw, .second, Si 3, Si 0, Sj ja, .second, Sj jb, .second, Sj jc, .second, Sj jd, .second, Sj jn, .second, Sj jm, .second, Sd wd, .second, .unset, .unset, .unset, .unset, .unset, .unset, .unset] [])) rfl (hb hby at_100) (by decide) (by decide)
      obtain ⟨q, g129⟩ : ∃ z, z = h0.size := ⟨_, rfl⟩
      have g_q : n0 ≤ q := Nat.le_trans ZZ (Nat.le_of_eq g129.symm)
      rw [← g129] at A129 D129 st129
      replace ZZ := Nat.le_trans ZZ E129.1
      have E_q := A129
      have F_times_q : Fld Z h129 q "com/example/deliberate_scaler/deliberatescaler/model/RateWindow" "times" "[D" .null := D129 (Or.inl (hw _ (List.mem_of_getElem? (i := 11) rfl))) (ty := (.array .double)) (by decide)
      have F_latest_q : Fld Z h129 q "com/example/deliberate_scaler/deliberatescaler/model/RateWindow" "latest" "D" (.double (0 : UInt64)) := D129 (Or.inl (hw _ (List.mem_of_getElem? (i := 14) rfl))) (ty := .double) (by decide)
      have F_window_q : Fld Z h129 q "com/example/deliberate_scaler/deliberatescaler/model/RateWindow" "window" "D" (.double (0 : UInt64)) := D129 (Or.inr (hw _ (List.mem_of_getElem? (i := 17) rfl))) (ty := .double) (by decide)
      have F_end_q : Fld Z h129 q "com/example/deliberate_scaler/deliberatescaler/model/RateWindow" "end" "I" (.int (0 : Int32)) := D129 (Or.inl (hw _ (List.mem_of_getElem? (i := 24) rfl))) (ty := .int) (by decide)
      have F_first_q : Fld Z h129 q "com/example/deliberate_scaler/deliberatescaler/model/RateWindow" "first" "I" (.int (0 : Int32)) := D129 (Or.inl (hw _ (List.mem_of_getElem? (i := 31) rfl))) (ty := .int) (by decide)
      refine Go.on st129 ?_
      show Go _ _ _ _ _ _ _ _ (mkF m 103 #[Si i0, Si i1, Si i2, Si i3, Si i4, Sj jw, .second, Si 3, Si 0, Sj ja, .second, Sj jb, .second, Sj jc, .second, Sj jd, .second, Sj jn, .second, Sj jm, .second, Sd wd, .second, .unset, .unset, .unset, .unset, .unset, .unset, .unset] [(.ref q)])
      refine Go.on (fun _ k => XS.dup X129.here hx rfl (hb hby at_103) rfl rfl k) ?_
      refine Go.on (fun _ k => XS.dload X129.here hx rfl (hb hby at_104) rfl k) ?_
      show Go _ _ _ _ _ _ _ _ (mkF m 106 #[Si i0, Si i1, Si i2, Si i3, Si i4, Sj jw, .second, Si 3, Si 0, Sj ja, .second, Sj jb, .second, Sj jc, .second, Sj jd, .second, Sj jn, .second, Sj jm, .second, Sd wd, .second, .unset, .unset, .unset, .unset, .unset, .unset, .unset] [(.double wd), (.ref q), (.ref q)])
      obtain ⟨_, _, ⟨T130, L130, k130, n130⟩, -, X130, ⟨Lc130, hQ130, l130, y130, z130⟩, st130⟩ := X129.specialBack hx (y := (⟨"com/example/deliberate_scaler/deliberatescaler/model/RateWindow", "<init>", "(D)V"⟩ : MethodName)) rfl hown (mvT hZ (hw _ (List.mem_of_getElem? (i := 3) rfl))) (mvT hZ (hw _ (List.mem_of_getElem? (i := 4) rfl))) (mvT hZ (hw _ (List.mem_of_getElem? (i := 5) rfl))) (by decide) (backOf (W := 1) (rm1 l Z aw hw [] q wd  h129 n0 ZZ E_q F_times_q F_latest_q F_window_q F_first_q F_end_q g_q (own_wpos hwd hwj.1 Bjw) (own_winf hwd Bjw)) hZ (hw _ (List.mem_of_getElem? (i := 5) rfl)) (hw _ (List.mem_of_getElem? (i := 2) rfl)) (by decide) (by decide)) (g := (mkF m 106 #[Si i0, Si i1, Si i2, Si i3, Si i4, Sj jw, .second, Si 3, Si 0, Sj ja, .second, Sj jb, .second, Sj jc, .second, Sj jd, .second, Sj jn, .second, Sj jm, .second, Sd wd, .second, .unset, .unset, .unset, .unset, .unset, .unset, .unset] [(.double wd), (.ref q), (.ref q)])) rfl (by rw [hml]; rfl) (Steps.refl _) (a := q) (argsL := [(.double wd)]) (rest := [(.ref q)]) (lenOf pd_0 rfl) rfl (by show 2 * 0 + _ ≤ _; exact Nat.le_of_eq rfl) (hb hby at_106) (fun _ _ => ⟨rfl, e129, (by decide : 1 + 1 ≤ _), (by decide : 5 + 64 ≤ _)⟩)
      dsimp only [Pt.U, Pt.locs, Pt.cells, Pt.slots] at X130 l130 y130 z130 st130 hQ130
      subst l130 y130 z130
      obtain ⟨h130, e130⟩ : ∃ q, T130.heap = q := ⟨_, rfl⟩
      rw [e130] at hQ130
      obtain ⟨rfl, N130q, ar, k_ar, K130q, szarq, Eq130, F_timesq130, F_latestq130, F_windowq130, F_firstq130, F_endq130, V_ar⟩ := hQ130
      have N130 := Fr.app N0 N130q
      have ZZ130p := ZZ
      have lt_q := E_q.lt
      replace E_q := E_q.keep K130q
      replace ZZ := Nat.le_trans ZZ K130q.1
      have F_times_q := F_timesq130
      have F_latest_q := F_latestq130
      have F_window_q := F_windowq130
      have F_first_q := F_firstq130
      have F_end_q := F_endq130
      replace E_q := Eq130
      have g_ar : n0 ≤ ar := Nat.le_trans ZZ130p szarq
      have ne_q_ar : q ≠ ar := Nat.ne_of_lt (Nat.lt_of_lt_of_le lt_q szarq)
      refine Go.on (fun _ k => st130.trans k) ?_
      show Go _ _ _ _ _ _ _ _ (mkF m 109 #[Si i0, Si i1, Si i2, Si i3, Si i4, Sj jw, .second, Si 3, Si 0, Sj ja, .second, Sj jb, .second, Sj jc, .second, Sj jd, .second, Sj jn, .second, Sj jm, .second, Sd wd, .second, .unset, .unset, .unset, .unset, .unset, .unset, .unset] [(.ref q)])
      refine Go.on (fun _ k => XS.astore X130.here hx rfl (hb hby at_109) rfl rfl (l' := #[.val (.int i0), .val (.int i1), .val (.int i2), .val (.int i3), .val (.int i4), .val (.long jw), .second, .val (.int (3 : Int32)), .val (.int (0 : Int32)), .val (.long ja), .second, .val (.long jb), .second, .val (.long jc), .second, .val (.long jd), .second, .val (.long jn), .second, .val (.long jm), .second, .val (.double wd), .second, .val (.ref q), .unset, .unset, .unset, .unset, .unset, .unset]) rfl k) ?_
      show Go _ _ _ _ _ _ _ _ (mkF m 111 #[Si i0, Si i1, Si i2, Si i3, Si i4, Sj jw, .second, Si 3, Si 0, Sj ja, .second, Sj jb, .second, Sj jc, .second, Sj jd, .second, Sj jn, .second, Sj jm, .second, Sd wd, .second, Sr q, .unset, .unset, .unset, .unset, .unset, .unset] [])
      refine Go.on (fun _ k => XS.iload X130.here hx rfl (hb hby at_111) rfl k) ?_
      refine Go.on (fun _ k => XS.iconst X130.here hx rfl (hb hby at_113) k) ?_
      show Go _ _ _ _ _ _ _ _ (mkF m 114 #[Si i0, Si i1, Si i2, Si i3, Si i4, Sj jw, .second, Si 3, Si 0, Sj ja, .second, Sj jb, .second, Sj jc, .second, Sj jd, .second, Sj jn, .second, Sj jm, .second, Sd wd, .second, Sr q, .unset, .unset, .unset, .unset, .unset, .unset] [(.int 1), (.int 3)])
      have hc131 : ¬ ((3 : Int32) < (1 : Int32)) := by decide
      refine Go.on (fun _ k => XS.icmpNo X130.here hx rfl (hb hby at_114) rfl (flt hc131).1 k) ?_
      refine Go.on (fun _ k => XS.aload X130.here hx rfl (hb hby at_117) rfl rfl k) ?_
      refine Go.on (fun _ k => XS.lload X130.here hx rfl (hb hby at_119) rfl k) ?_
      refine Go.on (fun _ k => XS.l2dS X130.here hx rfl (hb hby at_121) rfl rfl k) ?_
      show Go _ _ _ _ _ _ _ _ (mkF m 122 #[Si i0, Si i1, Si i2, Si i3, Si i4, Sj jw, .second, Si 3, Si 0, Sj ja, .second, Sj jb, .second, Sj jc, .second, Sj jd, .second, Sj jn, .second, Sj jm, .second, Sd wd, .second, Sr q, .unset, .unset, .unset, .unset, .unset, .unset] [(.double (FP.l2d ja)), (.ref q)])
      obtain ⟨cq132, kq132, q132a, q132b, q132c⟩ := isOf hZ e130 E_q
      obtain ⟨_, _, ⟨T132, L132, k132, n132⟩, -, X132, ⟨Lc132, hQ132, l132, y132, z132⟩, st132⟩ := X130.virtualBack hx (y := (⟨"com/example/deliberate_scaler/deliberatescaler/model/RateWindow", "add", "(D)V"⟩ : MethodName)) (z := (⟨"com/example/deliberate_scaler/deliberatescaler/model/RateWindow", "add", "(D)V"⟩ : MethodName)) hown (mvT hZ (hw _ (List.mem_of_getElem? (i := 18) rfl))) (mvT hZ (hw _ (List.mem_of_getElem? (i := 19) rfl))) (notFace_of_selects (args := #[]) (mvT hZ (hw _ (List.mem_of_getElem? (i := 21) rfl)))) (mvT hZ (hw _ (List.mem_of_getElem? (i := 21) rfl))) (mvT hZ (hw _ (List.mem_of_getElem? (i := 20) rfl))) (by decide) (backOf (W := 0) (rw_add_0 l Z aw hw [] q (FP.l2d ja) ar (18442240474082181120 : UInt64) wd (0 : Int32) k_ar h130 n0 ZZ E_q F_times_q F_latest_q F_window_q F_first_q F_end_q V_ar g_q g_ar ne_q_ar (own_inf Bja)) hZ (hw _ (List.mem_of_getElem? (i := 22) rfl)) (hw _ (List.mem_of_getElem? (i := 2) rfl)) (by decide) (by decide)) q132a q132c (g := (mkF m 122 #[Si i0, Si i1, Si i2, Si i3, Si i4, Sj jw, .second, Si 3, Si 0, Sj ja, .second, Sj jb, .second, Sj jc, .second, Sj jd, .second, Sj jn, .second, Sj jm, .second, Sd wd, .second, Sr q, .unset, .unset, .unset, .unset, .unset, .unset] [(.double (FP.l2d ja)), (.ref q)])) rfl (by rw [hml]; rfl) (Steps.refl _) (argsL := [(.double (FP.l2d ja))]) (rest := []) (lenOf pd_0 rfl) rfl (by show 2 * 0 + _ ≤ _; exact Nat.le_of_eq rfl) (hb hby at_122) (fun _ _ => ⟨rfl, e130, (by decide : 2 + 0 ≤ _), (by decide : 69 + 0 ≤ _)⟩)
      dsimp only [Pt.U, Pt.locs, Pt.cells, Pt.slots] at X132 l132 y132 z132 st132 hQ132
      subst l132 y132 z132
      obtain ⟨h132, e132⟩ : ∃ q, T132.heap = q := ⟨_, rfl⟩
      rw [e132] at hQ132
      obtain ⟨rfl, N132q, K132q, Eq132, F_timesq132, F_latestq132, F_windowq132, F_firstq132, F_endq132, V_q132⟩ := hQ132
      have N132 := Fr.app N130 N132q
      have ZZ132p := ZZ
      have lt_q := E_q.lt
      have lt_ar := V_ar.lt
      replace E_q := E_q.keep K132q
      replace ZZ := Nat.le_trans ZZ K132q.1
      have F_times_q := F_timesq132
      have F_latest_q := F_latestq132
      have F_window_q := F_windowq132
      have F_first_q := F_firstq132
      have F_end_q := F_endq132
      replace E_q := Eq132
      have V_ar := V_q132
      refine Go.on (fun _ k => st132.trans k) ?_
      show Go _ _ _ _ _ _ _ _ (mkF m 125 #[Si i0, Si i1, Si i2, Si i3, Si i4, Sj jw, .second, Si 3, Si 0, Sj ja, .second, Sj jb, .second, Sj jc, .second, Sj jd, .second, Sj jn, .second, Sj jm, .second, Sd wd, .second, Sr q, .unset, .unset, .unset, .unset, .unset, .unset] [])
      refine Go.on (fun _ k => XS.iload X132.here hx rfl (hb hby at_125) rfl k) ?_
      refine Go.on (fun _ k => XS.iconst X132.here hx rfl (hb hby at_127) k) ?_
      show Go _ _ _ _ _ _ _ _ (mkF m 128 #[Si i0, Si i1, Si i2, Si i3, Si i4, Sj jw, .second, Si 3, Si 0, Sj ja, .second, Sj jb, .second, Sj jc, .second, Sj jd, .second, Sj jn, .second, Sj jm, .second, Sd wd, .second, Sr q, .unset, .unset, .unset, .unset, .unset, .unset] [(.int 2), (.int 3)])
      have hc133 : ¬ ((3 : Int32) < (2 : Int32)) := by decide
      refine Go.on (fun _ k => XS.icmpNo X132.here hx rfl (hb hby at_128) rfl (flt hc133).1 k) ?_
      refine Go.on (fun _ k => XS.aload X132.here hx rfl (hb hby at_131) rfl rfl k) ?_
      refine Go.on (fun _ k => XS.lload X132.here hx rfl (hb hby at_133) rfl k) ?_
      refine Go.on (fun _ k => XS.l2dS X132.here hx rfl (hb hby at_135) rfl rfl k) ?_
      show Go _ _ _ _ _ _ _ _ (mkF m 136 #[Si i0, Si i1, Si i2, Si i3, Si i4, Sj jw, .second, Si 3, Si 0, Sj ja, .second, Sj jb, .second, Sj jc, .second, Sj jd, .second, Sj jn, .second, Sj jm, .second, Sd wd, .second, Sr q, .unset, .unset, .unset, .unset, .unset, .unset] [(.double (FP.l2d jb)), (.ref q)])
      obtain ⟨cq134, kq134, q134a, q134b, q134c⟩ := isOf hZ e132 E_q
      obtain ⟨_, _, ⟨T134, L134, k134, n134⟩, -, X134, ⟨Lc134, hQ134, l134, y134, z134⟩, st134⟩ := X132.virtualBack hx (y := (⟨"com/example/deliberate_scaler/deliberatescaler/model/RateWindow", "add", "(D)V"⟩ : MethodName)) (z := (⟨"com/example/deliberate_scaler/deliberatescaler/model/RateWindow", "add", "(D)V"⟩ : MethodName)) hown (mvT hZ (hw _ (List.mem_of_getElem? (i := 18) rfl))) (mvT hZ (hw _ (List.mem_of_getElem? (i := 19) rfl))) (notFace_of_selects (args := #[]) (mvT hZ (hw _ (List.mem_of_getElem? (i := 21) rfl)))) (mvT hZ (hw _ (List.mem_of_getElem? (i := 21) rfl))) (mvT hZ (hw _ (List.mem_of_getElem? (i := 20) rfl))) (by decide) (backOf (W := 0) (rw_add_1 l Z aw hw [] q (FP.l2d jb) ar (FP.l2d ja) wd (0 : Int32) k_ar (FP.l2d ja) h132 n0 ZZ E_q F_times_q F_latest_q F_window_q F_first_q F_end_q V_ar g_q g_ar ne_q_ar (own_ge Bjb Bja (by omega))) hZ (hw _ (List.mem_of_getElem? (i := 22) rfl)) (hw _ (List.mem_of_getElem? (i := 2) rfl)) (by decide) (by decide)) q134a q134c (g := (mkF m 136 #[Si i0, Si i1, Si i2, Si i3, Si i4, Sj jw, .second, Si 3, Si 0, Sj ja, .second, Sj jb, .second, Sj jc, .second, Sj jd, .second, Sj jn, .second, Sj jm, .second, Sd wd, .second, Sr q, .unset, .unset, .unset, .unset, .unset, .unset] [(.double (FP.l2d jb)), (.ref q)])) rfl (by rw [hml]; rfl) (Steps.refl _) (argsL := [(.double (FP.l2d jb))]) (rest := []) (lenOf pd_0 rfl) rfl (by show 2 * 0 + _ ≤ _; exact Nat.le_of_eq rfl) (hb hby at_136) (fun _ _ => ⟨rfl, e132, (by decide : 2 + 0 ≤ _), (by decide : 69 + 0 ≤ _)⟩)
      dsimp only [Pt.U, Pt.locs, Pt.cells, Pt.slots] at X134 l134 y134 z134 st134 hQ134
      subst l134 y134 z134
      obtain ⟨h134, e134⟩ : ∃ q, T134.heap = q := ⟨_, rfl⟩
      rw [e134] at hQ134
      obtain ⟨rfl, N134q, K134q, Eq134, F_timesq134, F_latestq134, F_windowq134, F_firstq134, F_endq134, V_q134⟩ := hQ134
      have N134 := Fr.app N132 N134q
      have ZZ134p := ZZ
      have lt_q := E_q.lt
      have lt_ar := V_ar.lt
      replace E_q := E_q.keep K134q
      replace ZZ := Nat.le_trans ZZ K134q.1
      have F_times_q := F_timesq134
      have F_latest_q := F_latestq134
      have F_window_q := F_windowq134
      have F_first_q := F_firstq134
      have F_end_q := F_endq134
      replace E_q := Eq134
      have V_ar := V_q134
      refine Go.on (fun _ k => st134.trans k) ?_
      show Go _ _ _ _ _ _ _ _ (mkF m 139 #[Si i0, Si i1, Si i2, Si i3, Si i4, Sj jw, .second, Si 3, Si 0, Sj ja, .second, Sj jb, .second, Sj jc, .second, Sj jd, .second, Sj jn, .second, Sj jm, .second, Sd wd, .second, Sr q, .unset, .unset, .unset, .unset, .unset, .unset] [])
      refine Go.on (fun _ k => XS.iload X134.here hx rfl (hb hby at_139) rfl k) ?_
      refine Go.on (fun _ k => XS.iconst X134.here hx rfl (hb hby at_141) k) ?_
      show Go _ _ _ _ _ _ _ _ (mkF m 142 #[Si i0, Si i1, Si i2, Si i3, Si i4, Sj jw, .second, Si 3, Si 0, Sj ja, .second, Sj jb, .second, Sj jc, .second, Sj jd, .second, Sj jn, .second, Sj jm, .second, Sd wd, .second, Sr q, .unset, .unset, .unset, .unset, .unset, .unset] [(.int 3), (.int 3)])
      have hc135 : ¬ ((3 : Int32) < (3 : Int32)) := by decide
      refine Go.on (fun _ k => XS.icmpNo X134.here hx rfl (hb hby at_142) rfl (flt hc135).1 k) ?_
      refine Go.on (fun _ k => XS.aload X134.here hx rfl (hb hby at_145) rfl rfl k) ?_
      refine Go.on (fun _ k => XS.lload X134.here hx rfl (hb hby at_147) rfl k) ?_
      refine Go.on (fun _ k => XS.l2dS X134.here hx rfl (hb hby at_149) rfl rfl k) ?_
      show Go _ _ _ _ _ _ _ _ (mkF m 150 #[Si i0, Si i1, Si i2, Si i3, Si i4, Sj jw, .second, Si 3, Si 0, Sj ja, .second, Sj jb, .second, Sj jc, .second, Sj jd, .second, Sj jn, .second, Sj jm, .second, Sd wd, .second, Sr q, .unset, .unset, .unset, .unset, .unset, .unset] [(.double (FP.l2d jc)), (.ref q)])
      obtain ⟨cq136, kq136, q136a, q136b, q136c⟩ := isOf hZ e134 E_q
      obtain ⟨_, _, ⟨T136, L136, k136, n136⟩, -, X136, ⟨Lc136, hQ136, l136, y136, z136⟩, st136⟩ := X134.virtualBack hx (y := (⟨"com/example/deliberate_scaler/deliberatescaler/model/RateWindow", "add", "(D)V"⟩ : MethodName)) (z := (⟨"com/example/deliberate_scaler/deliberatescaler/model/RateWindow", "add", "(D)V"⟩ : MethodName)) hown (mvT hZ (hw _ (List.mem_of_getElem? (i := 18) rfl))) (mvT hZ (hw _ (List.mem_of_getElem? (i := 19) rfl))) (notFace_of_selects (args := #[]) (mvT hZ (hw _ (List.mem_of_getElem? (i := 21) rfl)))) (mvT hZ (hw _ (List.mem_of_getElem? (i := 21) rfl))) (mvT hZ (hw _ (List.mem_of_getElem? (i := 20) rfl))) (by decide) (backOf (W := 0) (rw_add_2 l Z aw hw [] q (FP.l2d jc) ar (FP.l2d jb) wd (0 : Int32) k_ar (FP.l2d ja) (FP.l2d jb) h134 n0 ZZ E_q F_times_q F_latest_q F_window_q F_first_q F_end_q V_ar g_q g_ar ne_q_ar (own_ge Bjc Bjb (by omega))) hZ (hw _ (List.mem_of_getElem? (i := 22) rfl)) (hw _ (List.mem_of_getElem? (i := 2) rfl)) (by decide) (by decide)) q136a q136c (g := (mkF m 150 #[Si i0, Si i1, Si i2, Si i3, Si i4, Sj jw, .second, Si 3, Si 0, Sj ja, .second, Sj jb, .second, Sj jc, .second, Sj jd, .second, Sj jn, .second, Sj jm, .second, Sd wd, .second, Sr q, .unset, .unset, .unset, .unset, .unset, .unset] [(.double (FP.l2d jc)), (.ref q)])) rfl (by rw [hml]; rfl) (Steps.refl _) (argsL := [(.double (FP.l2d jc))]) (rest := []) (lenOf pd_0 rfl) rfl (by show 2 * 0 + _ ≤ _; exact Nat.le_of_eq rfl) (hb hby at_150) (fun _ _ => ⟨rfl, e134, (by decide : 2 + 0 ≤ _), (by decide : 69 + 0 ≤ _)⟩)
      dsimp only [Pt.U, Pt.locs, Pt.cells, Pt.slots] at X136 l136 y136 z136 st136 hQ136
      subst l136 y136 z136
      obtain ⟨h136, e136⟩ : ∃ q, T136.heap = q := ⟨_, rfl⟩
      rw [e136] at hQ136
      obtain ⟨rfl, N136q, K136q, Eq136, F_timesq136, F_latestq136, F_windowq136, F_firstq136, F_endq136, V_q136⟩ := hQ136
      have N136 := Fr.app N134 N136q
      have ZZ136p := ZZ
      have lt_q := E_q.lt
      have lt_ar := V_ar.lt
      replace E_q := E_q.keep K136q
      replace ZZ := Nat.le_trans ZZ K136q.1
      have F_times_q := F_timesq136
      have F_latest_q := F_latestq136
      have F_window_q := F_windowq136
      have F_first_q := F_firstq136
      have F_end_q := F_endq136
      replace E_q := Eq136
      have V_ar := V_q136
      refine Go.on (fun _ k => st136.trans k) ?_
      show Go _ _ _ _ _ _ _ _ (mkF m 153 #[Si i0, Si i1, Si i2, Si i3, Si i4, Sj jw, .second, Si 3, Si 0, Sj ja, .second, Sj jb, .second, Sj jc, .second, Sj jd, .second, Sj jn, .second, Sj jm, .second, Sd wd, .second, Sr q, .unset, .unset, .unset, .unset, .unset, .unset] [])
      refine Go.on (fun _ k => XS.aload X136.here hx rfl (hb hby at_153) rfl rfl k) ?_
      refine Go.on (fun _ k => XS.lload X136.here hx rfl (hb hby at_155) rfl k) ?_
      refine Go.on (fun _ k => XS.l2dS X136.here hx rfl (hb hby at_157) rfl rfl k) ?_
      show Go _ _ _ _ _ _ _ _ (mkF m 158 #[Si i0, Si i1, Si i2, Si i3, Si i4, Sj jw, .second, Si 3, Si 0, Sj ja, .second, Sj jb, .second, Sj jc, .second, Sj jd, .second, Sj jn, .second, Sj jm, .second, Sd wd, .second, Sr q, .unset, .unset, .unset, .unset, .unset, .unset] [(.double (FP.l2d jn)), (.ref q)])
      obtain ⟨cq137, kq137, q137a, q137b, q137c⟩ := isOf hZ e136 E_q
      obtain ⟨_, _, ⟨T137, L137, k137, n137⟩, -, X137, ⟨Lc137, hQ137, l137, y137, z137⟩, st137⟩ := X136.virtualBack hx (y := (⟨"com/example/deliberate_scaler/deliberatescaler/model/RateWindow", "rate", "(D)D"⟩ : MethodName)) (z := (⟨"com/example/deliberate_scaler/deliberatescaler/model/RateWindow", "rate", "(D)D"⟩ : MethodName)) hown (mvT hZ (hw _ (List.mem_of_getElem? (i := 25) rfl))) (mvT hZ (hw _ (List.mem_of_getElem? (i := 26) rfl))) (notFace_of_selects (args := #[]) (mvT hZ (hw _ (List.mem_of_getElem? (i := 28) rfl)))) (mvT hZ (hw _ (List.mem_of_getElem? (i := 28) rfl))) (mvT hZ (hw _ (List.mem_of_getElem? (i := 27) rfl))) (by decide) (backOf (W := 0) (rw_rate_3 l Z aw hw [] q (FP.l2d jn) ja jb jc jn jw ar (FP.l2d jc) wd (0 : Int32) k_ar (FP.l2d ja) (FP.l2d jb) (FP.l2d jc) h136 n0 ZZ E_q F_times_q F_latest_q F_window_q F_first_q F_end_q V_ar g_q ne_q_ar rfl hwd.symm Bjn Bjw hwj.1 rfl rfl rfl Bja Bjb Bjc (by omega) (by omega) (Or.inl rfl) (fun q => absurd q (by decide)) (fun q => absurd q (by decide)) (fun q => absurd q (by decide))) hZ (hw _ (List.mem_of_getElem? (i := 29) rfl)) (hw _ (List.mem_of_getElem? (i := 2) rfl)) (by decide) (by decide)) q137a q137c (g := (mkF m 158 #[Si i0, Si i1, Si i2, Si i3, Si i4, Sj jw, .second, Si 3, Si 0, Sj ja, .second, Sj jb, .second, Sj jc, .second, Sj jd, .second, Sj jn, .second, Sj jm, .second, Sd wd, .second, Sr q, .unset, .unset, .unset, .unset, .unset, .unset] [(.double (FP.l2d jn)), (.ref q)])) rfl (by rw [hml]; rfl) (Steps.refl _) (argsL := [(.double (FP.l2d jn))]) (rest := []) (lenOf pd_1 rfl) rfl (by show 2 * 0 + _ ≤ _; exact Nat.le_of_eq rfl) (hb hby at_158) (fun _ _ => ⟨rfl, e136, (by decide : 2 + 0 ≤ _), (by decide : 69 + 0 ≤ _)⟩)
      dsimp only [Pt.U, Pt.locs, Pt.cells, Pt.slots] at X137 l137 y137 z137 st137 hQ137
      subst l137 y137 z137
      obtain ⟨h137, e137⟩ : ∃ q, T137.heap = q := ⟨_, rfl⟩
      rw [e137] at hQ137
      obtain ⟨f1_137, rfl, N137q, K137q, Eq137, F_timesq137, F_latestq137, F_windowq137, F_firstq137, F_endq137, hdj137, hdr0_137, hdr1_137, hdr2_137⟩ := hQ137
      have N137 := Fr.app N136 N137q
      have ZZ137p := ZZ
      have lt_q := E_q.lt
      have lt_ar := V_ar.lt
      replace E_q := E_q.keep K137q
      replace V_ar := V_ar.keep K137q (ninS (Ne.symm ne_q_ar) nin0)
      replace ZZ := Nat.le_trans ZZ K137q.1
      obtain ⟨fr1, hfr1⟩ : ∃ z, z = f1_137 := ⟨_, rfl⟩
      rw [← hfr1] at F_firstq137 hdj137 hdr0_137 hdr1_137 hdr2_137
      have F_times_q := F_timesq137
      have F_latest_q := F_latestq137
      have F_window_q := F_windowq137
      have F_first_q := F_firstq137
      have F_end_q := F_endq137
      replace E_q := Eq137
      refine Go.on (fun _ k => st137.trans k) ?_
      show Go _ _ _ _ _ _ _ _ (mkF m 161 #[Si i0, Si i1, Si i2, Si i3, Si i4, Sj jw, .second, Si 3, Si 0, Sj ja, .second, Sj jb, .second, Sj jc, .second, Sj jd, .second, Sj jn, .second, Sj jm, .second, Sd wd, .second, Sr q, .unset, .unset, .unset, .unset, .unset, .unset] [(.double (FP.ddiv (FP.i2d (((inV ja jn jw) + (inV jb jn jw)) + (inV jc jn jw))) wd))])
      refine Go.on (fun _ k => XS.dstore X137.here hx rfl (hb hby at_161) rfl (l' := #[.val (.int i0), .val (.int i1), .val (.int i2), .val (.int i3), .val (.int i4), .val (.long jw), .second, .val (.int (3 : Int32)), .val (.int (0 : Int32)), .val (.long ja), .second, .val (.long jb), .second, .val (.long jc), .second, .val (.long jd), .second, .val (.long jn), .second, .val (.long jm), .second, .val (.double wd), .second, .val (.ref q), .val (.double (FP.ddiv (FP.i2d (((inV ja jn jw) + (inV jb jn jw)) + (inV jc jn jw))) wd)), .second, .unset, .unset, .unset, .unset]) rfl k) ?_
      show Go _ _ _ _ _ _ _ _ (mkF m 163 #[Si i0, Si i1, Si i2, Si i3, Si i4, Sj jw, .second, Si 3, Si 0, Sj ja, .second, Sj jb, .second, Sj jc, .second, Sj jd, .second, Sj jn, .second, Sj jm, .second, Sd wd, .second, Sr q, .val (.double (FP.ddiv (FP.i2d (((inV ja jn jw) + (inV jb jn jw)) + (inV jc jn jw))) wd)), .second, .unset, .unset, .unset, .unset] [])
      generalize hra : (FP.ddiv (FP.i2d (((inV ja jn jw) + (inV jb jn jw)) + (inV jc jn jw))) wd) = ra
      show Go _ _ _ _ _ _ _ _ (mkF m 163 #[Si i0, Si i1, Si i2, Si i3, Si i4, Sj jw, .second, Si 3, Si 0, Sj ja, .second, Sj jb, .second, Sj jc, .second, Sj jd, .second, Sj jn, .second, Sj jm, .second, Sd wd, .second, Sr q, Sd ra, .second, .unset, .unset, .unset, .unset] [])
      refine Go.on (fun _ k => XS.iload X137.here hx rfl (hb hby at_163) rfl k) ?_
      show Go _ _ _ _ _ _ _ _ (mkF m 165 #[Si i0, Si i1, Si i2, Si i3, Si i4, Sj jw, .second, Si 3, Si 0, Sj ja, .second, Sj jb, .second, Sj jc, .second, Sj jd, .second, Sj jn, .second, Sj jm, .second, Sd wd, .second, Sr q, Sd ra, .second, .unset, .unset, .unset, .unset] [(.int 0)])
      have hc138 : (0 : Int32) = (0 : Int32) := by decide
      refine Go.on (fun _ k => XS.ifYes X137.here hx rfl (pc0 := 165) (pc' := 176) rfl (hb hby at_165) rfl ((if0 _ _).trans (teq hc138).1) (by decide) (by decide) k) ?_
      refine Go.on (fun _ k => XS.aload X137.here hx rfl (hb hby at_176) rfl rfl k) ?_
      refine Go.on (fun _ k => XS.lload X137.here hx rfl (hb hby at_178) rfl k) ?_
      refine Go.on (fun _ k => XS.l2dS X137.here hx rfl (hb hby at_180) rfl rfl k) ?_
      show Go _ _ _ _ _ _ _ _ (mkF m 181 #[Si i0, Si i1, Si i2, Si i3, Si i4, Sj jw, .second, Si 3, Si 0, Sj ja, .second, Sj jb, .second, Sj jc, .second, Sj jd, .second, Sj jn, .second, Sj jm, .second, Sd wd, .second, Sr q, Sd ra, .second, .unset, .unset, .unset, .unset] [(.double (FP.l2d jm)), (.ref q)])
      obtain ⟨cq139, kq139, q139a, q139b, q139c⟩ := isOf hZ e137 E_q
      obtain ⟨_, _, ⟨T139, L139, k139, n139⟩, -, X139, ⟨Lc139, hQ139, l139, y139, z139⟩, st139⟩ := X137.virtualBack hx (y := (⟨"com/example/deliberate_scaler/deliberatescaler/model/RateWindow", "rate", "(D)D"⟩ : MethodName)) (z := (⟨"com/example/deliberate_scaler/deliberatescaler/model/RateWindow", "rate", "(D)D"⟩ : MethodName)) hown (mvT hZ (hw _ (List.mem_of_getElem? (i := 25) rfl))) (mvT hZ (hw _ (List.mem_of_getElem? (i := 26) rfl))) (notFace_of_selects (args := #[]) (mvT hZ (hw _ (List.mem_of_getElem? (i := 28) rfl)))) (mvT hZ (hw _ (List.mem_of_getElem? (i := 28) rfl))) (mvT hZ (hw _ (List.mem_of_getElem? (i := 27) rfl))) (by decide) (backOf (W := 0) (rw_rate_3 l Z aw hw [] q (FP.l2d jm) ja jb jc jm jw ar (FP.l2d jc) wd fr1 k_ar (FP.l2d ja) (FP.l2d jb) (FP.l2d jc) h137 n0 ZZ E_q F_times_q F_latest_q F_window_q F_first_q F_end_q V_ar g_q ne_q_ar rfl hwd.symm Bjm Bjw hwj.1 rfl rfl rfl Bja Bjb Bjc (by omega) (by omega) hdj137 (fun q => Int.le_trans (hdr0_137 q) (by omega)) (fun q => Int.le_trans (hdr1_137 q) (by omega)) (fun q => Int.le_trans (hdr2_137 q) (by omega))) hZ (hw _ (List.mem_of_getElem? (i := 29) rfl)) (hw _ (List.mem_of_getElem? (i := 2) rfl)) (by decide) (by decide)) q139a q139c (g := (mkF m 181 #[Si i0, Si i1, Si i2, Si i3, Si i4, Sj jw, .second, Si 3, Si 0, Sj ja, .second, Sj jb, .second, Sj jc, .second, Sj jd, .second, Sj jn, .second, Sj jm, .second, Sd wd, .second, Sr q, Sd ra, .second, .unset, .unset, .unset, .unset] [(.double (FP.l2d jm)), (.ref q)])) rfl (by rw [hml]; rfl) (Steps.refl _) (argsL := [(.double (FP.l2d jm))]) (rest := []) (lenOf pd_1 rfl) rfl (by show 2 * 0 + _ ≤ _; exact Nat.le_of_eq rfl) (hb hby at_181) (fun _ _ => ⟨rfl, e137, (by decide : 2 + 0 ≤ _), (by decide : 69 + 0 ≤ _)⟩)
      dsimp only [Pt.U, Pt.locs, Pt.cells, Pt.slots] at X139 l139 y139 z139 st139 hQ139
      subst l139 y139 z139
      obtain ⟨h139, e139⟩ : ∃ q, T139.heap = q := ⟨_, rfl⟩
      rw [e139] at hQ139
      obtain ⟨f1_139, rfl, N139q, K139q, Eq139, F_timesq139, F_latestq139, F_windowq139, F_firstq139, F_endq139, hdj139, hdr0_139, hdr1_139, hdr2_139⟩ := hQ139
      have N139 := Fr.app N137 N139q
      have ZZ139p := ZZ
      have lt_q := E_q.lt
      have lt_ar := V_ar.lt
      replace E_q := E_q.keep K139q
      replace V_ar := V_ar.keep K139q (ninS (Ne.symm ne_q_ar) nin0)
      replace ZZ := Nat.le_trans ZZ K139q.1
      obtain ⟨fr2, hfr2⟩ : ∃ z, z = f1_139 := ⟨_, rfl⟩
      rw [← hfr2] at F_firstq139 hdj139 hdr0_139 hdr1_139 hdr2_139
      have F_times_q := F_timesq139
      have F_latest_q := F_latestq139
      have F_window_q := F_windowq139
      have F_first_q := F_firstq139
      have F_end_q := F_endq139
      replace E_q := Eq139
      refine Go.on (fun _ k => st139.trans k) ?_
      show Go _ _ _ _ _ _ _ _ (mkF m 184 #[Si i0, Si i1, Si i2, Si i3, Si i4, Sj jw, .second, Si 3, Si 0, Sj ja, .second, Sj jb, .second, Sj jc, .second, Sj jd, .second, Sj jn, .second, Sj jm, .second, Sd wd, .second, Sr q, Sd ra, .second, .unset, .unset, .unset, .unset] [(.double (FP.ddiv (FP.i2d (((inV ja jm jw) + (inV jb jm jw)) + (inV jc jm jw))) wd))])
      refine Go.on (fun _ k => XS.dstore X139.here hx rfl (hb hby at_184) rfl (l' := #[.val (.int i0), .val (.int i1), .val (.int i2), .val (.int i3), .val (.int i4), .val (.long jw), .second, .val (.int (3 : Int32)), .val (.int (0 : Int32)), .val (.long ja), .second, .val (.long jb), .second, .val (.long jc), .second, .val (.long jd), .second, .val (.long jn), .second, .val (.long jm), .second, .val (.double wd), .second, .val (.ref q), .val (.double ra), .second, .val (.double (FP.ddiv (FP.i2d (((inV ja jm jw) + (inV jb jm jw)) + (inV jc jm jw))) wd)), .second, .unset, .unset]) rfl k) ?_
      show Go _ _ _ _ _ _ _ _ (mkF m 186 #[Si i0, Si i1, Si i2, Si i3, Si i4, Sj jw, .second, Si 3, Si 0, Sj ja, .second, Sj jb, .second, Sj jc, .second, Sj jd, .second, Sj jn, .second, Sj jm, .second, Sd wd, .second, Sr q, Sd ra, .second, .val (.double (FP.ddiv (FP.i2d (((inV ja jm jw) + (inV jb jm jw)) + (inV jc jm jw))) wd)), .second, .unset, .unset] [])
      generalize hrb : (FP.ddiv (FP.i2d (((inV ja jm jw) + (inV jb jm jw)) + (inV jc jm jw))) wd) = rb
      show Go _ _ _ _ _ _ _ _ (mkF m 186 #[Si i0, Si i1, Si i2, Si i3, Si i4, Sj jw, .second, Si 3, Si 0, Sj ja, .second, Sj jb, .second, Sj jc, .second, Sj jd, .second, Sj jn, .second, Sj jm, .second, Sd wd, .second, Sr q, Sd ra, .second, Sd rb, .second, .unset, .unset] [])
      refine Go.on (fun _ k => XS.iload X139.here hx rfl (hb hby at_186) rfl k) ?_
      refine Go.on (fun _ k => XS.iconst X139.here hx rfl (hb hby at_188) k) ?_
      show Go _ _ _ _ _ _ _ _ (mkF m 189 #[Si i0, Si i1, Si i2, Si i3, Si i4, Sj jw, .second, Si 3, Si 0, Sj ja, .second, Sj jb, .second, Sj jc, .second, Sj jd, .second, Sj jn, .second, Sj jm, .second, Sd wd, .second, Sr q, Sd ra, .second, Sd rb, .second, .unset, .unset] [(.int 1), (.int 3)])
      have hc140 : ¬ ((3 : Int32) < (1 : Int32)) := by decide
      refine Go.on (fun _ k => XS.icmpNo X139.here hx rfl (hb hby at_189) rfl (flt hc140).1 k) ?_
      refine Go.on (fun _ k => XS.lload X139.here hx rfl (hb hby at_192) rfl k) ?_
      refine Go.on (fun _ k => XS.lload X139.here hx rfl (hb hby at_194) rfl k) ?_
      refine Go.on (fun _ k => XS.lload X139.here hx rfl (hb hby at_196) rfl k) ?_
      show Go _ _ _ _ _ _ _ _ (mkF m 198 #[Si i0, Si i1, Si i2, Si i3, Si i4, Sj jw, .second, Si 3, Si 0, Sj ja, .second, Sj jb, .second, Sj jc, .second, Sj jd, .second, Sj jn, .second, Sj jm, .second, Sd wd, .second, Sr q, Sd ra, .second, Sd rb, .second, .unset, .unset] [(.long jw), (.long jn), (.long ja)])
      obtain ⟨_, _, ⟨T141, L141, k141, n141⟩, -, X141, ⟨Lc141, hQ141, l141, y141, z141⟩, st141⟩ := Jvm.LawKit.callS X139 hx (y := (⟨"com/example/deliberate_scaler/deliberatescaler/model/RateWindowRatePinLaw", "in", "(JJJ)I"⟩ : MethodName)) hown (mvT hZ (hw _ (List.mem_of_getElem? (i := 32) rfl))) (mvT hZ (hw _ (List.mem_of_getElem? (i := 33) rfl))) (mvT hZ (hw _ (List.mem_of_getElem? (i := 34) rfl))) (mvT hZ (hw _ (List.mem_of_getElem? (i := 35) rfl))) (by decide) (backOf (W := 0) (rm5 l Z aw hw [] ja jn jw  h139 n0 ZZ ) hZ (hw _ (List.mem_of_getElem? (i := 35) rfl)) (hw _ (List.mem_of_getElem? (i := 34) rfl)) (by decide) (by decide)) (g := (mkF m 198 #[Si i0, Si i1, Si i2, Si i3, Si i4, Sj jw, .second, Si 3, Si 0, Sj ja, .second, Sj jb, .second, Sj jc, .second, Sj jd, .second, Sj jn, .second, Sj jm, .second, Sd wd, .second, Sr q, Sd ra, .second, Sd rb, .second, .unset, .unset] [(.long jw), (.long jn), (.long ja)])) rfl (by rw [hml]; rfl) (argsL := [(.long ja), (.long jn), (.long jw)]) (rest := []) (lenOf pd_2 rfl) rfl (by show 2 * 0 + _ ≤ _; exact Nat.le_of_eq rfl) (hb hby at_198) (fun _ _ => ⟨rfl, e139, (by decide : 2 + 0 ≤ _), (by decide : 69 + 0 ≤ _)⟩)
      dsimp only [Pt.U, Pt.locs, Pt.cells, Pt.slots] at X141 l141 y141 z141 st141 hQ141
      subst l141 y141 z141
      obtain ⟨rfl, N141q, e141⟩ := hQ141
      have N141 := Fr.app N139 N141q
      refine Go.on st141 ?_
      show Go _ _ _ _ _ _ _ _ (mkF m 201 #[Si i0, Si i1, Si i2, Si i3, Si i4, Sj jw, .second, Si 3, Si 0, Sj ja, .second, Sj jb, .second, Sj jc, .second, Sj jd, .second, Sj jn, .second, Sj jm, .second, Sd wd, .second, Sr q, Sd ra, .second, Sd rb, .second, .unset, .unset] [(.int (inV ja jn jw))])
      refine Go.on (fun _ k => XS.goto X141.here hx rfl (pc0 := 201) (pc' := 205) rfl (hb hby at_201) (by decide) (by decide) k) ?_
      refine Go.on (fun _ k => XS.iload X141.here hx rfl (hb hby at_205) rfl k) ?_
      refine Go.on (fun _ k => XS.iconst X141.here hx rfl (hb hby at_207) k) ?_
      show Go _ _ _ _ _ _ _ _ (mkF m 208 #[Si i0, Si i1, Si i2, Si i3, Si i4, Sj jw, .second, Si 3, Si 0, Sj ja, .second, Sj jb, .second, Sj jc, .second, Sj jd, .second, Sj jn, .second, Sj jm, .second, Sd wd, .second, Sr q, Sd ra, .second, Sd rb, .second, .unset, .unset] [(.int 2), (.int 3), (.int (inV ja jn jw))])
      have hc142 : ¬ ((3 : Int32) < (2 : Int32)) := by decide
      refine Go.on (fun _ k => XS.icmpNo X141.here hx rfl (hb hby at_208) rfl (flt hc142).1 k) ?_
      refine Go.on (fun _ k => XS.lload X141.here hx rfl (hb hby at_211) rfl k) ?_
      refine Go.on (fun _ k => XS.lload X141.here hx rfl (hb hby at_213) rfl k) ?_
      refine Go.on (fun _ k => XS.lload X141.here hx rfl (hb hby at_215) rfl k) ?_
      show Go _ _ _ _ _ _ _ _ (mkF m 217 #[Si i0, Si i1, Si i2, Si i3, Si i4, Sj jw, .second, Si 3, Si 0, Sj ja, .second, Sj jb, .second, Sj jc, .second, Sj jd, .second, Sj jn, .second, Sj jm, .second, Sd wd, .second, Sr q, Sd ra, .second, Sd rb, .second, .unset, .unset] [(.long jw), (.long jn), (.long jb), (.int (inV ja jn jw))])
      obtain ⟨_, _, ⟨T143, L143, k143, n143⟩, -, X143, ⟨Lc143, hQ143, l143, y143, z143⟩, st143⟩ := Jvm.LawKit.callS X141 hx (y := (⟨"com/example/deliberate_scaler/deliberatescaler/model/RateWindowRatePinLaw", "in", "(JJJ)I"⟩ : MethodName)) hown (mvT hZ (hw _ (List.mem_of_getElem? (i := 32) rfl))) (mvT hZ (hw _ (List.mem_of_getElem? (i := 33) rfl))) (mvT hZ (hw _ (List.mem_of_getElem? (i := 34) rfl))) (mvT hZ (hw _ (List.mem_of_getElem? (i := 35) rfl))) (by decide) (backOf (W := 1) (rm5 l Z aw hw [] jb jn jw  h139 n0 ZZ ) hZ (hw _ (List.mem_of_getElem? (i := 35) rfl)) (hw _ (List.mem_of_getElem? (i := 34) rfl)) (by decide) (by decide)) (g := (mkF m 217 #[Si i0, Si i1, Si i2, Si i3, Si i4, Sj jw, .second, Si 3, Si 0, Sj ja, .second, Sj jb, .second, Sj jc, .second, Sj jd, .second, Sj jn, .second, Sj jm, .second, Sd wd, .second, Sr q, Sd ra, .second, Sd rb, .second, .unset, .unset] [(.long jw), (.long jn), (.long jb), (.int (inV ja jn jw))])) rfl (by rw [hml]; rfl) (argsL := [(.long jb), (.long jn), (.long jw)]) (rest := [(.int (inV ja jn jw))]) (lenOf pd_2 rfl) rfl (by show 2 * 0 + _ ≤ _; exact Nat.le_of_eq rfl) (hb hby at_217) (fun _ _ => ⟨rfl, e141, (by decide : 2 + 0 ≤ _), (by decide : 69 + 0 ≤ _)⟩)
      dsimp only [Pt.U, Pt.locs, Pt.cells, Pt.slots] at X143 l143 y143 z143 st143 hQ143
      subst l143 y143 z143
      obtain ⟨rfl, N143q, e143⟩ := hQ143
      have N143 := Fr.app N141 N143q
      refine Go.on st143 ?_
      show Go _ _ _ _ _ _ _ _ (mkF m 220 #[Si i0, Si i1, Si i2, Si i3, Si i4, Sj jw, .second, Si 3, Si 0, Sj ja, .second, Sj jb, .second, Sj jc, .second, Sj jd, .second, Sj jn, .second, Sj jm, .second, Sd wd, .second, Sr q, Sd ra, .second, Sd rb, .second, .unset, .unset] [(.int (inV jb jn jw)), (.int (inV ja jn jw))])
      refine Go.on (fun _ k => XS.goto X143.here hx rfl (pc0 := 220) (pc' := 224) rfl (hb hby at_220) (by decide) (by decide) k) ?_
      refine Go.on (fun _ k => XS.iadd X143.here hx rfl (hb hby at_224) rfl k) ?_
      refine Go.on (fun _ k => XS.iload X143.here hx rfl (hb hby at_225) rfl k) ?_
      refine Go.on (fun _ k => XS.iconst X143.here hx rfl (hb hby at_227) k) ?_
      show Go _ _ _ _ _ _ _ _ (mkF m 228 #[Si i0, Si i1, Si i2, Si i3, Si i4, Sj jw, .second, Si 3, Si 0, Sj ja, .second, Sj jb, .second, Sj jc, .second, Sj jd, .second, Sj jn, .second, Sj jm, .second, Sd wd, .second, Sr q, Sd ra, .second, Sd rb, .second, .unset, .unset] [(.int 3), (.int 3), (.int ((inV ja jn jw) + (inV jb jn jw)))])
      have hc144 : ¬ ((3 : Int32) < (3 : Int32)) := by decide
      refine Go.on (fun _ k => XS.icmpNo X143.here hx rfl (hb hby at_228) rfl (flt hc144).1 k) ?_
      refine Go.on (fun _ k => XS.lload X143.here hx rfl (hb hby at_231) rfl k) ?_
      refine Go.on (fun _ k => XS.lload X143.here hx rfl (hb hby at_233) rfl k) ?_
      refine Go.on (fun _ k => XS.lload X143.here hx rfl (hb hby at_235) rfl k) ?_
      show Go _ _ _ _ _ _ _ _ (mkF m 237 #[Si i0, Si i1, Si i2, Si i3, Si i4, Sj jw, .second, Si 3, Si 0, Sj ja, .second, Sj jb, .second, Sj jc, .second, Sj jd, .second, Sj jn, .second, Sj jm, .second, Sd wd, .second, Sr q, Sd ra, .second, Sd rb, .second, .unset, .unset] [(.long jw), (.long jn), (.long jc), (.int ((inV ja jn jw) + (inV jb jn jw)))])
      obtain ⟨_, _, ⟨T145, L145, k145, n145⟩, -, X145, ⟨Lc145, hQ145, l145, y145, z145⟩, st145⟩ := Jvm.LawKit.callS X143 hx (y := (⟨"com/example/deliberate_scaler/deliberatescaler/model/RateWindowRatePinLaw", "in", "(JJJ)I"⟩ : MethodName)) hown (mvT hZ (hw _ (List.mem_of_getElem? (i := 32) rfl))) (mvT hZ (hw _ (List.mem_of_getElem? (i := 33) rfl))) (mvT hZ (hw _ (List.mem_of_getElem? (i := 34) rfl))) (mvT hZ (hw _ (List.mem_of_getElem? (i := 35) rfl))) (by decide) (backOf (W := 1) (rm5 l Z aw hw [] jc jn jw  h139 n0 ZZ ) hZ (hw _ (List.mem_of_getElem? (i := 35) rfl)) (hw _ (List.mem_of_getElem? (i := 34) rfl)) (by decide) (by decide)) (g := (mkF m 237 #[Si i0, Si i1, Si i2, Si i3, Si i4, Sj jw, .second, Si 3, Si 0, Sj ja, .second, Sj jb, .second, Sj jc, .second, Sj jd, .second, Sj jn, .second, Sj jm, .second, Sd wd, .second, Sr q, Sd ra, .second, Sd rb, .second, .unset, .unset] [(.long jw), (.long jn), (.long jc), (.int ((inV ja jn jw) + (inV jb jn jw)))])) rfl (by rw [hml]; rfl) (argsL := [(.long jc), (.long jn), (.long jw)]) (rest := [(.int ((inV ja jn jw) + (inV jb jn jw)))]) (lenOf pd_2 rfl) rfl (by show 2 * 0 + _ ≤ _; exact Nat.le_of_eq rfl) (hb hby at_237) (fun _ _ => ⟨rfl, e143, (by decide : 2 + 0 ≤ _), (by decide : 69 + 0 ≤ _)⟩)
      dsimp only [Pt.U, Pt.locs, Pt.cells, Pt.slots] at X145 l145 y145 z145 st145 hQ145
      subst l145 y145 z145
      obtain ⟨rfl, N145q, e145⟩ := hQ145
      have N145 := Fr.app N143 N145q
      refine Go.on st145 ?_
      show Go _ _ _ _ _ _ _ _ (mkF m 240 #[Si i0, Si i1, Si i2, Si i3, Si i4, Sj jw, .second, Si 3, Si 0, Sj ja, .second, Sj jb, .second, Sj jc, .second, Sj jd, .second, Sj jn, .second, Sj jm, .second, Sd wd, .second, Sr q, Sd ra, .second, Sd rb, .second, .unset, .unset] [(.int (inV jc jn jw)), (.int ((inV ja jn jw) + (inV jb jn jw)))])
      refine Go.on (fun _ k => XS.goto X145.here hx rfl (pc0 := 240) (pc' := 244) rfl (hb hby at_240) (by decide) (by decide) k) ?_
      refine Go.on (fun _ k => XS.iadd X145.here hx rfl (hb hby at_244) rfl k) ?_
      show Go _ _ _ _ _ _ _ _ (mkF m 245 #[Si i0, Si i1, Si i2, Si i3, Si i4, Sj jw, .second, Si 3, Si 0, Sj ja, .second, Sj jb, .second, Sj jc, .second, Sj jd, .second, Sj jn, .second, Sj jm, .second, Sd wd, .second, Sr q, Sd ra, .second, Sd rb, .second, .unset, .unset] [(.int (((inV ja jn jw) + (inV jb jn jw)) + (inV jc jn jw)))])
      refine Go.on (fun _ k => XS.istore X145.here hx rfl (hb hby at_245) rfl (l' := #[.val (.int i0), .val (.int i1), .val (.int i2), .val (.int i3), .val (.int i4), .val (.long jw), .second, .val (.int (3 : Int32)), .val (.int (0 : Int32)), .val (.long ja), .second, .val (.long jb), .second, .val (.long jc), .second, .val (.long jd), .second, .val (.long jn), .second, .val (.long jm), .second, .val (.double wd), .second, .val (.ref q), .val (.double ra), .second, .val (.double rb), .second, .val (.int (((inV ja jn jw) + (inV jb jn jw)) + (inV jc jn jw))), .unset]) rfl k) ?_
      show Go _ _ _ _ _ _ _ _ (mkF m 247 #[Si i0, Si i1, Si i2, Si i3, Si i4, Sj jw, .second, Si 3, Si 0, Sj ja, .second, Sj jb, .second, Sj jc, .second, Sj jd, .second, Sj jn, .second, Sj jm, .second, Sd wd, .second, Sr q, Sd ra, .second, Sd rb, .second, .val (.int (((inV ja jn jw) + (inV jb jn jw)) + (inV jc jn jw))), .unset] [])
      generalize hca : (((inV ja jn jw) + (inV jb jn jw)) + (inV jc jn jw)) = ca
      show Go _ _ _ _ _ _ _ _ (mkF m 247 #[Si i0, Si i1, Si i2, Si i3, Si i4, Sj jw, .second, Si 3, Si 0, Sj ja, .second, Sj jb, .second, Sj jc, .second, Sj jd, .second, Sj jn, .second, Sj jm, .second, Sd wd, .second, Sr q, Sd ra, .second, Sd rb, .second, Si ca, .unset] [])
      refine Go.on (fun _ k => XS.iload X145.here hx rfl (hb hby at_247) rfl k) ?_
      refine Go.on (fun _ k => XS.iconst X145.here hx rfl (hb hby at_249) k) ?_
      show Go _ _ _ _ _ _ _ _ (mkF m 250 #[Si i0, Si i1, Si i2, Si i3, Si i4, Sj jw, .second, Si 3, Si 0, Sj ja, .second, Sj jb, .second, Sj jc, .second, Sj jd, .second, Sj jn, .second, Sj jm, .second, Sd wd, .second, Sr q, Sd ra, .second, Sd rb, .second, Si ca, .unset] [(.int 1), (.int 3)])
      have hc146 : ¬ ((3 : Int32) < (1 : Int32)) := by decide
      refine Go.on (fun _ k => XS.icmpNo X145.here hx rfl (hb hby at_250) rfl (flt hc146).1 k) ?_
      refine Go.on (fun _ k => XS.lload X145.here hx rfl (hb hby at_253) rfl k) ?_
      refine Go.on (fun _ k => XS.lload X145.here hx rfl (hb hby at_255) rfl k) ?_
      refine Go.on (fun _ k => XS.lload X145.here hx rfl (hb hby at_257) rfl k) ?_
      show Go _ _ _ _ _ _ _ _ (mkF m 259 #[Si i0, Si i1, Si i2, Si i3, Si i4, Sj jw, .second, Si 3, Si 0, Sj ja, .second, Sj jb, .second, Sj jc, .second, Sj jd, .second, Sj jn, .second, Sj jm, .second, Sd wd, .second, Sr q, Sd ra, .second, Sd rb, .second, Si ca, .unset] [(.long jw), (.long jm), (.long ja)])
      obtain ⟨_, _, ⟨T147, L147, k147, n147⟩, -, X147, ⟨Lc147, hQ147, l147, y147, z147⟩, st147⟩ := Jvm.LawKit.callS X145 hx (y := (⟨"com/example/deliberate_scaler/deliberatescaler/model/RateWindowRatePinLaw", "in", "(JJJ)I"⟩ : MethodName)) hown (mvT hZ (hw _ (List.mem_of_getElem? (i := 32) rfl))) (mvT hZ (hw _ (List.mem_of_getElem? (i := 33) rfl))) (mvT hZ (hw _ (List.mem_of_getElem? (i := 34) rfl))) (mvT hZ (hw _ (List.mem_of_getElem? (i := 35) rfl))) (by decide) (backOf (W := 0) (rm5 l Z aw hw [] ja jm jw  h139 n0 ZZ ) hZ (hw _ (List.mem_of_getElem? (i := 35) rfl)) (hw _ (List.mem_of_getElem? (i := 34) rfl)) (by decide) (by decide)) (g := (mkF m 259 #[Si i0, Si i1, Si i2, Si i3, Si i4, Sj jw, .second, Si 3, Si 0, Sj ja, .second, Sj jb, .second, Sj jc, .second, Sj jd, .second, Sj jn, .second, Sj jm, .second, Sd wd, .second, Sr q, Sd ra, .second, Sd rb, .second, Si ca, .unset] [(.long jw), (.long jm), (.long ja)])) rfl (by rw [hml]; rfl) (argsL := [(.long ja), (.long jm), (.long jw)]) (rest := []) (lenOf pd_2 rfl) rfl (by show 2 * 0 + _ ≤ _; exact Nat.le_of_eq rfl) (hb hby at_259) (fun _ _ => ⟨rfl, e145, (by decide : 2 + 0 ≤ _), (by decide : 69 + 0 ≤ _)⟩)
      dsimp only [Pt.U, Pt.locs, Pt.cells, Pt.slots] at X147 l147 y147 z147 st147 hQ147
      subst l147 y147 z147
      obtain ⟨rfl, N147q, e147⟩ := hQ147
      have N147 := Fr.app N145 N147q
      refine Go.on st147 ?_
      show Go _ _ _ _ _ _ _ _ (mkF m 262 #[Si i0, Si i1, Si i2, Si i3, Si i4, Sj jw, .second, Si 3, Si 0, Sj ja, .second, Sj jb, .second, Sj jc, .second, Sj jd, .second, Sj jn, .second, Sj jm, .second, Sd wd, .second, Sr q, Sd ra, .second, Sd rb, .second, Si ca, .unset] [(.int (inV ja jm jw))])
      refine Go.on (fun _ k => XS.goto X147.here hx rfl (pc0 := 262) (pc' := 266) rfl (hb hby at_262) (by decide) (by decide) k) ?_
      refine Go.on (fun _ k => XS.iload X147.here hx rfl (hb hby at_266) rfl k) ?_
      refine Go.on (fun _ k => XS.iconst X147.here hx rfl (hb hby at_268) k) ?_
      show Go _ _ _ _ _ _ _ _ (mkF m 269 #[Si i0, Si i1, Si i2, Si i3, Si i4, Sj jw, .second, Si 3, Si 0, Sj ja, .second, Sj jb, .second, Sj jc, .second, Sj jd, .second, Sj jn, .second, Sj jm, .second, Sd wd, .second, Sr q, Sd ra, .second, Sd rb, .second, Si ca, .unset] [(.int 2), (.int 3), (.int (inV ja jm jw))])
      have hc148 : ¬ ((3 : Int32) < (2 : Int32)) := by decide
      refine Go.on (fun _ k => XS.icmpNo X147.here hx rfl (hb hby at_269) rfl (flt hc148).1 k) ?_
      refine Go.on (fun _ k => XS.lload X147.here hx rfl (hb hby at_272) rfl k) ?_
      refine Go.on (fun _ k => XS.lload X147.here hx rfl (hb hby at_274) rfl k) ?_
      refine Go.on (fun _ k => XS.lload X147.here hx rfl (hb hby at_276) rfl k) ?_
      show Go _ _ _ _ _ _ _ _ (mkF m 278 #[Si i0, Si i1, Si i2, Si i3, Si i4, Sj jw, .second, Si 3, Si 0, Sj ja, .second, Sj jb, .second, Sj jc, .second, Sj jd, .second, Sj jn, .second, Sj jm, .second, Sd wd, .second, Sr q, Sd ra, .second, Sd rb, .second, Si ca, .unset] [(.long jw), (.long jm), (.long jb), (.int (inV ja jm jw))])
      obtain ⟨_, _, ⟨T149, L149, k149, n149⟩, -, X149, ⟨Lc149, hQ149, l149, y149, z149⟩, st149⟩ := Jvm.LawKit.callS X147 hx (y := (⟨"com/example/deliberate_scaler/deliberatescaler/model/RateWindowRatePinLaw", "in", "(JJJ)I"⟩ : MethodName)) hown (mvT hZ (hw _ (List.mem_of_getElem? (i := 32) rfl))) (mvT hZ (hw _ (List.mem_of_getElem? (i := 33) rfl))) (mvT hZ (hw _ (List.mem_of_getElem? (i := 34) rfl))) (mvT hZ (hw _ (List.mem_of_getElem? (i := 35) rfl))) (by decide) (backOf (W := 1) (rm5 l Z aw hw [] jb jm jw  h139 n0 ZZ ) hZ (hw _ (List.mem_of_getElem? (i := 35) rfl)) (hw _ (List.mem_of_getElem? (i := 34) rfl)) (by decide) (by decide)) (g := (mkF m 278 #[Si i0, Si i1, Si i2, Si i3, Si i4, Sj jw, .second, Si 3, Si 0, Sj ja, .second, Sj jb, .second, Sj jc, .second, Sj jd, .second, Sj jn, .second, Sj jm, .second, Sd wd, .second, Sr q, Sd ra, .second, Sd rb, .second, Si ca, .unset] [(.long jw), (.long jm), (.long jb), (.int (inV ja jm jw))])) rfl (by rw [hml]; rfl) (argsL := [(.long jb), (.long jm), (.long jw)]) (rest := [(.int (inV ja jm jw))]) (lenOf pd_2 rfl) rfl (by show 2 * 0 + _ ≤ _; exact Nat.le_of_eq rfl) (hb hby at_278) (fun _ _ => ⟨rfl, e147, (by decide : 2 + 0 ≤ _), (by decide : 69 + 0 ≤ _)⟩)
      dsimp only [Pt.U, Pt.locs, Pt.cells, Pt.slots] at X149 l149 y149 z149 st149 hQ149
      subst l149 y149 z149
      obtain ⟨rfl, N149q, e149⟩ := hQ149
      have N149 := Fr.app N147 N149q
      refine Go.on st149 ?_
      show Go _ _ _ _ _ _ _ _ (mkF m 281 #[Si i0, Si i1, Si i2, Si i3, Si i4, Sj jw, .second, Si 3, Si 0, Sj ja, .second, Sj jb, .second, Sj jc, .second, Sj jd, .second, Sj jn, .second, Sj jm, .second, Sd wd, .second, Sr q, Sd ra, .second, Sd rb, .second, Si ca, .unset] [(.int (inV jb jm jw)), (.int (inV ja jm jw))])
      refine Go.on (fun _ k => XS.goto X149.here hx rfl (pc0 := 281) (pc' := 285) rfl (hb hby at_281) (by decide) (by decide) k) ?_
      refine Go.on (fun _ k => XS.iadd X149.here hx rfl (hb hby at_285) rfl k) ?_
      refine Go.on (fun _ k => XS.iload X149.here hx rfl (hb hby at_286) rfl k) ?_
      refine Go.on (fun _ k => XS.iconst X149.here hx rfl (hb hby at_288) k) ?_
      show Go _ _ _ _ _ _ _ _ (mkF m 289 #[Si i0, Si i1, Si i2, Si i3, Si i4, Sj jw, .second, Si 3, Si 0, Sj ja, .second, Sj jb, .second, Sj jc, .second, Sj jd, .second, Sj jn, .second, Sj jm, .second, Sd wd, .second, Sr q, Sd ra, .second, Sd rb, .second, Si ca, .unset] [(.int 3), (.int 3), (.int ((inV ja jm jw) + (inV jb jm jw)))])
      have hc150 : ¬ ((3 : Int32) < (3 : Int32)) := by decide
      refine Go.on (fun _ k => XS.icmpNo X149.here hx rfl (hb hby at_289) rfl (flt hc150).1 k) ?_
      refine Go.on (fun _ k => XS.lload X149.here hx rfl (hb hby at_292) rfl k) ?_
      refine Go.on (fun _ k => XS.lload X149.here hx rfl (hb hby at_294) rfl k) ?_
      refine Go.on (fun _ k => XS.lload X149.here hx rfl (hb hby at_296) rfl k) ?_
      show Go _ _ _ _ _ _ _ _ (mkF m 298 #[Si i0, Si i1, Si i2, Si i3, Si i4, Sj jw, .second, Si 3, Si 0, Sj ja, .second, Sj jb, .second, Sj jc, .second, Sj jd, .second, Sj jn, .second, Sj jm, .second, Sd wd, .second, Sr q, Sd ra, .second, Sd rb, .second, Si ca, .unset] [(.long jw), (.long jm), (.long jc), (.int ((inV ja jm jw) + (inV jb jm jw)))])
      obtain ⟨_, _, ⟨T151, L151, k151, n151⟩, -, X151, ⟨Lc151, hQ151, l151, y151, z151⟩, st151⟩ := Jvm.LawKit.callS X149 hx (y := (⟨"com/example/deliberate_scaler/deliberatescaler/model/RateWindowRatePinLaw", "in", "(JJJ)I"⟩ : MethodName)) hown (mvT hZ (hw _ (List.mem_of_getElem? (i := 32) rfl))) (mvT hZ (hw _ (List.mem_of_getElem? (i := 33) rfl))) (mvT hZ (hw _ (List.mem_of_getElem? (i := 34) rfl))) (mvT hZ (hw _ (List.mem_of_getElem? (i := 35) rfl))) (by decide) (backOf (W := 1) (rm5 l Z aw hw [] jc jm jw  h139 n0 ZZ ) hZ (hw _ (List.mem_of_getElem? (i := 35) rfl)) (hw _ (List.mem_of_getElem? (i := 34) rfl)) (by decide) (by decide)) (g := (mkF m 298 #[Si i0, Si i1, Si i2, Si i3, Si i4, Sj jw, .second, Si 3, Si 0, Sj ja, .second, Sj jb, .second, Sj jc, .second, Sj jd, .second, Sj jn, .second, Sj jm, .second, Sd wd, .second, Sr q, Sd ra, .second, Sd rb, .second, Si ca, .unset] [(.long jw), (.long jm), (.long jc), (.int ((inV ja jm jw) + (inV jb jm jw)))])) rfl (by rw [hml]; rfl) (argsL := [(.long jc), (.long jm), (.long jw)]) (rest := [(.int ((inV ja jm jw) + (inV jb jm jw)))]) (lenOf pd_2 rfl) rfl (by show 2 * 0 + _ ≤ _; exact Nat.le_of_eq rfl) (hb hby at_298) (fun _ _ => ⟨rfl, e149, (by decide : 2 + 0 ≤ _), (by decide : 69 + 0 ≤ _)⟩)
      dsimp only [Pt.U, Pt.locs, Pt.cells, Pt.slots] at X151 l151 y151 z151 st151 hQ151
      subst l151 y151 z151
      obtain ⟨rfl, N151q, e151⟩ := hQ151
      have N151 := Fr.app N149 N151q
      refine Go.on st151 ?_
      show Go _ _ _ _ _ _ _ _ (mkF m 301 #[Si i0, Si i1, Si i2, Si i3, Si i4, Sj jw, .second, Si 3, Si 0, Sj ja, .second, Sj jb, .second, Sj jc, .second, Sj jd, .second, Sj jn, .second, Sj jm, .second, Sd wd, .second, Sr q, Sd ra, .second, Sd rb, .second, Si ca, .unset] [(.int (inV jc jm jw)), (.int ((inV ja jm jw) + (inV jb jm jw)))])
      refine Go.on (fun _ k => XS.goto X151.here hx rfl (pc0 := 301) (pc' := 305) rfl (hb hby at_301) (by decide) (by decide) k) ?_
      refine Go.on (fun _ k => XS.iadd X151.here hx rfl (hb hby at_305) rfl k) ?_
      refine Go.on (fun _ k => XS.iload X151.here hx rfl (hb hby at_306) rfl k) ?_
      show Go _ _ _ _ _ _ _ _ (mkF m 308 #[Si i0, Si i1, Si i2, Si i3, Si i4, Sj jw, .second, Si 3, Si 0, Sj ja, .second, Sj jb, .second, Sj jc, .second, Sj jd, .second, Sj jn, .second, Sj jm, .second, Sd wd, .second, Sr q, Sd ra, .second, Sd rb, .second, Si ca, .unset] [(.int 0), (.int (((inV ja jm jw) + (inV jb jm jw)) + (inV jc jm jw)))])
      have hc152 : (0 : Int32) = (0 : Int32) := by decide
      refine Go.on (fun _ k => XS.ifYes X151.here hx rfl (pc0 := 308) (pc' := 323) rfl (hb hby at_308) rfl ((if0 _ _).trans (teq hc152).1) (by decide) (by decide) k) ?_
      refine Go.on (fun _ k => XS.iconst X151.here hx rfl (hb hby at_323) k) ?_
      refine Go.on (fun _ k => XS.iadd X151.here hx rfl (hb hby at_324) rfl k) ?_
      show Go _ _ _ _ _ _ _ _ (mkF m 325 #[Si i0, Si i1, Si i2, Si i3, Si i4, Sj jw, .second, Si 3, Si 0, Sj ja, .second, Sj jb, .second, Sj jc, .second, Sj jd, .second, Sj jn, .second, Sj jm, .second, Sd wd, .second, Sr q, Sd ra, .second, Sd rb, .second, Si ca, .unset] [(.int ((((inV ja jm jw) + (inV jb jm jw)) + (inV jc jm jw)) + (0 : Int32)))])
      refine Go.on (fun _ k => XS.istore X151.here hx rfl (hb hby at_325) rfl (l' := #[.val (.int i0), .val (.int i1), .val (.int i2), .val (.int i3), .val (.int i4), .val (.long jw), .second, .val (.int (3 : Int32)), .val (.int (0 : Int32)), .val (.long ja), .second, .val (.long jb), .second, .val (.long jc), .second, .val (.long jd), .second, .val (.long jn), .second, .val (.long jm), .second, .val (.double wd), .second, .val (.ref q), .val (.double ra), .second, .val (.double rb), .second, .val (.int ca), .val (.int ((((inV ja jm jw) + (inV jb jm jw)) + (inV jc jm jw)) + (0 : Int32)))]) rfl k) ?_
      show Go _ _ _ _ _ _ _ _ (mkF m 327 #[Si i0, Si i1, Si i2, Si i3, Si i4, Sj jw, .second, Si 3, Si 0, Sj ja, .second, Sj jb, .second, Sj jc, .second, Sj jd, .second, Sj jn, .second, Sj jm, .second, Sd wd, .second, Sr q, Sd ra, .second, Sd rb, .second, Si ca, .val (.int ((((inV ja jm jw) + (inV jb jm jw)) + (inV jc jm jw)) + (0 : Int32)))] [])
      generalize hcb : ((((inV ja jm jw) + (inV jb jm jw)) + (inV jc jm jw)) + (0 : Int32)) = cb
      show Go _ _ _ _ _ _ _ _ (mkF m 327 #[Si i0, Si i1, Si i2, Si i3, Si i4, Sj jw, .second, Si 3, Si 0, Sj ja, .second, Sj jb, .second, Sj jc, .second, Sj jd, .second, Sj jn, .second, Sj jm, .second, Sd wd, .second, Sr q, Sd ra, .second, Sd rb, .second, Si ca, Si cb] [])
      refine Go.on (fun _ k => XS.dload X151.here hx rfl (hb hby at_327) rfl k) ?_
      refine Go.on (fun _ k => XS.iload X151.here hx rfl (hb hby at_329) rfl k) ?_
      refine Go.on (fun _ k => XS.i2dS X151.here hx rfl (hb hby at_331) rfl rfl k) ?_
      refine Go.on (fun _ k => XS.dload X151.here hx rfl (hb hby at_332) rfl k) ?_
      show Go _ _ _ _ _ _ _ _ (mkF m 334 #[Si i0, Si i1, Si i2, Si i3, Si i4, Sj jw, .second, Si 3, Si 0, Sj ja, .second, Sj jb, .second, Sj jc, .second, Sj jd, .second, Sj jn, .second, Sj jm, .second, Sd wd, .second, Sr q, Sd ra, .second, Sd rb, .second, Si ca, Si cb] [(.double wd), (.double (FP.i2d ca)), (.double ra)])
      refine Go.on (fun _ k => XS.ddivS X151.here hx rfl (hb hby at_334) rfl ((own_rt _ hwd.symm hwj.1 Bjw)) rfl k) ?_
      show Go _ _ _ _ _ _ _ _ (mkF m 335 #[Si i0, Si i1, Si i2, Si i3, Si i4, Sj jw, .second, Si 3, Si 0, Sj ja, .second, Sj jb, .second, Sj jc, .second, Sj jd, .second, Sj jn, .second, Sj jm, .second, Sd wd, .second, Sr q, Sd ra, .second, Sd rb, .second, Si ca, Si cb] [(.double (FP.ddiv (FP.i2d ca) wd)), (.double ra)])
      refine Go.on (fun _ k => XS.dcmpS X151.here hx rfl (hb hby at_335) rfl rfl k) ?_
      show Go _ _ _ _ _ _ _ _ (mkF m 336 #[Si i0, Si i1, Si i2, Si i3, Si i4, Sj jw, .second, Si 3, Si 0, Sj ja, .second, Sj jb, .second, Sj jc, .second, Sj jd, .second, Sj jn, .second, Sj jm, .second, Sd wd, .second, Sr q, Sd ra, .second, Sd rb, .second, Si ca, Si cb] [(.int (cmpValue (FP.dcmp ra (FP.ddiv (FP.i2d ca) wd)) .l))])
      have hc153 : (cmpValue (FP.dcmp ra (FP.ddiv (FP.i2d ca) wd)) .l) = (0 : Int32) := own_same hra (by first | exact hca | rfl | (rw [← hca]; simp) | simp) hwd hwj.1 Bjw
      refine Go.on (fun _ k => XS.ifNo X151.here hx rfl (hb hby at_336) rfl ((if0 _ _).trans (teq hc153).2) k) ?_
      refine Go.on (fun _ k => XS.dload X151.here hx rfl (hb hby at_339) rfl k) ?_
      refine Go.on (fun _ k => XS.iload X151.here hx rfl (hb hby at_341) rfl k) ?_
      refine Go.on (fun _ k => XS.i2dS X151.here hx rfl (hb hby at_343) rfl rfl k) ?_
      refine Go.on (fun _ k => XS.dload X151.here hx rfl (hb hby at_344) rfl k) ?_
      show Go _ _ _ _ _ _ _ _ (mkF m 346 #[Si i0, Si i1, Si i2, Si i3, Si i4, Sj jw, .second, Si 3, Si 0, Sj ja, .second, Sj jb, .second, Sj jc, .second, Sj jd, .second, Sj jn, .second, Sj jm, .second, Sd wd, .second, Sr q, Sd ra, .second, Sd rb, .second, Si ca, Si cb] [(.double wd), (.double (FP.i2d cb)), (.double rb)])
      refine Go.on (fun _ k => XS.ddivS X151.here hx rfl (hb hby at_346) rfl ((own_rt _ hwd.symm hwj.1 Bjw)) rfl k) ?_
      show Go _ _ _ _ _ _ _ _ (mkF m 347 #[Si i0, Si i1, Si i2, Si i3, Si i4, Sj jw, .second, Si 3, Si 0, Sj ja, .second, Sj jb, .second, Sj jc, .second, Sj jd, .second, Sj jn, .second, Sj jm, .second, Sd wd, .second, Sr q, Sd ra, .second, Sd rb, .second, Si ca, Si cb] [(.double (FP.ddiv (FP.i2d cb) wd)), (.double rb)])
      refine Go.on (fun _ k => XS.dcmpS X151.here hx rfl (hb hby at_347) rfl rfl k) ?_
      show Go _ _ _ _ _ _ _ _ (mkF m 348 #[Si i0, Si i1, Si i2, Si i3, Si i4, Sj jw, .second, Si 3, Si 0, Sj ja, .second, Sj jb, .second, Sj jc, .second, Sj jd, .second, Sj jn, .second, Sj jm, .second, Sd wd, .second, Sr q, Sd ra, .second, Sd rb, .second, Si ca, Si cb] [(.int (cmpValue (FP.dcmp rb (FP.ddiv (FP.i2d cb) wd)) .l))])
      have hc154 : (cmpValue (FP.dcmp rb (FP.ddiv (FP.i2d cb) wd)) .l) = (0 : Int32) := own_same hrb (by first | exact hcb | rfl | (rw [← hcb]; simp) | simp) hwd hwj.1 Bjw
      refine Go.on (fun _ k => XS.ifNo X151.here hx rfl (hb hby at_348) rfl ((if0 _ _).trans (teq hc154).2) k) ?_
      refine Go.on (fun _ k => XS.iconst X151.here hx rfl (hb hby at_351) k) ?_
      refine Go.on (fun _ k => XS.goto X151.here hx rfl (pc0 := 352) (pc' := 356) rfl (hb hby at_352) (by decide) (by decide) k) ?_
      show Go _ _ _ _ _ _ _ _ (mkF m 356 #[Si i0, Si i1, Si i2, Si i3, Si i4, Sj jw, .second, Si 3, Si 0, Sj ja, .second, Sj jb, .second, Sj jc, .second, Sj jd, .second, Sj jn, .second, Sj jm, .second, Sd wd, .second, Sr q, Sd ra, .second, Sd rb, .second, Si ca, Si cb] [(.int 1)])
      refine Go.retN X151 hx (t := .boolean) Bd.returns (by simp) (hb hby at_356) ?_ (by rw [hK1]; decide) (by rw [hK2]; decide)
      rw [e151, ← hQQ]
      exact ⟨rfl, N151⟩
    · -- late 1
      subst hk
      show Go _ _ _ _ _ _ _ _ (mkF m 100 #[Si i0, Si i1, Si i2, Si i3, Si i4, Sj jw, .second, Si 3, Si 1, Sj ja, .second, Sj jb, .second, Sj jc, .second, Sj jd, .second, Sj jn, .second, Sj jm, .second, Sd wd, .second, .unset, .unset, .unset, .unset, .unset, .unset, .unset] [])
      obtain ⟨T155, h155, X155, e155, E155, A155, D155, -, st155⟩ := newO X0 hx hZ hown (hw _ (List.mem_of_getElem? (i := 0) rfl)) (hw _ (List.mem_of_getElem? (i := 1) rfl)) (hw _ (List.mem_of_getElem? (i := 2) rfl)) e0 (g := (mkF m 100 #[Si i0, Si i1, Si i2, Si i3, Si i4, Sj jw, .second, Si 3, Si 1, Sj ja, .second, Sj jb, .second, Sj jc, .second, Sj jd, .second, Sj jn, .second, Sj jm, .second, Sd wd, .second, .unset, .unset, .unset, .unset, .unset, .unset, .unset] [])) rfl (hb hby at_100) (by decide) (by decide)
      obtain ⟨q, g155⟩ : ∃ z, z = h0.size := ⟨_, rfl⟩
      have g_q : n0 ≤ q := Nat.le_trans ZZ (Nat.le_of_eq g155.symm)
      rw [← g155] at A155 D155 st155
      replace ZZ := Nat.le_trans ZZ E155.1
      have E_q := A155
      have F_times_q : Fld Z h155 q "com/example/deliberate_scaler/deliberatescaler/model/RateWindow" "times" "[D" .null := D155 (Or.inl (hw _ (List.mem_of_getElem? (i := 11) rfl))) (ty := (.array .double)) (by decide)
      have F_latest_q : Fld Z h155 q "com/example/deliberate_scaler/deliberatescaler/model/RateWindow" "latest" "D" (.double (0 : UInt64)) := D155 (Or.inl (hw _ (List.mem_of_getElem? (i := 14) rfl))) (ty := .double) (by decide)
      have F_window_q : Fld Z h155 q "com/example/deliberate_scaler/deliberatescaler/model/RateWindow" "window" "D" (.double (0 : UInt64)) := D155 (Or.inr (hw _ (List.mem_of_getElem? (i := 17) rfl))) (ty := .double) (by decide)
      have F_end_q : Fld Z h155 q "com/example/deliberate_scaler/deliberatescaler/model/RateWindow" "end" "I" (.int (0 : Int32)) := D155 (Or.inl (hw _ (List.mem_of_getElem? (i := 24) rfl))) (ty := .int) (by decide)
      have F_first_q : Fld Z h155 q "com/example/deliberate_scaler/deliberatescaler/model/RateWindow" "first" "I" (.int (0 : Int32)) := D155 (Or.inl (hw _ (List.mem_of_getElem? (i := 31) rfl))) (ty := .int) (by decide)
      refine Go.on st155 ?_
      show Go _ _ _ _ _ _ _ _ (mkF m 103 #[Si i0, Si i1, Si i2, Si i3, Si i4, Sj jw, .second, Si 3, Si 1, Sj ja, .second, Sj jb, .second, Sj jc, .second, Sj jd, .second, Sj jn, .second, Sj jm, .second, Sd wd, .second, .unset, .unset, .unset, .unset, .unset, .unset, .unset] [(.ref q)])
      refine Go.on (fun _ k => XS.dup X155.here hx rfl (hb hby at_103) rfl rfl k) ?_
      refine Go.on (fun _ k => XS.dload X155.here hx rfl (hb hby at_104) rfl k) ?_
      show Go _ _ _ _ _ _ _ _ (mkF m 106 #[Si i0, Si i1, Si i2, Si i3, Si i4, Sj jw, .second, Si 3, Si 1, Sj ja, .second, Sj jb, .second, Sj jc, .second, Sj jd, .second, Sj jn, .second, Sj jm, .second, Sd wd, .second, .unset, .unset, .unset, .unset, .unset, .unset, .unset] [(.double wd), (.ref q), (.ref q)])
      obtain ⟨_, _, ⟨T156, L156, k156, n156⟩, -, X156, ⟨Lc156, hQ156, l156, y156, z156⟩, st156⟩ := X155.specialBack hx (y := (⟨"com/example/deliberate_scaler/deliberatescaler/model/RateWindow", "<init>", "(D)V"⟩ : MethodName)) rfl hown (mvT hZ (hw _ (List.mem_of_getElem? (i := 3) rfl))) (mvT hZ (hw _ (List.mem_of_getElem? (i := 4) rfl))) (mvT hZ (hw _ (List.mem_of_getElem? (i := 5) rfl))) (by decide) (backOf (W := 1) (rm1 l Z aw hw [] q wd  h155 n0 ZZ E_q F_times_q F_latest_q F_window_q F_first_q F_end_q g_q (own_wpos hwd hwj.1 Bjw) (own_winf hwd Bjw)) hZ (hw _ (List.mem_of_getElem? (i := 5) rfl)) (hw _ (List.mem_of_getElem? (i := 2) rfl)) (by decide) (by decide)) (g := (mkF m 106 #[Si i0, Si i1, Si i2, Si i3, Si i4, Sj jw, .second, Si 3, Si 1, Sj ja, .second, Sj jb, .second, Sj jc, .second, Sj jd, .second, Sj jn, .second, Sj jm, .second, Sd wd, .second, .unset, .unset, .unset, .unset, .unset, .unset, .unset] [(.double wd), (.ref q), (.ref q)])) rfl (by rw [hml]; rfl) (Steps.refl _) (a := q) (argsL := [(.double wd)]) (rest := [(.ref q)]) (lenOf pd_0 rfl) rfl (by show 2 * 0 + _ ≤ _; exact Nat.le_of_eq rfl) (hb hby at_106) (fun _ _ => ⟨rfl, e155, (by decide : 1 + 1 ≤ _), (by decide : 5 + 64 ≤ _)⟩)
      dsimp only [Pt.U, Pt.locs, Pt.cells, Pt.slots] at X156 l156 y156 z156 st156 hQ156
      subst l156 y156 z156
      obtain ⟨h156, e156⟩ : ∃ q, T156.heap = q := ⟨_, rfl⟩
      rw [e156] at hQ156
      obtain ⟨rfl, N156q, ar, k_ar, K156q, szarq, Eq156, F_timesq156, F_latestq156, F_windowq156, F_firstq156, F_endq156, V_ar⟩ := hQ156
      have N156 := Fr.app N0 N156q
      have ZZ156p := ZZ
      have lt_q := E_q.lt
      replace E_q := E_q.keep K156q
      replace ZZ := Nat.le_trans ZZ K156q.1
      have F_times_q := F_timesq156
      have F_latest_q := F_latestq156
      have F_window_q := F_windowq156
      have F_first_q := F_firstq156
      have F_end_q := F_endq156
      replace E_q := Eq156
      have g_ar : n0 ≤ ar := Nat.le_trans ZZ156p szarq
      have ne_q_ar : q ≠ ar := Nat.ne_of_lt (Nat.lt_of_lt_of_le lt_q szarq)
      refine Go.on (fun _ k => st156.trans k) ?_
      show Go _ _ _ _ _ _ _ _ (mkF m 109 #[Si i0, Si i1, Si i2, Si i3, Si i4, Sj jw, .second, Si 3, Si 1, Sj ja, .second, Sj jb, .second, Sj jc, .second, Sj jd, .second, Sj jn, .second, Sj jm, .second, Sd wd, .second, .unset, .unset, .unset, .unset, .unset, .unset, .unset] [(.ref q)])
      refine Go.on (fun _ k => XS.astore X156.here hx rfl (hb hby at_109) rfl rfl (l' := #[.val (.int i0), .val (.int i1), .val (.int i2), .val (.int i3), .val (.int i4), .val (.long jw), .second, .val (.int (3 : Int32)), .val (.int (1 : Int32)), .val (.long ja), .second, .val (.long jb), .second, .val (.long jc), .second, .val (.long jd), .second, .val (.long jn), .second, .val (.long jm), .second, .val (.double wd), .second, .val (.ref q), .unset, .unset, .unset, .unset, .unset, .unset]) rfl k) ?_
      show Go _ _ _ _ _ _ _ _ (mkF m 111 #[Si i0, Si i1, Si i2, Si i3, Si i4, Sj jw, .second, Si 3, Si 1, Sj ja, .second, Sj jb, .second, Sj jc, .second, Sj jd, .second, Sj jn, .second, Sj jm, .second, Sd wd, .second, Sr q, .unset, .unset, .unset, .unset, .unset, .unset] [])
      refine Go.on (fun _ k => XS.iload X156.here hx rfl (hb hby at_111) rfl k) ?_
      refine Go.on (fun _ k => XS.iconst X156.here hx rfl (hb hby at_113) k) ?_
      show Go _ _ _ _ _ _ _ _ (mkF m 114 #[Si i0, Si i1, Si i2, Si i3, Si i4, Sj jw, .second, Si 3, Si 1, Sj ja, .second, Sj jb, .second, Sj jc, .second, Sj jd, .second, Sj jn, .second, Sj jm, .second, Sd wd, .second, Sr q, .unset, .unset, .unset, .unset, .unset, .unset] [(.int 1), (.int 3)])
      have hc157 : ¬ ((3 : Int32) < (1 : Int32)) := by decide
      refine Go.on (fun _ k => XS.icmpNo X156.here hx rfl (hb hby at_114) rfl (flt hc157).1 k) ?_
      refine Go.on (fun _ k => XS.aload X156.here hx rfl (hb hby at_117) rfl rfl k) ?_
      refine Go.on (fun _ k => XS.lload X156.here hx rfl (hb hby at_119) rfl k) ?_
      refine Go.on (fun _ k => XS.l2dS X156.here hx rfl (hb hby at_121) rfl rfl k) ?_
      show Go _ _ _ _ _ _ _ _ (mkF m 122 #[Si i0, Si i1, Si i2, Si i3, Si i4, Sj jw, .second, Si 3, Si 1, Sj ja, .second, Sj jb, .second, Sj jc, .second, Sj jd, .second, Sj jn, .second, Sj jm, .second, Sd wd, .second, Sr q, .unset, .unset, .unset, .unset, .unset, .unset] [(.double (FP.l2d ja)), (.ref q)])
      obtain ⟨cq158, kq158, q158a, q158b, q158c⟩ := isOf hZ e156 E_q
      obtain ⟨_, _, ⟨T158, L158, k158, n158⟩, -, X158, ⟨Lc158, hQ158, l158, y158, z158⟩, st158⟩ := X156.virtualBack hx (y := (⟨"com/example/deliberate_scaler/deliberatescaler/model/RateWindow", "add", "(D)V"⟩ : MethodName)) (z := (⟨"com/example/deliberate_scaler/deliberatescaler/model/RateWindow", "add", "(D)V"⟩ : MethodName)) hown (mvT hZ (hw _ (List.mem_of_getElem? (i := 18) rfl))) (mvT hZ (hw _ (List.mem_of_getElem? (i := 19) rfl))) (notFace_of_selects (args := #[]) (mvT hZ (hw _ (List.mem_of_getElem? (i := 21) rfl)))) (mvT hZ (hw _ (List.mem_of_getElem? (i := 21) rfl))) (mvT hZ (hw _ (List.mem_of_getElem? (i := 20) rfl))) (by decide) (backOf (W := 0) (rw_add_0 l Z aw hw [] q (FP.l2d ja) ar (18442240474082181120 : UInt64) wd (0 : Int32) k_ar h156 n0 ZZ E_q F_times_q F_latest_q F_window_q F_first_q F_end_q V_ar g_q g_ar ne_q_ar (own_inf Bja)) hZ (hw _ (List.mem_of_getElem? (i := 22) rfl)) (hw _ (List.mem_of_getElem? (i := 2) rfl)) (by decide) (by decide)) q158a q158c (g := (mkF m 122 #[Si i0, Si i1, Si i2, Si i3, Si i4, Sj jw, .second, Si 3, Si 1, Sj ja, .second, Sj jb, .second, Sj jc, .second, Sj jd, .second, Sj jn, .second, Sj jm, .second, Sd wd, .second, Sr q, .unset, .unset, .unset, .unset, .unset, .unset] [(.double (FP.l2d ja)), (.ref q)])) rfl (by rw [hml]; rfl) (Steps.refl _) (argsL := [(.double (FP.l2d ja))]) (rest := []) (lenOf pd_0 rfl) rfl (by show 2 * 0 + _ ≤ _; exact Nat.le_of_eq rfl) (hb hby at_122) (fun _ _ => ⟨rfl, e156, (by decide : 2 + 0 ≤ _), (by decide : 69 + 0 ≤ _)⟩)
      dsimp only [Pt.U, Pt.locs, Pt.cells, Pt.slots] at X158 l158 y158 z158 st158 hQ158
      subst l158 y158 z158
      obtain ⟨h158, e158⟩ : ∃ q, T158.heap = q := ⟨_, rfl⟩
      rw [e158] at hQ158
      obtain ⟨rfl, N158q, K158q, Eq158, F_timesq158, F_latestq158, F_windowq158, F_firstq158, F_endq158, V_q158⟩ := hQ158
      have N158 := Fr.app N156 N158q
      have ZZ158p := ZZ
      have lt_q := E_q.lt
      have lt_ar := V_ar.lt
      replace E_q := E_q.keep K158q
      replace ZZ := Nat.le_trans ZZ K158q.1
      have F_times_q := F_timesq158
      have F_latest_q := F_latestq158
      have F_window_q := F_windowq158
      have F_first_q := F_firstq158
      have F_end_q := F_endq158
      replace E_q := Eq158
      have V_ar := V_q158
      refine Go.on (fun _ k => st158.trans k) ?_
      show Go _ _ _ _ _ _ _ _ (mkF m 125 #[Si i0, Si i1, Si i2, Si i3, Si i4, Sj jw, .second, Si 3, Si 1, Sj ja, .second, Sj jb, .second, Sj jc, .second, Sj jd, .second, Sj jn, .second, Sj jm, .second, Sd wd, .second, Sr q, .unset, .unset, .unset, .unset, .unset, .unset] [])
      refine Go.on (fun _ k => XS.iload X158.here hx rfl (hb hby at_125) rfl k) ?_
      refine Go.on (fun _ k => XS.iconst X158.here hx rfl (hb hby at_127) k) ?_
      show Go _ _ _ _ _ _ _ _ (mkF m 128 #[Si i0, Si i1, Si i2, Si i3, Si i4, Sj jw, .second, Si 3, Si 1, Sj ja, .second, Sj jb, .second, Sj jc, .second, Sj jd, .second, Sj jn, .second, Sj jm, .second, Sd wd, .second, Sr q, .unset, .unset, .unset, .unset, .unset, .unset] [(.int 2), (.int 3)])
      have hc159 : ¬ ((3 : Int32) < (2 : Int32)) := by decide
      refine Go.on (fun _ k => XS.icmpNo X158.here hx rfl (hb hby at_128) rfl (flt hc159).1 k) ?_
      refine Go.on (fun _ k => XS.aload X158.here hx rfl (hb hby at_131) rfl rfl k) ?_
      refine Go.on (fun _ k => XS.lload X158.here hx rfl (hb hby at_133) rfl k) ?_
      refine Go.on (fun _ k => XS.l2dS X158.here hx rfl (hb hby at_135) rfl rfl k) ?_
      show Go _ _ _ _ _ _ _ _ (mkF m 136 #[Si i0, Si i1, Si i2, Si i3, Si i4, Sj jw, .second, Si 3, Si 1, Sj ja, .second, Sj jb, .second, Sj jc, .second, Sj jd, .second, Sj jn, .second, Sj jm, .second, Sd wd, .second, Sr q, .unset, .unset, .unset, .unset, .unset, .unset] [(.double (FP.l2d jb)), (.ref q)])
      obtain ⟨cq160, kq160, q160a, q160b, q160c⟩ := isOf hZ e158 E_q
      obtain ⟨_, _, ⟨T160, L160, k160, n160⟩, -, X160, ⟨Lc160, hQ160, l160, y160, z160⟩, st160⟩ := X158.virtualBack hx (y := (⟨"com/example/deliberate_scaler/deliberatescaler/model/RateWindow", "add", "(D)V"⟩ : MethodName)) (z := (⟨"com/example/deliberate_scaler/deliberatescaler/model/RateWindow", "add", "(D)V"⟩ : MethodName)) hown (mvT hZ (hw _ (List.mem_of_getElem? (i := 18) rfl))) (mvT hZ (hw _ (List.mem_of_getElem? (i := 19) rfl))) (notFace_of_selects (args := #[]) (mvT hZ (hw _ (List.mem_of_getElem? (i := 21) rfl)))) (mvT hZ (hw _ (List.mem_of_getElem? (i := 21) rfl))) (mvT hZ (hw _ (List.mem_of_getElem? (i := 20) rfl))) (by decide) (backOf (W := 0) (rw_add_1 l Z aw hw [] q (FP.l2d jb) ar (FP.l2d ja) wd (0 : Int32) k_ar (FP.l2d ja) h158 n0 ZZ E_q F_times_q F_latest_q F_window_q F_first_q F_end_q V_ar g_q g_ar ne_q_ar (own_ge Bjb Bja (by omega))) hZ (hw _ (List.mem_of_getElem? (i := 22) rfl)) (hw _ (List.mem_of_getElem? (i := 2) rfl)) (by decide) (by decide)) q160a q160c (g := (mkF m 136 #[Si i0, Si i1, Si i2, Si i3, Si i4, Sj jw, .second, Si 3, Si 1, Sj ja, .second, Sj jb, .second, Sj jc, .second, Sj jd, .second, Sj jn, .second, Sj jm, .second, Sd wd, .second, Sr q, .unset, .unset, .unset, .unset, .unset, .unset] [(.double (FP.l2d jb)), (.ref q)])) rfl (by rw [hml]; rfl) (Steps.refl _) (argsL := [(.double (FP.l2d jb))]) (rest := []) (lenOf pd_0 rfl) rfl (by show 2 * 0 + _ ≤ _; exact Nat.le_of_eq rfl) (hb hby at_136) (fun _ _ => ⟨rfl, e158, (by decide : 2 + 0 ≤ _), (by decide : 69 + 0 ≤ _)⟩)
      dsimp only [Pt.U, Pt.locs, Pt.cells, Pt.slots] at X160 l160 y160 z160 st160 hQ160
      subst l160 y160 z160
      obtain ⟨h160, e160⟩ : ∃ q, T160.heap = q := ⟨_, rfl⟩
      rw [e160] at hQ160
      obtain ⟨rfl, N160q, K160q, Eq160, F_timesq160, F_latestq160, F_windowq160, F_firstq160, F_endq160, V_q160⟩ := hQ160
      have N160 := Fr.app N158 N160q
      have ZZ160p := ZZ
      have lt_q := E_q.lt
      have lt_ar := V_ar.lt
      replace E_q := E_q.keep K160q
      replace ZZ := Nat.le_trans ZZ K160q.1
      have F_times_q := F_timesq160
      have F_latest_q := F_latestq160
      have F_window_q := F_windowq160
      have F_first_q := F_firstq160
      have F_end_q := F_endq160
      replace E_q := Eq160
      have V_ar := V_q160
      refine Go.on (fun _ k => st160.trans k) ?_
      show Go _ _ _ _ _ _ _ _ (mkF m 139 #[Si i0, Si i1, Si i2, Si i3, Si i4, Sj jw, .second, Si 3, Si 1, Sj ja, .second, Sj jb, .second, Sj jc, .second, Sj jd, .second, Sj jn, .second, Sj jm, .second, Sd wd, .second, Sr q, .unset, .unset, .unset, .unset, .unset, .unset] [])
      refine Go.on (fun _ k => XS.iload X160.here hx rfl (hb hby at_139) rfl k) ?_
      refine Go.on (fun _ k => XS.iconst X160.here hx rfl (hb hby at_141) k) ?_
      show Go _ _ _ _ _ _ _ _ (mkF m 142 #[Si i0, Si i1, Si i2, Si i3, Si i4, Sj jw, .second, Si 3, Si 1, Sj ja, .second, Sj jb, .second, Sj jc, .second, Sj jd, .second, Sj jn, .second, Sj jm, .second, Sd wd, .second, Sr q, .unset, .unset, .unset, .unset, .unset, .unset] [(.int 3), (.int 3)])
      have hc161 : ¬ ((3 : Int32) < (3 : Int32)) := by decide
      refine Go.on (fun _ k => XS.icmpNo X160.here hx rfl (hb hby at_142) rfl (flt hc161).1 k) ?_
      refine Go.on (fun _ k => XS.aload X160.here hx rfl (hb hby at_145) rfl rfl k) ?_
      refine Go.on (fun _ k => XS.lload X160.here hx rfl (hb hby at_147) rfl k) ?_
      refine Go.on (fun _ k => XS.l2dS X160.here hx rfl (hb hby at_149) rfl rfl k) ?_
      show Go _ _ _ _ _ _ _ _ (mkF m 150 #[Si i0, Si i1, Si i2, Si i3, Si i4, Sj jw, .second, Si 3, Si 1, Sj ja, .second, Sj jb, .second, Sj jc, .second, Sj jd, .second, Sj jn, .second, Sj jm, .second, Sd wd, .second, Sr q, .unset, .unset, .unset, .unset, .unset, .unset] [(.double (FP.l2d jc)), (.ref q)])
      obtain ⟨cq162, kq162, q162a, q162b, q162c⟩ := isOf hZ e160 E_q
      obtain ⟨_, _, ⟨T162, L162, k162, n162⟩, -, X162, ⟨Lc162, hQ162, l162, y162, z162⟩, st162⟩ := X160.virtualBack hx (y := (⟨"com/example/deliberate_scaler/deliberatescaler/model/RateWindow", "add", "(D)V"⟩ : MethodName)) (z := (⟨"com/example/deliberate_scaler/deliberatescaler/model/RateWindow", "add", "(D)V"⟩ : MethodName)) hown (mvT hZ (hw _ (List.mem_of_getElem? (i := 18) rfl))) (mvT hZ (hw _ (List.mem_of_getElem? (i := 19) rfl))) (notFace_of_selects (args := #[]) (mvT hZ (hw _ (List.mem_of_getElem? (i := 21) rfl)))) (mvT hZ (hw _ (List.mem_of_getElem? (i := 21) rfl))) (mvT hZ (hw _ (List.mem_of_getElem? (i := 20) rfl))) (by decide) (backOf (W := 0) (rw_add_2 l Z aw hw [] q (FP.l2d jc) ar (FP.l2d jb) wd (0 : Int32) k_ar (FP.l2d ja) (FP.l2d jb) h160 n0 ZZ E_q F_times_q F_latest_q F_window_q F_first_q F_end_q V_ar g_q g_ar ne_q_ar (own_ge Bjc Bjb (by omega))) hZ (hw _ (List.mem_of_getElem? (i := 22) rfl)) (hw _ (List.mem_of_getElem? (i := 2) rfl)) (by decide) (by decide)) q162a q162c (g := (mkF m 150 #[Si i0, Si i1, Si i2, Si i3, Si i4, Sj jw, .second, Si 3, Si 1, Sj ja, .second, Sj jb, .second, Sj jc, .second, Sj jd, .second, Sj jn, .second, Sj jm, .second, Sd wd, .second, Sr q, .unset, .unset, .unset, .unset, .unset, .unset] [(.double (FP.l2d jc)), (.ref q)])) rfl (by rw [hml]; rfl) (Steps.refl _) (argsL := [(.double (FP.l2d jc))]) (rest := []) (lenOf pd_0 rfl) rfl (by show 2 * 0 + _ ≤ _; exact Nat.le_of_eq rfl) (hb hby at_150) (fun _ _ => ⟨rfl, e160, (by decide : 2 + 0 ≤ _), (by decide : 69 + 0 ≤ _)⟩)
      dsimp only [Pt.U, Pt.locs, Pt.cells, Pt.slots] at X162 l162 y162 z162 st162 hQ162
      subst l162 y162 z162
      obtain ⟨h162, e162⟩ : ∃ q, T162.heap = q := ⟨_, rfl⟩
      rw [e162] at hQ162
      obtain ⟨rfl, N162q, K162q, Eq162, F_timesq162, F_latestq162, F_windowq162, F_firstq162, F_endq162, V_q162⟩ := hQ162
      have N162 := Fr.app N160 N162q
      have ZZ162p := ZZ
      have lt_q := E_q.lt
      have lt_ar := V_ar.lt
      replace E_q := E_q.keep K162q
      replace ZZ := Nat.le_trans ZZ K162q.1
      have F_times_q := F_timesq162
      have F_latest_q := F_latestq162
      have F_window_q := F_windowq162
      have F_first_q := F_firstq162
      have F_end_q := F_endq162
      replace E_q := Eq162
      have V_ar := V_q162
      refine Go.on (fun _ k => st162.trans k) ?_
      show Go _ _ _ _ _ _ _ _ (mkF m 153 #[Si i0, Si i1, Si i2, Si i3, Si i4, Sj jw, .second, Si 3, Si 1, Sj ja, .second, Sj jb, .second, Sj jc, .second, Sj jd, .second, Sj jn, .second, Sj jm, .second, Sd wd, .second, Sr q, .unset, .unset, .unset, .unset, .unset, .unset] [])
      refine Go.on (fun _ k => XS.aload X162.here hx rfl (hb hby at_153) rfl rfl k) ?_
      refine Go.on (fun _ k => XS.lload X162.here hx rfl (hb hby at_155) rfl k) ?_
      refine Go.on (fun _ k => XS.l2dS X162.here hx rfl (hb hby at_157) rfl rfl k) ?_
      show Go _ _ _ _ _ _ _ _ (mkF m 158 #[Si i0, Si i1, Si i2, Si i3, Si i4, Sj jw, .second, Si 3, Si 1, Sj ja, .second, Sj jb, .second, Sj jc, .second, Sj jd, .second, Sj jn, .second, Sj jm, .second, Sd wd, .second, Sr q, .unset, .unset, .unset, .unset, .unset, .unset] [(.double (FP.l2d jn)), (.ref q)])
      obtain ⟨cq163, kq163, q163a, q163b, q163c⟩ := isOf hZ e162 E_q
      obtain ⟨_, _, ⟨T163, L163, k163, n163⟩, -, X163, ⟨Lc163, hQ163, l163, y163, z163⟩, st163⟩ := X162.virtualBack hx (y := (⟨"com/example/deliberate_scaler/deliberatescaler/model/RateWindow", "rate", "(D)D"⟩ : MethodName)) (z := (⟨"com/example/deliberate_scaler/deliberatescaler/model/RateWindow", "rate", "(D)D"⟩ : MethodName)) hown (mvT hZ (hw _ (List.mem_of_getElem? (i := 25) rfl))) (mvT hZ (hw _ (List.mem_of_getElem? (i := 26) rfl))) (notFace_of_selects (args := #[]) (mvT hZ (hw _ (List.mem_of_getElem? (i := 28) rfl)))) (mvT hZ (hw _ (List.mem_of_getElem? (i := 28) rfl))) (mvT hZ (hw _ (List.mem_of_getElem? (i := 27) rfl))) (by decide) (backOf (W := 0) (rw_rate_3 l Z aw hw [] q (FP.l2d jn) ja jb jc jn jw ar (FP.l2d jc) wd (0 : Int32) k_ar (FP.l2d ja) (FP.l2d jb) (FP.l2d jc) h162 n0 ZZ E_q F_times_q F_latest_q F_window_q F_first_q F_end_q V_ar g_q ne_q_ar rfl hwd.symm Bjn Bjw hwj.1 rfl rfl rfl Bja Bjb Bjc (by omega) (by omega) (Or.inl rfl) (fun q => absurd q (by decide)) (fun q => absurd q (by decide)) (fun q => absurd q (by decide))) hZ (hw _ (List.mem_of_getElem? (i := 29) rfl)) (hw _ (List.mem_of_getElem? (i := 2) rfl)) (by decide) (by decide)) q163a q163c (g := (mkF m 158 #[Si i0, Si i1, Si i2, Si i3, Si i4, Sj jw, .second, Si 3, Si 1, Sj ja, .second, Sj jb, .second, Sj jc, .second, Sj jd, .second, Sj jn, .second, Sj jm, .second, Sd wd, .second, Sr q, .unset, .unset, .unset, .unset, .unset, .unset] [(.double (FP.l2d jn)), (.ref q)])) rfl (by rw [hml]; rfl) (Steps.refl _) (argsL := [(.double (FP.l2d jn))]) (rest := []) (lenOf pd_1 rfl) rfl (by show 2 * 0 + _ ≤ _; exact Nat.le_of_eq rfl) (hb hby at_158) (fun _ _ => ⟨rfl, e162, (by decide : 2 + 0 ≤ _), (by decide : 69 + 0 ≤ _)⟩)
      dsimp only [Pt.U, Pt.locs, Pt.cells, Pt.slots] at X163 l163 y163 z163 st163 hQ163
      subst l163 y163 z163
      obtain ⟨h163, e163⟩ : ∃ q, T163.heap = q := ⟨_, rfl⟩
      rw [e163] at hQ163
      obtain ⟨f1_163, rfl, N163q, K163q, Eq163, F_timesq163, F_latestq163, F_windowq163, F_firstq163, F_endq163, hdj163, hdr0_163, hdr1_163, hdr2_163⟩ := hQ163
      have N163 := Fr.app N162 N163q
      have ZZ163p := ZZ
      have lt_q := E_q.lt
      have lt_ar := V_ar.lt
      replace E_q := E_q.keep K163q
      replace V_ar := V_ar.keep K163q (ninS (Ne.symm ne_q_ar) nin0)
      replace ZZ := Nat.le_trans ZZ K163q.1
      obtain ⟨fr1, hfr1⟩ : ∃ z, z = f1_163 := ⟨_, rfl⟩
      rw [← hfr1] at F_firstq163 hdj163 hdr0_163 hdr1_163 hdr2_163
      have F_times_q := F_timesq163
      have F_latest_q := F_latestq163
      have F_window_q := F_windowq163
      have F_first_q := F_firstq163
      have F_end_q := F_endq163
      replace E_q := Eq163
      refine Go.on (fun _ k => st163.trans k) ?_
      show Go _ _ _ _ _ _ _ _ (mkF m 161 #[Si i0, Si i1, Si i2, Si i3, Si i4, Sj jw, .second, Si 3, Si 1, Sj ja, .second, Sj jb, .second, Sj jc, .second, Sj jd, .second, Sj jn, .second, Sj jm, .second, Sd wd, .second, Sr q, .unset, .unset, .unset, .unset, .unset, .unset] [(.double (FP.ddiv (FP.i2d (((inV ja jn jw) + (inV jb jn jw)) + (inV jc jn jw))) wd))])
      refine Go.on (fun _ k => XS.dstore X163.here hx rfl (hb hby at_161) rfl (l' := #[.val (.int i0), .val (.int i1), .val (.int i2), .val (.int i3), .val (.int i4), .val (.long jw), .second, .val (.int (3 : Int32)), .val (.int (1 : Int32)), .val (.long ja), .second, .val (.long jb), .second, .val (.long jc), .second, .val (.long jd), .second, .val (.long jn), .second, .val (.long jm), .second, .val (.double wd), .second, .val (.ref q), .val (.double (FP.ddiv (FP.i2d (((inV ja jn jw) + (inV jb jn jw)) + (inV jc jn jw))) wd)), .second, .unset, .unset, .unset, .unset]) rfl k) ?_
      show Go _ _ _ _ _ _ _ _ (mkF m 163 #[Si i0, Si i1, Si i2, Si i3, Si i4, Sj jw, .second, Si 3, Si 1, Sj ja, .second, Sj jb, .second, Sj jc, .second, Sj jd, .second, Sj jn, .second, Sj jm, .second, Sd wd, .second, Sr q, .val (.double (FP.ddiv (FP.i2d (((inV ja jn jw) + (inV jb jn jw)) + (inV jc jn jw))) wd)), .second, .unset, .unset, .unset, .unset] [])
      generalize hra : (FP.ddiv (FP.i2d (((inV ja jn jw) + (inV jb jn jw)) + (inV jc jn jw))) wd) = ra
      show Go _ _ _ _ _ _ _ _ (mkF m 163 #[Si i0, Si i1, Si i2, Si i3, Si i4, Sj jw, .second, Si 3, Si 1, Sj ja, .second, Sj jb, .second, Sj jc, .second, Sj jd, .second, Sj jn, .second, Sj jm, .second, Sd wd, .second, Sr q, Sd ra, .second, .unset, .unset, .unset, .unset] [])
      refine Go.on (fun _ k => XS.iload X163.here hx rfl (hb hby at_163) rfl k) ?_
      show Go _ _ _ _ _ _ _ _ (mkF m 165 #[Si i0, Si i1, Si i2, Si i3, Si i4, Sj jw, .second, Si 3, Si 1, Sj ja, .second, Sj jb, .second, Sj jc, .second, Sj jd, .second, Sj jn, .second, Sj jm, .second, Sd wd, .second, Sr q, Sd ra, .second, .unset, .unset, .unset, .unset] [(.int 1)])
      have hc164 : ¬ ((1 : Int32) = (0 : Int32)) := by decide
      refine Go.on (fun _ k => XS.ifNo X163.here hx rfl (hb hby at_165) rfl ((if0 _ _).trans (feq hc164).1) k) ?_
      refine Go.on (fun _ k => XS.aload X163.here hx rfl (hb hby at_168) rfl rfl k) ?_
      refine Go.on (fun _ k => XS.lload X163.here hx rfl (hb hby at_170) rfl k) ?_
      refine Go.on (fun _ k => XS.l2dS X163.here hx rfl (hb hby at_172) rfl rfl k) ?_
      show Go _ _ _ _ _ _ _ _ (mkF m 173 #[Si i0, Si i1, Si i2, Si i3, Si i4, Sj jw, .second, Si 3, Si 1, Sj ja, .second, Sj jb, .second, Sj jc, .second, Sj jd, .second, Sj jn, .second, Sj jm, .second, Sd wd, .second, Sr q, Sd ra, .second, .unset, .unset, .unset, .unset] [(.double (FP.l2d jd)), (.ref q)])
      obtain ⟨cq165, kq165, q165a, q165b, q165c⟩ := isOf hZ e163 E_q
      obtain ⟨_, _, ⟨T165, L165, k165, n165⟩, -, X165, ⟨Lc165, hQ165, l165, y165, z165⟩, st165⟩ := X163.virtualBack hx (y := (⟨"com/example/deliberate_scaler/deliberatescaler/model/RateWindow", "add", "(D)V"⟩ : MethodName)) (z := (⟨"com/example/deliberate_scaler/deliberatescaler/model/RateWindow", "add", "(D)V"⟩ : MethodName)) hown (mvT hZ (hw _ (List.mem_of_getElem? (i := 18) rfl))) (mvT hZ (hw _ (List.mem_of_getElem? (i := 19) rfl))) (notFace_of_selects (args := #[]) (mvT hZ (hw _ (List.mem_of_getElem? (i := 21) rfl)))) (mvT hZ (hw _ (List.mem_of_getElem? (i := 21) rfl))) (mvT hZ (hw _ (List.mem_of_getElem? (i := 20) rfl))) (by decide) (backOf (W := 0) (rw_add_3 l Z aw hw [] q (FP.l2d jd) ar (FP.l2d jc) wd fr1 k_ar (FP.l2d ja) (FP.l2d jb) (FP.l2d jc) h163 n0 ZZ E_q F_times_q F_latest_q F_window_q F_first_q F_end_q V_ar g_q g_ar ne_q_ar (own_ge Bjd Bjc (by omega))) hZ (hw _ (List.mem_of_getElem? (i := 22) rfl)) (hw _ (List.mem_of_getElem? (i := 2) rfl)) (by decide) (by decide)) q165a q165c (g := (mkF m 173 #[Si i0, Si i1, Si i2, Si i3, Si i4, Sj jw, .second, Si 3, Si 1, Sj ja, .second, Sj jb, .second, Sj jc, .second, Sj jd, .second, Sj jn, .second, Sj jm, .second, Sd wd, .second, Sr q, Sd ra, .second, .unset, .unset, .unset, .unset] [(.double (FP.l2d jd)), (.ref q)])) rfl (by rw [hml]; rfl) (Steps.refl _) (argsL := [(.double (FP.l2d jd))]) (rest := []) (lenOf pd_0 rfl) rfl (by show 2 * 0 + _ ≤ _; exact Nat.le_of_eq rfl) (hb hby at_173) (fun _ _ => ⟨rfl, e163, (by decide : 2 + 0 ≤ _), (by decide : 69 + 0 ≤ _)⟩)
      dsimp only [Pt.U, Pt.locs, Pt.cells, Pt.slots] at X165 l165 y165 z165 st165 hQ165
      subst l165 y165 z165
      obtain ⟨h165, e165⟩ : ∃ q, T165.heap = q := ⟨_, rfl⟩
      rw [e165] at hQ165
      obtain ⟨rfl, N165q, K165q, Eq165, F_timesq165, F_latestq165, F_windowq165, F_firstq165, F_endq165, V_q165⟩ := hQ165
      have N165 := Fr.app N163 N165q
      have ZZ165p := ZZ
      have lt_q := E_q.lt
      have lt_ar := V_ar.lt
      replace E_q := E_q.keep K165q
      replace ZZ := Nat.le_trans ZZ K165q.1
      have F_times_q := F_timesq165
      have F_latest_q := F_latestq165
      have F_window_q := F_windowq165
      have F_first_q := F_firstq165
      have F_end_q := F_endq165
      replace E_q := Eq165
      have V_ar := V_q165
      refine Go.on (fun _ k => st165.trans k) ?_
      show Go _ _ _ _ _ _ _ _ (mkF m 176 #[Si i0, Si i1, Si i2, Si i3, Si i4, Sj jw, .second, Si 3, Si 1, Sj ja, .second, Sj jb, .second, Sj jc, .second, Sj jd, .second, Sj jn, .second, Sj jm, .second, Sd wd, .second, Sr q, Sd ra, .second, .unset, .unset, .unset, .unset] [])
      refine Go.on (fun _ k => XS.aload X165.here hx rfl (hb hby at_176) rfl rfl k) ?_
      refine Go.on (fun _ k => XS.lload X165.here hx rfl (hb hby at_178) rfl k) ?_
      refine Go.on (fun _ k => XS.l2dS X165.here hx rfl (hb hby at_180) rfl rfl k) ?_
      show Go _ _ _ _ _ _ _ _ (mkF m 181 #[Si i0, Si i1, Si i2, Si i3, Si i4, Sj jw, .second, Si 3, Si 1, Sj ja, .second, Sj jb, .second, Sj jc, .second, Sj jd, .second, Sj jn, .second, Sj jm, .second, Sd wd, .second, Sr q, Sd ra, .second, .unset, .unset, .unset, .unset] [(.double (FP.l2d jm)), (.ref q)])
      obtain ⟨cq166, kq166, q166a, q166b, q166c⟩ := isOf hZ e165 E_q
      obtain ⟨_, _, ⟨T166, L166, k166, n166⟩, -, X166, ⟨Lc166, hQ166, l166, y166, z166⟩, st166⟩ := X165.virtualBack hx (y := (⟨"com/example/deliberate_scaler/deliberatescaler/model/RateWindow", "rate", "(D)D"⟩ : MethodName)) (z := (⟨"com/example/deliberate_scaler/deliberatescaler/model/RateWindow", "rate", "(D)D"⟩ : MethodName)) hown (mvT hZ (hw _ (List.mem_of_getElem? (i := 25) rfl))) (mvT hZ (hw _ (List.mem_of_getElem? (i := 26) rfl))) (notFace_of_selects (args := #[]) (mvT hZ (hw _ (List.mem_of_getElem? (i := 28) rfl)))) (mvT hZ (hw _ (List.mem_of_getElem? (i := 28) rfl))) (mvT hZ (hw _ (List.mem_of_getElem? (i := 27) rfl))) (by decide) (backOf (W := 0) (rw_rate_4 l Z aw hw [] q (FP.l2d jm) ja jb jc jd jm jw ar (FP.l2d jd) wd fr1 k_ar (FP.l2d ja) (FP.l2d jb) (FP.l2d jc) (FP.l2d jd) h165 n0 ZZ E_q F_times_q F_latest_q F_window_q F_first_q F_end_q V_ar g_q ne_q_ar rfl hwd.symm Bjm Bjw hwj.1 rfl rfl rfl rfl Bja Bjb Bjc Bjd (by omega) (by omega) (by omega) (by rcases hdj163 with hz | hz | hz | hz <;> simp [hz]) (fun q => Int.le_trans (hdr0_163 q) (by omega)) (fun q => Int.le_trans (hdr1_163 q) (by omega)) (fun q => Int.le_trans (hdr2_163 q) (by omega)) (fun q => by rcases hdj163 with hz | hz | hz | hz <;> (rw [hz] at q; exact absurd q (by decide)))) hZ (hw _ (List.mem_of_getElem? (i := 29) rfl)) (hw _ (List.mem_of_getElem? (i := 2) rfl)) (by decide) (by decide)) q166a q166c (g := (mkF m 181 #[Si i0, Si i1, Si i2, Si i3, Si i4, Sj jw, .second, Si 3, Si 1, Sj ja, .second, Sj jb, .second, Sj jc, .second, Sj jd, .second, Sj jn, .second, Sj jm, .second, Sd wd, .second, Sr q, Sd ra, .second, .unset, .unset, .unset, .unset] [(.double (FP.l2d jm)), (.ref q)])) rfl (by rw [hml]; rfl) (Steps.refl _) (argsL := [(.double (FP.l2d jm))]) (rest := []) (lenOf pd_1 rfl) rfl (by show 2 * 0 + _ ≤ _; exact Nat.le_of_eq rfl) (hb hby at_181) (fun _ _ => ⟨rfl, e165, (by decide : 2 + 0 ≤ _), (by decide : 69 + 0 ≤ _)⟩)
      dsimp only [Pt.U, Pt.locs, Pt.cells, Pt.slots] at X166 l166 y166 z166 st166 hQ166
      subst l166 y166 z166
      obtain ⟨h166, e166⟩ : ∃ q, T166.heap = q := ⟨_, rfl⟩
      rw [e166] at hQ166
      obtain ⟨f1_166, rfl, N166q, K166q, Eq166, F_timesq166, F_latestq166, F_windowq166, F_firstq166, F_endq166, hdj166, hdr0_166, hdr1_166, hdr2_166, hdr3_166⟩ := hQ166
      have N166 := Fr.app N165 N166q
      have ZZ166p := ZZ
      have lt_q := E_q.lt
      have lt_ar := V_ar.lt
      replace E_q := E_q.keep K166q
      replace V_ar := V_ar.keep K166q (ninS (Ne.symm ne_q_ar) nin0)
      replace ZZ := Nat.le_trans ZZ K166q.1
      obtain ⟨fr2, hfr2⟩ : ∃ z, z = f1_166 := ⟨_, rfl⟩
      rw [← hfr2] at F_firstq166 hdj166 hdr0_166 hdr1_166 hdr2_166 hdr3_166
      have F_times_q := F_timesq166
      have F_latest_q := F_latestq166
      have F_window_q := F_windowq166
      have F_first_q := F_firstq166
      have F_end_q := F_endq166
      replace E_q := Eq166
      refine Go.on (fun _ k => st166.trans k) ?_
      show Go _ _ _ _ _ _ _ _ (mkF m 184 #[Si i0, Si i1, Si i2, Si i3, Si i4, Sj jw, .second, Si 3, Si 1, Sj ja, .second, Sj jb, .second, Sj jc, .second, Sj jd, .second, Sj jn, .second, Sj jm, .second, Sd wd, .second, Sr q, Sd ra, .second, .unset, .unset, .unset, .unset] [(.double (FP.ddiv (FP.i2d ((((inV ja jm jw) + (inV jb jm jw)) + (inV jc jm jw)) + (inV jd jm jw))) wd))])
      refine Go.on (fun _ k => XS.dstore X166.here hx rfl (hb hby at_184) rfl (l' := #[.val (.int i0), .val (.int i1), .val (.int i2), .val (.int i3), .val (.int i4), .val (.long jw), .second, .val (.int (3 : Int32)), .val (.int (1 : Int32)), .val (.long ja), .second, .val (.long jb), .second, .val (.long jc), .second, .val (.long jd), .second, .val (.long jn), .second, .val (.long jm), .second, .val (.double wd), .second, .val (.ref q), .val (.double ra), .second, .val (.double (FP.ddiv (FP.i2d ((((inV ja jm jw) + (inV jb jm jw)) + (inV jc jm jw)) + (inV jd jm jw))) wd)), .second, .unset, .unset]) rfl k) ?_
      show Go _ _ _ _ _ _ _ _ (mkF m 186 #[Si i0, Si i1, Si i2, Si i3, Si i4, Sj jw, .second, Si 3, Si 1, Sj ja, .second, Sj jb, .second, Sj jc, .second, Sj jd, .second, Sj jn, .second, Sj jm, .second, Sd wd, .second, Sr q, Sd ra, .second, .val (.double (FP.ddiv (FP.i2d ((((inV ja jm jw) + (inV jb jm jw)) + (inV jc jm jw)) + (inV jd jm jw))) wd)), .second, .unset, .unset] [])
      generalize hrb : (FP.ddiv (FP.i2d ((((inV ja jm jw) + (inV jb jm jw)) + (inV jc jm jw)) + (inV jd jm jw))) wd) = rb
      show Go _ _ _ _ _ _ _ _ (mkF m 186 #[Si i0, Si i1, Si i2, Si i3, Si i4, Sj jw, .second, Si 3, Si 1, Sj ja, .second, Sj jb, .second, Sj jc, .second, Sj jd, .second, Sj jn, .second, Sj jm, .second, Sd wd, .second, Sr q, Sd ra, .second, Sd rb, .second, .unset, .unset] [])
      refine Go.on (fun _ k => XS.iload X166.here hx rfl (hb hby at_186) rfl k) ?_
      refine Go.on (fun _ k => XS.iconst X166.here hx rfl (hb hby at_188) k) ?_
      show Go _ _ _ _ _ _ _ _ (mkF m 189 #[Si i0, Si i1, Si i2, Si i3, Si i4, Sj jw, .second, Si 3, Si 1, Sj ja, .second, Sj jb, .second, Sj jc, .second, Sj jd, .second, Sj jn, .second, Sj jm, .second, Sd wd, .second, Sr q, Sd ra, .second, Sd rb, .second, .unset, .unset] [(.int 1), (.int 3)])
      have hc167 : ¬ ((3 : Int32) < (1 : Int32)) := by decide
      refine Go.on (fun _ k => XS.icmpNo X166.here hx rfl (hb hby at_189) rfl (flt hc167).1 k) ?_
      refine Go.on (fun _ k => XS.lload X166.here hx rfl (hb hby at_192) rfl k) ?_
      refine Go.on (fun _ k => XS.lload X166.here hx rfl (hb hby at_194) rfl k) ?_
      refine Go.on (fun _ k => XS.lload X166.here hx rfl (hb hby at_196) rfl k) ?_
      show Go _ _ _ _ _ _ _ _ (mkF m 198 #[Si i0, Si i1, Si i2, Si i3, Si i4, Sj jw, .second, Si 3, Si 1, Sj ja, .second, Sj jb, .second, Sj jc, .second, Sj jd, .second, Sj jn, .second, Sj jm, .second, Sd wd, .second, Sr q, Sd ra, .second, Sd rb, .second, .unset, .unset] [(.long jw), (.long jn), (.long ja)])
      obtain ⟨_, _, ⟨T168, L168, k168, n168⟩, -, X168, ⟨Lc168, hQ168, l168, y168, z168⟩, st168⟩ := Jvm.LawKit.callS X166 hx (y := (⟨"com/example/deliberate_scaler/deliberatescaler/model/RateWindowRatePinLaw", "in", "(JJJ)I"⟩ : MethodName)) hown (mvT hZ (hw _ (List.mem_of_getElem? (i := 32) rfl))) (mvT hZ (hw _ (List.mem_of_getElem? (i := 33) rfl))) (mvT hZ (hw _ (List.mem_of_getElem? (i := 34) rfl))) (mvT hZ (hw _ (List.mem_of_getElem? (i := 35) rfl))) (by decide) (backOf (W := 0) (rm5 l Z aw hw [] ja jn jw  h166 n0 ZZ ) hZ (hw _ (List.mem_of_getElem? (i := 35) rfl)) (hw _ (List.mem_of_getElem? (i := 34) rfl)) (by decide) (by decide)) (g := (mkF m 198 #[Si i0, Si i1, Si i2, Si i3, Si i4, Sj jw, .second, Si 3, Si 1, Sj ja, .second, Sj jb, .second, Sj jc, .second, Sj jd, .second, Sj jn, .second, Sj jm, .second, Sd wd, .second, Sr q, Sd ra, .second, Sd rb, .second, .unset, .unset] [(.long jw), (.long jn), (.long ja)])) rfl (by rw [hml]; rfl) (argsL := [(.long ja), (.long jn), (.long jw)]) (rest := []) (lenOf pd_2 rfl) rfl (by show 2 * 0 + _ ≤ _; exact Nat.le_of_eq rfl) (hb hby at_198) (fun _ _ => ⟨rfl, e166, (by decide : 2 + 0 ≤ _), (by decide : 69 + 0 ≤ _)⟩)
      dsimp only [Pt.U, Pt.locs, Pt.cells, Pt.slots] at X168 l168 y168 z168 st168 hQ168
      subst l168 y168 z168
      obtain ⟨rfl, N168q, e168⟩ := hQ168
      have N168 := Fr.app N166 N168q
      refine Go.on st168 ?_
      show Go _ _ _ _ _ _ _ _ (mkF m 201 #[Si i0, Si i1, Si i2, Si i3, Si i4, Sj jw, .second, Si 3, Si 1, Sj ja, .second, Sj jb, .second, Sj jc, .second, Sj jd, .second, Sj jn, .second, Sj jm, .second, Sd wd, .second, Sr q, Sd ra, .second, Sd rb, .second, .unset, .unset] [(.int (inV ja jn jw))])
      refine Go.on (fun _ k => XS.goto X168.here hx rfl (pc0 := 201) (pc' := 205) rfl (hb hby at_201) (by decide) (by decide) k) ?_
      refine Go.on (fun _ k => XS.iload X168.here hx rfl (hb hby at_205) rfl k) ?_
      refine Go.on (fun _ k => XS.iconst X168.here hx rfl (hb hby at_207) k) ?_
      show Go _ _ _ _ _ _ _ _ (mkF m 208 #[Si i0, Si i1, Si i2, Si i3, Si i4, Sj jw, .second, Si 3, Si 1, Sj ja, .second, Sj jb, .second, Sj jc, .second, Sj jd, .second, Sj jn, .second, Sj jm, .second, Sd wd, .second, Sr q, Sd ra, .second, Sd rb, .second, .unset, .unset] [(.int 2), (.int 3), (.int (inV ja jn jw))])
      have hc169 : ¬ ((3 : Int32) < (2 : Int32)) := by decide
      refine Go.on (fun _ k => XS.icmpNo X168.here hx rfl (hb hby at_208) rfl (flt hc169).1 k) ?_
      refine Go.on (fun _ k => XS.lload X168.here hx rfl (hb hby at_211) rfl k) ?_
      refine Go.on (fun _ k => XS.lload X168.here hx rfl (hb hby at_213) rfl k) ?_
      refine Go.on (fun _ k => XS.lload X168.here hx rfl (hb hby at_215) rfl k) ?_
      show Go _ _ _ _ _ _ _ _ (mkF m 217 #[Si i0, Si i1, Si i2, Si i3, Si i4, Sj jw, .second, Si 3, Si 1, Sj ja, .second, Sj jb, .second, Sj jc, .second, Sj jd, .second, Sj jn, .second, Sj jm, .second, Sd wd, .second, Sr q, Sd ra, .second, Sd rb, .second, .unset, .unset] [(.long jw), (.long jn), (.long jb), (.int (inV ja jn jw))])
      obtain ⟨_, _, ⟨T170, L170, k170, n170⟩, -, X170, ⟨Lc170, hQ170, l170, y170, z170⟩, st170⟩ := Jvm.LawKit.callS X168 hx (y := (⟨"com/example/deliberate_scaler/deliberatescaler/model/RateWindowRatePinLaw", "in", "(JJJ)I"⟩ : MethodName)) hown (mvT hZ (hw _ (List.mem_of_getElem? (i := 32) rfl))) (mvT hZ (hw _ (List.mem_of_getElem? (i := 33) rfl))) (mvT hZ (hw _ (List.mem_of_getElem? (i := 34) rfl))) (mvT hZ (hw _ (List.mem_of_getElem? (i := 35) rfl))) (by decide) (backOf (W := 1) (rm5 l Z aw hw [] jb jn jw  h166 n0 ZZ ) hZ (hw _ (List.mem_of_getElem? (i := 35) rfl)) (hw _ (List.mem_of_getElem? (i := 34) rfl)) (by decide) (by decide)) (g := (mkF m 217 #[Si i0, Si i1, Si i2, Si i3, Si i4, Sj jw, .second, Si 3, Si 1, Sj ja, .second, Sj jb, .second, Sj jc, .second, Sj jd, .second, Sj jn, .second, Sj jm, .second, Sd wd, .second, Sr q, Sd ra, .second, Sd rb, .second, .unset, .unset] [(.long jw), (.long jn), (.long jb), (.int (inV ja jn jw))])) rfl (by rw [hml]; rfl) (argsL := [(.long jb), (.long jn), (.long jw)]) (rest := [(.int (inV ja jn jw))]) (lenOf pd_2 rfl) rfl (by show 2 * 0 + _ ≤ _; exact Nat.le_of_eq rfl) (hb hby at_217) (fun _ _ => ⟨rfl, e168, (by decide : 2 + 0 ≤ _), (by decide : 69 + 0 ≤ _)⟩)
      dsimp only [Pt.U, Pt.locs, Pt.cells, Pt.slots] at X170 l170 y170 z170 st170 hQ170
      subst l170 y170 z170
      obtain ⟨rfl, N170q, e170⟩ := hQ170
      have N170 := Fr.app N168 N170q
      refine Go.on st170 ?_
      show Go _ _ _ _ _ _ _ _ (mkF m 220 #[Si i0, Si i1, Si i2, Si i3, Si i4, Sj jw, .second, Si 3, Si 1, Sj ja, .second, Sj jb, .second, Sj jc, .second, Sj jd, .second, Sj jn, .second, Sj jm, .second, Sd wd, .second, Sr q, Sd ra, .second, Sd rb, .second, .unset, .unset] [(.int (inV jb jn jw)), (.int (inV ja jn jw))])
      refine Go.on (fun _ k => XS.goto X170.here hx rfl (pc0 := 220) (pc' := 224) rfl (hb hby at_220) (by decide) (by decide) k) ?_
      refine Go.on (fun _ k => XS.iadd X170.here hx rfl (hb hby at_224) rfl k) ?_
      refine Go.on (fun _ k => XS.iload X170.here hx rfl (hb hby at_225) rfl k) ?_
      refine Go.on (fun _ k => XS.iconst X170.here hx rfl (hb hby at_227) k) ?_
      show Go _ _ _ _ _ _ _ _ (mkF m 228 #[Si i0, Si i1, Si i2, Si i3, Si i4, Sj jw, .second, Si 3, Si 1, Sj ja, .second, Sj jb, .second, Sj jc, .second, Sj jd, .second, Sj jn, .second, Sj jm, .second, Sd wd, .second, Sr q, Sd ra, .second, Sd rb, .second, .unset, .unset] [(.int 3), (.int 3), (.int ((inV ja jn jw) + (inV jb jn jw)))])
      have hc171 : ¬ ((3 : Int32) < (3 : Int32)) := by decide
      refine Go.on (fun _ k => XS.icmpNo X170.here hx rfl (hb hby at_228) rfl (flt hc171).1 k) ?_
      refine Go.on (fun _ k => XS.lload X170.here hx rfl (hb hby at_231) rfl k) ?_
      refine Go.on (fun _ k => XS.lload X170.here hx rfl (hb hby at_233) rfl k) ?_
      refine Go.on (fun _ k => XS.lload X170.here hx rfl (hb hby at_235) rfl k) ?_
      show Go _ _ _ _ _ _ _ _ (mkF m 237 #[Si i0, Si i1, Si i2, Si i3, Si i4, Sj jw, .second, Si 3, Si 1, Sj ja, .second, Sj jb, .second, Sj jc, .second, Sj jd, .second, Sj jn, .second, Sj jm, .second, Sd wd, .second, Sr q, Sd ra, .second, Sd rb, .second, .unset, .unset] [(.long jw), (.long jn), (.long jc), (.int ((inV ja jn jw) + (inV jb jn jw)))])
      obtain ⟨_, _, ⟨T172, L172, k172, n172⟩, -, X172, ⟨Lc172, hQ172, l172, y172, z172⟩, st172⟩ := Jvm.LawKit.callS X170 hx (y := (⟨"com/example/deliberate_scaler/deliberatescaler/model/RateWindowRatePinLaw", "in", "(JJJ)I"⟩ : MethodName)) hown (mvT hZ (hw _ (List.mem_of_getElem? (i := 32) rfl))) (mvT hZ (hw _ (List.mem_of_getElem? (i := 33) rfl))) (mvT hZ (hw _ (List.mem_of_getElem? (i := 34) rfl))) (mvT hZ (hw _ (List.mem_of_getElem? (i := 35) rfl))) (by decide) (backOf (W := 1) (rm5 l Z aw hw [] jc jn jw  h166 n0 ZZ ) hZ (hw _ (List.mem_of_getElem? (i := 35) rfl)) (hw _ (List.mem_of_getElem? (i := 34) rfl)) (by decide) (by decide)) (g := (mkF m 237 #[Si i0, Si i1, Si i2, Si i3, Si i4, Sj jw, .second, Si 3, Si 1, Sj ja, .second, Sj jb, .second, Sj jc, .second, Sj jd, .second, Sj jn, .second, Sj jm, .second, Sd wd, .second, Sr q, Sd ra, .second, Sd rb, .second, .unset, .unset] [(.long jw), (.long jn), (.long jc), (.int ((inV ja jn jw) + (inV jb jn jw)))])) rfl (by rw [hml]; rfl) (argsL := [(.long jc), (.long jn), (.long jw)]) (rest := [(.int ((inV ja jn jw) + (inV jb jn jw)))]) (lenOf pd_2 rfl) rfl (by show 2 * 0 + _ ≤ _; exact Nat.le_of_eq rfl) (hb hby at_237) (fun _ _ => ⟨rfl, e170, (by decide : 2 + 0 ≤ _), (by decide : 69 + 0 ≤ _)⟩)
      dsimp only [Pt.U, Pt.locs, Pt.cells, Pt.slots] at X172 l172 y172 z172 st172 hQ172
      subst l172 y172 z172
      obtain ⟨rfl, N172q, e172⟩ := hQ172
      have N172 := Fr.app N170 N172q
      refine Go.on st172 ?_
      show Go _ _ _ _ _ _ _ _ (mkF m 240 #[Si i0, Si i1, Si i2, Si i3, Si i4, Sj jw, .second, Si 3, Si 1, Sj ja, .second, Sj jb, .second, Sj jc, .second, Sj jd, .second, Sj jn, .second, Sj jm, .second, Sd wd, .second, Sr q, Sd ra, .second, Sd rb, .second, .unset, .unset] [(.int (inV jc jn jw)), (.int ((inV ja jn jw) + (inV jb jn jw)))])
      refine Go.on (fun _ k => XS.goto X172.here hx rfl (pc0 := 240) (pc' := 244) rfl (hb hby at_240) (by decide) (by decide) k) ?_
      refine Go.on (fun _ k => XS.iadd X172.here hx rfl (hb hby at_244) rfl k) ?_
      show Go _ _ _ _ _ _ _ _ (mkF m 245 #[Si i0, Si i1, Si i2, Si i3, Si i4, Sj jw, .second, Si 3, Si 1, Sj ja, .second, Sj jb, .second, Sj jc, .second, Sj jd, .second, Sj jn, .second, Sj jm, .second, Sd wd, .second, Sr q, Sd ra, .second, Sd rb, .second, .unset, .unset] [(.int (((inV ja jn jw) + (inV jb jn jw)) + (inV jc jn jw)))])
      refine Go.on (fun _ k => XS.istore X172.here hx rfl (hb hby at_245) rfl (l' := #[.val (.int i0), .val (.int i1), .val (.int i2), .val (.int i3), .val (.int i4), .val (.long jw), .second, .val (.int (3 : Int32)), .val (.int (1 : Int32)), .val (.long ja), .second, .val (.long jb), .second, .val (.long jc), .second, .val (.long jd), .second, .val (.long jn), .second, .val (.long jm), .second, .val (.double wd), .second, .val (.ref q), .val (.double ra), .second, .val (.double rb), .second, .val (.int (((inV ja jn jw) + (inV jb jn jw)) + (inV jc jn jw))), .unset]) rfl k) ?_
      show Go _ _ _ _ _ _ _ _ (mkF m 247 #[Si i0, Si i1, Si i2, Si i3, Si i4, Sj jw, .second, Si 3, Si 1, Sj ja, .second, Sj jb, .second, Sj jc, .second, Sj jd, .second, Sj jn, .second, Sj jm, .second, Sd wd, .second, Sr q, Sd ra, .second, Sd rb, .second, .val (.int (((inV ja jn jw) + (inV jb jn jw)) + (inV jc jn jw))), .unset] [])
      generalize hca : (((inV ja jn jw) + (inV jb jn jw)) + (inV jc jn jw)) = ca
      show Go _ _ _ _ _ _ _ _ (mkF m 247 #[Si i0, Si i1, Si i2, Si i3, Si i4, Sj jw, .second, Si 3, Si 1, Sj ja, .second, Sj jb, .second, Sj jc, .second, Sj jd, .second, Sj jn, .second, Sj jm, .second, Sd wd, .second, Sr q, Sd ra, .second, Sd rb, .second, Si ca, .unset] [])
      refine Go.on (fun _ k => XS.iload X172.here hx rfl (hb hby at_247) rfl k) ?_
      refine Go.on (fun _ k => XS.iconst X172.here hx rfl (hb hby at_249) k) ?_
      show Go _ _ _ _ _ _ _ _ (mkF m 250 #[Si i0, Si i1, Si i2, Si i3, Si i4, Sj jw, .second, Si 3, Si 1, Sj ja, .second, Sj jb, .second, Sj jc, .second, Sj jd, .second, Sj jn, .second, Sj jm, .second, Sd wd, .second, Sr q, Sd ra, .second, Sd rb, .second, Si ca, .unset] [(.int 1), (.int 3)])
      have hc173 : ¬ ((3 : Int32) < (1 : Int32)) := by decide
      refine Go.on (fun _ k => XS.icmpNo X172.here hx rfl (hb hby at_250) rfl (flt hc173).1 k) ?_
      refine Go.on (fun _ k => XS.lload X172.here hx rfl (hb hby at_253) rfl k) ?_
      refine Go.on (fun _ k => XS.lload X172.here hx rfl (hb hby at_255) rfl k) ?_
      refine Go.on (fun _ k => XS.lload X172.here hx rfl (hb hby at_257) rfl k) ?_
      show Go _ _ _ _ _ _ _ _ (mkF m 259 #[Si i0, Si i1, Si i2, Si i3, Si i4, Sj jw, .second, Si 3, Si 1, Sj ja, .second, Sj jb, .second, Sj jc, .second, Sj jd, .second, Sj jn, .second, Sj jm, .second, Sd wd, .second, Sr q, Sd ra, .second, Sd rb, .second, Si ca, .unset] [(.long jw), (.long jm), (.long ja)])
      obtain ⟨_, _, ⟨T174, L174, k174, n174⟩, -, X174, ⟨Lc174, hQ174, l174, y174, z174⟩, st174⟩ := Jvm.LawKit.callS X172 hx (y := (⟨"com/example/deliberate_scaler/deliberatescaler/model/RateWindowRatePinLaw", "in", "(JJJ)I"⟩ : MethodName)) hown (mvT hZ (hw _ (List.mem_of_getElem? (i := 32) rfl))) (mvT hZ (hw _ (List.mem_of_getElem? (i := 33) rfl))) (mvT hZ (hw _ (List.mem_of_getElem? (i := 34) rfl))) (mvT hZ (hw _ (List.mem_of_getElem? (i := 35) rfl))) (by decide) (backOf (W := 0) (rm5 l Z aw hw [] ja jm jw  h166 n0 ZZ ) hZ (hw _ (List.mem_of_getElem? (i := 35) rfl)) (hw _ (List.mem_of_getElem? (i := 34) rfl)) (by decide) (by decide)) (g := (mkF m 259 #[Si i0, Si i1, Si i2, Si i3, Si i4, Sj jw, .second, Si 3, Si 1, Sj ja, .second, Sj jb, .second, Sj jc, .second, Sj jd, .second, Sj jn, .second, Sj jm, .second, Sd wd, .second, Sr q, Sd ra, .second, Sd rb, .second, Si ca, .unset] [(.long jw), (.long jm), (.long ja)])) rfl (by rw [hml]; rfl) (argsL := [(.long ja), (.long jm), (.long jw)]) (rest := []) (lenOf pd_2 rfl) rfl (by show 2 * 0 + _ ≤ _; exact Nat.le_of_eq rfl) (hb hby at_259) (fun _ _ => ⟨rfl, e172, (by decide : 2 + 0 ≤ _), (by decide : 69 + 0 ≤ _)⟩)
      dsimp only [Pt.U, Pt.locs, Pt.cells, Pt.slots] at X174 l174 y174 z174 st174 hQ174
      subst l174 y174 z174
      obtain ⟨rfl, N174q, e174⟩ := hQ174
      have N174 := Fr.app N172 N174q
      refine Go.on st174 ?_
      show Go _ _ _ _ _ _ _ _ (mkF m 262 #[Si i0, Si i1, Si i2, Si i3, Si i4, Sj jw, .second, Si 3, Si 1, Sj ja, .second, Sj jb, .second, Sj jc, .second, Sj jd, .second, Sj jn, .second, Sj jm, .second, Sd wd, .second, Sr q, Sd ra, .second, Sd rb, .second, Si ca, .unset] [(.int (inV ja jm jw))])
      refine Go.on (fun _ k => XS.goto X174.here hx rfl (pc0 := 262) (pc' := 266) rfl (hb hby at_262) (by decide) (by decide) k) ?_
      refine Go.on (fun _ k => XS.iload X174.here hx rfl (hb hby at_266) rfl k) ?_
      refine Go.on (fun _ k => XS.iconst X174.here hx rfl (hb hby at_268) k) ?_
      show Go _ _ _ _ _ _ _ _ (mkF m 269 #[Si i0, Si i1, Si i2, Si i3, Si i4, Sj jw, .second, Si 3, Si 1, Sj ja, .second, Sj jb, .second, Sj jc, .second, Sj jd, .second, Sj jn, .second, Sj jm, .second, Sd wd, .second, Sr q, Sd ra, .second, Sd rb, .second, Si ca, .unset] [(.int 2), (.int 3), (.int (inV ja jm jw))])
      have hc175 : ¬ ((3 : Int32) < (2 : Int32)) := by decide
      refine Go.on (fun _ k => XS.icmpNo X174.here hx rfl (hb hby at_269) rfl (flt hc175).1 k) ?_
      refine Go.on (fun _ k => XS.lload X174.here hx rfl (hb hby at_272) rfl k) ?_
      refine Go.on (fun _ k => XS.lload X174.here hx rfl (hb hby at_274) rfl k) ?_
      refine Go.on (fun _ k => XS.lload X174.here hx rfl (hb hby at_276) rfl k) ?_
      show Go _ _ _ _ _ _ _ _ (mkF m 278 #[Si i0, Si i1, Si i2, Si i3, Si i4, Sj jw, .second, Si 3, Si 1, Sj ja, .second, Sj jb, .second, Sj jc, .second, Sj jd, .second, Sj jn, .second, Sj jm, .second, Sd wd, .second, Sr q, Sd ra, .second, Sd rb, .second, Si ca, .unset] [(.long jw), (.long jm), (.long jb), (.int (inV ja jm jw))])
      obtain ⟨_, _, ⟨T176, L176, k176, n176⟩, -, X176, ⟨Lc176, hQ176, l176, y176, z176⟩, st176⟩ := Jvm.LawKit.callS X174 hx (y := (⟨"com/example/deliberate_scaler/deliberatescaler/model/RateWindowRatePinLaw", "in", "(JJJ)I"⟩ : MethodName)) hown (mvT hZ (hw _ (List.mem_of_getElem? (i := 32) rfl))) (mvT hZ (hw _ (List.mem_of_getElem? (i := 33) rfl))) (mvT hZ (hw _ (List.mem_of_getElem? (i := 34) rfl))) (mvT hZ (hw _ (List.mem_of_getElem? (i := 35) rfl))) (by decide) (backOf (W := 1) (rm5 l Z aw hw [] jb jm jw  h166 n0 ZZ ) hZ (hw _ (List.mem_of_getElem? (i := 35) rfl)) (hw _ (List.mem_of_getElem? (i := 34) rfl)) (by decide) (by decide)) (g := (mkF m 278 #[Si i0, Si i1, Si i2, Si i3, Si i4, Sj jw, .second, Si 3, Si 1, Sj ja, .second, Sj jb, .second, Sj jc, .second, Sj jd, .second, Sj jn, .second, Sj jm, .second, Sd wd, .second, Sr q, Sd ra, .second, Sd rb, .second, Si ca, .unset] [(.long jw), (.long jm), (.long jb), (.int (inV ja jm jw))])) rfl (by rw [hml]; rfl) (argsL := [(.long jb), (.long jm), (.long jw)]) (rest := [(.int (inV ja jm jw))]) (lenOf pd_2 rfl) rfl (by show 2 * 0 + _ ≤ _; exact Nat.le_of_eq rfl) (hb hby at_278) (fun _ _ => ⟨rfl, e174, (by decide : 2 + 0 ≤ _), (by decide : 69 + 0 ≤ _)⟩)
      dsimp only [Pt.U, Pt.locs, Pt.cells, Pt.slots] at X176 l176 y176 z176 st176 hQ176
      subst l176 y176 z176
      obtain ⟨rfl, N176q, e176⟩ := hQ176
      have N176 := Fr.app N174 N176q
      refine Go.on st176 ?_
      show Go _ _ _ _ _ _ _ _ (mkF m 281 #[Si i0, Si i1, Si i2, Si i3, Si i4, Sj jw, .second, Si 3, Si 1, Sj ja, .second, Sj jb, .second, Sj jc, .second, Sj jd, .second, Sj jn, .second, Sj jm, .second, Sd wd, .second, Sr q, Sd ra, .second, Sd rb, .second, Si ca, .unset] [(.int (inV jb jm jw)), (.int (inV ja jm jw))])
      refine Go.on (fun _ k => XS.goto X176.here hx rfl (pc0 := 281) (pc' := 285) rfl (hb hby at_281) (by decide) (by decide) k) ?_
      refine Go.on (fun _ k => XS.iadd X176.here hx rfl (hb hby at_285) rfl k) ?_
      refine Go.on (fun _ k => XS.iload X176.here hx rfl (hb hby at_286) rfl k) ?_
      refine Go.on (fun _ k => XS.iconst X176.here hx rfl (hb hby at_288) k) ?_
      show Go _ _ _ _ _ _ _ _ (mkF m 289 #[Si i0, Si i1, Si i2, Si i3, Si i4, Sj jw, .second, Si 3, Si 1, Sj ja, .second, Sj jb, .second, Sj jc, .second, Sj jd, .second, Sj jn, .second, Sj jm, .second, Sd wd, .second, Sr q, Sd ra, .second, Sd rb, .second, Si ca, .unset] [(.int 3), (.int 3), (.int ((inV ja jm jw) + (inV jb jm jw)))])
      have hc177 : ¬ ((3 : Int32) < (3 : Int32)) := by decide
      refine Go.on (fun _ k => XS.icmpNo X176.here hx rfl (hb hby at_289) rfl (flt hc177).1 k) ?_
      refine Go.on (fun _ k => XS.lload X176.here hx rfl (hb hby at_292) rfl k) ?_
      refine Go.on (fun _ k => XS.lload X176.here hx rfl (hb hby at_294) rfl k) ?_
      refine Go.on (fun _ k => XS.lload X176.here hx rfl (hb hby at_296) rfl k) ?_
      show Go _ _ _ _ _ _ _ _ (mkF m 298 #[Si i0, Si i1, Si i2, Si i3, Si i4, Sj jw, .second, Si 3, Si 1, Sj ja, .second, Sj jb, .second, Sj jc, .second, Sj jd, .second, Sj jn, .second, Sj jm, .second, Sd wd, .second, Sr q, Sd ra, .second, Sd rb, .second, Si ca, .unset] [(.long jw), (.long jm), (.long jc), (.int ((inV ja jm jw) + (inV jb jm jw)))])
      obtain ⟨_, _, ⟨T178, L178, k178, n178⟩, -, X178, ⟨Lc178, hQ178, l178, y178, z178⟩, st178⟩ := Jvm.LawKit.callS X176 hx (y := (⟨"com/example/deliberate_scaler/deliberatescaler/model/RateWindowRatePinLaw", "in", "(JJJ)I"⟩ : MethodName)) hown (mvT hZ (hw _ (List.mem_of_getElem? (i := 32) rfl))) (mvT hZ (hw _ (List.mem_of_getElem? (i := 33) rfl))) (mvT hZ (hw _ (List.mem_of_getElem? (i := 34) rfl))) (mvT hZ (hw _ (List.mem_of_getElem? (i := 35) rfl))) (by decide) (backOf (W := 1) (rm5 l Z aw hw [] jc jm jw  h166 n0 ZZ ) hZ (hw _ (List.mem_of_getElem? (i := 35) rfl)) (hw _ (List.mem_of_getElem? (i := 34) rfl)) (by decide) (by decide)) (g := (mkF m 298 #[Si i0, Si i1, Si i2, Si i3, Si i4, Sj jw, .second, Si 3, Si 1, Sj ja, .second, Sj jb, .second, Sj jc, .second, Sj jd, .second, Sj jn, .second, Sj jm, .second, Sd wd, .second, Sr q, Sd ra, .second, Sd rb, .second, Si ca, .unset] [(.long jw), (.long jm), (.long jc), (.int ((inV ja jm jw) + (inV jb jm jw)))])) rfl (by rw [hml]; rfl) (argsL := [(.long jc), (.long jm), (.long jw)]) (rest := [(.int ((inV ja jm jw) + (inV jb jm jw)))]) (lenOf pd_2 rfl) rfl (by show 2 * 0 + _ ≤ _; exact Nat.le_of_eq rfl) (hb hby at_298) (fun _ _ => ⟨rfl, e176, (by decide : 2 + 0 ≤ _), (by decide : 69 + 0 ≤ _)⟩)
      dsimp only [Pt.U, Pt.locs, Pt.cells, Pt.slots] at X178 l178 y178 z178 st178 hQ178
      subst l178 y178 z178
      obtain ⟨rfl, N178q, e178⟩ := hQ178
      have N178 := Fr.app N176 N178q
      refine Go.on st178 ?_
      show Go _ _ _ _ _ _ _ _ (mkF m 301 #[Si i0, Si i1, Si i2, Si i3, Si i4, Sj jw, .second, Si 3, Si 1, Sj ja, .second, Sj jb, .second, Sj jc, .second, Sj jd, .second, Sj jn, .second, Sj jm, .second, Sd wd, .second, Sr q, Sd ra, .second, Sd rb, .second, Si ca, .unset] [(.int (inV jc jm jw)), (.int ((inV ja jm jw) + (inV jb jm jw)))])
      refine Go.on (fun _ k => XS.goto X178.here hx rfl (pc0 := 301) (pc' := 305) rfl (hb hby at_301) (by decide) (by decide) k) ?_
      refine Go.on (fun _ k => XS.iadd X178.here hx rfl (hb hby at_305) rfl k) ?_
      refine Go.on (fun _ k => XS.iload X178.here hx rfl (hb hby at_306) rfl k) ?_
      show Go _ _ _ _ _ _ _ _ (mkF m 308 #[Si i0, Si i1, Si i2, Si i3, Si i4, Sj jw, .second, Si 3, Si 1, Sj ja, .second, Sj jb, .second, Sj jc, .second, Sj jd, .second, Sj jn, .second, Sj jm, .second, Sd wd, .second, Sr q, Sd ra, .second, Sd rb, .second, Si ca, .unset] [(.int 1), (.int (((inV ja jm jw) + (inV jb jm jw)) + (inV jc jm jw)))])
      have hc179 : ¬ ((1 : Int32) = (0 : Int32)) := by decide
      refine Go.on (fun _ k => XS.ifNo X178.here hx rfl (hb hby at_308) rfl ((if0 _ _).trans (feq hc179).1) k) ?_
      refine Go.on (fun _ k => XS.lload X178.here hx rfl (hb hby at_311) rfl k) ?_
      refine Go.on (fun _ k => XS.lload X178.here hx rfl (hb hby at_313) rfl k) ?_
      refine Go.on (fun _ k => XS.lload X178.here hx rfl (hb hby at_315) rfl k) ?_
      show Go _ _ _ _ _ _ _ _ (mkF m 317 #[Si i0, Si i1, Si i2, Si i3, Si i4, Sj jw, .second, Si 3, Si 1, Sj ja, .second, Sj jb, .second, Sj jc, .second, Sj jd, .second, Sj jn, .second, Sj jm, .second, Sd wd, .second, Sr q, Sd ra, .second, Sd rb, .second, Si ca, .unset] [(.long jw), (.long jm), (.long jd), (.int (((inV ja jm jw) + (inV jb jm jw)) + (inV jc jm jw)))])
      obtain ⟨_, _, ⟨T180, L180, k180, n180⟩, -, X180, ⟨Lc180, hQ180, l180, y180, z180⟩, st180⟩ := Jvm.LawKit.callS X178 hx (y := (⟨"com/example/deliberate_scaler/deliberatescaler/model/RateWindowRatePinLaw", "in", "(JJJ)I"⟩ : MethodName)) hown (mvT hZ (hw _ (List.mem_of_getElem? (i := 32) rfl))) (mvT hZ (hw _ (List.mem_of_getElem? (i := 33) rfl))) (mvT hZ (hw _ (List.mem_of_getElem? (i := 34) rfl))) (mvT hZ (hw _ (List.mem_of_getElem? (i := 35) rfl))) (by decide) (backOf (W := 1) (rm5 l Z aw hw [] jd jm jw  h166 n0 ZZ ) hZ (hw _ (List.mem_of_getElem? (i := 35) rfl)) (hw _ (List.mem_of_getElem? (i := 34) rfl)) (by decide) (by decide)) (g := (mkF m 317 #[Si i0, Si i1, Si i2, Si i3, Si i4, Sj jw, .second, Si 3, Si 1, Sj ja, .second, Sj jb, .second, Sj jc, .second, Sj jd, .second, Sj jn, .second, Sj jm, .second, Sd wd, .second, Sr q, Sd ra, .second, Sd rb, .second, Si ca, .unset] [(.long jw), (.long jm), (.long jd), (.int (((inV ja jm jw) + (inV jb jm jw)) + (inV jc jm jw)))])) rfl (by rw [hml]; rfl) (argsL := [(.long jd), (.long jm), (.long jw)]) (rest := [(.int (((inV ja jm jw) + (inV jb jm jw)) + (inV jc jm jw)))]) (lenOf pd_2 rfl) rfl (by show 2 * 0 + _ ≤ _; exact Nat.le_of_eq rfl) (hb hby at_317) (fun _ _ => ⟨rfl, e178, (by decide : 2 + 0 ≤ _), (by decide : 69 + 0 ≤ _)⟩)
      dsimp only [Pt.U, Pt.locs, Pt.cells, Pt.slots] at X180 l180 y180 z180 st180 hQ180
      subst l180 y180 z180
      obtain ⟨rfl, N180q, e180⟩ := hQ180
      have N180 := Fr.app N178 N180q
      refine Go.on st180 ?_
      show Go _ _ _ _ _ _ _ _ (mkF m 320 #[Si i0, Si i1, Si i2, Si i3, Si i4, Sj jw, .second, Si 3, Si 1, Sj ja, .second, Sj jb, .second, Sj jc, .second, Sj jd, .second, Sj jn, .second, Sj jm, .second, Sd wd, .second, Sr q, Sd ra, .second, Sd rb, .second, Si ca, .unset] [(.int (inV jd jm jw)), (.int (((inV ja jm jw) + (inV jb jm jw)) + (inV jc jm jw)))])
      refine Go.on (fun _ k => XS.goto X180.here hx rfl (pc0 := 320) (pc' := 324) rfl (hb hby at_320) (by decide) (by decide) k) ?_
      refine Go.on (fun _ k => XS.iadd X180.here hx rfl (hb hby at_324) rfl k) ?_
      show Go _ _ _ _ _ _ _ _ (mkF m 325 #[Si i0, Si i1, Si i2, Si i3, Si i4, Sj jw, .second, Si 3, Si 1, Sj ja, .second, Sj jb, .second, Sj jc, .second, Sj jd, .second, Sj jn, .second, Sj jm, .second, Sd wd, .second, Sr q, Sd ra, .second, Sd rb, .second, Si ca, .unset] [(.int ((((inV ja jm jw) + (inV jb jm jw)) + (inV jc jm jw)) + (inV jd jm jw)))])
      refine Go.on (fun _ k => XS.istore X180.here hx rfl (hb hby at_325) rfl (l' := #[.val (.int i0), .val (.int i1), .val (.int i2), .val (.int i3), .val (.int i4), .val (.long jw), .second, .val (.int (3 : Int32)), .val (.int (1 : Int32)), .val (.long ja), .second, .val (.long jb), .second, .val (.long jc), .second, .val (.long jd), .second, .val (.long jn), .second, .val (.long jm), .second, .val (.double wd), .second, .val (.ref q), .val (.double ra), .second, .val (.double rb), .second, .val (.int ca), .val (.int ((((inV ja jm jw) + (inV jb jm jw)) + (inV jc jm jw)) + (inV jd jm jw)))]) rfl k) ?_
      show Go _ _ _ _ _ _ _ _ (mkF m 327 #[Si i0, Si i1, Si i2, Si i3, Si i4, Sj jw, .second, Si 3, Si 1, Sj ja, .second, Sj jb, .second, Sj jc, .second, Sj jd, .second, Sj jn, .second, Sj jm, .second, Sd wd, .second, Sr q, Sd ra, .second, Sd rb, .second, Si ca, .val (.int ((((inV ja jm jw) + (inV jb jm jw)) + (inV jc jm jw)) + (inV jd jm jw)))] [])
      generalize hcb : ((((inV ja jm jw) + (inV jb jm jw)) + (inV jc jm jw)) + (inV jd jm jw)) = cb
      show Go _ _ _ _ _ _ _ _ (mkF m 327 #[Si i0, Si i1, Si i2, Si i3, Si i4, Sj jw, .second, Si 3, Si 1, Sj ja, .second, Sj jb, .second, Sj jc, .second, Sj jd, .second, Sj jn, .second, Sj jm, .second, Sd wd, .second, Sr q, Sd ra, .second, Sd rb, .second, Si ca, Si cb] [])
      refine Go.on (fun _ k => XS.dload X180.here hx rfl (hb hby at_327) rfl k) ?_
      refine Go.on (fun _ k => XS.iload X180.here hx rfl (hb hby at_329) rfl k) ?_
      refine Go.on (fun _ k => XS.i2dS X180.here hx rfl (hb hby at_331) rfl rfl k) ?_
      refine Go.on (fun _ k => XS.dload X180.here hx rfl (hb hby at_332) rfl k) ?_
      show Go _ _ _ _ _ _ _ _ (mkF m 334 #[Si i0, Si i1, Si i2, Si i3, Si i4, Sj jw, .second, Si 3, Si 1, Sj ja, .second, Sj jb, .second, Sj jc, .second, Sj jd, .second, Sj jn, .second, Sj jm, .second, Sd wd, .second, Sr q, Sd ra, .second, Sd rb, .second, Si ca, Si cb] [(.double wd), (.double (FP.i2d ca)), (.double ra)])
      refine Go.on (fun _ k => XS.ddivS X180.here hx rfl (hb hby at_334) rfl ((own_rt _ hwd.symm hwj.1 Bjw)) rfl k) ?_
      show Go _ _ _ _ _ _ _ _ (mkF m 335 #[Si i0, Si i1, Si i2, Si i3, Si i4, Sj jw, .second, Si 3, Si 1, Sj ja, .second, Sj jb, .second, Sj jc, .second, Sj jd, .second, Sj jn, .second, Sj jm, .second, Sd wd, .second, Sr q, Sd ra, .second, Sd rb, .second, Si ca, Si cb] [(.double (FP.ddiv (FP.i2d ca) wd)), (.double ra)])
      refine Go.on (fun _ k => XS.dcmpS X180.here hx rfl (hb hby at_335) rfl rfl k) ?_
      show Go _ _ _ _ _ _ _ _ (mkF m 336 #[Si i0, Si i1, Si i2, Si i3, Si i4, Sj jw, .second, Si 3, Si 1, Sj ja, .second, Sj jb, .second, Sj jc, .second, Sj jd, .second, Sj jn, .second, Sj jm, .second, Sd wd, .second, Sr q, Sd ra, .second, Sd rb, .second, Si ca, Si cb] [(.int (cmpValue (FP.dcmp ra (FP.ddiv (FP.i2d ca) wd)) .l))])
      have hc181 : (cmpValue (FP.dcmp ra (FP.ddiv (FP.i2d ca) wd)) .l) = (0 : Int32) := own_same hra (by first | exact hca | rfl | (rw [← hca]; simp) | simp) hwd hwj.1 Bjw
      refine Go.on (fun _ k => XS.ifNo X180.here hx rfl (hb hby at_336) rfl ((if0 _ _).trans (teq hc181).2) k) ?_
      refine Go.on (fun _ k => XS.dload X180.here hx rfl (hb hby at_339) rfl k) ?_
      refine Go.on (fun _ k => XS.iload X180.here hx rfl (hb hby at_341) rfl k) ?_
      refine Go.on (fun _ k => XS.i2dS X180.here hx rfl (hb hby at_343) rfl rfl k) ?_
      refine Go.on (fun _ k => XS.dload X180.here hx rfl (hb hby at_344) rfl k) ?_
      show Go _ _ _ _ _ _ _ _ (mkF m 346 #[Si i0, Si i1, Si i2, Si i3, Si i4, Sj jw, .second, Si 3, Si 1, Sj ja, .second, Sj jb, .second, Sj jc, .second, Sj jd, .second, Sj jn, .second, Sj jm, .second, Sd wd, .second, Sr q, Sd ra, .second, Sd rb, .second, Si ca, Si cb] [(.double wd), (.double (FP.i2d cb)), (.double rb)])
      refine Go.on (fun _ k => XS.ddivS X180.here hx rfl (hb hby at_346) rfl ((own_rt _ hwd.symm hwj.1 Bjw)) rfl k) ?_
      show Go _ _ _ _ _ _ _ _ (mkF m 347 #[Si i0, Si i1, Si i2, Si i3, Si i4, Sj jw, .second, Si 3, Si 1, Sj ja, .second, Sj jb, .second, Sj jc, .second, Sj jd, .second, Sj jn, .second, Sj jm, .second, Sd wd, .second, Sr q, Sd ra, .second, Sd rb, .second, Si ca, Si cb] [(.double (FP.ddiv (FP.i2d cb) wd)), (.double rb)])
      refine Go.on (fun _ k => XS.dcmpS X180.here hx rfl (hb hby at_347) rfl rfl k) ?_
      show Go _ _ _ _ _ _ _ _ (mkF m 348 #[Si i0, Si i1, Si i2, Si i3, Si i4, Sj jw, .second, Si 3, Si 1, Sj ja, .second, Sj jb, .second, Sj jc, .second, Sj jd, .second, Sj jn, .second, Sj jm, .second, Sd wd, .second, Sr q, Sd ra, .second, Sd rb, .second, Si ca, Si cb] [(.int (cmpValue (FP.dcmp rb (FP.ddiv (FP.i2d cb) wd)) .l))])
      have hc182 : (cmpValue (FP.dcmp rb (FP.ddiv (FP.i2d cb) wd)) .l) = (0 : Int32) := own_same hrb (by first | exact hcb | rfl | (rw [← hcb]; simp) | simp) hwd hwj.1 Bjw
      refine Go.on (fun _ k => XS.ifNo X180.here hx rfl (hb hby at_348) rfl ((if0 _ _).trans (teq hc182).2) k) ?_
      refine Go.on (fun _ k => XS.iconst X180.here hx rfl (hb hby at_351) k) ?_
      refine Go.on (fun _ k => XS.goto X180.here hx rfl (pc0 := 352) (pc' := 356) rfl (hb hby at_352) (by decide) (by decide) k) ?_
      show Go _ _ _ _ _ _ _ _ (mkF m 356 #[Si i0, Si i1, Si i2, Si i3, Si i4, Sj jw, .second, Si 3, Si 1, Sj ja, .second, Sj jb, .second, Sj jc, .second, Sj jd, .second, Sj jn, .second, Sj jm, .second, Sd wd, .second, Sr q, Sd ra, .second, Sd rb, .second, Si ca, Si cb] [(.int 1)])
      refine Go.retN X180 hx (t := .boolean) Bd.returns (by simp) (hb hby at_356) ?_ (by rw [hK1]; decide) (by rw [hK2]; decide)
      rw [e180, ← hQQ]
      exact ⟨rfl, N180⟩
set_option maxRecDepth 65536 in
set_option maxHeartbeats 40000000 in
theorem comes_1 {Post : Tables → Env → Array Value → State → Outcome → State → Prop} (hpost : ∀ tb e args s v u, (limb_1_1.after args s (.returned v) u = true ∧ limb_1_2.after args s (.returned v) u = true ∧ True) → FrameEnd s (.returned v) u (Jvm.fieldLocs frame_1_writes args s ++ Jvm.arrayLocs frame_1_arrays args s ++ Jvm.staticLocs frame_1_statics s) 16 256 → Post tb e args s (.returned v) u) :
    ArmFor flags0 classFile x code maxLocals ret World_1 tables_1 room_1 Calls_1 rest_1 Pre_1 Post := by
  intro l hfl _ _ p e ha hc hk s m args below hf hA hF happ hP
  obtain ⟨hcalls, hrest, hpre⟩ := hP
  obtain ⟨-, -, -, hnamed, -, -, -, hat⟩ := (Spec.applies_iff hf).mp happ
  obtain ⟨hg, hn⟩ := and_e (Cond.before_iff.mp (show (Jvm.Cond.and given_1 narrow_1).before args s = true from hpre))
  obtain ⟨g0, r0⟩ := and_e hg
  obtain ⟨g1, r1⟩ := and_e r0
  obtain ⟨g2, r2⟩ := and_e r1
  obtain ⟨g3, r3⟩ := and_e r2
  obtain ⟨g4, g5⟩ := and_e r3
  obtain ⟨w0, w1, w2, w3, w4, rfl⟩ : ∃ w0 w1 w2 w3 w4 : Value, args = #[w0, w1, w2, w3, w4] := by
    have hs : args.size = 5 := by simpa [Cond.value, given_1] using g0
    obtain ⟨L⟩ := args
    match L, hs with
    | [w0, w1, w2, w3, w4], _ => exact ⟨w0, w1, w2, w3, w4, rfl⟩
  have hw := fun d (hd : d ∈ tables_1) => atoms_spec (ws := Jvm.Cond.code x code maxLocals ret :: tables_1) hat d (List.mem_cons_of_mem _ hd)
  have hfit : Fit s := fun {y c} hc i hi => by
    obtain ⟨ha, rfl⟩ := Array.getElem?_eq_some_iff.mp hc
    have q := List.all_eq_true.mp ((Array.all_eq_true_iff_forall_mem.mp hF) _ (Array.getElem_mem ha)) i (List.mem_range.mpr hi)
    simpa [Array.getElem?_eq_getElem hi] using q
  obtain ⟨i0, ei0⟩ := is_v g1
  obtain rfl : w0 = (.int i0) := Option.some.inj ei0
  obtain ⟨i1, ei1⟩ := is_v g2
  obtain rfl : w1 = (.int i1) := Option.some.inj ei1
  obtain ⟨i2, ei2⟩ := is_v g3
  obtain rfl : w2 = (.int i2) := Option.some.inj ei2
  obtain ⟨i3, ei3⟩ := is_v g4
  obtain rfl : w3 = (.int i3) := Option.some.inj ei3
  obtain ⟨i4, ei4⟩ := is_v g5
  obtain rfl : w4 = (.int i4) := Option.some.inj ei4
  obtain ⟨n, o, h1, h2, h3, _, L, rfl, ⟨rfl, N⟩, hq⟩ := rm0 l s _ hw tables_1 i0 i1 i2 i3 i4 s.heap s.heap.size (Nat.le_refl _) p e ha hc hk s m _ below hf ((Spec.applies_iff_loose hf).mp happ).1 ⟨rfl, State.Warmed39.refl s, rfl⟩ trivial
  refine ⟨n, _, h1, h2, h3, hpost _ _ _ _ _ _ ⟨Cond.after_iff.mpr rfl, Cond.after_iff.mpr (eq_i res_at (Term.int_eval (1)) rfl), trivial⟩ ⟨hq.1, hq.2.1, (hq.2.2.sift fun y hy => Or.inr (N y hy)).mono (by decide) (by decide)⟩⟩
theorem main_1_1 : Claimed_1_1 := comes_1 fun _ _ _ _ _ _ h hF => ⟨h.1, hF⟩
theorem main_1_2 : Claimed_1_2 := comes_1 fun _ _ _ _ _ _ h hF => ⟨h.2.1, hF⟩
end Jvm.Pilot.@@N@@
namespace Jvm.Pilot.@@N@@
open Jvm Jvm.ClassFile Sem Op Lib Jvm.Free Jvm.Stand Jvm.Pilot.@@N@@.Jvm.D
/-! MADE BY PROGRAM (witnessworld.py) out of the Statement's table words and the real class files: 11 classes; the members and pool entries that the words name. The judged class is class 1, her method 2. -/
namespace start1
open Jvm.ClassFile
def u (s : String) : CpInfo := .utf8 (stringToUtf16 s)
/-- a pool by its gaps: so many unusable entries, then the entry; so many at the end -/
def gap : Nat → List CpInfo → List CpInfo
  | 0, r => r
  | n + 1, r => .unusable :: gap n r
def poolList (es : List (Nat × CpInfo)) (last : Nat) : List CpInfo := es.foldr (fun e r => gap e.1 (e.2 :: r)) (gap last [])
def pool (es : List (Nat × CpInfo)) (last : Nat) : Array CpInfo := ⟨poolList es last⟩
def fileOf (pool : Array CpInfo) (this : Nat) (attrs : Array Attribute := #[]) (ms : Array MethodInfo := #[]) (fl : Nat := 33) (sup : Nat := 0) (ifs : Array Nat := #[]) (fds : Array FieldInfo := #[]) : ClassFile where
  minorVersion := 0
  majorVersion := 65
  constantPool := pool
  accessFlags := fl
  thisClass := this
  superClass := sup
  interfaces := ifs
  fields := fds
  methods := ms
  attributes := attrs
def plain (name : String) (sup : Option ClassId) : Class where
  name := name
  kind := .ordinary
  loader := none
  accessFlags := 33
  super := sup
  interfaces := #[]
  cf := none
  fields := #[]
  methods := #[]
  instanceTypes := #[]
  staticTypes := #[]
  resolved := #[]
  callSites := []
  init := .initialized
  statics := none
  mirror := none

def pool0 : Array CpInfo := pool [(5, u "<init>"), (0, u "()V"), (1, .class_ 10), (1, u "java/lang/Object")] 113

def k0c0 : Code := { maxStack := 0, maxLocals := 1, code := object_method_1_code, exceptionTable := #[], attributes := #[] }
def k0m0 : Method := { name := "<init>", desc := "()V", sig := { parameters := [], returnType := none }, accessFlags := 1, code := some k0c0 }
/-- java/lang/Object -/
def k0 : Class := { plain "java/lang/Object" none with
  accessFlags := 33
  interfaces := #[]
  cf := some (fileOf pool0 8 #[] #[{ accessFlags := 1, nameIndex := 5, descriptorIndex := 6, attributes := #[] }] 33 0 #[] #[])
  fields := #[]
  methods := #[k0m0]
  instanceTypes := #[]
  staticTypes := #[]
  resolved := Array.replicate 124 none
  statics := none }

def pool1 : Array CpInfo := pool [(2, .class_ 4), (1, u "java/lang/Object"), (0, u "<init>"), (0, u "()V"), (0, .class_ 8), (0, u "com/example/deliberate_scaler/deliberatescaler/model/RateWindow"), (0, .methodref 7 10), (0, .nameAndType 5 11), (0, u "(D)V"), (0, .methodref 7 13), (0, .nameAndType 14 11), (0, u "add"), (0, .methodref 7 16), (0, .nameAndType 17 18), (0, u "rate"), (0, u "(D)D"), (0, .methodref 20 21), (0, .class_ 22), (0, .nameAndType 23 24), (0, u "com/example/deliberate_scaler/deliberatescaler/model/RateWindowRatePinLaw"), (0, u "in"), (0, u "(JJJ)I"), (3, u "law"), (0, u "(IIIII)Z")] 2

def k1m0 : Method := { name := "<init>", desc := "()V", sig := { parameters := [], returnType := none }, accessFlags := 1, code := none }
def k1c1 : Code := { maxStack := 6, maxLocals := 6, code := method_2_code, exceptionTable := #[], attributes := #[] }
def k1m1 : Method := { name := "in", desc := "(JJJ)I", sig := { parameters := [.long, .long, .long], returnType := some .int }, accessFlags := 10, code := some k1c1 }
def k1c2 : Code := { maxStack := 7, maxLocals := 30, code := code, exceptionTable := #[], attributes := #[] }
def k1m2 : Method := { name := "law", desc := "(IIIII)Z", sig := { parameters := [.int, .int, .int, .int, .int], returnType := some .boolean }, accessFlags := 9, code := some k1c2 }
/-- com/example/deliberate_scaler/deliberatescaler/model/RateWindowRatePinLaw -/
def k1 : Class := { plain "com/example/deliberate_scaler/deliberatescaler/model/RateWindowRatePinLaw" (some 0) with
  accessFlags := 49
  interfaces := #[]
  cf := some (fileOf pool1 20 #[] #[{ accessFlags := 1, nameIndex := 5, descriptorIndex := 6, attributes := #[] }, { accessFlags := 10, nameIndex := 23, descriptorIndex := 24, attributes := #[] }, { accessFlags := 9, nameIndex := 28, descriptorIndex := 29, attributes := #[] }] 49 2 #[] #[])
  fields := #[]
  methods := #[k1m0, k1m1, k1m2]
  instanceTypes := #[]
  staticTypes := #[]
  resolved := Array.replicate 32 none
  statics := none }

def pool2 : Array CpInfo := pool [(1, .methodref 2 3), (0, .class_ 4), (0, .nameAndType 5 6), (0, u "java/lang/Object"), (0, u "<init>"), (0, u "()V"), (0, .class_ 8), (0, u "com/example/deliberate_scaler/deliberatescaler/model/RateWindow"), (0, .fieldref 7 10), (0, .nameAndType 11 12), (0, u "times"), (0, u "[D"), (2, .double 18442240474082181120), (1, .fieldref 7 18), (0, .nameAndType 19 20), (0, u "latest"), (0, u "D"), (0, .double 9218868437227405312), (10, .fieldref 7 33), (0, .nameAndType 34 20), (0, u "window"), (3, .fieldref 7 39), (0, .nameAndType 40 41), (0, u "end"), (0, u "I"), (0, .fieldref 7 43), (0, .nameAndType 44 41), (0, u "first"), (6, u "INITIAL_CAPACITY"), (2, u "(D)V"), (3, u "add"), (1, u "rate"), (0, u "(D)D")] 19

def k2c0 : Code := { maxStack := 4, maxLocals := 3, code := prog_30_method_1_code, exceptionTable := #[], attributes := #[] }
def k2m0 : Method := { name := "<init>", desc := "(D)V", sig := { parameters := [.double], returnType := none }, accessFlags := 1, code := some k2c0 }
def k2c1 : Code := { maxStack := 6, maxLocals := 5, code := prog_30_method_2_code, exceptionTable := #[], attributes := #[] }
def k2m1 : Method := { name := "add", desc := "(D)V", sig := { parameters := [.double], returnType := none }, accessFlags := 1, code := some k2c1 }
def k2c2 : Code := { maxStack := 4, maxLocals := 6, code := prog_30_method_3_code, exceptionTable := #[], attributes := #[] }
def k2m2 : Method := { name := "rate", desc := "(D)D", sig := { parameters := [.double], returnType := some .double }, accessFlags := 1, code := some k2c2 }
/-- com/example/deliberate_scaler/deliberatescaler/model/RateWindow -/
def k2 : Class := { plain "com/example/deliberate_scaler/deliberatescaler/model/RateWindow" (some 0) with
  accessFlags := 49
  interfaces := #[]
  cf := some (fileOf pool2 7 #[] #[{ accessFlags := 1, nameIndex := 5, descriptorIndex := 54, attributes := #[] }, { accessFlags := 1, nameIndex := 58, descriptorIndex := 54, attributes := #[] }, { accessFlags := 1, nameIndex := 60, descriptorIndex := 61, attributes := #[] }] 49 2 #[] #[{ accessFlags := 26, nameIndex := 51, descriptorIndex := 41, attributes := #[] }, { accessFlags := 18, nameIndex := 34, descriptorIndex := 20, attributes := #[] }, { accessFlags := 2, nameIndex := 11, descriptorIndex := 12, attributes := #[] }, { accessFlags := 2, nameIndex := 44, descriptorIndex := 41, attributes := #[] }, { accessFlags := 2, nameIndex := 40, descriptorIndex := 41, attributes := #[] }, { accessFlags := 2, nameIndex := 19, descriptorIndex := 20, attributes := #[] }])
  fields := #[{ name := "INITIAL_CAPACITY", type := .int, accessFlags := 26, slot := 0, constantValue := 0 }, { name := "window", type := .double, accessFlags := 18, slot := 0, constantValue := 0 }, { name := "times", type := (.array .double), accessFlags := 2, slot := 1, constantValue := 0 }, { name := "first", type := .int, accessFlags := 2, slot := 2, constantValue := 0 }, { name := "end", type := .int, accessFlags := 2, slot := 3, constantValue := 0 }, { name := "latest", type := .double, accessFlags := 2, slot := 4, constantValue := 0 }]
  methods := #[k2m0, k2m1, k2m2]
  instanceTypes := #[.double, (.array .double), .int, .int, .double]
  staticTypes := #[.int]
  resolved := Array.replicate 81 none
  statics := none }

def pool3 : Array CpInfo := pool [(1, u "java/lang/Cloneable"), (0, .class_ 1), (0, u "java/lang/Object"), (0, .class_ 3)] 3

/-- java/lang/Cloneable -/
def k3 : Class := { plain "java/lang/Cloneable" (some 0) with
  accessFlags := 1537
  interfaces := #[]
  cf := some (fileOf pool3 2 #[] #[] 1537 4 #[] #[])
  fields := #[]
  methods := #[]
  instanceTypes := #[]
  staticTypes := #[]
  resolved := Array.replicate 8 none
  statics := none }

def pool4 : Array CpInfo := pool [(1, u "java/io/Serializable"), (0, .class_ 1), (0, u "java/lang/Object"), (0, .class_ 3)] 3

/-- java/io/Serializable -/
def k4 : Class := { plain "java/io/Serializable" (some 0) with
  accessFlags := 1537
  interfaces := #[]
  cf := some (fileOf pool4 2 #[] #[] 1537 4 #[] #[])
  fields := #[]
  methods := #[]
  instanceTypes := #[]
  staticTypes := #[]
  resolved := Array.replicate 8 none
  statics := none }

/-- the primitive byte -/
def k5 : Class := { plain "byte" none with kind := .primitive 'B', accessFlags := 0x411 }
/-- [B -/
def k6 : Class := { plain "[B" (some 0) with kind := .array 5 .byte, interfaces := #[3, 4], accessFlags := 1041 }

/-- the primitive double -/
def k7 : Class := { plain "double" none with kind := .primitive 'D', accessFlags := 0x411 }
/-- [D -/
def k8 : Class := { plain "[D" (some 0) with kind := .array 7 .double, interfaces := #[3, 4], accessFlags := 1041 }

/-- the primitive int -/
def k9 : Class := { plain "int" none with kind := .primitive 'I', accessFlags := 0x411 }
/-- [I -/
def k10 : Class := { plain "[I" (some 0) with kind := .array 9 .int, interfaces := #[3, 4], accessFlags := 1041 }

def heap : Heap := #[]
def classes : Array Class := #[k0, k1, k2, k3, k4, k5, k6, k7, k8, k9, k10]
def interned : List (Array UInt16 × Addr) := []
def slotsUsed : Nat := 0
def theMethod : MethodId := ⟨1, 2⟩
def args0 : Array Value := #[.int 5, .int 7, .int 3, .int 7, .int 9]
def aboutOver (below : List Frame) : State where
  vm := { classes := classes, interned := interned.toArray }
  heap := heap
  slotsUsed := slotsUsed
  threads := #[{ frames := .invoking theMethod args0 :: below }]
def below0 : List Frame := [.native { method := ⟨0, 0⟩, args := #[] }]
def about1 : State := aboutOver below0
def p0 : Program := .bare "" "" ""
def e0 : Env := launch0.env 0 0 0
theorem w_frames : about1.frames = Frame.invoking theMethod args0 :: below0 := rfl
set_option maxRecDepth 65536 in
theorem w_args : argsFit about1.vm theMethod args0 = true := by decide +kernel
set_option maxRecDepth 65536 in
theorem w_heap : heapFits about1 = true := by decide +kernel
set_option maxRecDepth 65536 in
theorem w_runnable : about1.curStatus? = some .runnable := by decide +kernel
set_option maxRecDepth 65536 in
theorem w_alone : about1.alone = true := by decide +kernel
set_option maxRecDepth 65536 in
theorem w_named : about1.methodNamed? x = some theMethod := by decide +kernel
set_option maxRecDepth 65536 in
theorem w_hears : about1.hears theMethod below0 = true := by decide +kernel
set_option maxRecDepth 65536 in
theorem w_ripe : about1.ripe theMethod args0 below0 = true := by decide +kernel
theorem w_running : about1.status = .running := rfl
set_option maxRecDepth 65536 in
theorem w_room : about1.hasRoom e0.platform room_1 = true :=
  launch0.hasRoom_least _ room_1 (by decide +kernel) (by decide +kernel) (by decide +kernel) (by decide +kernel) (by decide +kernel) (by decide +kernel)
theorem allAtoms_all (ts : List Jvm.Cond) (a : Array Jvm.Value) (st : Jvm.State) : (allAtoms ts).before a st = ts.all (fun c => c.before a st) := by
  induction ts with
  | nil => rfl
  | cons c t ih =>
    show (Jvm.Cond.and c (allAtoms t)).before a st = _
    rw [Jvm.Cond.before_and, ih, List.all_cons]
def words1 : List Jvm.Cond := Jvm.Cond.code x code maxLocals ret :: tables_1
/-- a 'code' word, met by the world's own term for the bytes: nothing is compared byte by byte -/
theorem code_word {y : MethodName} {bytes : ByteArray} {mx : Nat} {rt : Option FieldType} {a : Array Value} {s : State} {m : MethodId} {meth : Method} {c : Code} (h1 : s.methodNamed? y = some m) (h2 : s.vm.method? m = some meth) (h3 : meth.code = some c) (h4 : c.code = bytes)
    (h5 : (c.maxLocals == mx && c.exceptionTable.isEmpty && decide (c.maxStack ≤ mostOperands) && decide (meth.sig.returnType = rt) && !meth.locks && decide (parseMethodDescriptor y.desc = some meth.sig)) = true) : (Jvm.Cond.code y bytes mx rt).before a s = true := by
  simp only [Bool.and_eq_true, beq_iff_eq, Bool.not_eq_true', decide_eq_true_eq] at h5
  obtain ⟨⟨⟨⟨⟨g1, g2⟩, g3⟩, g4⟩, g5⟩, g6⟩ := h5
  simp [Cond.before, Cond.holds, Cond.value, h1, h2, h3, h4, g1, g2, g3, g4, g5, g6]
def isCode : Jvm.Cond → Bool
  | .code _ _ _ _ => true
  | _ => false
theorem all_split {L : List Jvm.Cond} {P : Jvm.Cond → Bool} (h1 : L.all (fun c => isCode c || P c) = true) (h2 : ∀ c ∈ L.filter isCode, P c = true) : L.all P = true := by
  refine List.all_eq_true.mpr fun c hc => ?_
  have h := List.all_eq_true.mp h1 c hc
  rcases Bool.eq_false_or_eq_true (isCode c) with hi | hi
  · exact h2 c (List.mem_filter.mpr ⟨hc, hi⟩)
  · simpa [hi] using h
set_option maxRecDepth 65536 in
theorem w_c0 : (Jvm.Cond.code x code maxLocals ret).before args0 about1 = true := code_word (m := ⟨1, 2⟩) (meth := k1m2) (c := k1c2) (by decide +kernel) rfl rfl rfl (by decide +kernel)
set_option maxRecDepth 65536 in
theorem w_c1 : (Jvm.Cond.code ({ cls := "com/example/deliberate_scaler/deliberatescaler/model/RateWindow", name := "<init>", desc := "(D)V" } : Jvm.MethodName) prog_30_method_1_code (3 : Nat) (Option.none : Option Jvm.ClassFile.FieldType)).before args0 about1 = true := code_word (m := ⟨2, 0⟩) (meth := k2m0) (c := k2c0) (by decide +kernel) rfl rfl rfl (by decide +kernel)
set_option maxRecDepth 65536 in
theorem w_c2 : (Jvm.Cond.code ({ cls := "java/lang/Object", name := "<init>", desc := "()V" } : Jvm.MethodName) object_method_1_code (1 : Nat) (Option.none : Option Jvm.ClassFile.FieldType)).before args0 about1 = true := code_word (m := ⟨0, 0⟩) (meth := k0m0) (c := k0c0) (by decide +kernel) rfl rfl rfl (by decide +kernel)
set_option maxRecDepth 65536 in
theorem w_c3 : (Jvm.Cond.code ({ cls := "com/example/deliberate_scaler/deliberatescaler/model/RateWindow", name := "add", desc := "(D)V" } : Jvm.MethodName) prog_30_method_2_code (5 : Nat) (Option.none : Option Jvm.ClassFile.FieldType)).before args0 about1 = true := code_word (m := ⟨2, 1⟩) (meth := k2m1) (c := k2c1) (by decide +kernel) rfl rfl rfl (by decide +kernel)
set_option maxRecDepth 65536 in
theorem w_c4 : (Jvm.Cond.code ({ cls := "com/example/deliberate_scaler/deliberatescaler/model/RateWindow", name := "rate", desc := "(D)D" } : Jvm.MethodName) prog_30_method_3_code (6 : Nat) (Option.some Jvm.ClassFile.FieldType.double)).before args0 about1 = true := code_word (m := ⟨2, 2⟩) (meth := k2m2) (c := k2c2) (by decide +kernel) rfl rfl rfl (by decide +kernel)
set_option maxRecDepth 65536 in
theorem w_c5 : (Jvm.Cond.code ({ cls := "com/example/deliberate_scaler/deliberatescaler/model/RateWindowRatePinLaw", name := "in", desc := "(JJJ)I" } : Jvm.MethodName) method_2_code (6 : Nat) (Option.some Jvm.ClassFile.FieldType.int)).before args0 about1 = true := code_word (m := ⟨1, 1⟩) (meth := k1m1) (c := k1c1) (by decide +kernel) rfl rfl rfl (by decide +kernel)
def codes1 : List Jvm.Cond := [Jvm.Cond.code x code maxLocals ret, Jvm.Cond.code ({ cls := "com/example/deliberate_scaler/deliberatescaler/model/RateWindow", name := "<init>", desc := "(D)V" } : Jvm.MethodName) prog_30_method_1_code (3 : Nat) (Option.none : Option Jvm.ClassFile.FieldType), Jvm.Cond.code ({ cls := "java/lang/Object", name := "<init>", desc := "()V" } : Jvm.MethodName) object_method_1_code (1 : Nat) (Option.none : Option Jvm.ClassFile.FieldType), Jvm.Cond.code ({ cls := "com/example/deliberate_scaler/deliberatescaler/model/RateWindow", name := "add", desc := "(D)V" } : Jvm.MethodName) prog_30_method_2_code (5 : Nat) (Option.none : Option Jvm.ClassFile.FieldType), Jvm.Cond.code ({ cls := "com/example/deliberate_scaler/deliberatescaler/model/RateWindow", name := "rate", desc := "(D)D" } : Jvm.MethodName) prog_30_method_3_code (6 : Nat) (Option.some Jvm.ClassFile.FieldType.double), Jvm.Cond.code ({ cls := "com/example/deliberate_scaler/deliberatescaler/model/RateWindowRatePinLaw", name := "in", desc := "(JJJ)I" } : Jvm.MethodName) method_2_code (6 : Nat) (Option.some Jvm.ClassFile.FieldType.int)]
set_option maxRecDepth 65536 in
theorem codes_eq : words1.filter isCode = codes1 := rfl
theorem w_codes : ∀ c ∈ words1.filter isCode, c.before args0 about1 = true := by
  rw [codes_eq]
  intro c hc
  simp only [codes1, List.mem_cons, List.not_mem_nil, or_false] at hc
  rcases hc with rfl | rfl | rfl | rfl | rfl | rfl
  · exact w_c0
  · exact w_c1
  · exact w_c2
  · exact w_c3
  · exact w_c4
  · exact w_c5
set_option maxRecDepth 65536 in
theorem w_t1 : (words1.take 24).all (fun c => isCode c || c.before args0 about1) = true := by decide +kernel
set_option maxRecDepth 65536 in
theorem w_t2 : (words1.drop 24).all (fun c => isCode c || c.before args0 about1) = true := by decide +kernel
theorem w_tables : (allAtoms (Jvm.Cond.code x code maxLocals ret :: tables_1)).before args0 about1 = true := by
  rw [allAtoms_all]
  show words1.all (fun c => c.before args0 about1) = true
  refine all_split ?_ w_codes
  rw [← List.take_append_drop 24 words1, List.all_append, w_t1, w_t2]
  rfl
set_option maxRecDepth 65536 in
theorem w_case : (Jvm.Cond.and given_1 narrow_1).before args0 about1 = true := by decide +kernel
theorem w_applies : (headSpec (Jvm.Cond.code x code maxLocals ret :: tables_1) room_1).applies x e0.platform about1 = true :=
  (Spec.applies_iff w_frames).mpr ⟨w_running, w_runnable, w_alone, w_named, w_hears, w_ripe, w_room, w_tables⟩
theorem atStart : AtStart classFile x code maxLocals ret World_1 tables_1 room_1 Calls_1 rest_1 Pre_1 launch0 p0 e0 about1 theMethod args0 below0 :=
  ⟨lists_1, trivial, launch0.admits_env _ _ _, launch0.least_env, fairChoices_fair.cas, fairChoices_fair.clock, w_frames, w_args, w_heap, w_applies, trivial, trivial, w_case⟩
end start1
theorem witness_1 : WitnessClaimed_1 := ⟨start1.p0, start1.e0, start1.about1, start1.theMethod, start1.args0, start1.below0, start1.atStart⟩
end Jvm.Pilot.@@N@@
